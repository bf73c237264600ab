import PyProof.Rows.All
import Wide.All
import OpenK.AllK
import Wide.FinOn
import PyProof.AttrMissHeap
import PySem.Challenge.RW_tx0023_01
set_option Elab.async false
section
open PySem PySem.W PyProof.Rows
set_option maxRecDepth 100000
namespace Mine
noncomputable def pw : Program := PySem.Challenge.pw_tx0023_01
noncomputable def bE : List Stmt := behindTheImports pw
noncomputable def envE : Env := { scope := pw.main.scope, locals := mainNs, globals := mainNs, cells := [], code := .ref 13, frame := some 14 }
noncomputable def cE : Code := .body bE envE
noncomputable def fr : List Frame := [topFrame ⟨0, 0, 0, 0⟩]
noncomputable def gs (a b : Nat) : List Stmt := (bE.take b).drop a
noncomputable def sAt (i : Nat) : Stmt := match bE[i]? with
  | some s => s
  | none => .Pass ⟨0, 0, 0, 0⟩
noncomputable def fnN (i : Nat) : Str := match sAt i with
  | .FunctionDef n _ _ _ _ _ _ _ _ _ => n
  | _ => default
noncomputable def fnP (i : Nat) : Arguments := match sAt i with
  | .FunctionDef _ a _ _ _ _ _ _ _ _ => a
  | _ => default
noncomputable def fnB (i : Nat) : List Stmt := match sAt i with
  | .FunctionDef _ _ b _ _ _ _ _ _ _ => b
  | _ => []
noncomputable def fnS (i : Nat) : Scope := match sAt i with
  | .FunctionDef _ _ _ _ _ _ s _ _ _ => s
  | _ => default
noncomputable def q3 (a b t : Nat) : Value := .str (Str.mk (Array.mk [61, a, b])) t
noncomputable def q1 (a t : Nat) : Value := .str (Str.mk (Array.mk [a])) t
noncomputable def en (P : Params) (n : String) (t : Nat) (v : Value) : DictEntry := ⟨PyData.keyHash P (Str.ofString n), .str (Str.ofString n) t, v⟩
noncomputable def pT (a b : Nat) (p : Pos) : Thread := ⟨(PySem.W.Fast.tw12563942051412417395 (gs a b) envE).wrap doneF deadEnd id id, cE, p, fr⟩
theorem pT_eq (a b : Nat) (p : Pos) : pT a b p = piecesOf (gs a b) envE cE p fr := by
  unfold pT piecesOf
  rw [PySem.W.Fast.te12563942051412417395]
noncomputable def x11 (_P : Params) : Obj := { cls := (Value.type PySem.W.SL.s2766695959194262286x5), dict := none, data := (Data.seq (Array.mk []) 0), slots := Array.mk [] }
noncomputable def x12 (_P : Params) : Obj := { cls := Value.none, dict := none, data := (Data.fields (Array.mk [])), slots := Array.mk [] }
noncomputable def x13 (_P : Params) : Obj := { cls := (Value.type PySem.W.SL.s5856160107412720595x4), dict := none, data := (Data.fields (Array.mk [(Value.str (Str.ofString "<module>") 182), (Value.str (Str.ofString "<module>") 183), (Value.str (Str.ofString "/claim/cut.py") 184), (Value.int 1 0), (Value.int 0 0), (Value.int 0 0), (Value.int 0 0), (Value.int 0 0), (Value.ref 11), (Value.bool false), (Value.int 181 0), (Value.ref 12), Value.none, Value.none, Value.none, Value.none, (Value.int 185 0), (Value.int 1 0), (Value.str (Str.ofString "/claim/cut.py") 186)])), slots := Array.mk [] }
noncomputable def x14 (_P : Params) : Obj := { cls := (Value.type PySem.W.SL.s658472552662922059x5), dict := none, data := Data.plain, slots := Array.mk [(some (Value.ref 13)), (some (Value.ref 3)), (some (Value.ref 3)), none, (some (Value.str (Str.ofString "__main__") 164)), none, (some (Value.ref 0))] }
noncomputable def tr0 (P : Params) : BT := (.node (boot_o_0 P) (.node (boot_o_1 P) (.node (boot_o_3 P) (.node (boot_o_7 P) .nil .nil) (.node (x11 P) .nil .nil)) (.node (boot_o_5 P) (.node (boot_o_9 P) .nil .nil) (.node (x13 P) .nil .nil))) (.node (boot_o_2 P) (.node (boot_o_4 P) (.node (boot_o_8 P) .nil .nil) (.node (x12 P) .nil .nil)) (.node (boot_o_6 P) (.node (boot_o_10 P) .nil .nil) (.node (x14 P) .nil .nil))))
noncomputable def st0 (w : World) (os : OsState) : SharedT := ⟨tr0 w.params, 15, {}, Array.mk [], {}, 187, os⟩
noncomputable def x3s1 (_P : Params) : Obj := { cls := (Value.type PySem.W.SL.s14018661285674007319x4), dict := none, data := (Data.dict (Array.mk [en _P "__name__" 165 (Value.str (Str.ofString "__main__") 164), en _P "__doc__" 166 Value.none, en _P "__package__" 167 Value.none, en _P "__loader__" 168 (Value.builtin PySem.W.SL.s7097527257260152453x26), en _P "__spec__" 169 Value.none, en _P "__annotations__" 170 (Value.ref 6), en _P "__builtins__" 171 (Value.ref 4), en _P "__file__" 173 (Value.str (Str.ofString "/claim/cut.py") 172), en _P "__cached__" 174 Value.none, en _P "CRLF" 188 (Value.str (Str.mk (Array.mk [13, 10])) 187), en _P "NL" 190 (q1 10 189)]) 11), slots := Array.mk [] }
noncomputable def tr1 (P : Params) : BT := (.node (boot_o_0 P) (.node (boot_o_1 P) (.node (x3s1 P) (.node (boot_o_7 P) .nil .nil) (.node (x11 P) .nil .nil)) (.node (boot_o_5 P) (.node (boot_o_9 P) .nil .nil) (.node (x13 P) .nil .nil))) (.node (boot_o_2 P) (.node (boot_o_4 P) (.node (boot_o_8 P) .nil .nil) (.node (x12 P) .nil .nil)) (.node (boot_o_6 P) (.node (boot_o_10 P) .nil .nil) (.node (x14 P) .nil .nil))))
noncomputable def st1 (w : World) (os : OsState) : SharedT := ⟨tr1 w.params, 15, {}, Array.mk [], {}, 191, os⟩
noncomputable def x15s2c0 (_P : Params) : Obj := { cls := (Value.type PySem.W.SL.s1438033511350832697x5), dict := none, data := (Data.fields (Array.mk [(Value.int 0 192), (Value.int 256 191), (Value.int 1 193)])), slots := Array.mk [] }
noncomputable def x16s2c0 (_P : Params) : Obj := { cls := (Value.type PySem.W.SL.s15992201931430999065x14), dict := none, data := (Data.fields (Array.mk [(Value.int 1 0), (Value.int 255 0), (Value.int 1 0)])), slots := Array.mk [] }
noncomputable def x17s2c0 (_P : Params) : Obj := { cls := (Value.type PySem.W.SL.s9222952809800978799x4), dict := none, data := (Data.seq (Array.mk [(q3 48 48 197)]) 1), slots := Array.mk [] }
noncomputable def x18s2c0 (_P : Params) : Obj := { cls := (Value.type PySem.W.SL.s14018661285674007319x4), dict := none, data := (Data.dict (Array.mk [en _P "c" 195 (Value.int 0 194)]) 1), slots := Array.mk [] }
noncomputable def tr2c0 (P : Params) : BT := (.node (boot_o_0 P) (.node (boot_o_1 P) (.node (x3s1 P) (.node (boot_o_7 P) (.node (x15s2c0 P) .nil .nil) .nil) (.node (x11 P) .nil .nil)) (.node (boot_o_5 P) (.node (boot_o_9 P) (.node (x17s2c0 P) .nil .nil) .nil) (.node (x13 P) .nil .nil))) (.node (boot_o_2 P) (.node (boot_o_4 P) (.node (boot_o_8 P) (.node (x16s2c0 P) .nil .nil) .nil) (.node (x12 P) .nil .nil)) (.node (boot_o_6 P) (.node (boot_o_10 P) (.node (x18s2c0 P) .nil .nil) .nil) (.node (x14 P) .nil .nil))))
noncomputable def st2c0 (w : World) (os : OsState) : SharedT := ⟨tr2c0 w.params, 19, {}, Array.mk [], {}, 198, os⟩
noncomputable def x16s2c1 (_P : Params) : Obj := { cls := (Value.type PySem.W.SL.s15992201931430999065x14), dict := none, data := (Data.fields (Array.mk [(Value.int 41 0), (Value.int 215 0), (Value.int 1 0)])), slots := Array.mk [] }
noncomputable def lst0 : List Value := [(q3 48 48 197), (q3 48 49 201), (q3 48 50 205), (q3 48 51 209), (q3 48 52 213), (q3 48 53 217), (q3 48 54 221), (q3 48 55 225), (q3 48 56 229), (q3 48 57 233), (q3 48 65 237), (q3 48 66 241), (q3 48 67 245), (q3 48 68 249), (q3 48 69 253), (q3 48 70 257), (q3 49 48 261), (q3 49 49 265), (q3 49 50 269), (q3 49 51 273), (q3 49 52 277), (q3 49 53 281), (q3 49 54 285), (q3 49 55 289), (q3 49 56 293), (q3 49 57 297), (q3 49 65 301), (q3 49 66 305), (q3 49 67 309), (q3 49 68 313), (q3 49 69 317), (q3 49 70 321), (q3 50 48 325), (q3 50 49 329), (q3 50 50 333), (q3 50 51 337), (q3 50 52 341), (q3 50 53 345), (q3 50 54 349), (q3 50 55 353), (q3 50 56 357)]
noncomputable def x17s2c1 (_P : Params) : Obj := { cls := (Value.type PySem.W.SL.s9222952809800978799x4), dict := none, data := (Data.seq (Array.mk lst0) 41), slots := Array.mk [] }
noncomputable def x18s2c1 (_P : Params) : Obj := { cls := (Value.type PySem.W.SL.s14018661285674007319x4), dict := none, data := (Data.dict (Array.mk [en _P "c" 195 (Value.int 40 354)]) 1), slots := Array.mk [] }
noncomputable def tr2c1 (P : Params) : BT := (.node (boot_o_0 P) (.node (boot_o_1 P) (.node (x3s1 P) (.node (boot_o_7 P) (.node (x15s2c0 P) .nil .nil) .nil) (.node (x11 P) .nil .nil)) (.node (boot_o_5 P) (.node (boot_o_9 P) (.node (x17s2c1 P) .nil .nil) .nil) (.node (x13 P) .nil .nil))) (.node (boot_o_2 P) (.node (boot_o_4 P) (.node (boot_o_8 P) (.node (x16s2c1 P) .nil .nil) .nil) (.node (x12 P) .nil .nil)) (.node (boot_o_6 P) (.node (boot_o_10 P) (.node (x18s2c1 P) .nil .nil) .nil) (.node (x14 P) .nil .nil))))
noncomputable def st2c1 (w : World) (os : OsState) : SharedT := ⟨tr2c1 w.params, 19, {}, Array.mk [], {}, 358, os⟩
noncomputable def x16s2c2 (_P : Params) : Obj := { cls := (Value.type PySem.W.SL.s15992201931430999065x14), dict := none, data := (Data.fields (Array.mk [(Value.int 81 0), (Value.int 175 0), (Value.int 1 0)])), slots := Array.mk [] }
noncomputable def lst1 : List Value := [(q3 48 48 197), (q3 48 49 201), (q3 48 50 205), (q3 48 51 209), (q3 48 52 213), (q3 48 53 217), (q3 48 54 221), (q3 48 55 225), (q3 48 56 229), (q3 48 57 233), (q3 48 65 237), (q3 48 66 241), (q3 48 67 245), (q3 48 68 249), (q3 48 69 253), (q3 48 70 257), (q3 49 48 261), (q3 49 49 265), (q3 49 50 269), (q3 49 51 273), (q3 49 52 277), (q3 49 53 281), (q3 49 54 285), (q3 49 55 289), (q3 49 56 293), (q3 49 57 297), (q3 49 65 301), (q3 49 66 305), (q3 49 67 309), (q3 49 68 313), (q3 49 69 317), (q3 49 70 321), (q3 50 48 325), (q3 50 49 329), (q3 50 50 333), (q3 50 51 337), (q3 50 52 341), (q3 50 53 345), (q3 50 54 349), (q3 50 55 353), (q3 50 56 357), (q3 50 57 361), (q3 50 65 365), (q3 50 66 369), (q3 50 67 373), (q3 50 68 377), (q3 50 69 381), (q3 50 70 385), (q3 51 48 389), (q3 51 49 393), (q3 51 50 397), (q3 51 51 401), (q3 51 52 405), (q3 51 53 409), (q3 51 54 413), (q3 51 55 417), (q3 51 56 421), (q3 51 57 425), (q3 51 65 429), (q3 51 66 433), (q3 51 67 437), (q3 51 68 441), (q3 51 69 445), (q3 51 70 449), (q3 52 48 453), (q3 52 49 457), (q3 52 50 461), (q3 52 51 465), (q3 52 52 469), (q3 52 53 473), (q3 52 54 477), (q3 52 55 481), (q3 52 56 485), (q3 52 57 489), (q3 52 65 493), (q3 52 66 497), (q3 52 67 501), (q3 52 68 505), (q3 52 69 509), (q3 52 70 513), (q3 53 48 517)]
noncomputable def x17s2c2 (_P : Params) : Obj := { cls := (Value.type PySem.W.SL.s9222952809800978799x4), dict := none, data := (Data.seq (Array.mk lst1) 81), slots := Array.mk [] }
noncomputable def x18s2c2 (_P : Params) : Obj := { cls := (Value.type PySem.W.SL.s14018661285674007319x4), dict := none, data := (Data.dict (Array.mk [en _P "c" 195 (Value.int 80 514)]) 1), slots := Array.mk [] }
noncomputable def tr2c2 (P : Params) : BT := (.node (boot_o_0 P) (.node (boot_o_1 P) (.node (x3s1 P) (.node (boot_o_7 P) (.node (x15s2c0 P) .nil .nil) .nil) (.node (x11 P) .nil .nil)) (.node (boot_o_5 P) (.node (boot_o_9 P) (.node (x17s2c2 P) .nil .nil) .nil) (.node (x13 P) .nil .nil))) (.node (boot_o_2 P) (.node (boot_o_4 P) (.node (boot_o_8 P) (.node (x16s2c2 P) .nil .nil) .nil) (.node (x12 P) .nil .nil)) (.node (boot_o_6 P) (.node (boot_o_10 P) (.node (x18s2c2 P) .nil .nil) .nil) (.node (x14 P) .nil .nil))))
noncomputable def st2c2 (w : World) (os : OsState) : SharedT := ⟨tr2c2 w.params, 19, {}, Array.mk [], {}, 518, os⟩
noncomputable def x16s2c3 (_P : Params) : Obj := { cls := (Value.type PySem.W.SL.s15992201931430999065x14), dict := none, data := (Data.fields (Array.mk [(Value.int 121 0), (Value.int 135 0), (Value.int 1 0)])), slots := Array.mk [] }
noncomputable def lst2 : List Value := [(q3 48 48 197), (q3 48 49 201), (q3 48 50 205), (q3 48 51 209), (q3 48 52 213), (q3 48 53 217), (q3 48 54 221), (q3 48 55 225), (q3 48 56 229), (q3 48 57 233), (q3 48 65 237), (q3 48 66 241), (q3 48 67 245), (q3 48 68 249), (q3 48 69 253), (q3 48 70 257), (q3 49 48 261), (q3 49 49 265), (q3 49 50 269), (q3 49 51 273), (q3 49 52 277), (q3 49 53 281), (q3 49 54 285), (q3 49 55 289), (q3 49 56 293), (q3 49 57 297), (q3 49 65 301), (q3 49 66 305), (q3 49 67 309), (q3 49 68 313), (q3 49 69 317), (q3 49 70 321), (q3 50 48 325), (q3 50 49 329), (q3 50 50 333), (q3 50 51 337), (q3 50 52 341), (q3 50 53 345), (q3 50 54 349), (q3 50 55 353), (q3 50 56 357), (q3 50 57 361), (q3 50 65 365), (q3 50 66 369), (q3 50 67 373), (q3 50 68 377), (q3 50 69 381), (q3 50 70 385), (q3 51 48 389), (q3 51 49 393), (q3 51 50 397), (q3 51 51 401), (q3 51 52 405), (q3 51 53 409), (q3 51 54 413), (q3 51 55 417), (q3 51 56 421), (q3 51 57 425), (q3 51 65 429), (q3 51 66 433), (q3 51 67 437), (q3 51 68 441), (q3 51 69 445), (q3 51 70 449), (q3 52 48 453), (q3 52 49 457), (q3 52 50 461), (q3 52 51 465), (q3 52 52 469), (q3 52 53 473), (q3 52 54 477), (q3 52 55 481), (q3 52 56 485), (q3 52 57 489), (q3 52 65 493), (q3 52 66 497), (q3 52 67 501), (q3 52 68 505), (q3 52 69 509), (q3 52 70 513), (q3 53 48 517), (q3 53 49 521), (q3 53 50 525), (q3 53 51 529), (q3 53 52 533), (q3 53 53 537), (q3 53 54 541), (q3 53 55 545), (q3 53 56 549), (q3 53 57 553), (q3 53 65 557), (q3 53 66 561), (q3 53 67 565), (q3 53 68 569), (q3 53 69 573), (q3 53 70 577), (q3 54 48 581), (q3 54 49 585), (q3 54 50 589), (q3 54 51 593), (q3 54 52 597), (q3 54 53 601), (q3 54 54 605), (q3 54 55 609), (q3 54 56 613), (q3 54 57 617), (q3 54 65 621), (q3 54 66 625), (q3 54 67 629), (q3 54 68 633), (q3 54 69 637), (q3 54 70 641), (q3 55 48 645), (q3 55 49 649), (q3 55 50 653), (q3 55 51 657), (q3 55 52 661), (q3 55 53 665), (q3 55 54 669), (q3 55 55 673), (q3 55 56 677)]
noncomputable def x17s2c3 (_P : Params) : Obj := { cls := (Value.type PySem.W.SL.s9222952809800978799x4), dict := none, data := (Data.seq (Array.mk lst2) 121), slots := Array.mk [] }
noncomputable def x18s2c3 (_P : Params) : Obj := { cls := (Value.type PySem.W.SL.s14018661285674007319x4), dict := none, data := (Data.dict (Array.mk [en _P "c" 195 (Value.int 120 674)]) 1), slots := Array.mk [] }
noncomputable def tr2c3 (P : Params) : BT := (.node (boot_o_0 P) (.node (boot_o_1 P) (.node (x3s1 P) (.node (boot_o_7 P) (.node (x15s2c0 P) .nil .nil) .nil) (.node (x11 P) .nil .nil)) (.node (boot_o_5 P) (.node (boot_o_9 P) (.node (x17s2c3 P) .nil .nil) .nil) (.node (x13 P) .nil .nil))) (.node (boot_o_2 P) (.node (boot_o_4 P) (.node (boot_o_8 P) (.node (x16s2c3 P) .nil .nil) .nil) (.node (x12 P) .nil .nil)) (.node (boot_o_6 P) (.node (boot_o_10 P) (.node (x18s2c3 P) .nil .nil) .nil) (.node (x14 P) .nil .nil))))
noncomputable def st2c3 (w : World) (os : OsState) : SharedT := ⟨tr2c3 w.params, 19, {}, Array.mk [], {}, 678, os⟩
noncomputable def x16s2c4 (_P : Params) : Obj := { cls := (Value.type PySem.W.SL.s15992201931430999065x14), dict := none, data := (Data.fields (Array.mk [(Value.int 161 0), (Value.int 95 0), (Value.int 1 0)])), slots := Array.mk [] }
noncomputable def lst3 : List Value := [(q3 48 48 197), (q3 48 49 201), (q3 48 50 205), (q3 48 51 209), (q3 48 52 213), (q3 48 53 217), (q3 48 54 221), (q3 48 55 225), (q3 48 56 229), (q3 48 57 233), (q3 48 65 237), (q3 48 66 241), (q3 48 67 245), (q3 48 68 249), (q3 48 69 253), (q3 48 70 257), (q3 49 48 261), (q3 49 49 265), (q3 49 50 269), (q3 49 51 273), (q3 49 52 277), (q3 49 53 281), (q3 49 54 285), (q3 49 55 289), (q3 49 56 293), (q3 49 57 297), (q3 49 65 301), (q3 49 66 305), (q3 49 67 309), (q3 49 68 313), (q3 49 69 317), (q3 49 70 321), (q3 50 48 325), (q3 50 49 329), (q3 50 50 333), (q3 50 51 337), (q3 50 52 341), (q3 50 53 345), (q3 50 54 349), (q3 50 55 353), (q3 50 56 357), (q3 50 57 361), (q3 50 65 365), (q3 50 66 369), (q3 50 67 373), (q3 50 68 377), (q3 50 69 381), (q3 50 70 385), (q3 51 48 389), (q3 51 49 393), (q3 51 50 397), (q3 51 51 401), (q3 51 52 405), (q3 51 53 409), (q3 51 54 413), (q3 51 55 417), (q3 51 56 421), (q3 51 57 425), (q3 51 65 429), (q3 51 66 433), (q3 51 67 437), (q3 51 68 441), (q3 51 69 445), (q3 51 70 449), (q3 52 48 453), (q3 52 49 457), (q3 52 50 461), (q3 52 51 465), (q3 52 52 469), (q3 52 53 473), (q3 52 54 477), (q3 52 55 481), (q3 52 56 485), (q3 52 57 489), (q3 52 65 493), (q3 52 66 497), (q3 52 67 501), (q3 52 68 505), (q3 52 69 509), (q3 52 70 513), (q3 53 48 517), (q3 53 49 521), (q3 53 50 525), (q3 53 51 529), (q3 53 52 533), (q3 53 53 537), (q3 53 54 541), (q3 53 55 545), (q3 53 56 549), (q3 53 57 553), (q3 53 65 557), (q3 53 66 561), (q3 53 67 565), (q3 53 68 569), (q3 53 69 573), (q3 53 70 577), (q3 54 48 581), (q3 54 49 585), (q3 54 50 589), (q3 54 51 593), (q3 54 52 597), (q3 54 53 601), (q3 54 54 605), (q3 54 55 609), (q3 54 56 613), (q3 54 57 617), (q3 54 65 621), (q3 54 66 625), (q3 54 67 629), (q3 54 68 633), (q3 54 69 637), (q3 54 70 641), (q3 55 48 645), (q3 55 49 649), (q3 55 50 653), (q3 55 51 657), (q3 55 52 661), (q3 55 53 665), (q3 55 54 669), (q3 55 55 673), (q3 55 56 677), (q3 55 57 681), (q3 55 65 685), (q3 55 66 689), (q3 55 67 693), (q3 55 68 697), (q3 55 69 701), (q3 55 70 705), (q3 56 48 709), (q3 56 49 713), (q3 56 50 717), (q3 56 51 721), (q3 56 52 725), (q3 56 53 729), (q3 56 54 733), (q3 56 55 737), (q3 56 56 741), (q3 56 57 745), (q3 56 65 749), (q3 56 66 753), (q3 56 67 757), (q3 56 68 761), (q3 56 69 765), (q3 56 70 769), (q3 57 48 773), (q3 57 49 777), (q3 57 50 781), (q3 57 51 785), (q3 57 52 789), (q3 57 53 793), (q3 57 54 797), (q3 57 55 801), (q3 57 56 805), (q3 57 57 809), (q3 57 65 813), (q3 57 66 817), (q3 57 67 821), (q3 57 68 825), (q3 57 69 829), (q3 57 70 833), (q3 65 48 837)]
noncomputable def x17s2c4 (_P : Params) : Obj := { cls := (Value.type PySem.W.SL.s9222952809800978799x4), dict := none, data := (Data.seq (Array.mk lst3) 161), slots := Array.mk [] }
noncomputable def x18s2c4 (_P : Params) : Obj := { cls := (Value.type PySem.W.SL.s14018661285674007319x4), dict := none, data := (Data.dict (Array.mk [en _P "c" 195 (Value.int 160 834)]) 1), slots := Array.mk [] }
noncomputable def tr2c4 (P : Params) : BT := (.node (boot_o_0 P) (.node (boot_o_1 P) (.node (x3s1 P) (.node (boot_o_7 P) (.node (x15s2c0 P) .nil .nil) .nil) (.node (x11 P) .nil .nil)) (.node (boot_o_5 P) (.node (boot_o_9 P) (.node (x17s2c4 P) .nil .nil) .nil) (.node (x13 P) .nil .nil))) (.node (boot_o_2 P) (.node (boot_o_4 P) (.node (boot_o_8 P) (.node (x16s2c4 P) .nil .nil) .nil) (.node (x12 P) .nil .nil)) (.node (boot_o_6 P) (.node (boot_o_10 P) (.node (x18s2c4 P) .nil .nil) .nil) (.node (x14 P) .nil .nil))))
noncomputable def st2c4 (w : World) (os : OsState) : SharedT := ⟨tr2c4 w.params, 19, {}, Array.mk [], {}, 838, os⟩
noncomputable def x16s2c5 (_P : Params) : Obj := { cls := (Value.type PySem.W.SL.s15992201931430999065x14), dict := none, data := (Data.fields (Array.mk [(Value.int 201 0), (Value.int 55 0), (Value.int 1 0)])), slots := Array.mk [] }
noncomputable def lst4 : List Value := [(q3 48 48 197), (q3 48 49 201), (q3 48 50 205), (q3 48 51 209), (q3 48 52 213), (q3 48 53 217), (q3 48 54 221), (q3 48 55 225), (q3 48 56 229), (q3 48 57 233), (q3 48 65 237), (q3 48 66 241), (q3 48 67 245), (q3 48 68 249), (q3 48 69 253), (q3 48 70 257), (q3 49 48 261), (q3 49 49 265), (q3 49 50 269), (q3 49 51 273), (q3 49 52 277), (q3 49 53 281), (q3 49 54 285), (q3 49 55 289), (q3 49 56 293), (q3 49 57 297), (q3 49 65 301), (q3 49 66 305), (q3 49 67 309), (q3 49 68 313), (q3 49 69 317), (q3 49 70 321), (q3 50 48 325), (q3 50 49 329), (q3 50 50 333), (q3 50 51 337), (q3 50 52 341), (q3 50 53 345), (q3 50 54 349), (q3 50 55 353), (q3 50 56 357), (q3 50 57 361), (q3 50 65 365), (q3 50 66 369), (q3 50 67 373), (q3 50 68 377), (q3 50 69 381), (q3 50 70 385), (q3 51 48 389), (q3 51 49 393), (q3 51 50 397), (q3 51 51 401), (q3 51 52 405), (q3 51 53 409), (q3 51 54 413), (q3 51 55 417), (q3 51 56 421), (q3 51 57 425), (q3 51 65 429), (q3 51 66 433), (q3 51 67 437), (q3 51 68 441), (q3 51 69 445), (q3 51 70 449), (q3 52 48 453), (q3 52 49 457), (q3 52 50 461), (q3 52 51 465), (q3 52 52 469), (q3 52 53 473), (q3 52 54 477), (q3 52 55 481), (q3 52 56 485), (q3 52 57 489), (q3 52 65 493), (q3 52 66 497), (q3 52 67 501), (q3 52 68 505), (q3 52 69 509), (q3 52 70 513), (q3 53 48 517), (q3 53 49 521), (q3 53 50 525), (q3 53 51 529), (q3 53 52 533), (q3 53 53 537), (q3 53 54 541), (q3 53 55 545), (q3 53 56 549), (q3 53 57 553), (q3 53 65 557), (q3 53 66 561), (q3 53 67 565), (q3 53 68 569), (q3 53 69 573), (q3 53 70 577), (q3 54 48 581), (q3 54 49 585), (q3 54 50 589), (q3 54 51 593), (q3 54 52 597), (q3 54 53 601), (q3 54 54 605), (q3 54 55 609), (q3 54 56 613), (q3 54 57 617), (q3 54 65 621), (q3 54 66 625), (q3 54 67 629), (q3 54 68 633), (q3 54 69 637), (q3 54 70 641), (q3 55 48 645), (q3 55 49 649), (q3 55 50 653), (q3 55 51 657), (q3 55 52 661), (q3 55 53 665), (q3 55 54 669), (q3 55 55 673), (q3 55 56 677), (q3 55 57 681), (q3 55 65 685), (q3 55 66 689), (q3 55 67 693), (q3 55 68 697), (q3 55 69 701), (q3 55 70 705), (q3 56 48 709), (q3 56 49 713), (q3 56 50 717), (q3 56 51 721), (q3 56 52 725), (q3 56 53 729), (q3 56 54 733), (q3 56 55 737), (q3 56 56 741), (q3 56 57 745), (q3 56 65 749), (q3 56 66 753), (q3 56 67 757), (q3 56 68 761), (q3 56 69 765), (q3 56 70 769), (q3 57 48 773), (q3 57 49 777), (q3 57 50 781), (q3 57 51 785), (q3 57 52 789), (q3 57 53 793), (q3 57 54 797), (q3 57 55 801), (q3 57 56 805), (q3 57 57 809), (q3 57 65 813), (q3 57 66 817), (q3 57 67 821), (q3 57 68 825), (q3 57 69 829), (q3 57 70 833), (q3 65 48 837), (q3 65 49 841), (q3 65 50 845), (q3 65 51 849), (q3 65 52 853), (q3 65 53 857), (q3 65 54 861), (q3 65 55 865), (q3 65 56 869), (q3 65 57 873), (q3 65 65 877), (q3 65 66 881), (q3 65 67 885), (q3 65 68 889), (q3 65 69 893), (q3 65 70 897), (q3 66 48 901), (q3 66 49 905), (q3 66 50 909), (q3 66 51 913), (q3 66 52 917), (q3 66 53 921), (q3 66 54 925), (q3 66 55 929), (q3 66 56 933), (q3 66 57 937), (q3 66 65 941), (q3 66 66 945), (q3 66 67 949), (q3 66 68 953), (q3 66 69 957), (q3 66 70 961), (q3 67 48 965), (q3 67 49 969), (q3 67 50 973), (q3 67 51 977), (q3 67 52 981), (q3 67 53 985), (q3 67 54 989), (q3 67 55 993), (q3 67 56 997)]
noncomputable def x17s2c5 (_P : Params) : Obj := { cls := (Value.type PySem.W.SL.s9222952809800978799x4), dict := none, data := (Data.seq (Array.mk lst4) 201), slots := Array.mk [] }
noncomputable def x18s2c5 (_P : Params) : Obj := { cls := (Value.type PySem.W.SL.s14018661285674007319x4), dict := none, data := (Data.dict (Array.mk [en _P "c" 195 (Value.int 200 994)]) 1), slots := Array.mk [] }
noncomputable def tr2c5 (P : Params) : BT := (.node (boot_o_0 P) (.node (boot_o_1 P) (.node (x3s1 P) (.node (boot_o_7 P) (.node (x15s2c0 P) .nil .nil) .nil) (.node (x11 P) .nil .nil)) (.node (boot_o_5 P) (.node (boot_o_9 P) (.node (x17s2c5 P) .nil .nil) .nil) (.node (x13 P) .nil .nil))) (.node (boot_o_2 P) (.node (boot_o_4 P) (.node (boot_o_8 P) (.node (x16s2c5 P) .nil .nil) .nil) (.node (x12 P) .nil .nil)) (.node (boot_o_6 P) (.node (boot_o_10 P) (.node (x18s2c5 P) .nil .nil) .nil) (.node (x14 P) .nil .nil))))
noncomputable def st2c5 (w : World) (os : OsState) : SharedT := ⟨tr2c5 w.params, 19, {}, Array.mk [], {}, 998, os⟩
noncomputable def x3s2 (_P : Params) : Obj := { cls := (Value.type PySem.W.SL.s14018661285674007319x4), dict := none, data := (Data.dict (Array.mk [en _P "__name__" 165 (Value.str (Str.ofString "__main__") 164), en _P "__doc__" 166 Value.none, en _P "__package__" 167 Value.none, en _P "__loader__" 168 (Value.builtin PySem.W.SL.s7097527257260152453x26), en _P "__spec__" 169 Value.none, en _P "__annotations__" 170 (Value.ref 6), en _P "__builtins__" 171 (Value.ref 4), en _P "__file__" 173 (Value.str (Str.ofString "/claim/cut.py") 172), en _P "__cached__" 174 Value.none, en _P "CRLF" 188 (Value.str (Str.mk (Array.mk [13, 10])) 187), en _P "NL" 190 (q1 10 189), en _P "_QUOPRI_MAP" 1218 (Value.ref 17)]) 12), slots := Array.mk [] }
noncomputable def x16s2 (_P : Params) : Obj := { cls := (Value.type PySem.W.SL.s15992201931430999065x14), dict := none, data := (Data.fields (Array.mk [(Value.int 256 0), (Value.int 0 0), (Value.int 1 0)])), slots := Array.mk [] }
noncomputable def lst5 : List Value := [(q3 48 48 197), (q3 48 49 201), (q3 48 50 205), (q3 48 51 209), (q3 48 52 213), (q3 48 53 217), (q3 48 54 221), (q3 48 55 225), (q3 48 56 229), (q3 48 57 233), (q3 48 65 237), (q3 48 66 241), (q3 48 67 245), (q3 48 68 249), (q3 48 69 253), (q3 48 70 257), (q3 49 48 261), (q3 49 49 265), (q3 49 50 269), (q3 49 51 273), (q3 49 52 277), (q3 49 53 281), (q3 49 54 285), (q3 49 55 289), (q3 49 56 293), (q3 49 57 297), (q3 49 65 301), (q3 49 66 305), (q3 49 67 309), (q3 49 68 313), (q3 49 69 317), (q3 49 70 321), (q3 50 48 325), (q3 50 49 329), (q3 50 50 333), (q3 50 51 337), (q3 50 52 341), (q3 50 53 345), (q3 50 54 349), (q3 50 55 353), (q3 50 56 357), (q3 50 57 361), (q3 50 65 365), (q3 50 66 369), (q3 50 67 373), (q3 50 68 377), (q3 50 69 381), (q3 50 70 385), (q3 51 48 389), (q3 51 49 393), (q3 51 50 397), (q3 51 51 401), (q3 51 52 405), (q3 51 53 409), (q3 51 54 413), (q3 51 55 417), (q3 51 56 421), (q3 51 57 425), (q3 51 65 429), (q3 51 66 433), (q3 51 67 437), (q3 51 68 441), (q3 51 69 445), (q3 51 70 449), (q3 52 48 453), (q3 52 49 457), (q3 52 50 461), (q3 52 51 465), (q3 52 52 469), (q3 52 53 473), (q3 52 54 477), (q3 52 55 481), (q3 52 56 485), (q3 52 57 489), (q3 52 65 493), (q3 52 66 497), (q3 52 67 501), (q3 52 68 505), (q3 52 69 509), (q3 52 70 513), (q3 53 48 517), (q3 53 49 521), (q3 53 50 525), (q3 53 51 529), (q3 53 52 533), (q3 53 53 537), (q3 53 54 541), (q3 53 55 545), (q3 53 56 549), (q3 53 57 553), (q3 53 65 557), (q3 53 66 561), (q3 53 67 565), (q3 53 68 569), (q3 53 69 573), (q3 53 70 577), (q3 54 48 581), (q3 54 49 585), (q3 54 50 589), (q3 54 51 593), (q3 54 52 597), (q3 54 53 601), (q3 54 54 605), (q3 54 55 609), (q3 54 56 613), (q3 54 57 617), (q3 54 65 621), (q3 54 66 625), (q3 54 67 629), (q3 54 68 633), (q3 54 69 637), (q3 54 70 641), (q3 55 48 645), (q3 55 49 649), (q3 55 50 653), (q3 55 51 657), (q3 55 52 661), (q3 55 53 665), (q3 55 54 669), (q3 55 55 673), (q3 55 56 677), (q3 55 57 681), (q3 55 65 685), (q3 55 66 689), (q3 55 67 693), (q3 55 68 697), (q3 55 69 701), (q3 55 70 705), (q3 56 48 709), (q3 56 49 713), (q3 56 50 717), (q3 56 51 721), (q3 56 52 725), (q3 56 53 729), (q3 56 54 733), (q3 56 55 737), (q3 56 56 741), (q3 56 57 745), (q3 56 65 749), (q3 56 66 753), (q3 56 67 757), (q3 56 68 761), (q3 56 69 765), (q3 56 70 769), (q3 57 48 773), (q3 57 49 777), (q3 57 50 781), (q3 57 51 785), (q3 57 52 789), (q3 57 53 793), (q3 57 54 797), (q3 57 55 801), (q3 57 56 805), (q3 57 57 809), (q3 57 65 813), (q3 57 66 817), (q3 57 67 821), (q3 57 68 825), (q3 57 69 829), (q3 57 70 833), (q3 65 48 837), (q3 65 49 841), (q3 65 50 845), (q3 65 51 849), (q3 65 52 853), (q3 65 53 857), (q3 65 54 861), (q3 65 55 865), (q3 65 56 869), (q3 65 57 873), (q3 65 65 877), (q3 65 66 881), (q3 65 67 885), (q3 65 68 889), (q3 65 69 893), (q3 65 70 897), (q3 66 48 901), (q3 66 49 905), (q3 66 50 909), (q3 66 51 913), (q3 66 52 917), (q3 66 53 921), (q3 66 54 925), (q3 66 55 929), (q3 66 56 933), (q3 66 57 937), (q3 66 65 941), (q3 66 66 945), (q3 66 67 949), (q3 66 68 953), (q3 66 69 957), (q3 66 70 961), (q3 67 48 965), (q3 67 49 969), (q3 67 50 973), (q3 67 51 977), (q3 67 52 981), (q3 67 53 985), (q3 67 54 989), (q3 67 55 993), (q3 67 56 997), (q3 67 57 1001), (q3 67 65 1005), (q3 67 66 1009), (q3 67 67 1013), (q3 67 68 1017), (q3 67 69 1021), (q3 67 70 1025), (q3 68 48 1029), (q3 68 49 1033), (q3 68 50 1037), (q3 68 51 1041), (q3 68 52 1045), (q3 68 53 1049), (q3 68 54 1053), (q3 68 55 1057), (q3 68 56 1061), (q3 68 57 1065), (q3 68 65 1069), (q3 68 66 1073), (q3 68 67 1077), (q3 68 68 1081), (q3 68 69 1085), (q3 68 70 1089), (q3 69 48 1093), (q3 69 49 1097), (q3 69 50 1101), (q3 69 51 1105), (q3 69 52 1109), (q3 69 53 1113), (q3 69 54 1117), (q3 69 55 1121), (q3 69 56 1125), (q3 69 57 1129), (q3 69 65 1133), (q3 69 66 1137), (q3 69 67 1141), (q3 69 68 1145), (q3 69 69 1149), (q3 69 70 1153), (q3 70 48 1157), (q3 70 49 1161), (q3 70 50 1165), (q3 70 51 1169), (q3 70 52 1173), (q3 70 53 1177), (q3 70 54 1181), (q3 70 55 1185), (q3 70 56 1189), (q3 70 57 1193), (q3 70 65 1197), (q3 70 66 1201), (q3 70 67 1205), (q3 70 68 1209), (q3 70 69 1213), (q3 70 70 1217)]
noncomputable def x17s2 (_P : Params) : Obj := { cls := (Value.type PySem.W.SL.s9222952809800978799x4), dict := none, data := (Data.seq (Array.mk lst5) 256), slots := Array.mk [] }
noncomputable def x18s2 (_P : Params) : Obj := { cls := (Value.type PySem.W.SL.s14018661285674007319x4), dict := none, data := (Data.dict (Array.mk []) 2), slots := Array.mk [] }
noncomputable def x19s2 (_P : Params) : Obj := { cls := (Value.type PySem.W.SL.s2766695959194262286x5), dict := none, data := (Data.seq (Array.mk []) 0), slots := Array.mk [] }
noncomputable def x20s2 (_P : Params) : Obj := { cls := (Value.type PySem.W.SL.s5991306692159431302x13), dict := none, data := (Data.fields (Array.mk [(Value.ref 19), Value.none, Value.none, Value.none, (Value.bool false), Value.none])), slots := Array.mk [] }
noncomputable def tr2 (P : Params) : BT := (.node (boot_o_0 P) (.node (boot_o_1 P) (.node (x3s2 P) (.node (boot_o_7 P) (.node (x15s2c0 P) .nil .nil) .nil) (.node (x11 P) (.node (x19s2 P) .nil .nil) .nil)) (.node (boot_o_5 P) (.node (boot_o_9 P) (.node (x17s2 P) .nil .nil) .nil) (.node (x13 P) .nil .nil))) (.node (boot_o_2 P) (.node (boot_o_4 P) (.node (boot_o_8 P) (.node (x16s2 P) .nil .nil) .nil) (.node (x12 P) (.node (x20s2 P) .nil .nil) .nil)) (.node (boot_o_6 P) (.node (boot_o_10 P) (.node (x18s2 P) .nil .nil) .nil) (.node (x14 P) .nil .nil))))
noncomputable def st2 (w : World) (os : OsState) : SharedT := ⟨tr2 w.params, 21, {}, Array.mk [], {}, 1219, os⟩
noncomputable def x3s3 (_P : Params) : Obj := { cls := (Value.type PySem.W.SL.s14018661285674007319x4), dict := none, data := (Data.dict (Array.mk [en _P "__name__" 165 (Value.str (Str.ofString "cpy313.email.quoprimime") 1234), en _P "__doc__" 166 Value.none, en _P "__package__" 167 Value.none, en _P "__loader__" 168 (Value.builtin PySem.W.SL.s7097527257260152453x26), en _P "__spec__" 169 Value.none, en _P "__annotations__" 170 (Value.ref 6), en _P "__builtins__" 171 (Value.ref 4), en _P "__file__" 173 (Value.str (Str.ofString "/claim/cut.py") 172), en _P "__cached__" 174 Value.none, en _P "CRLF" 188 (Value.str (Str.mk (Array.mk [13, 10])) 187), en _P "NL" 190 (q1 10 189), en _P "_QUOPRI_MAP" 1218 (Value.ref 17), en _P "_QUOPRI_HEADER_MAP" 1219 (Value.ref 22), en _P "_QUOPRI_BODY_MAP" 1220 (Value.ref 24), en _P "ascii_lowercase" 1222 (Value.str (Str.ofString "abcdefghijklmnopqrstuvwxyz") 1221), en _P "ascii_uppercase" 1224 (Value.str (Str.ofString "ABCDEFGHIJKLMNOPQRSTUVWXYZ") 1223), en _P "ascii_letters" 1226 (Value.str (Str.ofString "abcdefghijklmnopqrstuvwxyzABCDEFGHIJKLMNOPQRSTUVWXYZ") 1225), en _P "digits" 1228 (Value.str (Str.ofString "0123456789") 1227), en _P "hexdigits" 1233 (Value.str (Str.ofString "0123456789abcdefABCDEF") 1232)]) 19), slots := Array.mk [] }
noncomputable def x21s3 (_P : Params) : Obj := { cls := (Value.type PySem.W.SL.s4674234679698826739x5), dict := none, data := (Data.fields (Array.mk [Value.none, Value.none, Value.none])), slots := Array.mk [] }
noncomputable def x22s3 (_P : Params) : Obj := { cls := (Value.type PySem.W.SL.s9222952809800978799x4), dict := none, data := (Data.seq (Array.mk lst5) 0), slots := Array.mk [] }
noncomputable def x23s3 (_P : Params) : Obj := { cls := (Value.type PySem.W.SL.s4674234679698826739x5), dict := none, data := (Data.fields (Array.mk [Value.none, Value.none, Value.none])), slots := Array.mk [] }
noncomputable def x24s3 (_P : Params) : Obj := { cls := (Value.type PySem.W.SL.s9222952809800978799x4), dict := none, data := (Data.seq (Array.mk lst5) 0), slots := Array.mk [] }
noncomputable def tr3 (P : Params) : BT := (.node (boot_o_0 P) (.node (boot_o_1 P) (.node (x3s3 P) (.node (boot_o_7 P) (.node (x15s2c0 P) .nil .nil) (.node (x23s3 P) .nil .nil)) (.node (x11 P) (.node (x19s2 P) .nil .nil) .nil)) (.node (boot_o_5 P) (.node (boot_o_9 P) (.node (x17s2 P) .nil .nil) .nil) (.node (x13 P) (.node (x21s3 P) .nil .nil) .nil))) (.node (boot_o_2 P) (.node (boot_o_4 P) (.node (boot_o_8 P) (.node (x16s2 P) .nil .nil) (.node (x24s3 P) .nil .nil)) (.node (x12 P) (.node (x20s2 P) .nil .nil) .nil)) (.node (boot_o_6 P) (.node (boot_o_10 P) (.node (x18s2 P) .nil .nil) .nil) (.node (x14 P) (.node (x22s3 P) .nil .nil) .nil))))
noncomputable def st3 (w : World) (os : OsState) : SharedT := ⟨tr3 w.params, 25, {}, Array.mk [], {}, 1236, os⟩
noncomputable def x3s4c0 (_P : Params) : Obj := { cls := (Value.type PySem.W.SL.s14018661285674007319x4), dict := none, data := (Data.dict (Array.mk [en _P "__name__" 165 (Value.str (Str.ofString "cpy313.email.quoprimime") 1234), en _P "__doc__" 166 Value.none, en _P "__package__" 167 Value.none, en _P "__loader__" 168 (Value.builtin PySem.W.SL.s7097527257260152453x26), en _P "__spec__" 169 Value.none, en _P "__annotations__" 170 (Value.ref 6), en _P "__builtins__" 171 (Value.ref 4), en _P "__file__" 173 (Value.str (Str.ofString "/claim/cut.py") 172), en _P "__cached__" 174 Value.none, en _P "CRLF" 188 (Value.str (Str.mk (Array.mk [13, 10])) 187), en _P "NL" 190 (q1 10 189), en _P "_QUOPRI_MAP" 1218 (Value.ref 17), en _P "_QUOPRI_HEADER_MAP" 1219 (Value.ref 22), en _P "_QUOPRI_BODY_MAP" 1220 (Value.ref 24), en _P "ascii_lowercase" 1222 (Value.str (Str.ofString "abcdefghijklmnopqrstuvwxyz") 1221), en _P "ascii_uppercase" 1224 (Value.str (Str.ofString "ABCDEFGHIJKLMNOPQRSTUVWXYZ") 1223), en _P "ascii_letters" 1226 (Value.str (Str.ofString "abcdefghijklmnopqrstuvwxyzABCDEFGHIJKLMNOPQRSTUVWXYZ") 1225), en _P "digits" 1228 (Value.str (Str.ofString "0123456789") 1227), en _P "hexdigits" 1233 (Value.str (Str.ofString "0123456789abcdefABCDEF") 1232), en _P "c" 1244 (Value.int 33 1246)]) 20), slots := Array.mk [] }
noncomputable def lst6 : List Value := [(q3 48 48 197), (q3 48 49 201), (q3 48 50 205), (q3 48 51 209), (q3 48 52 213), (q3 48 53 217), (q3 48 54 221), (q3 48 55 225), (q3 48 56 229), (q3 48 57 233), (q3 48 65 237), (q3 48 66 241), (q3 48 67 245), (q3 48 68 249), (q3 48 69 253), (q3 48 70 257), (q3 49 48 261), (q3 49 49 265), (q3 49 50 269), (q3 49 51 273), (q3 49 52 277), (q3 49 53 281), (q3 49 54 285), (q3 49 55 289), (q3 49 56 293), (q3 49 57 297), (q3 49 65 301), (q3 49 66 305), (q3 49 67 309), (q3 49 68 313), (q3 49 69 317), (q3 49 70 321), (q3 50 48 325), (q1 33 1248), (q3 50 50 333), (q3 50 51 337), (q3 50 52 341), (q3 50 53 345), (q3 50 54 349), (q3 50 55 353), (q3 50 56 357), (q3 50 57 361), (q3 50 65 365), (q3 50 66 369), (q3 50 67 373), (q1 45 1245), (q3 50 69 381), (q3 50 70 385), (q3 51 48 389), (q3 51 49 393), (q3 51 50 397), (q3 51 51 401), (q3 51 52 405), (q3 51 53 409), (q3 51 54 413), (q3 51 55 417), (q3 51 56 421), (q3 51 57 425), (q3 51 65 429), (q3 51 66 433), (q3 51 67 437), (q3 51 68 441), (q3 51 69 445), (q3 51 70 449), (q3 52 48 453), (q3 52 49 457), (q3 52 50 461), (q3 52 51 465), (q3 52 52 469), (q3 52 53 473), (q3 52 54 477), (q3 52 55 481), (q3 52 56 485), (q3 52 57 489), (q3 52 65 493), (q3 52 66 497), (q3 52 67 501), (q3 52 68 505), (q3 52 69 509), (q3 52 70 513), (q3 53 48 517), (q3 53 49 521), (q3 53 50 525), (q3 53 51 529), (q3 53 52 533), (q3 53 53 537), (q3 53 54 541), (q3 53 55 545), (q3 53 56 549), (q3 53 57 553), (q3 53 65 557), (q3 53 66 561), (q3 53 67 565), (q3 53 68 569), (q3 53 69 573), (q3 53 70 577), (q3 54 48 581), (q3 54 49 585), (q3 54 50 589), (q3 54 51 593), (q3 54 52 597), (q3 54 53 601), (q3 54 54 605), (q3 54 55 609), (q3 54 56 613), (q3 54 57 617), (q3 54 65 621), (q3 54 66 625), (q3 54 67 629), (q3 54 68 633), (q3 54 69 637), (q3 54 70 641), (q3 55 48 645), (q3 55 49 649), (q3 55 50 653), (q3 55 51 657), (q3 55 52 661), (q3 55 53 665), (q3 55 54 669), (q3 55 55 673), (q3 55 56 677), (q3 55 57 681), (q3 55 65 685), (q3 55 66 689), (q3 55 67 693), (q3 55 68 697), (q3 55 69 701), (q3 55 70 705), (q3 56 48 709), (q3 56 49 713), (q3 56 50 717), (q3 56 51 721), (q3 56 52 725), (q3 56 53 729), (q3 56 54 733), (q3 56 55 737), (q3 56 56 741), (q3 56 57 745), (q3 56 65 749), (q3 56 66 753), (q3 56 67 757), (q3 56 68 761), (q3 56 69 765), (q3 56 70 769), (q3 57 48 773), (q3 57 49 777), (q3 57 50 781), (q3 57 51 785), (q3 57 52 789), (q3 57 53 793), (q3 57 54 797), (q3 57 55 801), (q3 57 56 805), (q3 57 57 809), (q3 57 65 813), (q3 57 66 817), (q3 57 67 821), (q3 57 68 825), (q3 57 69 829), (q3 57 70 833), (q3 65 48 837), (q3 65 49 841), (q3 65 50 845), (q3 65 51 849), (q3 65 52 853), (q3 65 53 857), (q3 65 54 861), (q3 65 55 865), (q3 65 56 869), (q3 65 57 873), (q3 65 65 877), (q3 65 66 881), (q3 65 67 885), (q3 65 68 889), (q3 65 69 893), (q3 65 70 897), (q3 66 48 901), (q3 66 49 905), (q3 66 50 909), (q3 66 51 913), (q3 66 52 917), (q3 66 53 921), (q3 66 54 925), (q3 66 55 929), (q3 66 56 933), (q3 66 57 937), (q3 66 65 941), (q3 66 66 945), (q3 66 67 949), (q3 66 68 953), (q3 66 69 957), (q3 66 70 961), (q3 67 48 965), (q3 67 49 969), (q3 67 50 973), (q3 67 51 977), (q3 67 52 981), (q3 67 53 985), (q3 67 54 989), (q3 67 55 993), (q3 67 56 997), (q3 67 57 1001), (q3 67 65 1005), (q3 67 66 1009), (q3 67 67 1013), (q3 67 68 1017), (q3 67 69 1021), (q3 67 70 1025), (q3 68 48 1029), (q3 68 49 1033), (q3 68 50 1037), (q3 68 51 1041), (q3 68 52 1045), (q3 68 53 1049), (q3 68 54 1053), (q3 68 55 1057), (q3 68 56 1061), (q3 68 57 1065), (q3 68 65 1069), (q3 68 66 1073), (q3 68 67 1077), (q3 68 68 1081), (q3 68 69 1085), (q3 68 70 1089), (q3 69 48 1093), (q3 69 49 1097), (q3 69 50 1101), (q3 69 51 1105), (q3 69 52 1109), (q3 69 53 1113), (q3 69 54 1117), (q3 69 55 1121), (q3 69 56 1125), (q3 69 57 1129), (q3 69 65 1133), (q3 69 66 1137), (q3 69 67 1141), (q3 69 68 1145), (q3 69 69 1149), (q3 69 70 1153), (q3 70 48 1157), (q3 70 49 1161), (q3 70 50 1165), (q3 70 51 1169), (q3 70 52 1173), (q3 70 53 1177), (q3 70 54 1181), (q3 70 55 1185), (q3 70 56 1189), (q3 70 57 1193), (q3 70 65 1197), (q3 70 66 1201), (q3 70 67 1205), (q3 70 68 1209), (q3 70 69 1213), (q3 70 70 1217)]
noncomputable def x22s4c0 (_P : Params) : Obj := { cls := (Value.type PySem.W.SL.s9222952809800978799x4), dict := none, data := (Data.seq (Array.mk lst6) 0), slots := Array.mk [] }
noncomputable def x25s4c0 (_P : Params) : Obj := { cls := (Value.type PySem.W.SL.s1378417608194177226x14), dict := none, data := (Data.fields (Array.mk [(Value.bytes (Array.mk [45, 33, 42, 43, 47, 97, 98, 99, 100, 101, 102, 103, 104, 105, 106, 107, 108, 109, 110, 111, 112, 113, 114, 115, 116, 117, 118, 119, 120, 121, 122, 65, 66, 67, 68, 69, 70, 71, 72, 73, 74, 75, 76, 77, 78, 79, 80, 81, 82, 83, 84, 85, 86, 87, 88, 89, 90, 48, 49, 50, 51, 52, 53, 54, 55, 56, 57]) 1242), (Value.int 2 0)])), slots := Array.mk [] }
noncomputable def tr4c0 (P : Params) : BT := (.node (boot_o_0 P) (.node (boot_o_1 P) (.node (x3s4c0 P) (.node (boot_o_7 P) (.node (x15s2c0 P) .nil .nil) (.node (x23s3 P) .nil .nil)) (.node (x11 P) (.node (x19s2 P) .nil .nil) .nil)) (.node (boot_o_5 P) (.node (boot_o_9 P) (.node (x17s2 P) .nil .nil) (.node (x25s4c0 P) .nil .nil)) (.node (x13 P) (.node (x21s3 P) .nil .nil) .nil))) (.node (boot_o_2 P) (.node (boot_o_4 P) (.node (boot_o_8 P) (.node (x16s2 P) .nil .nil) (.node (x24s3 P) .nil .nil)) (.node (x12 P) (.node (x20s2 P) .nil .nil) .nil)) (.node (boot_o_6 P) (.node (boot_o_10 P) (.node (x18s2 P) .nil .nil) .nil) (.node (x14 P) (.node (x22s4c0 P) .nil .nil) .nil))))
noncomputable def st4c0 (w : World) (os : OsState) : SharedT := ⟨tr4c0 w.params, 26, {}, Array.mk [], {}, 1249, os⟩
noncomputable def x3s4c1 (_P : Params) : Obj := { cls := (Value.type PySem.W.SL.s14018661285674007319x4), dict := none, data := (Data.dict (Array.mk [en _P "__name__" 165 (Value.str (Str.ofString "cpy313.email.quoprimime") 1234), en _P "__doc__" 166 Value.none, en _P "__package__" 167 Value.none, en _P "__loader__" 168 (Value.builtin PySem.W.SL.s7097527257260152453x26), en _P "__spec__" 169 Value.none, en _P "__annotations__" 170 (Value.ref 6), en _P "__builtins__" 171 (Value.ref 4), en _P "__file__" 173 (Value.str (Str.ofString "/claim/cut.py") 172), en _P "__cached__" 174 Value.none, en _P "CRLF" 188 (Value.str (Str.mk (Array.mk [13, 10])) 187), en _P "NL" 190 (q1 10 189), en _P "_QUOPRI_MAP" 1218 (Value.ref 17), en _P "_QUOPRI_HEADER_MAP" 1219 (Value.ref 22), en _P "_QUOPRI_BODY_MAP" 1220 (Value.ref 24), en _P "ascii_lowercase" 1222 (Value.str (Str.ofString "abcdefghijklmnopqrstuvwxyz") 1221), en _P "ascii_uppercase" 1224 (Value.str (Str.ofString "ABCDEFGHIJKLMNOPQRSTUVWXYZ") 1223), en _P "ascii_letters" 1226 (Value.str (Str.ofString "abcdefghijklmnopqrstuvwxyzABCDEFGHIJKLMNOPQRSTUVWXYZ") 1225), en _P "digits" 1228 (Value.str (Str.ofString "0123456789") 1227), en _P "hexdigits" 1233 (Value.str (Str.ofString "0123456789abcdefABCDEF") 1232), en _P "c" 1244 (Value.int 69 1348)]) 20), slots := Array.mk [] }
noncomputable def lst7 : List Value := [(q3 48 48 197), (q3 48 49 201), (q3 48 50 205), (q3 48 51 209), (q3 48 52 213), (q3 48 53 217), (q3 48 54 221), (q3 48 55 225), (q3 48 56 229), (q3 48 57 233), (q3 48 65 237), (q3 48 66 241), (q3 48 67 245), (q3 48 68 249), (q3 48 69 253), (q3 48 70 257), (q3 49 48 261), (q3 49 49 265), (q3 49 50 269), (q3 49 51 273), (q3 49 52 277), (q3 49 53 281), (q3 49 54 285), (q3 49 55 289), (q3 49 56 293), (q3 49 57 297), (q3 49 65 301), (q3 49 66 305), (q3 49 67 309), (q3 49 68 313), (q3 49 69 317), (q3 49 70 321), (q3 50 48 325), (q1 33 1248), (q3 50 50 333), (q3 50 51 337), (q3 50 52 341), (q3 50 53 345), (q3 50 54 349), (q3 50 55 353), (q3 50 56 357), (q3 50 57 361), (q1 42 1251), (q1 43 1254), (q3 50 67 373), (q1 45 1245), (q3 50 69 381), (q1 47 1257), (q3 51 48 389), (q3 51 49 393), (q3 51 50 397), (q3 51 51 401), (q3 51 52 405), (q3 51 53 409), (q3 51 54 413), (q3 51 55 417), (q3 51 56 421), (q3 51 57 425), (q3 51 65 429), (q3 51 66 433), (q3 51 67 437), (q3 51 68 441), (q3 51 69 445), (q3 51 70 449), (q3 52 48 453), (q1 65 1338), (q1 66 1341), (q1 67 1344), (q1 68 1347), (q1 69 1350), (q3 52 54 477), (q3 52 55 481), (q3 52 56 485), (q3 52 57 489), (q3 52 65 493), (q3 52 66 497), (q3 52 67 501), (q3 52 68 505), (q3 52 69 509), (q3 52 70 513), (q3 53 48 517), (q3 53 49 521), (q3 53 50 525), (q3 53 51 529), (q3 53 52 533), (q3 53 53 537), (q3 53 54 541), (q3 53 55 545), (q3 53 56 549), (q3 53 57 553), (q3 53 65 557), (q3 53 66 561), (q3 53 67 565), (q3 53 68 569), (q3 53 69 573), (q3 53 70 577), (q3 54 48 581), (q1 97 1260), (q1 98 1263), (q1 99 1266), (q1 100 1269), (q1 101 1272), (q1 102 1275), (q1 103 1278), (q1 104 1281), (q1 105 1284), (q1 106 1287), (q1 107 1290), (q1 108 1293), (q1 109 1296), (q1 110 1299), (q1 111 1302), (q1 112 1305), (q1 113 1308), (q1 114 1311), (q1 115 1314), (q1 116 1317), (q1 117 1320), (q1 118 1323), (q1 119 1326), (q1 120 1329), (q1 121 1332), (q1 122 1335), (q3 55 66 689), (q3 55 67 693), (q3 55 68 697), (q3 55 69 701), (q3 55 70 705), (q3 56 48 709), (q3 56 49 713), (q3 56 50 717), (q3 56 51 721), (q3 56 52 725), (q3 56 53 729), (q3 56 54 733), (q3 56 55 737), (q3 56 56 741), (q3 56 57 745), (q3 56 65 749), (q3 56 66 753), (q3 56 67 757), (q3 56 68 761), (q3 56 69 765), (q3 56 70 769), (q3 57 48 773), (q3 57 49 777), (q3 57 50 781), (q3 57 51 785), (q3 57 52 789), (q3 57 53 793), (q3 57 54 797), (q3 57 55 801), (q3 57 56 805), (q3 57 57 809), (q3 57 65 813), (q3 57 66 817), (q3 57 67 821), (q3 57 68 825), (q3 57 69 829), (q3 57 70 833), (q3 65 48 837), (q3 65 49 841), (q3 65 50 845), (q3 65 51 849), (q3 65 52 853), (q3 65 53 857), (q3 65 54 861), (q3 65 55 865), (q3 65 56 869), (q3 65 57 873), (q3 65 65 877), (q3 65 66 881), (q3 65 67 885), (q3 65 68 889), (q3 65 69 893), (q3 65 70 897), (q3 66 48 901), (q3 66 49 905), (q3 66 50 909), (q3 66 51 913), (q3 66 52 917), (q3 66 53 921), (q3 66 54 925), (q3 66 55 929), (q3 66 56 933), (q3 66 57 937), (q3 66 65 941), (q3 66 66 945), (q3 66 67 949), (q3 66 68 953), (q3 66 69 957), (q3 66 70 961), (q3 67 48 965), (q3 67 49 969), (q3 67 50 973), (q3 67 51 977), (q3 67 52 981), (q3 67 53 985), (q3 67 54 989), (q3 67 55 993), (q3 67 56 997), (q3 67 57 1001), (q3 67 65 1005), (q3 67 66 1009), (q3 67 67 1013), (q3 67 68 1017), (q3 67 69 1021), (q3 67 70 1025), (q3 68 48 1029), (q3 68 49 1033), (q3 68 50 1037), (q3 68 51 1041), (q3 68 52 1045), (q3 68 53 1049), (q3 68 54 1053), (q3 68 55 1057), (q3 68 56 1061), (q3 68 57 1065), (q3 68 65 1069), (q3 68 66 1073), (q3 68 67 1077), (q3 68 68 1081), (q3 68 69 1085), (q3 68 70 1089), (q3 69 48 1093), (q3 69 49 1097), (q3 69 50 1101), (q3 69 51 1105), (q3 69 52 1109), (q3 69 53 1113), (q3 69 54 1117), (q3 69 55 1121), (q3 69 56 1125), (q3 69 57 1129), (q3 69 65 1133), (q3 69 66 1137), (q3 69 67 1141), (q3 69 68 1145), (q3 69 69 1149), (q3 69 70 1153), (q3 70 48 1157), (q3 70 49 1161), (q3 70 50 1165), (q3 70 51 1169), (q3 70 52 1173), (q3 70 53 1177), (q3 70 54 1181), (q3 70 55 1185), (q3 70 56 1189), (q3 70 57 1193), (q3 70 65 1197), (q3 70 66 1201), (q3 70 67 1205), (q3 70 68 1209), (q3 70 69 1213), (q3 70 70 1217)]
noncomputable def x22s4c1 (_P : Params) : Obj := { cls := (Value.type PySem.W.SL.s9222952809800978799x4), dict := none, data := (Data.seq (Array.mk lst7) 0), slots := Array.mk [] }
noncomputable def x25s4c1 (_P : Params) : Obj := { cls := (Value.type PySem.W.SL.s1378417608194177226x14), dict := none, data := (Data.fields (Array.mk [(Value.bytes (Array.mk [45, 33, 42, 43, 47, 97, 98, 99, 100, 101, 102, 103, 104, 105, 106, 107, 108, 109, 110, 111, 112, 113, 114, 115, 116, 117, 118, 119, 120, 121, 122, 65, 66, 67, 68, 69, 70, 71, 72, 73, 74, 75, 76, 77, 78, 79, 80, 81, 82, 83, 84, 85, 86, 87, 88, 89, 90, 48, 49, 50, 51, 52, 53, 54, 55, 56, 57]) 1242), (Value.int 36 0)])), slots := Array.mk [] }
noncomputable def tr4c1 (P : Params) : BT := (.node (boot_o_0 P) (.node (boot_o_1 P) (.node (x3s4c1 P) (.node (boot_o_7 P) (.node (x15s2c0 P) .nil .nil) (.node (x23s3 P) .nil .nil)) (.node (x11 P) (.node (x19s2 P) .nil .nil) .nil)) (.node (boot_o_5 P) (.node (boot_o_9 P) (.node (x17s2 P) .nil .nil) (.node (x25s4c1 P) .nil .nil)) (.node (x13 P) (.node (x21s3 P) .nil .nil) .nil))) (.node (boot_o_2 P) (.node (boot_o_4 P) (.node (boot_o_8 P) (.node (x16s2 P) .nil .nil) (.node (x24s3 P) .nil .nil)) (.node (x12 P) (.node (x20s2 P) .nil .nil) .nil)) (.node (boot_o_6 P) (.node (boot_o_10 P) (.node (x18s2 P) .nil .nil) .nil) (.node (x14 P) (.node (x22s4c1 P) .nil .nil) .nil))))
noncomputable def st4c1 (w : World) (os : OsState) : SharedT := ⟨tr4c1 w.params, 26, {}, Array.mk [], {}, 1351, os⟩
noncomputable def x3s4 (_P : Params) : Obj := { cls := (Value.type PySem.W.SL.s14018661285674007319x4), dict := none, data := (Data.dict (Array.mk [en _P "__name__" 165 (Value.str (Str.ofString "cpy313.email.quoprimime") 1234), en _P "__doc__" 166 Value.none, en _P "__package__" 167 Value.none, en _P "__loader__" 168 (Value.builtin PySem.W.SL.s7097527257260152453x26), en _P "__spec__" 169 Value.none, en _P "__annotations__" 170 (Value.ref 6), en _P "__builtins__" 171 (Value.ref 4), en _P "__file__" 173 (Value.str (Str.ofString "/claim/cut.py") 172), en _P "__cached__" 174 Value.none, en _P "CRLF" 188 (Value.str (Str.mk (Array.mk [13, 10])) 187), en _P "NL" 190 (q1 10 189), en _P "_QUOPRI_MAP" 1218 (Value.ref 17), en _P "_QUOPRI_HEADER_MAP" 1219 (Value.ref 22), en _P "_QUOPRI_BODY_MAP" 1220 (Value.ref 24), en _P "ascii_lowercase" 1222 (Value.str (Str.ofString "abcdefghijklmnopqrstuvwxyz") 1221), en _P "ascii_uppercase" 1224 (Value.str (Str.ofString "ABCDEFGHIJKLMNOPQRSTUVWXYZ") 1223), en _P "ascii_letters" 1226 (Value.str (Str.ofString "abcdefghijklmnopqrstuvwxyzABCDEFGHIJKLMNOPQRSTUVWXYZ") 1225), en _P "digits" 1228 (Value.str (Str.ofString "0123456789") 1227), en _P "hexdigits" 1233 (Value.str (Str.ofString "0123456789abcdefABCDEF") 1232), en _P "c" 1244 (Value.int 57 1441)]) 20), slots := Array.mk [] }
noncomputable def lst8 : List Value := [(q3 48 48 197), (q3 48 49 201), (q3 48 50 205), (q3 48 51 209), (q3 48 52 213), (q3 48 53 217), (q3 48 54 221), (q3 48 55 225), (q3 48 56 229), (q3 48 57 233), (q3 48 65 237), (q3 48 66 241), (q3 48 67 245), (q3 48 68 249), (q3 48 69 253), (q3 48 70 257), (q3 49 48 261), (q3 49 49 265), (q3 49 50 269), (q3 49 51 273), (q3 49 52 277), (q3 49 53 281), (q3 49 54 285), (q3 49 55 289), (q3 49 56 293), (q3 49 57 297), (q3 49 65 301), (q3 49 66 305), (q3 49 67 309), (q3 49 68 313), (q3 49 69 317), (q3 49 70 321), (q3 50 48 325), (q1 33 1248), (q3 50 50 333), (q3 50 51 337), (q3 50 52 341), (q3 50 53 345), (q3 50 54 349), (q3 50 55 353), (q3 50 56 357), (q3 50 57 361), (q1 42 1251), (q1 43 1254), (q3 50 67 373), (q1 45 1245), (q3 50 69 381), (q1 47 1257), (q1 48 1416), (q1 49 1419), (q1 50 1422), (q1 51 1425), (q1 52 1428), (q1 53 1431), (q1 54 1434), (q1 55 1437), (q1 56 1440), (q1 57 1443), (q3 51 65 429), (q3 51 66 433), (q3 51 67 437), (q3 51 68 441), (q3 51 69 445), (q3 51 70 449), (q3 52 48 453), (q1 65 1338), (q1 66 1341), (q1 67 1344), (q1 68 1347), (q1 69 1350), (q1 70 1353), (q1 71 1356), (q1 72 1359), (q1 73 1362), (q1 74 1365), (q1 75 1368), (q1 76 1371), (q1 77 1374), (q1 78 1377), (q1 79 1380), (q1 80 1383), (q1 81 1386), (q1 82 1389), (q1 83 1392), (q1 84 1395), (q1 85 1398), (q1 86 1401), (q1 87 1404), (q1 88 1407), (q1 89 1410), (q1 90 1413), (q3 53 66 561), (q3 53 67 565), (q3 53 68 569), (q3 53 69 573), (q3 53 70 577), (q3 54 48 581), (q1 97 1260), (q1 98 1263), (q1 99 1266), (q1 100 1269), (q1 101 1272), (q1 102 1275), (q1 103 1278), (q1 104 1281), (q1 105 1284), (q1 106 1287), (q1 107 1290), (q1 108 1293), (q1 109 1296), (q1 110 1299), (q1 111 1302), (q1 112 1305), (q1 113 1308), (q1 114 1311), (q1 115 1314), (q1 116 1317), (q1 117 1320), (q1 118 1323), (q1 119 1326), (q1 120 1329), (q1 121 1332), (q1 122 1335), (q3 55 66 689), (q3 55 67 693), (q3 55 68 697), (q3 55 69 701), (q3 55 70 705), (q3 56 48 709), (q3 56 49 713), (q3 56 50 717), (q3 56 51 721), (q3 56 52 725), (q3 56 53 729), (q3 56 54 733), (q3 56 55 737), (q3 56 56 741), (q3 56 57 745), (q3 56 65 749), (q3 56 66 753), (q3 56 67 757), (q3 56 68 761), (q3 56 69 765), (q3 56 70 769), (q3 57 48 773), (q3 57 49 777), (q3 57 50 781), (q3 57 51 785), (q3 57 52 789), (q3 57 53 793), (q3 57 54 797), (q3 57 55 801), (q3 57 56 805), (q3 57 57 809), (q3 57 65 813), (q3 57 66 817), (q3 57 67 821), (q3 57 68 825), (q3 57 69 829), (q3 57 70 833), (q3 65 48 837), (q3 65 49 841), (q3 65 50 845), (q3 65 51 849), (q3 65 52 853), (q3 65 53 857), (q3 65 54 861), (q3 65 55 865), (q3 65 56 869), (q3 65 57 873), (q3 65 65 877), (q3 65 66 881), (q3 65 67 885), (q3 65 68 889), (q3 65 69 893), (q3 65 70 897), (q3 66 48 901), (q3 66 49 905), (q3 66 50 909), (q3 66 51 913), (q3 66 52 917), (q3 66 53 921), (q3 66 54 925), (q3 66 55 929), (q3 66 56 933), (q3 66 57 937), (q3 66 65 941), (q3 66 66 945), (q3 66 67 949), (q3 66 68 953), (q3 66 69 957), (q3 66 70 961), (q3 67 48 965), (q3 67 49 969), (q3 67 50 973), (q3 67 51 977), (q3 67 52 981), (q3 67 53 985), (q3 67 54 989), (q3 67 55 993), (q3 67 56 997), (q3 67 57 1001), (q3 67 65 1005), (q3 67 66 1009), (q3 67 67 1013), (q3 67 68 1017), (q3 67 69 1021), (q3 67 70 1025), (q3 68 48 1029), (q3 68 49 1033), (q3 68 50 1037), (q3 68 51 1041), (q3 68 52 1045), (q3 68 53 1049), (q3 68 54 1053), (q3 68 55 1057), (q3 68 56 1061), (q3 68 57 1065), (q3 68 65 1069), (q3 68 66 1073), (q3 68 67 1077), (q3 68 68 1081), (q3 68 69 1085), (q3 68 70 1089), (q3 69 48 1093), (q3 69 49 1097), (q3 69 50 1101), (q3 69 51 1105), (q3 69 52 1109), (q3 69 53 1113), (q3 69 54 1117), (q3 69 55 1121), (q3 69 56 1125), (q3 69 57 1129), (q3 69 65 1133), (q3 69 66 1137), (q3 69 67 1141), (q3 69 68 1145), (q3 69 69 1149), (q3 69 70 1153), (q3 70 48 1157), (q3 70 49 1161), (q3 70 50 1165), (q3 70 51 1169), (q3 70 52 1173), (q3 70 53 1177), (q3 70 54 1181), (q3 70 55 1185), (q3 70 56 1189), (q3 70 57 1193), (q3 70 65 1197), (q3 70 66 1201), (q3 70 67 1205), (q3 70 68 1209), (q3 70 69 1213), (q3 70 70 1217)]
noncomputable def x22s4 (_P : Params) : Obj := { cls := (Value.type PySem.W.SL.s9222952809800978799x4), dict := none, data := (Data.seq (Array.mk lst8) 0), slots := Array.mk [] }
noncomputable def x25s4 (_P : Params) : Obj := { cls := (Value.type PySem.W.SL.s1378417608194177226x14), dict := none, data := (Data.fields (Array.mk [Value.none, (Value.int 67 0)])), slots := Array.mk [] }
noncomputable def x26s4 (_P : Params) : Obj := { cls := (Value.type PySem.W.SL.s2766695959194262286x5), dict := none, data := (Data.seq (Array.mk []) 0), slots := Array.mk [] }
noncomputable def x27s4 (_P : Params) : Obj := { cls := (Value.type PySem.W.SL.s5991306692159431302x13), dict := none, data := (Data.fields (Array.mk [(Value.ref 26), Value.none, Value.none, Value.none, (Value.bool false), Value.none])), slots := Array.mk [] }
noncomputable def tr4 (P : Params) : BT := (.node (boot_o_0 P) (.node (boot_o_1 P) (.node (x3s4 P) (.node (boot_o_7 P) (.node (x15s2c0 P) .nil .nil) (.node (x23s3 P) .nil .nil)) (.node (x11 P) (.node (x19s2 P) .nil .nil) (.node (x27s4 P) .nil .nil))) (.node (boot_o_5 P) (.node (boot_o_9 P) (.node (x17s2 P) .nil .nil) (.node (x25s4 P) .nil .nil)) (.node (x13 P) (.node (x21s3 P) .nil .nil) .nil))) (.node (boot_o_2 P) (.node (boot_o_4 P) (.node (boot_o_8 P) (.node (x16s2 P) .nil .nil) (.node (x24s3 P) .nil .nil)) (.node (x12 P) (.node (x20s2 P) .nil .nil) .nil)) (.node (boot_o_6 P) (.node (boot_o_10 P) (.node (x18s2 P) .nil .nil) (.node (x26s4 P) .nil .nil)) (.node (x14 P) (.node (x22s4 P) .nil .nil) .nil))))
noncomputable def st4 (w : World) (os : OsState) : SharedT := ⟨tr4 w.params, 28, {}, Array.mk [], {}, 1444, os⟩
noncomputable def lst9 : List Value := [(q3 48 48 197), (q3 48 49 201), (q3 48 50 205), (q3 48 51 209), (q3 48 52 213), (q3 48 53 217), (q3 48 54 221), (q3 48 55 225), (q3 48 56 229), (q3 48 57 233), (q3 48 65 237), (q3 48 66 241), (q3 48 67 245), (q3 48 68 249), (q3 48 69 253), (q3 48 70 257), (q3 49 48 261), (q3 49 49 265), (q3 49 50 269), (q3 49 51 273), (q3 49 52 277), (q3 49 53 281), (q3 49 54 285), (q3 49 55 289), (q3 49 56 293), (q3 49 57 297), (q3 49 65 301), (q3 49 66 305), (q3 49 67 309), (q3 49 68 313), (q3 49 69 317), (q3 49 70 321), (q1 95 1444), (q1 33 1248), (q3 50 50 333), (q3 50 51 337), (q3 50 52 341), (q3 50 53 345), (q3 50 54 349), (q3 50 55 353), (q3 50 56 357), (q3 50 57 361), (q1 42 1251), (q1 43 1254), (q3 50 67 373), (q1 45 1245), (q3 50 69 381), (q1 47 1257), (q1 48 1416), (q1 49 1419), (q1 50 1422), (q1 51 1425), (q1 52 1428), (q1 53 1431), (q1 54 1434), (q1 55 1437), (q1 56 1440), (q1 57 1443), (q3 51 65 429), (q3 51 66 433), (q3 51 67 437), (q3 51 68 441), (q3 51 69 445), (q3 51 70 449), (q3 52 48 453), (q1 65 1338), (q1 66 1341), (q1 67 1344), (q1 68 1347), (q1 69 1350), (q1 70 1353), (q1 71 1356), (q1 72 1359), (q1 73 1362), (q1 74 1365), (q1 75 1368), (q1 76 1371), (q1 77 1374), (q1 78 1377), (q1 79 1380), (q1 80 1383), (q1 81 1386), (q1 82 1389), (q1 83 1392), (q1 84 1395), (q1 85 1398), (q1 86 1401), (q1 87 1404), (q1 88 1407), (q1 89 1410), (q1 90 1413), (q3 53 66 561), (q3 53 67 565), (q3 53 68 569), (q3 53 69 573), (q3 53 70 577), (q3 54 48 581), (q1 97 1260), (q1 98 1263), (q1 99 1266), (q1 100 1269), (q1 101 1272), (q1 102 1275), (q1 103 1278), (q1 104 1281), (q1 105 1284), (q1 106 1287), (q1 107 1290), (q1 108 1293), (q1 109 1296), (q1 110 1299), (q1 111 1302), (q1 112 1305), (q1 113 1308), (q1 114 1311), (q1 115 1314), (q1 116 1317), (q1 117 1320), (q1 118 1323), (q1 119 1326), (q1 120 1329), (q1 121 1332), (q1 122 1335), (q3 55 66 689), (q3 55 67 693), (q3 55 68 697), (q3 55 69 701), (q3 55 70 705), (q3 56 48 709), (q3 56 49 713), (q3 56 50 717), (q3 56 51 721), (q3 56 52 725), (q3 56 53 729), (q3 56 54 733), (q3 56 55 737), (q3 56 56 741), (q3 56 57 745), (q3 56 65 749), (q3 56 66 753), (q3 56 67 757), (q3 56 68 761), (q3 56 69 765), (q3 56 70 769), (q3 57 48 773), (q3 57 49 777), (q3 57 50 781), (q3 57 51 785), (q3 57 52 789), (q3 57 53 793), (q3 57 54 797), (q3 57 55 801), (q3 57 56 805), (q3 57 57 809), (q3 57 65 813), (q3 57 66 817), (q3 57 67 821), (q3 57 68 825), (q3 57 69 829), (q3 57 70 833), (q3 65 48 837), (q3 65 49 841), (q3 65 50 845), (q3 65 51 849), (q3 65 52 853), (q3 65 53 857), (q3 65 54 861), (q3 65 55 865), (q3 65 56 869), (q3 65 57 873), (q3 65 65 877), (q3 65 66 881), (q3 65 67 885), (q3 65 68 889), (q3 65 69 893), (q3 65 70 897), (q3 66 48 901), (q3 66 49 905), (q3 66 50 909), (q3 66 51 913), (q3 66 52 917), (q3 66 53 921), (q3 66 54 925), (q3 66 55 929), (q3 66 56 933), (q3 66 57 937), (q3 66 65 941), (q3 66 66 945), (q3 66 67 949), (q3 66 68 953), (q3 66 69 957), (q3 66 70 961), (q3 67 48 965), (q3 67 49 969), (q3 67 50 973), (q3 67 51 977), (q3 67 52 981), (q3 67 53 985), (q3 67 54 989), (q3 67 55 993), (q3 67 56 997), (q3 67 57 1001), (q3 67 65 1005), (q3 67 66 1009), (q3 67 67 1013), (q3 67 68 1017), (q3 67 69 1021), (q3 67 70 1025), (q3 68 48 1029), (q3 68 49 1033), (q3 68 50 1037), (q3 68 51 1041), (q3 68 52 1045), (q3 68 53 1049), (q3 68 54 1053), (q3 68 55 1057), (q3 68 56 1061), (q3 68 57 1065), (q3 68 65 1069), (q3 68 66 1073), (q3 68 67 1077), (q3 68 68 1081), (q3 68 69 1085), (q3 68 70 1089), (q3 69 48 1093), (q3 69 49 1097), (q3 69 50 1101), (q3 69 51 1105), (q3 69 52 1109), (q3 69 53 1113), (q3 69 54 1117), (q3 69 55 1121), (q3 69 56 1125), (q3 69 57 1129), (q3 69 65 1133), (q3 69 66 1137), (q3 69 67 1141), (q3 69 68 1145), (q3 69 69 1149), (q3 69 70 1153), (q3 70 48 1157), (q3 70 49 1161), (q3 70 50 1165), (q3 70 51 1169), (q3 70 52 1173), (q3 70 53 1177), (q3 70 54 1181), (q3 70 55 1185), (q3 70 56 1189), (q3 70 57 1193), (q3 70 65 1197), (q3 70 66 1201), (q3 70 67 1205), (q3 70 68 1209), (q3 70 69 1213), (q3 70 70 1217)]
noncomputable def x22s5 (_P : Params) : Obj := { cls := (Value.type PySem.W.SL.s9222952809800978799x4), dict := none, data := (Data.seq (Array.mk lst9) 0), slots := Array.mk [] }
noncomputable def tr5 (P : Params) : BT := (.node (boot_o_0 P) (.node (boot_o_1 P) (.node (x3s4 P) (.node (boot_o_7 P) (.node (x15s2c0 P) .nil .nil) (.node (x23s3 P) .nil .nil)) (.node (x11 P) (.node (x19s2 P) .nil .nil) (.node (x27s4 P) .nil .nil))) (.node (boot_o_5 P) (.node (boot_o_9 P) (.node (x17s2 P) .nil .nil) (.node (x25s4 P) .nil .nil)) (.node (x13 P) (.node (x21s3 P) .nil .nil) .nil))) (.node (boot_o_2 P) (.node (boot_o_4 P) (.node (boot_o_8 P) (.node (x16s2 P) .nil .nil) (.node (x24s3 P) .nil .nil)) (.node (x12 P) (.node (x20s2 P) .nil .nil) .nil)) (.node (boot_o_6 P) (.node (boot_o_10 P) (.node (x18s2 P) .nil .nil) (.node (x26s4 P) .nil .nil)) (.node (x14 P) (.node (x22s5 P) .nil .nil) .nil))))
noncomputable def st5 (w : World) (os : OsState) : SharedT := ⟨tr5 w.params, 28, {}, Array.mk [], {}, 1447, os⟩
noncomputable def x3s6c0 (_P : Params) : Obj := { cls := (Value.type PySem.W.SL.s14018661285674007319x4), dict := none, data := (Data.dict (Array.mk [en _P "__name__" 165 (Value.str (Str.ofString "cpy313.email.quoprimime") 1234), en _P "__doc__" 166 Value.none, en _P "__package__" 167 Value.none, en _P "__loader__" 168 (Value.builtin PySem.W.SL.s7097527257260152453x26), en _P "__spec__" 169 Value.none, en _P "__annotations__" 170 (Value.ref 6), en _P "__builtins__" 171 (Value.ref 4), en _P "__file__" 173 (Value.str (Str.ofString "/claim/cut.py") 172), en _P "__cached__" 174 Value.none, en _P "CRLF" 188 (Value.str (Str.mk (Array.mk [13, 10])) 187), en _P "NL" 190 (q1 10 189), en _P "_QUOPRI_MAP" 1218 (Value.ref 17), en _P "_QUOPRI_HEADER_MAP" 1219 (Value.ref 22), en _P "_QUOPRI_BODY_MAP" 1220 (Value.ref 24), en _P "ascii_lowercase" 1222 (Value.str (Str.ofString "abcdefghijklmnopqrstuvwxyz") 1221), en _P "ascii_uppercase" 1224 (Value.str (Str.ofString "ABCDEFGHIJKLMNOPQRSTUVWXYZ") 1223), en _P "ascii_letters" 1226 (Value.str (Str.ofString "abcdefghijklmnopqrstuvwxyzABCDEFGHIJKLMNOPQRSTUVWXYZ") 1225), en _P "digits" 1228 (Value.str (Str.ofString "0123456789") 1227), en _P "hexdigits" 1233 (Value.str (Str.ofString "0123456789abcdefABCDEF") 1232), en _P "c" 1244 (Value.int 33 1451)]) 20), slots := Array.mk [] }
noncomputable def lst10 : List Value := [(q3 48 48 197), (q3 48 49 201), (q3 48 50 205), (q3 48 51 209), (q3 48 52 213), (q3 48 53 217), (q3 48 54 221), (q3 48 55 225), (q3 48 56 229), (q3 48 57 233), (q3 48 65 237), (q3 48 66 241), (q3 48 67 245), (q3 48 68 249), (q3 48 69 253), (q3 48 70 257), (q3 49 48 261), (q3 49 49 265), (q3 49 50 269), (q3 49 51 273), (q3 49 52 277), (q3 49 53 281), (q3 49 54 285), (q3 49 55 289), (q3 49 56 293), (q3 49 57 297), (q3 49 65 301), (q3 49 66 305), (q3 49 67 309), (q3 49 68 313), (q3 49 69 317), (q3 49 70 321), (q1 32 1450), (q1 33 1453), (q3 50 50 333), (q3 50 51 337), (q3 50 52 341), (q3 50 53 345), (q3 50 54 349), (q3 50 55 353), (q3 50 56 357), (q3 50 57 361), (q3 50 65 365), (q3 50 66 369), (q3 50 67 373), (q3 50 68 377), (q3 50 69 381), (q3 50 70 385), (q3 51 48 389), (q3 51 49 393), (q3 51 50 397), (q3 51 51 401), (q3 51 52 405), (q3 51 53 409), (q3 51 54 413), (q3 51 55 417), (q3 51 56 421), (q3 51 57 425), (q3 51 65 429), (q3 51 66 433), (q3 51 67 437), (q3 51 68 441), (q3 51 69 445), (q3 51 70 449), (q3 52 48 453), (q3 52 49 457), (q3 52 50 461), (q3 52 51 465), (q3 52 52 469), (q3 52 53 473), (q3 52 54 477), (q3 52 55 481), (q3 52 56 485), (q3 52 57 489), (q3 52 65 493), (q3 52 66 497), (q3 52 67 501), (q3 52 68 505), (q3 52 69 509), (q3 52 70 513), (q3 53 48 517), (q3 53 49 521), (q3 53 50 525), (q3 53 51 529), (q3 53 52 533), (q3 53 53 537), (q3 53 54 541), (q3 53 55 545), (q3 53 56 549), (q3 53 57 553), (q3 53 65 557), (q3 53 66 561), (q3 53 67 565), (q3 53 68 569), (q3 53 69 573), (q3 53 70 577), (q3 54 48 581), (q3 54 49 585), (q3 54 50 589), (q3 54 51 593), (q3 54 52 597), (q3 54 53 601), (q3 54 54 605), (q3 54 55 609), (q3 54 56 613), (q3 54 57 617), (q3 54 65 621), (q3 54 66 625), (q3 54 67 629), (q3 54 68 633), (q3 54 69 637), (q3 54 70 641), (q3 55 48 645), (q3 55 49 649), (q3 55 50 653), (q3 55 51 657), (q3 55 52 661), (q3 55 53 665), (q3 55 54 669), (q3 55 55 673), (q3 55 56 677), (q3 55 57 681), (q3 55 65 685), (q3 55 66 689), (q3 55 67 693), (q3 55 68 697), (q3 55 69 701), (q3 55 70 705), (q3 56 48 709), (q3 56 49 713), (q3 56 50 717), (q3 56 51 721), (q3 56 52 725), (q3 56 53 729), (q3 56 54 733), (q3 56 55 737), (q3 56 56 741), (q3 56 57 745), (q3 56 65 749), (q3 56 66 753), (q3 56 67 757), (q3 56 68 761), (q3 56 69 765), (q3 56 70 769), (q3 57 48 773), (q3 57 49 777), (q3 57 50 781), (q3 57 51 785), (q3 57 52 789), (q3 57 53 793), (q3 57 54 797), (q3 57 55 801), (q3 57 56 805), (q3 57 57 809), (q3 57 65 813), (q3 57 66 817), (q3 57 67 821), (q3 57 68 825), (q3 57 69 829), (q3 57 70 833), (q3 65 48 837), (q3 65 49 841), (q3 65 50 845), (q3 65 51 849), (q3 65 52 853), (q3 65 53 857), (q3 65 54 861), (q3 65 55 865), (q3 65 56 869), (q3 65 57 873), (q3 65 65 877), (q3 65 66 881), (q3 65 67 885), (q3 65 68 889), (q3 65 69 893), (q3 65 70 897), (q3 66 48 901), (q3 66 49 905), (q3 66 50 909), (q3 66 51 913), (q3 66 52 917), (q3 66 53 921), (q3 66 54 925), (q3 66 55 929), (q3 66 56 933), (q3 66 57 937), (q3 66 65 941), (q3 66 66 945), (q3 66 67 949), (q3 66 68 953), (q3 66 69 957), (q3 66 70 961), (q3 67 48 965), (q3 67 49 969), (q3 67 50 973), (q3 67 51 977), (q3 67 52 981), (q3 67 53 985), (q3 67 54 989), (q3 67 55 993), (q3 67 56 997), (q3 67 57 1001), (q3 67 65 1005), (q3 67 66 1009), (q3 67 67 1013), (q3 67 68 1017), (q3 67 69 1021), (q3 67 70 1025), (q3 68 48 1029), (q3 68 49 1033), (q3 68 50 1037), (q3 68 51 1041), (q3 68 52 1045), (q3 68 53 1049), (q3 68 54 1053), (q3 68 55 1057), (q3 68 56 1061), (q3 68 57 1065), (q3 68 65 1069), (q3 68 66 1073), (q3 68 67 1077), (q3 68 68 1081), (q3 68 69 1085), (q3 68 70 1089), (q3 69 48 1093), (q3 69 49 1097), (q3 69 50 1101), (q3 69 51 1105), (q3 69 52 1109), (q3 69 53 1113), (q3 69 54 1117), (q3 69 55 1121), (q3 69 56 1125), (q3 69 57 1129), (q3 69 65 1133), (q3 69 66 1137), (q3 69 67 1141), (q3 69 68 1145), (q3 69 69 1149), (q3 69 70 1153), (q3 70 48 1157), (q3 70 49 1161), (q3 70 50 1165), (q3 70 51 1169), (q3 70 52 1173), (q3 70 53 1177), (q3 70 54 1181), (q3 70 55 1185), (q3 70 56 1189), (q3 70 57 1193), (q3 70 65 1197), (q3 70 66 1201), (q3 70 67 1205), (q3 70 68 1209), (q3 70 69 1213), (q3 70 70 1217)]
noncomputable def x24s6c0 (_P : Params) : Obj := { cls := (Value.type PySem.W.SL.s9222952809800978799x4), dict := none, data := (Data.seq (Array.mk lst10) 0), slots := Array.mk [] }
noncomputable def x28s6c0 (_P : Params) : Obj := { cls := (Value.type PySem.W.SL.s1378417608194177226x14), dict := none, data := (Data.fields (Array.mk [(Value.bytes (Array.mk [32, 33, 34, 35, 36, 37, 38, 39, 40, 41, 42, 43, 44, 45, 46, 47, 48, 49, 50, 51, 52, 53, 54, 55, 56, 57, 58, 59, 60, 62, 63, 64, 65, 66, 67, 68, 69, 70, 71, 72, 73, 74, 75, 76, 77, 78, 79, 80, 81, 82, 83, 84, 85, 86, 87, 88, 89, 90, 91, 92, 93, 94, 95, 96, 97, 98, 99, 100, 101, 102, 103, 104, 105, 106, 107, 108, 109, 110, 111, 112, 113, 114, 115, 116, 117, 118, 119, 120, 121, 122, 123, 124, 125, 126, 9]) 1447), (Value.int 2 0)])), slots := Array.mk [] }
noncomputable def tr6c0 (P : Params) : BT := (.node (boot_o_0 P) (.node (boot_o_1 P) (.node (x3s6c0 P) (.node (boot_o_7 P) (.node (x15s2c0 P) .nil .nil) (.node (x23s3 P) .nil .nil)) (.node (x11 P) (.node (x19s2 P) .nil .nil) (.node (x27s4 P) .nil .nil))) (.node (boot_o_5 P) (.node (boot_o_9 P) (.node (x17s2 P) .nil .nil) (.node (x25s4 P) .nil .nil)) (.node (x13 P) (.node (x21s3 P) .nil .nil) .nil))) (.node (boot_o_2 P) (.node (boot_o_4 P) (.node (boot_o_8 P) (.node (x16s2 P) .nil .nil) (.node (x24s6c0 P) .nil .nil)) (.node (x12 P) (.node (x20s2 P) .nil .nil) (.node (x28s6c0 P) .nil .nil))) (.node (boot_o_6 P) (.node (boot_o_10 P) (.node (x18s2 P) .nil .nil) (.node (x26s4 P) .nil .nil)) (.node (x14 P) (.node (x22s5 P) .nil .nil) .nil))))
noncomputable def st6c0 (w : World) (os : OsState) : SharedT := ⟨tr6c0 w.params, 29, {}, Array.mk [], {}, 1454, os⟩
noncomputable def x3s6c1 (_P : Params) : Obj := { cls := (Value.type PySem.W.SL.s14018661285674007319x4), dict := none, data := (Data.dict (Array.mk [en _P "__name__" 165 (Value.str (Str.ofString "cpy313.email.quoprimime") 1234), en _P "__doc__" 166 Value.none, en _P "__package__" 167 Value.none, en _P "__loader__" 168 (Value.builtin PySem.W.SL.s7097527257260152453x26), en _P "__spec__" 169 Value.none, en _P "__annotations__" 170 (Value.ref 6), en _P "__builtins__" 171 (Value.ref 4), en _P "__file__" 173 (Value.str (Str.ofString "/claim/cut.py") 172), en _P "__cached__" 174 Value.none, en _P "CRLF" 188 (Value.str (Str.mk (Array.mk [13, 10])) 187), en _P "NL" 190 (q1 10 189), en _P "_QUOPRI_MAP" 1218 (Value.ref 17), en _P "_QUOPRI_HEADER_MAP" 1219 (Value.ref 22), en _P "_QUOPRI_BODY_MAP" 1220 (Value.ref 24), en _P "ascii_lowercase" 1222 (Value.str (Str.ofString "abcdefghijklmnopqrstuvwxyz") 1221), en _P "ascii_uppercase" 1224 (Value.str (Str.ofString "ABCDEFGHIJKLMNOPQRSTUVWXYZ") 1223), en _P "ascii_letters" 1226 (Value.str (Str.ofString "abcdefghijklmnopqrstuvwxyzABCDEFGHIJKLMNOPQRSTUVWXYZ") 1225), en _P "digits" 1228 (Value.str (Str.ofString "0123456789") 1227), en _P "hexdigits" 1233 (Value.str (Str.ofString "0123456789abcdefABCDEF") 1232), en _P "c" 1244 (Value.int 66 1547)]) 20), slots := Array.mk [] }
noncomputable def lst11 : List Value := [(q3 48 48 197), (q3 48 49 201), (q3 48 50 205), (q3 48 51 209), (q3 48 52 213), (q3 48 53 217), (q3 48 54 221), (q3 48 55 225), (q3 48 56 229), (q3 48 57 233), (q3 48 65 237), (q3 48 66 241), (q3 48 67 245), (q3 48 68 249), (q3 48 69 253), (q3 48 70 257), (q3 49 48 261), (q3 49 49 265), (q3 49 50 269), (q3 49 51 273), (q3 49 52 277), (q3 49 53 281), (q3 49 54 285), (q3 49 55 289), (q3 49 56 293), (q3 49 57 297), (q3 49 65 301), (q3 49 66 305), (q3 49 67 309), (q3 49 68 313), (q3 49 69 317), (q3 49 70 321), (q1 32 1450), (q1 33 1453), (q1 34 1456), (q1 35 1459), (q1 36 1462), (q1 37 1465), (q1 38 1468), (q1 39 1471), (q1 40 1474), (q1 41 1477), (q1 42 1480), (q1 43 1483), (q1 44 1486), (q1 45 1489), (q1 46 1492), (q1 47 1495), (q1 48 1498), (q1 49 1501), (q1 50 1504), (q1 51 1507), (q1 52 1510), (q1 53 1513), (q1 54 1516), (q1 55 1519), (q1 56 1522), (q1 57 1525), (q1 58 1528), (q1 59 1531), (q1 60 1534), (q3 51 68 441), (q1 62 1537), (q1 63 1540), (q1 64 1543), (q1 65 1546), (q1 66 1549), (q3 52 51 465), (q3 52 52 469), (q3 52 53 473), (q3 52 54 477), (q3 52 55 481), (q3 52 56 485), (q3 52 57 489), (q3 52 65 493), (q3 52 66 497), (q3 52 67 501), (q3 52 68 505), (q3 52 69 509), (q3 52 70 513), (q3 53 48 517), (q3 53 49 521), (q3 53 50 525), (q3 53 51 529), (q3 53 52 533), (q3 53 53 537), (q3 53 54 541), (q3 53 55 545), (q3 53 56 549), (q3 53 57 553), (q3 53 65 557), (q3 53 66 561), (q3 53 67 565), (q3 53 68 569), (q3 53 69 573), (q3 53 70 577), (q3 54 48 581), (q3 54 49 585), (q3 54 50 589), (q3 54 51 593), (q3 54 52 597), (q3 54 53 601), (q3 54 54 605), (q3 54 55 609), (q3 54 56 613), (q3 54 57 617), (q3 54 65 621), (q3 54 66 625), (q3 54 67 629), (q3 54 68 633), (q3 54 69 637), (q3 54 70 641), (q3 55 48 645), (q3 55 49 649), (q3 55 50 653), (q3 55 51 657), (q3 55 52 661), (q3 55 53 665), (q3 55 54 669), (q3 55 55 673), (q3 55 56 677), (q3 55 57 681), (q3 55 65 685), (q3 55 66 689), (q3 55 67 693), (q3 55 68 697), (q3 55 69 701), (q3 55 70 705), (q3 56 48 709), (q3 56 49 713), (q3 56 50 717), (q3 56 51 721), (q3 56 52 725), (q3 56 53 729), (q3 56 54 733), (q3 56 55 737), (q3 56 56 741), (q3 56 57 745), (q3 56 65 749), (q3 56 66 753), (q3 56 67 757), (q3 56 68 761), (q3 56 69 765), (q3 56 70 769), (q3 57 48 773), (q3 57 49 777), (q3 57 50 781), (q3 57 51 785), (q3 57 52 789), (q3 57 53 793), (q3 57 54 797), (q3 57 55 801), (q3 57 56 805), (q3 57 57 809), (q3 57 65 813), (q3 57 66 817), (q3 57 67 821), (q3 57 68 825), (q3 57 69 829), (q3 57 70 833), (q3 65 48 837), (q3 65 49 841), (q3 65 50 845), (q3 65 51 849), (q3 65 52 853), (q3 65 53 857), (q3 65 54 861), (q3 65 55 865), (q3 65 56 869), (q3 65 57 873), (q3 65 65 877), (q3 65 66 881), (q3 65 67 885), (q3 65 68 889), (q3 65 69 893), (q3 65 70 897), (q3 66 48 901), (q3 66 49 905), (q3 66 50 909), (q3 66 51 913), (q3 66 52 917), (q3 66 53 921), (q3 66 54 925), (q3 66 55 929), (q3 66 56 933), (q3 66 57 937), (q3 66 65 941), (q3 66 66 945), (q3 66 67 949), (q3 66 68 953), (q3 66 69 957), (q3 66 70 961), (q3 67 48 965), (q3 67 49 969), (q3 67 50 973), (q3 67 51 977), (q3 67 52 981), (q3 67 53 985), (q3 67 54 989), (q3 67 55 993), (q3 67 56 997), (q3 67 57 1001), (q3 67 65 1005), (q3 67 66 1009), (q3 67 67 1013), (q3 67 68 1017), (q3 67 69 1021), (q3 67 70 1025), (q3 68 48 1029), (q3 68 49 1033), (q3 68 50 1037), (q3 68 51 1041), (q3 68 52 1045), (q3 68 53 1049), (q3 68 54 1053), (q3 68 55 1057), (q3 68 56 1061), (q3 68 57 1065), (q3 68 65 1069), (q3 68 66 1073), (q3 68 67 1077), (q3 68 68 1081), (q3 68 69 1085), (q3 68 70 1089), (q3 69 48 1093), (q3 69 49 1097), (q3 69 50 1101), (q3 69 51 1105), (q3 69 52 1109), (q3 69 53 1113), (q3 69 54 1117), (q3 69 55 1121), (q3 69 56 1125), (q3 69 57 1129), (q3 69 65 1133), (q3 69 66 1137), (q3 69 67 1141), (q3 69 68 1145), (q3 69 69 1149), (q3 69 70 1153), (q3 70 48 1157), (q3 70 49 1161), (q3 70 50 1165), (q3 70 51 1169), (q3 70 52 1173), (q3 70 53 1177), (q3 70 54 1181), (q3 70 55 1185), (q3 70 56 1189), (q3 70 57 1193), (q3 70 65 1197), (q3 70 66 1201), (q3 70 67 1205), (q3 70 68 1209), (q3 70 69 1213), (q3 70 70 1217)]
noncomputable def x24s6c1 (_P : Params) : Obj := { cls := (Value.type PySem.W.SL.s9222952809800978799x4), dict := none, data := (Data.seq (Array.mk lst11) 0), slots := Array.mk [] }
noncomputable def x28s6c1 (_P : Params) : Obj := { cls := (Value.type PySem.W.SL.s1378417608194177226x14), dict := none, data := (Data.fields (Array.mk [(Value.bytes (Array.mk [32, 33, 34, 35, 36, 37, 38, 39, 40, 41, 42, 43, 44, 45, 46, 47, 48, 49, 50, 51, 52, 53, 54, 55, 56, 57, 58, 59, 60, 62, 63, 64, 65, 66, 67, 68, 69, 70, 71, 72, 73, 74, 75, 76, 77, 78, 79, 80, 81, 82, 83, 84, 85, 86, 87, 88, 89, 90, 91, 92, 93, 94, 95, 96, 97, 98, 99, 100, 101, 102, 103, 104, 105, 106, 107, 108, 109, 110, 111, 112, 113, 114, 115, 116, 117, 118, 119, 120, 121, 122, 123, 124, 125, 126, 9]) 1447), (Value.int 34 0)])), slots := Array.mk [] }
noncomputable def tr6c1 (P : Params) : BT := (.node (boot_o_0 P) (.node (boot_o_1 P) (.node (x3s6c1 P) (.node (boot_o_7 P) (.node (x15s2c0 P) .nil .nil) (.node (x23s3 P) .nil .nil)) (.node (x11 P) (.node (x19s2 P) .nil .nil) (.node (x27s4 P) .nil .nil))) (.node (boot_o_5 P) (.node (boot_o_9 P) (.node (x17s2 P) .nil .nil) (.node (x25s4 P) .nil .nil)) (.node (x13 P) (.node (x21s3 P) .nil .nil) .nil))) (.node (boot_o_2 P) (.node (boot_o_4 P) (.node (boot_o_8 P) (.node (x16s2 P) .nil .nil) (.node (x24s6c1 P) .nil .nil)) (.node (x12 P) (.node (x20s2 P) .nil .nil) (.node (x28s6c1 P) .nil .nil))) (.node (boot_o_6 P) (.node (boot_o_10 P) (.node (x18s2 P) .nil .nil) (.node (x26s4 P) .nil .nil)) (.node (x14 P) (.node (x22s5 P) .nil .nil) .nil))))
noncomputable def st6c1 (w : World) (os : OsState) : SharedT := ⟨tr6c1 w.params, 29, {}, Array.mk [], {}, 1550, os⟩
noncomputable def x3s6c2 (_P : Params) : Obj := { cls := (Value.type PySem.W.SL.s14018661285674007319x4), dict := none, data := (Data.dict (Array.mk [en _P "__name__" 165 (Value.str (Str.ofString "cpy313.email.quoprimime") 1234), en _P "__doc__" 166 Value.none, en _P "__package__" 167 Value.none, en _P "__loader__" 168 (Value.builtin PySem.W.SL.s7097527257260152453x26), en _P "__spec__" 169 Value.none, en _P "__annotations__" 170 (Value.ref 6), en _P "__builtins__" 171 (Value.ref 4), en _P "__file__" 173 (Value.str (Str.ofString "/claim/cut.py") 172), en _P "__cached__" 174 Value.none, en _P "CRLF" 188 (Value.str (Str.mk (Array.mk [13, 10])) 187), en _P "NL" 190 (q1 10 189), en _P "_QUOPRI_MAP" 1218 (Value.ref 17), en _P "_QUOPRI_HEADER_MAP" 1219 (Value.ref 22), en _P "_QUOPRI_BODY_MAP" 1220 (Value.ref 24), en _P "ascii_lowercase" 1222 (Value.str (Str.ofString "abcdefghijklmnopqrstuvwxyz") 1221), en _P "ascii_uppercase" 1224 (Value.str (Str.ofString "ABCDEFGHIJKLMNOPQRSTUVWXYZ") 1223), en _P "ascii_letters" 1226 (Value.str (Str.ofString "abcdefghijklmnopqrstuvwxyzABCDEFGHIJKLMNOPQRSTUVWXYZ") 1225), en _P "digits" 1228 (Value.str (Str.ofString "0123456789") 1227), en _P "hexdigits" 1233 (Value.str (Str.ofString "0123456789abcdefABCDEF") 1232), en _P "c" 1244 (Value.int 98 1643)]) 20), slots := Array.mk [] }
noncomputable def lst12 : List Value := [(q3 48 48 197), (q3 48 49 201), (q3 48 50 205), (q3 48 51 209), (q3 48 52 213), (q3 48 53 217), (q3 48 54 221), (q3 48 55 225), (q3 48 56 229), (q3 48 57 233), (q3 48 65 237), (q3 48 66 241), (q3 48 67 245), (q3 48 68 249), (q3 48 69 253), (q3 48 70 257), (q3 49 48 261), (q3 49 49 265), (q3 49 50 269), (q3 49 51 273), (q3 49 52 277), (q3 49 53 281), (q3 49 54 285), (q3 49 55 289), (q3 49 56 293), (q3 49 57 297), (q3 49 65 301), (q3 49 66 305), (q3 49 67 309), (q3 49 68 313), (q3 49 69 317), (q3 49 70 321), (q1 32 1450), (q1 33 1453), (q1 34 1456), (q1 35 1459), (q1 36 1462), (q1 37 1465), (q1 38 1468), (q1 39 1471), (q1 40 1474), (q1 41 1477), (q1 42 1480), (q1 43 1483), (q1 44 1486), (q1 45 1489), (q1 46 1492), (q1 47 1495), (q1 48 1498), (q1 49 1501), (q1 50 1504), (q1 51 1507), (q1 52 1510), (q1 53 1513), (q1 54 1516), (q1 55 1519), (q1 56 1522), (q1 57 1525), (q1 58 1528), (q1 59 1531), (q1 60 1534), (q3 51 68 441), (q1 62 1537), (q1 63 1540), (q1 64 1543), (q1 65 1546), (q1 66 1549), (q1 67 1552), (q1 68 1555), (q1 69 1558), (q1 70 1561), (q1 71 1564), (q1 72 1567), (q1 73 1570), (q1 74 1573), (q1 75 1576), (q1 76 1579), (q1 77 1582), (q1 78 1585), (q1 79 1588), (q1 80 1591), (q1 81 1594), (q1 82 1597), (q1 83 1600), (q1 84 1603), (q1 85 1606), (q1 86 1609), (q1 87 1612), (q1 88 1615), (q1 89 1618), (q1 90 1621), (q1 91 1624), (q1 92 1627), (q1 93 1630), (q1 94 1633), (q1 95 1636), (q1 96 1639), (q1 97 1642), (q1 98 1645), (q3 54 51 593), (q3 54 52 597), (q3 54 53 601), (q3 54 54 605), (q3 54 55 609), (q3 54 56 613), (q3 54 57 617), (q3 54 65 621), (q3 54 66 625), (q3 54 67 629), (q3 54 68 633), (q3 54 69 637), (q3 54 70 641), (q3 55 48 645), (q3 55 49 649), (q3 55 50 653), (q3 55 51 657), (q3 55 52 661), (q3 55 53 665), (q3 55 54 669), (q3 55 55 673), (q3 55 56 677), (q3 55 57 681), (q3 55 65 685), (q3 55 66 689), (q3 55 67 693), (q3 55 68 697), (q3 55 69 701), (q3 55 70 705), (q3 56 48 709), (q3 56 49 713), (q3 56 50 717), (q3 56 51 721), (q3 56 52 725), (q3 56 53 729), (q3 56 54 733), (q3 56 55 737), (q3 56 56 741), (q3 56 57 745), (q3 56 65 749), (q3 56 66 753), (q3 56 67 757), (q3 56 68 761), (q3 56 69 765), (q3 56 70 769), (q3 57 48 773), (q3 57 49 777), (q3 57 50 781), (q3 57 51 785), (q3 57 52 789), (q3 57 53 793), (q3 57 54 797), (q3 57 55 801), (q3 57 56 805), (q3 57 57 809), (q3 57 65 813), (q3 57 66 817), (q3 57 67 821), (q3 57 68 825), (q3 57 69 829), (q3 57 70 833), (q3 65 48 837), (q3 65 49 841), (q3 65 50 845), (q3 65 51 849), (q3 65 52 853), (q3 65 53 857), (q3 65 54 861), (q3 65 55 865), (q3 65 56 869), (q3 65 57 873), (q3 65 65 877), (q3 65 66 881), (q3 65 67 885), (q3 65 68 889), (q3 65 69 893), (q3 65 70 897), (q3 66 48 901), (q3 66 49 905), (q3 66 50 909), (q3 66 51 913), (q3 66 52 917), (q3 66 53 921), (q3 66 54 925), (q3 66 55 929), (q3 66 56 933), (q3 66 57 937), (q3 66 65 941), (q3 66 66 945), (q3 66 67 949), (q3 66 68 953), (q3 66 69 957), (q3 66 70 961), (q3 67 48 965), (q3 67 49 969), (q3 67 50 973), (q3 67 51 977), (q3 67 52 981), (q3 67 53 985), (q3 67 54 989), (q3 67 55 993), (q3 67 56 997), (q3 67 57 1001), (q3 67 65 1005), (q3 67 66 1009), (q3 67 67 1013), (q3 67 68 1017), (q3 67 69 1021), (q3 67 70 1025), (q3 68 48 1029), (q3 68 49 1033), (q3 68 50 1037), (q3 68 51 1041), (q3 68 52 1045), (q3 68 53 1049), (q3 68 54 1053), (q3 68 55 1057), (q3 68 56 1061), (q3 68 57 1065), (q3 68 65 1069), (q3 68 66 1073), (q3 68 67 1077), (q3 68 68 1081), (q3 68 69 1085), (q3 68 70 1089), (q3 69 48 1093), (q3 69 49 1097), (q3 69 50 1101), (q3 69 51 1105), (q3 69 52 1109), (q3 69 53 1113), (q3 69 54 1117), (q3 69 55 1121), (q3 69 56 1125), (q3 69 57 1129), (q3 69 65 1133), (q3 69 66 1137), (q3 69 67 1141), (q3 69 68 1145), (q3 69 69 1149), (q3 69 70 1153), (q3 70 48 1157), (q3 70 49 1161), (q3 70 50 1165), (q3 70 51 1169), (q3 70 52 1173), (q3 70 53 1177), (q3 70 54 1181), (q3 70 55 1185), (q3 70 56 1189), (q3 70 57 1193), (q3 70 65 1197), (q3 70 66 1201), (q3 70 67 1205), (q3 70 68 1209), (q3 70 69 1213), (q3 70 70 1217)]
noncomputable def x24s6c2 (_P : Params) : Obj := { cls := (Value.type PySem.W.SL.s9222952809800978799x4), dict := none, data := (Data.seq (Array.mk lst12) 0), slots := Array.mk [] }
noncomputable def x28s6c2 (_P : Params) : Obj := { cls := (Value.type PySem.W.SL.s1378417608194177226x14), dict := none, data := (Data.fields (Array.mk [(Value.bytes (Array.mk [32, 33, 34, 35, 36, 37, 38, 39, 40, 41, 42, 43, 44, 45, 46, 47, 48, 49, 50, 51, 52, 53, 54, 55, 56, 57, 58, 59, 60, 62, 63, 64, 65, 66, 67, 68, 69, 70, 71, 72, 73, 74, 75, 76, 77, 78, 79, 80, 81, 82, 83, 84, 85, 86, 87, 88, 89, 90, 91, 92, 93, 94, 95, 96, 97, 98, 99, 100, 101, 102, 103, 104, 105, 106, 107, 108, 109, 110, 111, 112, 113, 114, 115, 116, 117, 118, 119, 120, 121, 122, 123, 124, 125, 126, 9]) 1447), (Value.int 66 0)])), slots := Array.mk [] }
noncomputable def tr6c2 (P : Params) : BT := (.node (boot_o_0 P) (.node (boot_o_1 P) (.node (x3s6c2 P) (.node (boot_o_7 P) (.node (x15s2c0 P) .nil .nil) (.node (x23s3 P) .nil .nil)) (.node (x11 P) (.node (x19s2 P) .nil .nil) (.node (x27s4 P) .nil .nil))) (.node (boot_o_5 P) (.node (boot_o_9 P) (.node (x17s2 P) .nil .nil) (.node (x25s4 P) .nil .nil)) (.node (x13 P) (.node (x21s3 P) .nil .nil) .nil))) (.node (boot_o_2 P) (.node (boot_o_4 P) (.node (boot_o_8 P) (.node (x16s2 P) .nil .nil) (.node (x24s6c2 P) .nil .nil)) (.node (x12 P) (.node (x20s2 P) .nil .nil) (.node (x28s6c2 P) .nil .nil))) (.node (boot_o_6 P) (.node (boot_o_10 P) (.node (x18s2 P) .nil .nil) (.node (x26s4 P) .nil .nil)) (.node (x14 P) (.node (x22s5 P) .nil .nil) .nil))))
noncomputable def st6c2 (w : World) (os : OsState) : SharedT := ⟨tr6c2 w.params, 29, {}, Array.mk [], {}, 1646, os⟩
noncomputable def x3s6 (_P : Params) : Obj := { cls := (Value.type PySem.W.SL.s14018661285674007319x4), dict := none, data := (Data.dict (Array.mk [en _P "__name__" 165 (Value.str (Str.ofString "cpy313.email.quoprimime") 1234), en _P "__doc__" 166 Value.none, en _P "__package__" 167 Value.none, en _P "__loader__" 168 (Value.builtin PySem.W.SL.s7097527257260152453x26), en _P "__spec__" 169 Value.none, en _P "__annotations__" 170 (Value.ref 6), en _P "__builtins__" 171 (Value.ref 4), en _P "__file__" 173 (Value.str (Str.ofString "/claim/cut.py") 172), en _P "__cached__" 174 Value.none, en _P "CRLF" 188 (Value.str (Str.mk (Array.mk [13, 10])) 187), en _P "NL" 190 (q1 10 189), en _P "_QUOPRI_MAP" 1218 (Value.ref 17), en _P "_QUOPRI_HEADER_MAP" 1219 (Value.ref 22), en _P "_QUOPRI_BODY_MAP" 1220 (Value.ref 24), en _P "ascii_lowercase" 1222 (Value.str (Str.ofString "abcdefghijklmnopqrstuvwxyz") 1221), en _P "ascii_uppercase" 1224 (Value.str (Str.ofString "ABCDEFGHIJKLMNOPQRSTUVWXYZ") 1223), en _P "ascii_letters" 1226 (Value.str (Str.ofString "abcdefghijklmnopqrstuvwxyzABCDEFGHIJKLMNOPQRSTUVWXYZ") 1225), en _P "digits" 1228 (Value.str (Str.ofString "0123456789") 1227), en _P "hexdigits" 1233 (Value.str (Str.ofString "0123456789abcdefABCDEF") 1232), en _P "c" 1244 (Value.int 9 1730)]) 20), slots := Array.mk [] }
noncomputable def lst13 : List Value := [(q3 48 48 197), (q3 48 49 201), (q3 48 50 205), (q3 48 51 209), (q3 48 52 213), (q3 48 53 217), (q3 48 54 221), (q3 48 55 225), (q3 48 56 229), (q1 9 1732), (q3 48 65 237), (q3 48 66 241), (q3 48 67 245), (q3 48 68 249), (q3 48 69 253), (q3 48 70 257), (q3 49 48 261), (q3 49 49 265), (q3 49 50 269), (q3 49 51 273), (q3 49 52 277), (q3 49 53 281), (q3 49 54 285), (q3 49 55 289), (q3 49 56 293), (q3 49 57 297), (q3 49 65 301), (q3 49 66 305), (q3 49 67 309), (q3 49 68 313), (q3 49 69 317), (q3 49 70 321), (q1 32 1450), (q1 33 1453), (q1 34 1456), (q1 35 1459), (q1 36 1462), (q1 37 1465), (q1 38 1468), (q1 39 1471), (q1 40 1474), (q1 41 1477), (q1 42 1480), (q1 43 1483), (q1 44 1486), (q1 45 1489), (q1 46 1492), (q1 47 1495), (q1 48 1498), (q1 49 1501), (q1 50 1504), (q1 51 1507), (q1 52 1510), (q1 53 1513), (q1 54 1516), (q1 55 1519), (q1 56 1522), (q1 57 1525), (q1 58 1528), (q1 59 1531), (q1 60 1534), (q3 51 68 441), (q1 62 1537), (q1 63 1540), (q1 64 1543), (q1 65 1546), (q1 66 1549), (q1 67 1552), (q1 68 1555), (q1 69 1558), (q1 70 1561), (q1 71 1564), (q1 72 1567), (q1 73 1570), (q1 74 1573), (q1 75 1576), (q1 76 1579), (q1 77 1582), (q1 78 1585), (q1 79 1588), (q1 80 1591), (q1 81 1594), (q1 82 1597), (q1 83 1600), (q1 84 1603), (q1 85 1606), (q1 86 1609), (q1 87 1612), (q1 88 1615), (q1 89 1618), (q1 90 1621), (q1 91 1624), (q1 92 1627), (q1 93 1630), (q1 94 1633), (q1 95 1636), (q1 96 1639), (q1 97 1642), (q1 98 1645), (q1 99 1648), (q1 100 1651), (q1 101 1654), (q1 102 1657), (q1 103 1660), (q1 104 1663), (q1 105 1666), (q1 106 1669), (q1 107 1672), (q1 108 1675), (q1 109 1678), (q1 110 1681), (q1 111 1684), (q1 112 1687), (q1 113 1690), (q1 114 1693), (q1 115 1696), (q1 116 1699), (q1 117 1702), (q1 118 1705), (q1 119 1708), (q1 120 1711), (q1 121 1714), (q1 122 1717), (q1 123 1720), (q1 124 1723), (q1 125 1726), (q1 126 1729), (q3 55 70 705), (q3 56 48 709), (q3 56 49 713), (q3 56 50 717), (q3 56 51 721), (q3 56 52 725), (q3 56 53 729), (q3 56 54 733), (q3 56 55 737), (q3 56 56 741), (q3 56 57 745), (q3 56 65 749), (q3 56 66 753), (q3 56 67 757), (q3 56 68 761), (q3 56 69 765), (q3 56 70 769), (q3 57 48 773), (q3 57 49 777), (q3 57 50 781), (q3 57 51 785), (q3 57 52 789), (q3 57 53 793), (q3 57 54 797), (q3 57 55 801), (q3 57 56 805), (q3 57 57 809), (q3 57 65 813), (q3 57 66 817), (q3 57 67 821), (q3 57 68 825), (q3 57 69 829), (q3 57 70 833), (q3 65 48 837), (q3 65 49 841), (q3 65 50 845), (q3 65 51 849), (q3 65 52 853), (q3 65 53 857), (q3 65 54 861), (q3 65 55 865), (q3 65 56 869), (q3 65 57 873), (q3 65 65 877), (q3 65 66 881), (q3 65 67 885), (q3 65 68 889), (q3 65 69 893), (q3 65 70 897), (q3 66 48 901), (q3 66 49 905), (q3 66 50 909), (q3 66 51 913), (q3 66 52 917), (q3 66 53 921), (q3 66 54 925), (q3 66 55 929), (q3 66 56 933), (q3 66 57 937), (q3 66 65 941), (q3 66 66 945), (q3 66 67 949), (q3 66 68 953), (q3 66 69 957), (q3 66 70 961), (q3 67 48 965), (q3 67 49 969), (q3 67 50 973), (q3 67 51 977), (q3 67 52 981), (q3 67 53 985), (q3 67 54 989), (q3 67 55 993), (q3 67 56 997), (q3 67 57 1001), (q3 67 65 1005), (q3 67 66 1009), (q3 67 67 1013), (q3 67 68 1017), (q3 67 69 1021), (q3 67 70 1025), (q3 68 48 1029), (q3 68 49 1033), (q3 68 50 1037), (q3 68 51 1041), (q3 68 52 1045), (q3 68 53 1049), (q3 68 54 1053), (q3 68 55 1057), (q3 68 56 1061), (q3 68 57 1065), (q3 68 65 1069), (q3 68 66 1073), (q3 68 67 1077), (q3 68 68 1081), (q3 68 69 1085), (q3 68 70 1089), (q3 69 48 1093), (q3 69 49 1097), (q3 69 50 1101), (q3 69 51 1105), (q3 69 52 1109), (q3 69 53 1113), (q3 69 54 1117), (q3 69 55 1121), (q3 69 56 1125), (q3 69 57 1129), (q3 69 65 1133), (q3 69 66 1137), (q3 69 67 1141), (q3 69 68 1145), (q3 69 69 1149), (q3 69 70 1153), (q3 70 48 1157), (q3 70 49 1161), (q3 70 50 1165), (q3 70 51 1169), (q3 70 52 1173), (q3 70 53 1177), (q3 70 54 1181), (q3 70 55 1185), (q3 70 56 1189), (q3 70 57 1193), (q3 70 65 1197), (q3 70 66 1201), (q3 70 67 1205), (q3 70 68 1209), (q3 70 69 1213), (q3 70 70 1217)]
noncomputable def x24s6 (_P : Params) : Obj := { cls := (Value.type PySem.W.SL.s9222952809800978799x4), dict := none, data := (Data.seq (Array.mk lst13) 0), slots := Array.mk [] }
noncomputable def x28s6 (_P : Params) : Obj := { cls := (Value.type PySem.W.SL.s1378417608194177226x14), dict := none, data := (Data.fields (Array.mk [Value.none, (Value.int 95 0)])), slots := Array.mk [] }
noncomputable def x29s6 (_P : Params) : Obj := { cls := (Value.type PySem.W.SL.s2766695959194262286x5), dict := none, data := (Data.seq (Array.mk []) 0), slots := Array.mk [] }
noncomputable def x30s6 (_P : Params) : Obj := { cls := (Value.type PySem.W.SL.s5991306692159431302x13), dict := none, data := (Data.fields (Array.mk [(Value.ref 29), Value.none, Value.none, Value.none, (Value.bool false), Value.none])), slots := Array.mk [] }
noncomputable def tr6 (P : Params) : BT := (.node (boot_o_0 P) (.node (boot_o_1 P) (.node (x3s6 P) (.node (boot_o_7 P) (.node (x15s2c0 P) .nil .nil) (.node (x23s3 P) .nil .nil)) (.node (x11 P) (.node (x19s2 P) .nil .nil) (.node (x27s4 P) .nil .nil))) (.node (boot_o_5 P) (.node (boot_o_9 P) (.node (x17s2 P) .nil .nil) (.node (x25s4 P) .nil .nil)) (.node (x13 P) (.node (x21s3 P) .nil .nil) (.node (x29s6 P) .nil .nil)))) (.node (boot_o_2 P) (.node (boot_o_4 P) (.node (boot_o_8 P) (.node (x16s2 P) .nil .nil) (.node (x24s6 P) .nil .nil)) (.node (x12 P) (.node (x20s2 P) .nil .nil) (.node (x28s6 P) .nil .nil))) (.node (boot_o_6 P) (.node (boot_o_10 P) (.node (x18s2 P) .nil .nil) (.node (x26s4 P) .nil .nil)) (.node (x14 P) (.node (x22s5 P) .nil .nil) (.node (x30s6 P) .nil .nil)))))
noncomputable def st6 (w : World) (os : OsState) : SharedT := ⟨tr6 w.params, 31, {}, Array.mk [], {}, 1733, os⟩
noncomputable def x3s7 (_P : Params) : Obj := { cls := (Value.type PySem.W.SL.s14018661285674007319x4), dict := none, data := (Data.dict (Array.mk [en _P "__name__" 165 (Value.str (Str.ofString "cpy313.email.quoprimime") 1234), en _P "__doc__" 166 Value.none, en _P "__package__" 167 Value.none, en _P "__loader__" 168 (Value.builtin PySem.W.SL.s7097527257260152453x26), en _P "__spec__" 169 Value.none, en _P "__annotations__" 170 (Value.ref 6), en _P "__builtins__" 171 (Value.ref 4), en _P "__file__" 173 (Value.str (Str.ofString "/claim/cut.py") 172), en _P "__cached__" 174 Value.none, en _P "CRLF" 188 (Value.str (Str.mk (Array.mk [13, 10])) 187), en _P "NL" 190 (q1 10 189), en _P "_QUOPRI_MAP" 1218 (Value.ref 17), en _P "_QUOPRI_HEADER_MAP" 1219 (Value.ref 22), en _P "_QUOPRI_BODY_MAP" 1220 (Value.ref 24), en _P "ascii_lowercase" 1222 (Value.str (Str.ofString "abcdefghijklmnopqrstuvwxyz") 1221), en _P "ascii_uppercase" 1224 (Value.str (Str.ofString "ABCDEFGHIJKLMNOPQRSTUVWXYZ") 1223), en _P "ascii_letters" 1226 (Value.str (Str.ofString "abcdefghijklmnopqrstuvwxyzABCDEFGHIJKLMNOPQRSTUVWXYZ") 1225), en _P "digits" 1228 (Value.str (Str.ofString "0123456789") 1227), en _P "hexdigits" 1233 (Value.str (Str.ofString "0123456789abcdefABCDEF") 1232), en _P "c" 1244 (Value.int 9 1730), en _P "unquote" 1739 (Value.ref 37), en _P "quote" 1746 (Value.ref 44), en _P "_QUOPRI_BODY_ENCODE_MAP" 1747 (Value.ref 46)]) 23), slots := Array.mk [] }
noncomputable def x12s7 (_P : Params) : Obj := { cls := Value.none, dict := none, data := (Data.fields (Array.mk [(Value.int 17 0), (Value.int 0 0), (Value.ref 36), (Value.int 19 0), (Value.int 0 0), (Value.ref 43)])), slots := Array.mk [] }
noncomputable def x31s7 (_P : Params) : Obj := { cls := (Value.type PySem.W.SL.s2766695959194262286x5), dict := none, data := (Data.seq (Array.mk []) 0), slots := Array.mk [] }
noncomputable def x32s7 (_P : Params) : Obj := { cls := Value.none, dict := none, data := (Data.fields (Array.mk [])), slots := Array.mk [] }
noncomputable def x33s7 (_P : Params) : Obj := { cls := (Value.type PySem.W.SL.s2766695959194262286x5), dict := none, data := (Data.seq (Array.mk [(q1 115 1736)]) 0), slots := Array.mk [] }
noncomputable def x34s7 (_P : Params) : Obj := { cls := (Value.type PySem.W.SL.s2766695959194262286x5), dict := none, data := (Data.seq (Array.mk []) 0), slots := Array.mk [] }
noncomputable def x35s7 (_P : Params) : Obj := { cls := Value.none, dict := none, data := (Data.func { name := fnN 14, qualname := (Str.ofString "unquote"), params := fnP 14, body := .stmts (fnB 14), scope := fnS 14, globals := 0, closure := [], defaults := Value.none, kwdefaults := Value.none, doc := Value.none, pyModule := Value.none, annotations := none, code := Value.none, closureTuple := Value.none, builtins := 0 }), slots := Array.mk [] }
noncomputable def x36s7 (_P : Params) : Obj := { cls := (Value.type PySem.W.SL.s5856160107412720595x4), dict := none, data := (Data.fields (Array.mk [(Value.str (Str.ofString "unquote") 1733), (Value.str (Str.ofString "unquote") 1734), (Value.str (Str.ofString "/claim/cut.py") 1735), (Value.int 17 0), (Value.int 1 0), (Value.int 0 0), (Value.int 0 0), (Value.int 3 0), (Value.ref 31), (Value.bool true), (Value.int 181 0), (Value.ref 32), Value.none, (Value.ref 33), (Value.ref 34), (Value.ref 35), (Value.int 1737 0), (Value.int 17 0), (Value.str (Str.ofString "/claim/cut.py") 1738)])), slots := Array.mk [] }
noncomputable def x37s7 (_P : Params) : Obj := { cls := (Value.type PySem.W.SL.s7174869446012820540x8), dict := none, data := (Data.func { name := fnN 14, qualname := (Str.ofString "unquote"), params := fnP 14, body := .stmts (fnB 14), scope := fnS 14, globals := 3, closure := [], defaults := Value.none, kwdefaults := Value.none, doc := Value.none, pyModule := (Value.str (Str.ofString "cpy313.email.quoprimime") 1234), annotations := none, code := (Value.ref 36), closureTuple := Value.none, builtins := 0 }), slots := Array.mk [] }
noncomputable def x38s7 (_P : Params) : Obj := { cls := (Value.type PySem.W.SL.s2766695959194262286x5), dict := none, data := (Data.seq (Array.mk []) 0), slots := Array.mk [] }
noncomputable def x39s7 (_P : Params) : Obj := { cls := Value.none, dict := none, data := (Data.fields (Array.mk [])), slots := Array.mk [] }
noncomputable def x40s7 (_P : Params) : Obj := { cls := (Value.type PySem.W.SL.s2766695959194262286x5), dict := none, data := (Data.seq (Array.mk [(q1 99 1743)]) 0), slots := Array.mk [] }
noncomputable def x41s7 (_P : Params) : Obj := { cls := (Value.type PySem.W.SL.s2766695959194262286x5), dict := none, data := (Data.seq (Array.mk []) 0), slots := Array.mk [] }
noncomputable def x42s7 (_P : Params) : Obj := { cls := Value.none, dict := none, data := (Data.func { name := fnN 15, qualname := (Str.ofString "quote"), params := fnP 15, body := .stmts (fnB 15), scope := fnS 15, globals := 0, closure := [], defaults := Value.none, kwdefaults := Value.none, doc := Value.none, pyModule := Value.none, annotations := none, code := Value.none, closureTuple := Value.none, builtins := 0 }), slots := Array.mk [] }
noncomputable def x43s7 (_P : Params) : Obj := { cls := (Value.type PySem.W.SL.s5856160107412720595x4), dict := none, data := (Data.fields (Array.mk [(Value.str (Str.ofString "quote") 1740), (Value.str (Str.ofString "quote") 1741), (Value.str (Str.ofString "/claim/cut.py") 1742), (Value.int 19 0), (Value.int 1 0), (Value.int 0 0), (Value.int 0 0), (Value.int 3 0), (Value.ref 38), (Value.bool true), (Value.int 181 0), (Value.ref 39), Value.none, (Value.ref 40), (Value.ref 41), (Value.ref 42), (Value.int 1744 0), (Value.int 19 0), (Value.str (Str.ofString "/claim/cut.py") 1745)])), slots := Array.mk [] }
noncomputable def x44s7 (_P : Params) : Obj := { cls := (Value.type PySem.W.SL.s7174869446012820540x8), dict := none, data := (Data.func { name := fnN 15, qualname := (Str.ofString "quote"), params := fnP 15, body := .stmts (fnB 15), scope := fnS 15, globals := 3, closure := [], defaults := Value.none, kwdefaults := Value.none, doc := Value.none, pyModule := (Value.str (Str.ofString "cpy313.email.quoprimime") 1234), annotations := none, code := (Value.ref 43), closureTuple := Value.none, builtins := 0 }), slots := Array.mk [] }
noncomputable def x45s7 (_P : Params) : Obj := { cls := (Value.type PySem.W.SL.s4674234679698826739x5), dict := none, data := (Data.fields (Array.mk [Value.none, Value.none, Value.none])), slots := Array.mk [] }
noncomputable def x46s7 (_P : Params) : Obj := { cls := (Value.type PySem.W.SL.s9222952809800978799x4), dict := none, data := (Data.seq (Array.mk lst13) 0), slots := Array.mk [] }
noncomputable def tr7 (P : Params) : BT := (.node (boot_o_0 P) (.node (boot_o_1 P) (.node (x3s7 P) (.node (boot_o_7 P) (.node (x15s2c0 P) (.node (x31s7 P) .nil .nil) .nil) (.node (x23s3 P) (.node (x39s7 P) .nil .nil) .nil)) (.node (x11 P) (.node (x19s2 P) (.node (x35s7 P) .nil .nil) .nil) (.node (x27s4 P) (.node (x43s7 P) .nil .nil) .nil))) (.node (boot_o_5 P) (.node (boot_o_9 P) (.node (x17s2 P) (.node (x33s7 P) .nil .nil) .nil) (.node (x25s4 P) (.node (x41s7 P) .nil .nil) .nil)) (.node (x13 P) (.node (x21s3 P) (.node (x37s7 P) .nil .nil) .nil) (.node (x29s6 P) (.node (x45s7 P) .nil .nil) .nil)))) (.node (boot_o_2 P) (.node (boot_o_4 P) (.node (boot_o_8 P) (.node (x16s2 P) (.node (x32s7 P) .nil .nil) .nil) (.node (x24s6 P) (.node (x40s7 P) .nil .nil) .nil)) (.node (x12s7 P) (.node (x20s2 P) (.node (x36s7 P) .nil .nil) .nil) (.node (x28s6 P) (.node (x44s7 P) .nil .nil) .nil))) (.node (boot_o_6 P) (.node (boot_o_10 P) (.node (x18s2 P) (.node (x34s7 P) .nil .nil) .nil) (.node (x26s4 P) (.node (x42s7 P) .nil .nil) .nil)) (.node (x14 P) (.node (x22s5 P) (.node (x38s7 P) .nil .nil) .nil) (.node (x30s6 P) (.node (x46s7 P) .nil .nil) .nil)))))
noncomputable def st7 (w : World) (os : OsState) : SharedT := ⟨tr7 w.params, 47, {}, Array.mk [], {}, 1748, os⟩
noncomputable def x3s8 (_P : Params) : Obj := { cls := (Value.type PySem.W.SL.s14018661285674007319x4), dict := none, data := (Data.dict (Array.mk [en _P "__name__" 165 (Value.str (Str.ofString "cpy313.email.quoprimime") 1234), en _P "__doc__" 166 Value.none, en _P "__package__" 167 Value.none, en _P "__loader__" 168 (Value.builtin PySem.W.SL.s7097527257260152453x26), en _P "__spec__" 169 Value.none, en _P "__annotations__" 170 (Value.ref 6), en _P "__builtins__" 171 (Value.ref 4), en _P "__file__" 173 (Value.str (Str.ofString "/claim/cut.py") 172), en _P "__cached__" 174 Value.none, en _P "CRLF" 188 (Value.str (Str.mk (Array.mk [13, 10])) 187), en _P "NL" 190 (q1 10 189), en _P "_QUOPRI_MAP" 1218 (Value.ref 17), en _P "_QUOPRI_HEADER_MAP" 1219 (Value.ref 22), en _P "_QUOPRI_BODY_MAP" 1220 (Value.ref 24), en _P "ascii_lowercase" 1222 (Value.str (Str.ofString "abcdefghijklmnopqrstuvwxyz") 1221), en _P "ascii_uppercase" 1224 (Value.str (Str.ofString "ABCDEFGHIJKLMNOPQRSTUVWXYZ") 1223), en _P "ascii_letters" 1226 (Value.str (Str.ofString "abcdefghijklmnopqrstuvwxyzABCDEFGHIJKLMNOPQRSTUVWXYZ") 1225), en _P "digits" 1228 (Value.str (Str.ofString "0123456789") 1227), en _P "hexdigits" 1233 (Value.str (Str.ofString "0123456789abcdefABCDEF") 1232), en _P "c" 1244 (Value.int 10 1752), en _P "unquote" 1739 (Value.ref 37), en _P "quote" 1746 (Value.ref 44), en _P "_QUOPRI_BODY_ENCODE_MAP" 1747 (Value.ref 46)]) 23), slots := Array.mk [] }
noncomputable def lst14 : List Value := [(q3 48 48 197), (q3 48 49 201), (q3 48 50 205), (q3 48 51 209), (q3 48 52 213), (q3 48 53 217), (q3 48 54 221), (q3 48 55 225), (q3 48 56 229), (q1 9 1732), (q1 10 1754), (q3 48 66 241), (q3 48 67 245), (q1 13 1751), (q3 48 69 253), (q3 48 70 257), (q3 49 48 261), (q3 49 49 265), (q3 49 50 269), (q3 49 51 273), (q3 49 52 277), (q3 49 53 281), (q3 49 54 285), (q3 49 55 289), (q3 49 56 293), (q3 49 57 297), (q3 49 65 301), (q3 49 66 305), (q3 49 67 309), (q3 49 68 313), (q3 49 69 317), (q3 49 70 321), (q1 32 1450), (q1 33 1453), (q1 34 1456), (q1 35 1459), (q1 36 1462), (q1 37 1465), (q1 38 1468), (q1 39 1471), (q1 40 1474), (q1 41 1477), (q1 42 1480), (q1 43 1483), (q1 44 1486), (q1 45 1489), (q1 46 1492), (q1 47 1495), (q1 48 1498), (q1 49 1501), (q1 50 1504), (q1 51 1507), (q1 52 1510), (q1 53 1513), (q1 54 1516), (q1 55 1519), (q1 56 1522), (q1 57 1525), (q1 58 1528), (q1 59 1531), (q1 60 1534), (q3 51 68 441), (q1 62 1537), (q1 63 1540), (q1 64 1543), (q1 65 1546), (q1 66 1549), (q1 67 1552), (q1 68 1555), (q1 69 1558), (q1 70 1561), (q1 71 1564), (q1 72 1567), (q1 73 1570), (q1 74 1573), (q1 75 1576), (q1 76 1579), (q1 77 1582), (q1 78 1585), (q1 79 1588), (q1 80 1591), (q1 81 1594), (q1 82 1597), (q1 83 1600), (q1 84 1603), (q1 85 1606), (q1 86 1609), (q1 87 1612), (q1 88 1615), (q1 89 1618), (q1 90 1621), (q1 91 1624), (q1 92 1627), (q1 93 1630), (q1 94 1633), (q1 95 1636), (q1 96 1639), (q1 97 1642), (q1 98 1645), (q1 99 1648), (q1 100 1651), (q1 101 1654), (q1 102 1657), (q1 103 1660), (q1 104 1663), (q1 105 1666), (q1 106 1669), (q1 107 1672), (q1 108 1675), (q1 109 1678), (q1 110 1681), (q1 111 1684), (q1 112 1687), (q1 113 1690), (q1 114 1693), (q1 115 1696), (q1 116 1699), (q1 117 1702), (q1 118 1705), (q1 119 1708), (q1 120 1711), (q1 121 1714), (q1 122 1717), (q1 123 1720), (q1 124 1723), (q1 125 1726), (q1 126 1729), (q3 55 70 705), (q3 56 48 709), (q3 56 49 713), (q3 56 50 717), (q3 56 51 721), (q3 56 52 725), (q3 56 53 729), (q3 56 54 733), (q3 56 55 737), (q3 56 56 741), (q3 56 57 745), (q3 56 65 749), (q3 56 66 753), (q3 56 67 757), (q3 56 68 761), (q3 56 69 765), (q3 56 70 769), (q3 57 48 773), (q3 57 49 777), (q3 57 50 781), (q3 57 51 785), (q3 57 52 789), (q3 57 53 793), (q3 57 54 797), (q3 57 55 801), (q3 57 56 805), (q3 57 57 809), (q3 57 65 813), (q3 57 66 817), (q3 57 67 821), (q3 57 68 825), (q3 57 69 829), (q3 57 70 833), (q3 65 48 837), (q3 65 49 841), (q3 65 50 845), (q3 65 51 849), (q3 65 52 853), (q3 65 53 857), (q3 65 54 861), (q3 65 55 865), (q3 65 56 869), (q3 65 57 873), (q3 65 65 877), (q3 65 66 881), (q3 65 67 885), (q3 65 68 889), (q3 65 69 893), (q3 65 70 897), (q3 66 48 901), (q3 66 49 905), (q3 66 50 909), (q3 66 51 913), (q3 66 52 917), (q3 66 53 921), (q3 66 54 925), (q3 66 55 929), (q3 66 56 933), (q3 66 57 937), (q3 66 65 941), (q3 66 66 945), (q3 66 67 949), (q3 66 68 953), (q3 66 69 957), (q3 66 70 961), (q3 67 48 965), (q3 67 49 969), (q3 67 50 973), (q3 67 51 977), (q3 67 52 981), (q3 67 53 985), (q3 67 54 989), (q3 67 55 993), (q3 67 56 997), (q3 67 57 1001), (q3 67 65 1005), (q3 67 66 1009), (q3 67 67 1013), (q3 67 68 1017), (q3 67 69 1021), (q3 67 70 1025), (q3 68 48 1029), (q3 68 49 1033), (q3 68 50 1037), (q3 68 51 1041), (q3 68 52 1045), (q3 68 53 1049), (q3 68 54 1053), (q3 68 55 1057), (q3 68 56 1061), (q3 68 57 1065), (q3 68 65 1069), (q3 68 66 1073), (q3 68 67 1077), (q3 68 68 1081), (q3 68 69 1085), (q3 68 70 1089), (q3 69 48 1093), (q3 69 49 1097), (q3 69 50 1101), (q3 69 51 1105), (q3 69 52 1109), (q3 69 53 1113), (q3 69 54 1117), (q3 69 55 1121), (q3 69 56 1125), (q3 69 57 1129), (q3 69 65 1133), (q3 69 66 1137), (q3 69 67 1141), (q3 69 68 1145), (q3 69 69 1149), (q3 69 70 1153), (q3 70 48 1157), (q3 70 49 1161), (q3 70 50 1165), (q3 70 51 1169), (q3 70 52 1173), (q3 70 53 1177), (q3 70 54 1181), (q3 70 55 1185), (q3 70 56 1189), (q3 70 57 1193), (q3 70 65 1197), (q3 70 66 1201), (q3 70 67 1205), (q3 70 68 1209), (q3 70 69 1213), (q3 70 70 1217)]
noncomputable def x46s8 (_P : Params) : Obj := { cls := (Value.type PySem.W.SL.s9222952809800978799x4), dict := none, data := (Data.seq (Array.mk lst14) 0), slots := Array.mk [] }
noncomputable def x47s8 (_P : Params) : Obj := { cls := (Value.type PySem.W.SL.s1378417608194177226x14), dict := none, data := (Data.fields (Array.mk [Value.none, (Value.int 2 0)])), slots := Array.mk [] }
noncomputable def x48s8 (_P : Params) : Obj := { cls := (Value.type PySem.W.SL.s2766695959194262286x5), dict := none, data := (Data.seq (Array.mk []) 0), slots := Array.mk [] }
noncomputable def x49s8 (_P : Params) : Obj := { cls := (Value.type PySem.W.SL.s5991306692159431302x13), dict := none, data := (Data.fields (Array.mk [(Value.ref 48), Value.none, Value.none, Value.none, (Value.bool false), Value.none])), slots := Array.mk [] }
noncomputable def tr8 (P : Params) : BT := (.node (boot_o_0 P) (.node (boot_o_1 P) (.node (x3s8 P) (.node (boot_o_7 P) (.node (x15s2c0 P) (.node (x31s7 P) .nil .nil) (.node (x47s8 P) .nil .nil)) (.node (x23s3 P) (.node (x39s7 P) .nil .nil) .nil)) (.node (x11 P) (.node (x19s2 P) (.node (x35s7 P) .nil .nil) .nil) (.node (x27s4 P) (.node (x43s7 P) .nil .nil) .nil))) (.node (boot_o_5 P) (.node (boot_o_9 P) (.node (x17s2 P) (.node (x33s7 P) .nil .nil) (.node (x49s8 P) .nil .nil)) (.node (x25s4 P) (.node (x41s7 P) .nil .nil) .nil)) (.node (x13 P) (.node (x21s3 P) (.node (x37s7 P) .nil .nil) .nil) (.node (x29s6 P) (.node (x45s7 P) .nil .nil) .nil)))) (.node (boot_o_2 P) (.node (boot_o_4 P) (.node (boot_o_8 P) (.node (x16s2 P) (.node (x32s7 P) .nil .nil) (.node (x48s8 P) .nil .nil)) (.node (x24s6 P) (.node (x40s7 P) .nil .nil) .nil)) (.node (x12s7 P) (.node (x20s2 P) (.node (x36s7 P) .nil .nil) .nil) (.node (x28s6 P) (.node (x44s7 P) .nil .nil) .nil))) (.node (boot_o_6 P) (.node (boot_o_10 P) (.node (x18s2 P) (.node (x34s7 P) .nil .nil) .nil) (.node (x26s4 P) (.node (x42s7 P) .nil .nil) .nil)) (.node (x14 P) (.node (x22s5 P) (.node (x38s7 P) .nil .nil) .nil) (.node (x30s6 P) (.node (x46s8 P) .nil .nil) .nil)))))
noncomputable def st8 (w : World) (os : OsState) : SharedT := ⟨tr8 w.params, 50, {}, Array.mk [], {}, 1755, os⟩
noncomputable def x3s9 (_P : Params) : Obj := { cls := (Value.type PySem.W.SL.s14018661285674007319x4), dict := none, data := (Data.dict (Array.mk [en _P "__name__" 165 (Value.str (Str.ofString "law_tx0023_01") 1798), en _P "__doc__" 166 Value.none, en _P "__package__" 167 Value.none, en _P "__loader__" 168 (Value.builtin PySem.W.SL.s7097527257260152453x26), en _P "__spec__" 169 Value.none, en _P "__annotations__" 170 (Value.ref 6), en _P "__builtins__" 171 (Value.ref 4), en _P "__file__" 173 (Value.str (Str.ofString "/claim/cut.py") 172), en _P "__cached__" 174 Value.none, en _P "CRLF" 188 (Value.str (Str.mk (Array.mk [13, 10])) 187), en _P "NL" 190 (q1 10 189), en _P "_QUOPRI_MAP" 1218 (Value.ref 17), en _P "_QUOPRI_HEADER_MAP" 1219 (Value.ref 22), en _P "_QUOPRI_BODY_MAP" 1220 (Value.ref 24), en _P "ascii_lowercase" 1222 (Value.str (Str.ofString "abcdefghijklmnopqrstuvwxyz") 1221), en _P "ascii_uppercase" 1224 (Value.str (Str.ofString "ABCDEFGHIJKLMNOPQRSTUVWXYZ") 1223), en _P "ascii_letters" 1226 (Value.str (Str.ofString "abcdefghijklmnopqrstuvwxyzABCDEFGHIJKLMNOPQRSTUVWXYZ") 1225), en _P "digits" 1228 (Value.str (Str.ofString "0123456789") 1227), en _P "hexdigits" 1233 (Value.str (Str.ofString "0123456789abcdefABCDEF") 1232), en _P "unquote" 1739 (Value.ref 37), en _P "quote" 1746 (Value.ref 44), en _P "_QUOPRI_BODY_ENCODE_MAP" 1747 (Value.ref 46), en _P "body_encode" 1774 (Value.ref 57), en _P "decode" 1787 (Value.ref 65), en _P "_gen_crc" 1797 (Value.ref 72), en _P "_law_bits" 1809 (Value.ref 79), en _P "_law_rest" 1818 (Value.ref 86)]) 29), slots := Array.mk [] }
noncomputable def x12s9 (_P : Params) : Obj := { cls := Value.none, dict := none, data := (Data.fields (Array.mk [(Value.int 17 0), (Value.int 0 0), (Value.ref 36), (Value.int 19 0), (Value.int 0 0), (Value.ref 43), (Value.int 25 0), (Value.int 0 0), (Value.ref 56), (Value.int 63 0), (Value.int 0 0), (Value.ref 64), (Value.int 94 0), (Value.int 0 0), (Value.ref 71), (Value.int 102 0), (Value.int 0 0), (Value.ref 78), (Value.int 108 0), (Value.int 0 0), (Value.ref 85)])), slots := Array.mk [] }
noncomputable def x50s9 (_P : Params) : Obj := { cls := (Value.type PySem.W.SL.s2766695959194262286x5), dict := none, data := (Data.seq (Array.mk [(Value.int 76 1755), (q1 10 189)]) 0), slots := Array.mk [] }
noncomputable def x51s9 (_P : Params) : Obj := { cls := (Value.type PySem.W.SL.s2766695959194262286x5), dict := none, data := (Data.seq (Array.mk []) 0), slots := Array.mk [] }
noncomputable def x52s9 (_P : Params) : Obj := { cls := Value.none, dict := none, data := (Data.fields (Array.mk [])), slots := Array.mk [] }
noncomputable def x53s9 (_P : Params) : Obj := { cls := (Value.type PySem.W.SL.s2766695959194262286x5), dict := none, data := (Data.seq (Array.mk [(Value.str (Str.ofString "body") 1759), (Value.str (Str.ofString "maxlinelen") 1760), (Value.str (Str.ofString "eol") 1761), (Value.str (Str.ofString "soft_break") 1762), (Value.str (Str.ofString "maxlinelen1") 1763), (Value.str (Str.ofString "encoded_body") 1764), (Value.str (Str.ofString "append") 1765), (Value.str (Str.ofString "line") 1766), (Value.str (Str.ofString "start") 1767), (Value.str (Str.ofString "laststart") 1768), (Value.str (Str.ofString "stop") 1769), (Value.str (Str.ofString "room") 1770), (q1 113 1771)]) 0), slots := Array.mk [] }
noncomputable def x54s9 (_P : Params) : Obj := { cls := (Value.type PySem.W.SL.s2766695959194262286x5), dict := none, data := (Data.seq (Array.mk []) 0), slots := Array.mk [] }
noncomputable def x55s9 (_P : Params) : Obj := { cls := Value.none, dict := none, data := (Data.func { name := fnN 19, qualname := (Str.ofString "body_encode"), params := fnP 19, body := .stmts (fnB 19), scope := fnS 19, globals := 0, closure := [], defaults := Value.none, kwdefaults := Value.none, doc := Value.none, pyModule := Value.none, annotations := none, code := Value.none, closureTuple := Value.none, builtins := 0 }), slots := Array.mk [] }
noncomputable def x56s9 (_P : Params) : Obj := { cls := (Value.type PySem.W.SL.s5856160107412720595x4), dict := none, data := (Data.fields (Array.mk [(Value.str (Str.ofString "body_encode") 1756), (Value.str (Str.ofString "body_encode") 1757), (Value.str (Str.ofString "/claim/cut.py") 1758), (Value.int 25 0), (Value.int 3 0), (Value.int 0 0), (Value.int 0 0), (Value.int 3 0), (Value.ref 51), (Value.bool true), (Value.int 181 0), (Value.ref 52), Value.none, (Value.ref 53), (Value.ref 54), (Value.ref 55), (Value.int 1772 0), (Value.int 25 0), (Value.str (Str.ofString "/claim/cut.py") 1773)])), slots := Array.mk [] }
noncomputable def x57s9 (_P : Params) : Obj := { cls := (Value.type PySem.W.SL.s7174869446012820540x8), dict := none, data := (Data.func { name := fnN 19, qualname := (Str.ofString "body_encode"), params := fnP 19, body := .stmts (fnB 19), scope := fnS 19, globals := 3, closure := [], defaults := (Value.ref 50), kwdefaults := Value.none, doc := Value.none, pyModule := (Value.str (Str.ofString "cpy313.email.quoprimime") 1234), annotations := none, code := (Value.ref 56), closureTuple := Value.none, builtins := 0 }), slots := Array.mk [] }
noncomputable def x58s9 (_P : Params) : Obj := { cls := (Value.type PySem.W.SL.s2766695959194262286x5), dict := none, data := (Data.seq (Array.mk [(q1 10 189)]) 0), slots := Array.mk [] }
noncomputable def x59s9 (_P : Params) : Obj := { cls := (Value.type PySem.W.SL.s2766695959194262286x5), dict := none, data := (Data.seq (Array.mk []) 0), slots := Array.mk [] }
noncomputable def x60s9 (_P : Params) : Obj := { cls := Value.none, dict := none, data := (Data.fields (Array.mk [])), slots := Array.mk [] }
noncomputable def x61s9 (_P : Params) : Obj := { cls := (Value.type PySem.W.SL.s2766695959194262286x5), dict := none, data := (Data.seq (Array.mk [(Value.str (Str.ofString "encoded") 1778), (Value.str (Str.ofString "eol") 1779), (Value.str (Str.ofString "decoded") 1780), (Value.str (Str.ofString "line") 1781), (q1 105 1782), (q1 110 1783), (q1 99 1784)]) 0), slots := Array.mk [] }
noncomputable def x62s9 (_P : Params) : Obj := { cls := (Value.type PySem.W.SL.s2766695959194262286x5), dict := none, data := (Data.seq (Array.mk []) 0), slots := Array.mk [] }
noncomputable def x63s9 (_P : Params) : Obj := { cls := Value.none, dict := none, data := (Data.func { name := fnN 20, qualname := (Str.ofString "decode"), params := fnP 20, body := .stmts (fnB 20), scope := fnS 20, globals := 0, closure := [], defaults := Value.none, kwdefaults := Value.none, doc := Value.none, pyModule := Value.none, annotations := none, code := Value.none, closureTuple := Value.none, builtins := 0 }), slots := Array.mk [] }
noncomputable def x64s9 (_P : Params) : Obj := { cls := (Value.type PySem.W.SL.s5856160107412720595x4), dict := none, data := (Data.fields (Array.mk [(Value.str (Str.ofString "decode") 1775), (Value.str (Str.ofString "decode") 1776), (Value.str (Str.ofString "/claim/cut.py") 1777), (Value.int 63 0), (Value.int 2 0), (Value.int 0 0), (Value.int 0 0), (Value.int 3 0), (Value.ref 59), (Value.bool true), (Value.int 181 0), (Value.ref 60), Value.none, (Value.ref 61), (Value.ref 62), (Value.ref 63), (Value.int 1785 0), (Value.int 63 0), (Value.str (Str.ofString "/claim/cut.py") 1786)])), slots := Array.mk [] }
noncomputable def x65s9 (_P : Params) : Obj := { cls := (Value.type PySem.W.SL.s7174869446012820540x8), dict := none, data := (Data.func { name := fnN 20, qualname := (Str.ofString "decode"), params := fnP 20, body := .stmts (fnB 20), scope := fnS 20, globals := 3, closure := [], defaults := (Value.ref 58), kwdefaults := Value.none, doc := Value.none, pyModule := (Value.str (Str.ofString "cpy313.email.quoprimime") 1234), annotations := none, code := (Value.ref 64), closureTuple := Value.none, builtins := 0 }), slots := Array.mk [] }
noncomputable def x66s9 (_P : Params) : Obj := { cls := (Value.type PySem.W.SL.s2766695959194262286x5), dict := none, data := (Data.seq (Array.mk []) 0), slots := Array.mk [] }
noncomputable def x67s9 (_P : Params) : Obj := { cls := Value.none, dict := none, data := (Data.fields (Array.mk [])), slots := Array.mk [] }
noncomputable def x68s9 (_P : Params) : Obj := { cls := (Value.type PySem.W.SL.s2766695959194262286x5), dict := none, data := (Data.seq (Array.mk [(Value.str (Str.ofString "crc") 1793), (q1 106 1794)]) 0), slots := Array.mk [] }
noncomputable def x69s9 (_P : Params) : Obj := { cls := (Value.type PySem.W.SL.s2766695959194262286x5), dict := none, data := (Data.seq (Array.mk []) 0), slots := Array.mk [] }
noncomputable def x70s9 (_P : Params) : Obj := { cls := Value.none, dict := none, data := (Data.func { name := fnN 22, qualname := (Str.ofString "_gen_crc"), params := fnP 22, body := .stmts (fnB 22), scope := fnS 22, globals := 0, closure := [], defaults := Value.none, kwdefaults := Value.none, doc := Value.none, pyModule := Value.none, annotations := none, code := Value.none, closureTuple := Value.none, builtins := 0 }), slots := Array.mk [] }
noncomputable def x71s9 (_P : Params) : Obj := { cls := (Value.type PySem.W.SL.s5856160107412720595x4), dict := none, data := (Data.fields (Array.mk [(Value.str (Str.ofString "_gen_crc") 1790), (Value.str (Str.ofString "_gen_crc") 1791), (Value.str (Str.ofString "/claim/cut.py") 1792), (Value.int 94 0), (Value.int 1 0), (Value.int 0 0), (Value.int 0 0), (Value.int 3 0), (Value.ref 66), (Value.bool true), (Value.int 181 0), (Value.ref 67), Value.none, (Value.ref 68), (Value.ref 69), (Value.ref 70), (Value.int 1795 0), (Value.int 94 0), (Value.str (Str.ofString "/claim/cut.py") 1796)])), slots := Array.mk [] }
noncomputable def x72s9 (_P : Params) : Obj := { cls := (Value.type PySem.W.SL.s7174869446012820540x8), dict := none, data := (Data.func { name := fnN 22, qualname := (Str.ofString "_gen_crc"), params := fnP 22, body := .stmts (fnB 22), scope := fnS 22, globals := 3, closure := [], defaults := Value.none, kwdefaults := Value.none, doc := Value.none, pyModule := (Value.str (Str.ofString "cpy313.zipfile") 1788), annotations := none, code := (Value.ref 71), closureTuple := Value.none, builtins := 0 }), slots := Array.mk [] }
noncomputable def x73s9 (_P : Params) : Obj := { cls := (Value.type PySem.W.SL.s2766695959194262286x5), dict := none, data := (Data.seq (Array.mk []) 0), slots := Array.mk [] }
noncomputable def x74s9 (_P : Params) : Obj := { cls := Value.none, dict := none, data := (Data.fields (Array.mk [])), slots := Array.mk [] }
noncomputable def x75s9 (_P : Params) : Obj := { cls := (Value.type PySem.W.SL.s2766695959194262286x5), dict := none, data := (Data.seq (Array.mk [(Value.str (Str.ofString "text") 1803), (Value.str (Str.ofString "bits") 1804), (Value.str (Str.ofString "sign") 1805), (Value.str (Str.ofString "place") 1806)]) 0), slots := Array.mk [] }
noncomputable def x76s9 (_P : Params) : Obj := { cls := (Value.type PySem.W.SL.s2766695959194262286x5), dict := none, data := (Data.seq (Array.mk []) 0), slots := Array.mk [] }
noncomputable def x77s9 (_P : Params) : Obj := { cls := Value.none, dict := none, data := (Data.func { name := fnN 24, qualname := (Str.ofString "_law_bits"), params := fnP 24, body := .stmts (fnB 24), scope := fnS 24, globals := 0, closure := [], defaults := Value.none, kwdefaults := Value.none, doc := Value.none, pyModule := Value.none, annotations := none, code := Value.none, closureTuple := Value.none, builtins := 0 }), slots := Array.mk [] }
noncomputable def x78s9 (_P : Params) : Obj := { cls := (Value.type PySem.W.SL.s5856160107412720595x4), dict := none, data := (Data.fields (Array.mk [(Value.str (Str.ofString "_law_bits") 1800), (Value.str (Str.ofString "_law_bits") 1801), (Value.str (Str.ofString "/claim/cut.py") 1802), (Value.int 102 0), (Value.int 1 0), (Value.int 0 0), (Value.int 0 0), (Value.int 3 0), (Value.ref 73), (Value.bool true), (Value.int 181 0), (Value.ref 74), Value.none, (Value.ref 75), (Value.ref 76), (Value.ref 77), (Value.int 1807 0), (Value.int 102 0), (Value.str (Str.ofString "/claim/cut.py") 1808)])), slots := Array.mk [] }
noncomputable def x79s9 (_P : Params) : Obj := { cls := (Value.type PySem.W.SL.s7174869446012820540x8), dict := none, data := (Data.func { name := fnN 24, qualname := (Str.ofString "_law_bits"), params := fnP 24, body := .stmts (fnB 24), scope := fnS 24, globals := 3, closure := [], defaults := Value.none, kwdefaults := Value.none, doc := Value.none, pyModule := (Value.str (Str.ofString "law_tx0023_01") 1798), annotations := none, code := (Value.ref 78), closureTuple := Value.none, builtins := 0 }), slots := Array.mk [] }
noncomputable def x80s9 (_P : Params) : Obj := { cls := (Value.type PySem.W.SL.s2766695959194262286x5), dict := none, data := (Data.seq (Array.mk []) 0), slots := Array.mk [] }
noncomputable def x81s9 (_P : Params) : Obj := { cls := Value.none, dict := none, data := (Data.fields (Array.mk [])), slots := Array.mk [] }
noncomputable def x82s9 (_P : Params) : Obj := { cls := (Value.type PySem.W.SL.s2766695959194262286x5), dict := none, data := (Data.seq (Array.mk [(Value.str (Str.ofString "bits") 1813), (Value.str (Str.ofString "top") 1814), (Value.str (Str.ofString "place") 1815)]) 0), slots := Array.mk [] }
noncomputable def x83s9 (_P : Params) : Obj := { cls := (Value.type PySem.W.SL.s2766695959194262286x5), dict := none, data := (Data.seq (Array.mk []) 0), slots := Array.mk [] }
noncomputable def x84s9 (_P : Params) : Obj := { cls := Value.none, dict := none, data := (Data.func { name := fnN 25, qualname := (Str.ofString "_law_rest"), params := fnP 25, body := .stmts (fnB 25), scope := fnS 25, globals := 0, closure := [], defaults := Value.none, kwdefaults := Value.none, doc := Value.none, pyModule := Value.none, annotations := none, code := Value.none, closureTuple := Value.none, builtins := 0 }), slots := Array.mk [] }
noncomputable def x85s9 (_P : Params) : Obj := { cls := (Value.type PySem.W.SL.s5856160107412720595x4), dict := none, data := (Data.fields (Array.mk [(Value.str (Str.ofString "_law_rest") 1810), (Value.str (Str.ofString "_law_rest") 1811), (Value.str (Str.ofString "/claim/cut.py") 1812), (Value.int 108 0), (Value.int 2 0), (Value.int 0 0), (Value.int 0 0), (Value.int 3 0), (Value.ref 80), (Value.bool true), (Value.int 181 0), (Value.ref 81), Value.none, (Value.ref 82), (Value.ref 83), (Value.ref 84), (Value.int 1816 0), (Value.int 108 0), (Value.str (Str.ofString "/claim/cut.py") 1817)])), slots := Array.mk [] }
noncomputable def x86s9 (_P : Params) : Obj := { cls := (Value.type PySem.W.SL.s7174869446012820540x8), dict := none, data := (Data.func { name := fnN 25, qualname := (Str.ofString "_law_rest"), params := fnP 25, body := .stmts (fnB 25), scope := fnS 25, globals := 3, closure := [], defaults := Value.none, kwdefaults := Value.none, doc := Value.none, pyModule := (Value.str (Str.ofString "law_tx0023_01") 1798), annotations := none, code := (Value.ref 85), closureTuple := Value.none, builtins := 0 }), slots := Array.mk [] }
noncomputable def tr9 (P : Params) : BT := (.node (boot_o_0 P) (.node (boot_o_1 P) (.node (x3s9 P) (.node (boot_o_7 P) (.node (x15s2c0 P) (.node (x31s7 P) (.node (x63s9 P) .nil .nil) .nil) (.node (x47s8 P) (.node (x79s9 P) .nil .nil) .nil)) (.node (x23s3 P) (.node (x39s7 P) (.node (x71s9 P) .nil .nil) .nil) (.node (x55s9 P) .nil .nil))) (.node (x11 P) (.node (x19s2 P) (.node (x35s7 P) (.node (x67s9 P) .nil .nil) .nil) (.node (x51s9 P) (.node (x83s9 P) .nil .nil) .nil)) (.node (x27s4 P) (.node (x43s7 P) (.node (x75s9 P) .nil .nil) .nil) (.node (x59s9 P) .nil .nil)))) (.node (boot_o_5 P) (.node (boot_o_9 P) (.node (x17s2 P) (.node (x33s7 P) (.node (x65s9 P) .nil .nil) .nil) (.node (x49s8 P) (.node (x81s9 P) .nil .nil) .nil)) (.node (x25s4 P) (.node (x41s7 P) (.node (x73s9 P) .nil .nil) .nil) (.node (x57s9 P) .nil .nil))) (.node (x13 P) (.node (x21s3 P) (.node (x37s7 P) (.node (x69s9 P) .nil .nil) .nil) (.node (x53s9 P) (.node (x85s9 P) .nil .nil) .nil)) (.node (x29s6 P) (.node (x45s7 P) (.node (x77s9 P) .nil .nil) .nil) (.node (x61s9 P) .nil .nil))))) (.node (boot_o_2 P) (.node (boot_o_4 P) (.node (boot_o_8 P) (.node (x16s2 P) (.node (x32s7 P) (.node (x64s9 P) .nil .nil) .nil) (.node (x48s8 P) (.node (x80s9 P) .nil .nil) .nil)) (.node (x24s6 P) (.node (x40s7 P) (.node (x72s9 P) .nil .nil) .nil) (.node (x56s9 P) .nil .nil))) (.node (x12s9 P) (.node (x20s2 P) (.node (x36s7 P) (.node (x68s9 P) .nil .nil) .nil) (.node (x52s9 P) (.node (x84s9 P) .nil .nil) .nil)) (.node (x28s6 P) (.node (x44s7 P) (.node (x76s9 P) .nil .nil) .nil) (.node (x60s9 P) .nil .nil)))) (.node (boot_o_6 P) (.node (boot_o_10 P) (.node (x18s2 P) (.node (x34s7 P) (.node (x66s9 P) .nil .nil) .nil) (.node (x50s9 P) (.node (x82s9 P) .nil .nil) .nil)) (.node (x26s4 P) (.node (x42s7 P) (.node (x74s9 P) .nil .nil) .nil) (.node (x58s9 P) .nil .nil))) (.node (x14 P) (.node (x22s5 P) (.node (x38s7 P) (.node (x70s9 P) .nil .nil) .nil) (.node (x54s9 P) (.node (x86s9 P) .nil .nil) .nil)) (.node (x30s6 P) (.node (x46s8 P) (.node (x78s9 P) .nil .nil) .nil) (.node (x62s9 P) .nil .nil))))))
noncomputable def st9 (w : World) (os : OsState) : SharedT := ⟨tr9 w.params, 87, {}, Array.mk [], {}, 1819, os⟩
noncomputable def x3s10 (_P : Params) : Obj := { cls := (Value.type PySem.W.SL.s14018661285674007319x4), dict := none, data := (Data.dict (Array.mk [en _P "__name__" 165 (Value.str (Str.ofString "law_tx0023_01") 1798), en _P "__doc__" 166 Value.none, en _P "__package__" 167 Value.none, en _P "__loader__" 168 (Value.builtin PySem.W.SL.s7097527257260152453x26), en _P "__spec__" 169 Value.none, en _P "__annotations__" 170 (Value.ref 6), en _P "__builtins__" 171 (Value.ref 4), en _P "__file__" 173 (Value.str (Str.ofString "/claim/cut.py") 172), en _P "__cached__" 174 Value.none, en _P "CRLF" 188 (Value.str (Str.mk (Array.mk [13, 10])) 187), en _P "NL" 190 (q1 10 189), en _P "_QUOPRI_MAP" 1218 (Value.ref 17), en _P "_QUOPRI_HEADER_MAP" 1219 (Value.ref 22), en _P "_QUOPRI_BODY_MAP" 1220 (Value.ref 24), en _P "ascii_lowercase" 1222 (Value.str (Str.ofString "abcdefghijklmnopqrstuvwxyz") 1221), en _P "ascii_uppercase" 1224 (Value.str (Str.ofString "ABCDEFGHIJKLMNOPQRSTUVWXYZ") 1223), en _P "ascii_letters" 1226 (Value.str (Str.ofString "abcdefghijklmnopqrstuvwxyzABCDEFGHIJKLMNOPQRSTUVWXYZ") 1225), en _P "digits" 1228 (Value.str (Str.ofString "0123456789") 1227), en _P "hexdigits" 1233 (Value.str (Str.ofString "0123456789abcdefABCDEF") 1232), en _P "unquote" 1739 (Value.ref 37), en _P "quote" 1746 (Value.ref 44), en _P "_QUOPRI_BODY_ENCODE_MAP" 1747 (Value.ref 46), en _P "body_encode" 1774 (Value.ref 57), en _P "decode" 1787 (Value.ref 65), en _P "_gen_crc" 1797 (Value.ref 72), en _P "_law_bits" 1809 (Value.ref 79), en _P "_law_rest" 1818 (Value.ref 86), en _P "_law_folded" 1826 (Value.ref 93), en _P "_law_unmoved" 1835 (Value.ref 100), en _P "_law_held" 1847 (Value.ref 107), en _P "_law_bridge" 1867 (Value.ref 114), en _P "_law_register" 1876 (Value.ref 121), en _P "_law_plain" 1883 (Value.ref 128), en _P "_law_shown" 1893 (Value.ref 135), en _P "law" 1929 (Value.ref 142)]) 37), slots := Array.mk [] }
noncomputable def x12s10 (_P : Params) : Obj := { cls := Value.none, dict := none, data := (Data.fields (Array.mk [(Value.int 17 0), (Value.int 0 0), (Value.ref 36), (Value.int 19 0), (Value.int 0 0), (Value.ref 43), (Value.int 25 0), (Value.int 0 0), (Value.ref 56), (Value.int 63 0), (Value.int 0 0), (Value.ref 64), (Value.int 94 0), (Value.int 0 0), (Value.ref 71), (Value.int 102 0), (Value.int 0 0), (Value.ref 78), (Value.int 108 0), (Value.int 0 0), (Value.ref 85), (Value.int 113 0), (Value.int 0 0), (Value.ref 92), (Value.int 117 0), (Value.int 0 0), (Value.ref 99), (Value.int 124 0), (Value.int 0 0), (Value.ref 106), (Value.int 137 0), (Value.int 0 0), (Value.ref 113), (Value.int 156 0), (Value.int 0 0), (Value.ref 120), (Value.int 161 0), (Value.int 0 0), (Value.ref 127), (Value.int 163 0), (Value.int 0 0), (Value.ref 134), (Value.int 171 0), (Value.int 0 0), (Value.ref 141)])), slots := Array.mk [] }
noncomputable def x87s10 (_P : Params) : Obj := { cls := (Value.type PySem.W.SL.s2766695959194262286x5), dict := none, data := (Data.seq (Array.mk []) 0), slots := Array.mk [] }
noncomputable def x88s10 (_P : Params) : Obj := { cls := Value.none, dict := none, data := (Data.fields (Array.mk [])), slots := Array.mk [] }
noncomputable def x89s10 (_P : Params) : Obj := { cls := (Value.type PySem.W.SL.s2766695959194262286x5), dict := none, data := (Data.seq (Array.mk [(Value.str (Str.ofString "bits") 1822), (Value.str (Str.ofString "step") 1823)]) 0), slots := Array.mk [] }
noncomputable def x90s10 (_P : Params) : Obj := { cls := (Value.type PySem.W.SL.s2766695959194262286x5), dict := none, data := (Data.seq (Array.mk []) 0), slots := Array.mk [] }
noncomputable def x91s10 (_P : Params) : Obj := { cls := Value.none, dict := none, data := (Data.func { name := fnN 26, qualname := (Str.ofString "_law_folded"), params := fnP 26, body := .stmts (fnB 26), scope := fnS 26, globals := 0, closure := [], defaults := Value.none, kwdefaults := Value.none, doc := Value.none, pyModule := Value.none, annotations := none, code := Value.none, closureTuple := Value.none, builtins := 0 }), slots := Array.mk [] }
noncomputable def x92s10 (_P : Params) : Obj := { cls := (Value.type PySem.W.SL.s5856160107412720595x4), dict := none, data := (Data.fields (Array.mk [(Value.str (Str.ofString "_law_folded") 1819), (Value.str (Str.ofString "_law_folded") 1820), (Value.str (Str.ofString "/claim/cut.py") 1821), (Value.int 113 0), (Value.int 1 0), (Value.int 0 0), (Value.int 0 0), (Value.int 3 0), (Value.ref 87), (Value.bool true), (Value.int 181 0), (Value.ref 88), Value.none, (Value.ref 89), (Value.ref 90), (Value.ref 91), (Value.int 1824 0), (Value.int 113 0), (Value.str (Str.ofString "/claim/cut.py") 1825)])), slots := Array.mk [] }
noncomputable def x93s10 (_P : Params) : Obj := { cls := (Value.type PySem.W.SL.s7174869446012820540x8), dict := none, data := (Data.func { name := fnN 26, qualname := (Str.ofString "_law_folded"), params := fnP 26, body := .stmts (fnB 26), scope := fnS 26, globals := 3, closure := [], defaults := Value.none, kwdefaults := Value.none, doc := Value.none, pyModule := (Value.str (Str.ofString "law_tx0023_01") 1798), annotations := none, code := (Value.ref 92), closureTuple := Value.none, builtins := 0 }), slots := Array.mk [] }
noncomputable def x94s10 (_P : Params) : Obj := { cls := (Value.type PySem.W.SL.s2766695959194262286x5), dict := none, data := (Data.seq (Array.mk []) 0), slots := Array.mk [] }
noncomputable def x95s10 (_P : Params) : Obj := { cls := Value.none, dict := none, data := (Data.fields (Array.mk [])), slots := Array.mk [] }
noncomputable def x96s10 (_P : Params) : Obj := { cls := (Value.type PySem.W.SL.s2766695959194262286x5), dict := none, data := (Data.seq (Array.mk [(Value.str (Str.ofString "mark") 1830), (Value.str (Str.ofString "bits") 1831), (Value.str (Str.ofString "turn") 1832)]) 0), slots := Array.mk [] }
noncomputable def x97s10 (_P : Params) : Obj := { cls := (Value.type PySem.W.SL.s2766695959194262286x5), dict := none, data := (Data.seq (Array.mk []) 0), slots := Array.mk [] }
noncomputable def x98s10 (_P : Params) : Obj := { cls := Value.none, dict := none, data := (Data.func { name := fnN 27, qualname := (Str.ofString "_law_unmoved"), params := fnP 27, body := .stmts (fnB 27), scope := fnS 27, globals := 0, closure := [], defaults := Value.none, kwdefaults := Value.none, doc := Value.none, pyModule := Value.none, annotations := none, code := Value.none, closureTuple := Value.none, builtins := 0 }), slots := Array.mk [] }
noncomputable def x99s10 (_P : Params) : Obj := { cls := (Value.type PySem.W.SL.s5856160107412720595x4), dict := none, data := (Data.fields (Array.mk [(Value.str (Str.ofString "_law_unmoved") 1827), (Value.str (Str.ofString "_law_unmoved") 1828), (Value.str (Str.ofString "/claim/cut.py") 1829), (Value.int 117 0), (Value.int 1 0), (Value.int 0 0), (Value.int 0 0), (Value.int 3 0), (Value.ref 94), (Value.bool true), (Value.int 181 0), (Value.ref 95), Value.none, (Value.ref 96), (Value.ref 97), (Value.ref 98), (Value.int 1833 0), (Value.int 117 0), (Value.str (Str.ofString "/claim/cut.py") 1834)])), slots := Array.mk [] }
noncomputable def x100s10 (_P : Params) : Obj := { cls := (Value.type PySem.W.SL.s7174869446012820540x8), dict := none, data := (Data.func { name := fnN 27, qualname := (Str.ofString "_law_unmoved"), params := fnP 27, body := .stmts (fnB 27), scope := fnS 27, globals := 3, closure := [], defaults := Value.none, kwdefaults := Value.none, doc := Value.none, pyModule := (Value.str (Str.ofString "law_tx0023_01") 1798), annotations := none, code := (Value.ref 99), closureTuple := Value.none, builtins := 0 }), slots := Array.mk [] }
noncomputable def x101s10 (_P : Params) : Obj := { cls := (Value.type PySem.W.SL.s2766695959194262286x5), dict := none, data := (Data.seq (Array.mk []) 0), slots := Array.mk [] }
noncomputable def x102s10 (_P : Params) : Obj := { cls := Value.none, dict := none, data := (Data.fields (Array.mk [])), slots := Array.mk [] }
noncomputable def x103s10 (_P : Params) : Obj := { cls := (Value.type PySem.W.SL.s2766695959194262286x5), dict := none, data := (Data.seq (Array.mk [(Value.str (Str.ofString "held") 1839), (Value.str (Str.ofString "power") 1840), (Value.str (Str.ofString "bits") 1841), (Value.str (Str.ofString "powers") 1842), (Value.str (Str.ofString "other") 1843), (Value.str (Str.ofString "others") 1844)]) 0), slots := Array.mk [] }
noncomputable def x104s10 (_P : Params) : Obj := { cls := (Value.type PySem.W.SL.s2766695959194262286x5), dict := none, data := (Data.seq (Array.mk []) 0), slots := Array.mk [] }
noncomputable def x105s10 (_P : Params) : Obj := { cls := Value.none, dict := none, data := (Data.func { name := fnN 28, qualname := (Str.ofString "_law_held"), params := fnP 28, body := .stmts (fnB 28), scope := fnS 28, globals := 0, closure := [], defaults := Value.none, kwdefaults := Value.none, doc := Value.none, pyModule := Value.none, annotations := none, code := Value.none, closureTuple := Value.none, builtins := 0 }), slots := Array.mk [] }
noncomputable def x106s10 (_P : Params) : Obj := { cls := (Value.type PySem.W.SL.s5856160107412720595x4), dict := none, data := (Data.fields (Array.mk [(Value.str (Str.ofString "_law_held") 1836), (Value.str (Str.ofString "_law_held") 1837), (Value.str (Str.ofString "/claim/cut.py") 1838), (Value.int 124 0), (Value.int 0 0), (Value.int 0 0), (Value.int 0 0), (Value.int 3 0), (Value.ref 101), (Value.bool true), (Value.int 181 0), (Value.ref 102), Value.none, (Value.ref 103), (Value.ref 104), (Value.ref 105), (Value.int 1845 0), (Value.int 124 0), (Value.str (Str.ofString "/claim/cut.py") 1846)])), slots := Array.mk [] }
noncomputable def x107s10 (_P : Params) : Obj := { cls := (Value.type PySem.W.SL.s7174869446012820540x8), dict := none, data := (Data.func { name := fnN 28, qualname := (Str.ofString "_law_held"), params := fnP 28, body := .stmts (fnB 28), scope := fnS 28, globals := 3, closure := [], defaults := Value.none, kwdefaults := Value.none, doc := Value.none, pyModule := (Value.str (Str.ofString "law_tx0023_01") 1798), annotations := none, code := (Value.ref 106), closureTuple := Value.none, builtins := 0 }), slots := Array.mk [] }
noncomputable def x108s10 (_P : Params) : Obj := { cls := (Value.type PySem.W.SL.s2766695959194262286x5), dict := none, data := (Data.seq (Array.mk []) 0), slots := Array.mk [] }
noncomputable def x109s10 (_P : Params) : Obj := { cls := Value.none, dict := none, data := (Data.fields (Array.mk [])), slots := Array.mk [] }
noncomputable def x110s10 (_P : Params) : Obj := { cls := (Value.type PySem.W.SL.s2766695959194262286x5), dict := none, data := (Data.seq (Array.mk [(Value.str (Str.ofString "held") 1851), (Value.str (Str.ofString "state") 1852), (Value.str (Str.ofString "front") 1853), (Value.str (Str.ofString "back") 1854), (Value.str (Str.ofString "aim") 1855), (Value.str (Str.ofString "text") 1856), (Value.str (Str.ofString "size") 1857), (Value.str (Str.ofString "bits") 1858), (Value.str (Str.ofString "turn") 1859), (Value.str (Str.ofString "powers") 1860), (Value.str (Str.ofString "other") 1861), (Value.str (Str.ofString "others") 1862), (Value.str (Str.ofString "bridge") 1863), (Value.str (Str.ofString "five") 1864)]) 0), slots := Array.mk [] }
noncomputable def x111s10 (_P : Params) : Obj := { cls := (Value.type PySem.W.SL.s2766695959194262286x5), dict := none, data := (Data.seq (Array.mk []) 0), slots := Array.mk [] }
noncomputable def x112s10 (_P : Params) : Obj := { cls := Value.none, dict := none, data := (Data.func { name := fnN 29, qualname := (Str.ofString "_law_bridge"), params := fnP 29, body := .stmts (fnB 29), scope := fnS 29, globals := 0, closure := [], defaults := Value.none, kwdefaults := Value.none, doc := Value.none, pyModule := Value.none, annotations := none, code := Value.none, closureTuple := Value.none, builtins := 0 }), slots := Array.mk [] }
noncomputable def x113s10 (_P : Params) : Obj := { cls := (Value.type PySem.W.SL.s5856160107412720595x4), dict := none, data := (Data.fields (Array.mk [(Value.str (Str.ofString "_law_bridge") 1848), (Value.str (Str.ofString "_law_bridge") 1849), (Value.str (Str.ofString "/claim/cut.py") 1850), (Value.int 137 0), (Value.int 5 0), (Value.int 0 0), (Value.int 0 0), (Value.int 3 0), (Value.ref 108), (Value.bool true), (Value.int 181 0), (Value.ref 109), Value.none, (Value.ref 110), (Value.ref 111), (Value.ref 112), (Value.int 1865 0), (Value.int 137 0), (Value.str (Str.ofString "/claim/cut.py") 1866)])), slots := Array.mk [] }
noncomputable def x114s10 (_P : Params) : Obj := { cls := (Value.type PySem.W.SL.s7174869446012820540x8), dict := none, data := (Data.func { name := fnN 29, qualname := (Str.ofString "_law_bridge"), params := fnP 29, body := .stmts (fnB 29), scope := fnS 29, globals := 3, closure := [], defaults := Value.none, kwdefaults := Value.none, doc := Value.none, pyModule := (Value.str (Str.ofString "law_tx0023_01") 1798), annotations := none, code := (Value.ref 113), closureTuple := Value.none, builtins := 0 }), slots := Array.mk [] }
noncomputable def x115s10 (_P : Params) : Obj := { cls := (Value.type PySem.W.SL.s2766695959194262286x5), dict := none, data := (Data.seq (Array.mk []) 0), slots := Array.mk [] }
noncomputable def x116s10 (_P : Params) : Obj := { cls := Value.none, dict := none, data := (Data.fields (Array.mk [])), slots := Array.mk [] }
noncomputable def x117s10 (_P : Params) : Obj := { cls := (Value.type PySem.W.SL.s2766695959194262286x5), dict := none, data := (Data.seq (Array.mk [(Value.str (Str.ofString "bits") 1871), (Value.str (Str.ofString "register") 1872), (Value.str (Str.ofString "place") 1873)]) 0), slots := Array.mk [] }
noncomputable def x118s10 (_P : Params) : Obj := { cls := (Value.type PySem.W.SL.s2766695959194262286x5), dict := none, data := (Data.seq (Array.mk []) 0), slots := Array.mk [] }
noncomputable def x119s10 (_P : Params) : Obj := { cls := Value.none, dict := none, data := (Data.func { name := fnN 30, qualname := (Str.ofString "_law_register"), params := fnP 30, body := .stmts (fnB 30), scope := fnS 30, globals := 0, closure := [], defaults := Value.none, kwdefaults := Value.none, doc := Value.none, pyModule := Value.none, annotations := none, code := Value.none, closureTuple := Value.none, builtins := 0 }), slots := Array.mk [] }
noncomputable def x120s10 (_P : Params) : Obj := { cls := (Value.type PySem.W.SL.s5856160107412720595x4), dict := none, data := (Data.fields (Array.mk [(Value.str (Str.ofString "_law_register") 1868), (Value.str (Str.ofString "_law_register") 1869), (Value.str (Str.ofString "/claim/cut.py") 1870), (Value.int 156 0), (Value.int 1 0), (Value.int 0 0), (Value.int 0 0), (Value.int 3 0), (Value.ref 115), (Value.bool true), (Value.int 181 0), (Value.ref 116), Value.none, (Value.ref 117), (Value.ref 118), (Value.ref 119), (Value.int 1874 0), (Value.int 156 0), (Value.str (Str.ofString "/claim/cut.py") 1875)])), slots := Array.mk [] }
noncomputable def x121s10 (_P : Params) : Obj := { cls := (Value.type PySem.W.SL.s7174869446012820540x8), dict := none, data := (Data.func { name := fnN 30, qualname := (Str.ofString "_law_register"), params := fnP 30, body := .stmts (fnB 30), scope := fnS 30, globals := 3, closure := [], defaults := Value.none, kwdefaults := Value.none, doc := Value.none, pyModule := (Value.str (Str.ofString "law_tx0023_01") 1798), annotations := none, code := (Value.ref 120), closureTuple := Value.none, builtins := 0 }), slots := Array.mk [] }
noncomputable def x122s10 (_P : Params) : Obj := { cls := (Value.type PySem.W.SL.s2766695959194262286x5), dict := none, data := (Data.seq (Array.mk []) 0), slots := Array.mk [] }
noncomputable def x123s10 (_P : Params) : Obj := { cls := Value.none, dict := none, data := (Data.fields (Array.mk [])), slots := Array.mk [] }
noncomputable def x124s10 (_P : Params) : Obj := { cls := (Value.type PySem.W.SL.s2766695959194262286x5), dict := none, data := (Data.seq (Array.mk [(Value.str (Str.ofString "octet") 1880)]) 0), slots := Array.mk [] }
noncomputable def x125s10 (_P : Params) : Obj := { cls := (Value.type PySem.W.SL.s2766695959194262286x5), dict := none, data := (Data.seq (Array.mk []) 0), slots := Array.mk [] }
noncomputable def x126s10 (_P : Params) : Obj := { cls := Value.none, dict := none, data := (Data.func { name := fnN 31, qualname := (Str.ofString "_law_plain"), params := fnP 31, body := .stmts (fnB 31), scope := fnS 31, globals := 0, closure := [], defaults := Value.none, kwdefaults := Value.none, doc := Value.none, pyModule := Value.none, annotations := none, code := Value.none, closureTuple := Value.none, builtins := 0 }), slots := Array.mk [] }
noncomputable def x127s10 (_P : Params) : Obj := { cls := (Value.type PySem.W.SL.s5856160107412720595x4), dict := none, data := (Data.fields (Array.mk [(Value.str (Str.ofString "_law_plain") 1877), (Value.str (Str.ofString "_law_plain") 1878), (Value.str (Str.ofString "/claim/cut.py") 1879), (Value.int 161 0), (Value.int 1 0), (Value.int 0 0), (Value.int 0 0), (Value.int 3 0), (Value.ref 122), (Value.bool true), (Value.int 181 0), (Value.ref 123), Value.none, (Value.ref 124), (Value.ref 125), (Value.ref 126), (Value.int 1881 0), (Value.int 161 0), (Value.str (Str.ofString "/claim/cut.py") 1882)])), slots := Array.mk [] }
noncomputable def x128s10 (_P : Params) : Obj := { cls := (Value.type PySem.W.SL.s7174869446012820540x8), dict := none, data := (Data.func { name := fnN 31, qualname := (Str.ofString "_law_plain"), params := fnP 31, body := .stmts (fnB 31), scope := fnS 31, globals := 3, closure := [], defaults := Value.none, kwdefaults := Value.none, doc := Value.none, pyModule := (Value.str (Str.ofString "law_tx0023_01") 1798), annotations := none, code := (Value.ref 127), closureTuple := Value.none, builtins := 0 }), slots := Array.mk [] }
noncomputable def x129s10 (_P : Params) : Obj := { cls := (Value.type PySem.W.SL.s2766695959194262286x5), dict := none, data := (Data.seq (Array.mk []) 0), slots := Array.mk [] }
noncomputable def x130s10 (_P : Params) : Obj := { cls := Value.none, dict := none, data := (Data.fields (Array.mk [])), slots := Array.mk [] }
noncomputable def x131s10 (_P : Params) : Obj := { cls := (Value.type PySem.W.SL.s2766695959194262286x5), dict := none, data := (Data.seq (Array.mk [(Value.str (Str.ofString "text") 1887), (Value.str (Str.ofString "figures") 1888), (Value.str (Str.ofString "shown") 1889), (Value.str (Str.ofString "sign") 1890)]) 0), slots := Array.mk [] }
noncomputable def x132s10 (_P : Params) : Obj := { cls := (Value.type PySem.W.SL.s2766695959194262286x5), dict := none, data := (Data.seq (Array.mk []) 0), slots := Array.mk [] }
noncomputable def x133s10 (_P : Params) : Obj := { cls := Value.none, dict := none, data := (Data.func { name := fnN 32, qualname := (Str.ofString "_law_shown"), params := fnP 32, body := .stmts (fnB 32), scope := fnS 32, globals := 0, closure := [], defaults := Value.none, kwdefaults := Value.none, doc := Value.none, pyModule := Value.none, annotations := none, code := Value.none, closureTuple := Value.none, builtins := 0 }), slots := Array.mk [] }
noncomputable def x134s10 (_P : Params) : Obj := { cls := (Value.type PySem.W.SL.s5856160107412720595x4), dict := none, data := (Data.fields (Array.mk [(Value.str (Str.ofString "_law_shown") 1884), (Value.str (Str.ofString "_law_shown") 1885), (Value.str (Str.ofString "/claim/cut.py") 1886), (Value.int 163 0), (Value.int 2 0), (Value.int 0 0), (Value.int 0 0), (Value.int 3 0), (Value.ref 129), (Value.bool true), (Value.int 181 0), (Value.ref 130), Value.none, (Value.ref 131), (Value.ref 132), (Value.ref 133), (Value.int 1891 0), (Value.int 163 0), (Value.str (Str.ofString "/claim/cut.py") 1892)])), slots := Array.mk [] }
noncomputable def x135s10 (_P : Params) : Obj := { cls := (Value.type PySem.W.SL.s7174869446012820540x8), dict := none, data := (Data.func { name := fnN 32, qualname := (Str.ofString "_law_shown"), params := fnP 32, body := .stmts (fnB 32), scope := fnS 32, globals := 3, closure := [], defaults := Value.none, kwdefaults := Value.none, doc := Value.none, pyModule := (Value.str (Str.ofString "law_tx0023_01") 1798), annotations := none, code := (Value.ref 134), closureTuple := Value.none, builtins := 0 }), slots := Array.mk [] }
noncomputable def x136s10 (_P : Params) : Obj := { cls := (Value.type PySem.W.SL.s2766695959194262286x5), dict := none, data := (Data.seq (Array.mk []) 0), slots := Array.mk [] }
noncomputable def x137s10 (_P : Params) : Obj := { cls := Value.none, dict := none, data := (Data.fields (Array.mk [])), slots := Array.mk [] }
noncomputable def lst15 : List Value := [(Value.str (Str.ofString "script") 1897), (q1 120 1898), (Value.str (Str.ofString "mark") 1899), (Value.str (Str.ofString "unmoved") 1900), (Value.str (Str.ofString "held") 1901), (Value.str (Str.ofString "turned") 1902), (Value.str (Str.ofString "place") 1903), (Value.str (Str.ofString "change") 1904), (Value.str (Str.ofString "trail") 1905), (Value.str (Str.ofString "texts") 1906), (Value.str (Str.ofString "written") 1907), (q1 107 1908), (Value.str (Str.ofString "octet") 1909), (Value.str (Str.ofString "front") 1910), (Value.str (Str.ofString "back") 1911), (Value.str (Str.ofString "size") 1912), (Value.str (Str.ofString "state") 1913), (Value.str (Str.ofString "bridge") 1914), (Value.str (Str.ofString "end") 1915), (Value.str (Str.ofString "others") 1916), (Value.str (Str.ofString "order") 1917), (Value.str (Str.ofString "figures") 1918), (Value.str (Str.ofString "sent") 1919), (Value.str (Str.ofString "due") 1920), (Value.str (Str.ofString "behind") 1921), (Value.str (Str.ofString "turn") 1922), (Value.str (Str.ofString "told") 1923), (Value.str (Str.ofString "register") 1924), (Value.str (Str.ofString "sign") 1925), (Value.str (Str.ofString "off") 1926)]
noncomputable def x138s10 (_P : Params) : Obj := { cls := (Value.type PySem.W.SL.s2766695959194262286x5), dict := none, data := (Data.seq (Array.mk lst15) 0), slots := Array.mk [] }
noncomputable def x139s10 (_P : Params) : Obj := { cls := (Value.type PySem.W.SL.s2766695959194262286x5), dict := none, data := (Data.seq (Array.mk []) 0), slots := Array.mk [] }
noncomputable def x140s10 (_P : Params) : Obj := { cls := Value.none, dict := none, data := (Data.func { name := fnN 33, qualname := (Str.ofString "law"), params := fnP 33, body := .stmts (fnB 33), scope := fnS 33, globals := 0, closure := [], defaults := Value.none, kwdefaults := Value.none, doc := Value.none, pyModule := Value.none, annotations := none, code := Value.none, closureTuple := Value.none, builtins := 0 }), slots := Array.mk [] }
noncomputable def x141s10 (_P : Params) : Obj := { cls := (Value.type PySem.W.SL.s5856160107412720595x4), dict := none, data := (Data.fields (Array.mk [(Value.str (Str.ofString "law") 1894), (Value.str (Str.ofString "law") 1895), (Value.str (Str.ofString "/claim/cut.py") 1896), (Value.int 171 0), (Value.int 1 0), (Value.int 0 0), (Value.int 0 0), (Value.int 3 0), (Value.ref 136), (Value.bool true), (Value.int 181 0), (Value.ref 137), Value.none, (Value.ref 138), (Value.ref 139), (Value.ref 140), (Value.int 1927 0), (Value.int 171 0), (Value.str (Str.ofString "/claim/cut.py") 1928)])), slots := Array.mk [] }
noncomputable def x142s10 (_P : Params) : Obj := { cls := (Value.type PySem.W.SL.s7174869446012820540x8), dict := none, data := (Data.func { name := fnN 33, qualname := (Str.ofString "law"), params := fnP 33, body := .stmts (fnB 33), scope := fnS 33, globals := 3, closure := [], defaults := Value.none, kwdefaults := Value.none, doc := Value.none, pyModule := (Value.str (Str.ofString "law_tx0023_01") 1798), annotations := none, code := (Value.ref 141), closureTuple := Value.none, builtins := 0 }), slots := Array.mk [] }
noncomputable def tr10 (P : Params) : BT := (.node (boot_o_0 P) (.node (boot_o_1 P) (.node (x3s10 P) (.node (boot_o_7 P) (.node (x15s2c0 P) (.node (x31s7 P) (.node (x63s9 P) (.node (x127s10 P) .nil .nil) .nil) (.node (x95s10 P) .nil .nil)) (.node (x47s8 P) (.node (x79s9 P) .nil .nil) (.node (x111s10 P) .nil .nil))) (.node (x23s3 P) (.node (x39s7 P) (.node (x71s9 P) (.node (x135s10 P) .nil .nil) .nil) (.node (x103s10 P) .nil .nil)) (.node (x55s9 P) (.node (x87s10 P) .nil .nil) (.node (x119s10 P) .nil .nil)))) (.node (x11 P) (.node (x19s2 P) (.node (x35s7 P) (.node (x67s9 P) (.node (x131s10 P) .nil .nil) .nil) (.node (x99s10 P) .nil .nil)) (.node (x51s9 P) (.node (x83s9 P) .nil .nil) (.node (x115s10 P) .nil .nil))) (.node (x27s4 P) (.node (x43s7 P) (.node (x75s9 P) (.node (x139s10 P) .nil .nil) .nil) (.node (x107s10 P) .nil .nil)) (.node (x59s9 P) (.node (x91s10 P) .nil .nil) (.node (x123s10 P) .nil .nil))))) (.node (boot_o_5 P) (.node (boot_o_9 P) (.node (x17s2 P) (.node (x33s7 P) (.node (x65s9 P) (.node (x129s10 P) .nil .nil) .nil) (.node (x97s10 P) .nil .nil)) (.node (x49s8 P) (.node (x81s9 P) .nil .nil) (.node (x113s10 P) .nil .nil))) (.node (x25s4 P) (.node (x41s7 P) (.node (x73s9 P) (.node (x137s10 P) .nil .nil) .nil) (.node (x105s10 P) .nil .nil)) (.node (x57s9 P) (.node (x89s10 P) .nil .nil) (.node (x121s10 P) .nil .nil)))) (.node (x13 P) (.node (x21s3 P) (.node (x37s7 P) (.node (x69s9 P) (.node (x133s10 P) .nil .nil) .nil) (.node (x101s10 P) .nil .nil)) (.node (x53s9 P) (.node (x85s9 P) .nil .nil) (.node (x117s10 P) .nil .nil))) (.node (x29s6 P) (.node (x45s7 P) (.node (x77s9 P) (.node (x141s10 P) .nil .nil) .nil) (.node (x109s10 P) .nil .nil)) (.node (x61s9 P) (.node (x93s10 P) .nil .nil) (.node (x125s10 P) .nil .nil)))))) (.node (boot_o_2 P) (.node (boot_o_4 P) (.node (boot_o_8 P) (.node (x16s2 P) (.node (x32s7 P) (.node (x64s9 P) (.node (x128s10 P) .nil .nil) .nil) (.node (x96s10 P) .nil .nil)) (.node (x48s8 P) (.node (x80s9 P) .nil .nil) (.node (x112s10 P) .nil .nil))) (.node (x24s6 P) (.node (x40s7 P) (.node (x72s9 P) (.node (x136s10 P) .nil .nil) .nil) (.node (x104s10 P) .nil .nil)) (.node (x56s9 P) (.node (x88s10 P) .nil .nil) (.node (x120s10 P) .nil .nil)))) (.node (x12s10 P) (.node (x20s2 P) (.node (x36s7 P) (.node (x68s9 P) (.node (x132s10 P) .nil .nil) .nil) (.node (x100s10 P) .nil .nil)) (.node (x52s9 P) (.node (x84s9 P) .nil .nil) (.node (x116s10 P) .nil .nil))) (.node (x28s6 P) (.node (x44s7 P) (.node (x76s9 P) (.node (x140s10 P) .nil .nil) .nil) (.node (x108s10 P) .nil .nil)) (.node (x60s9 P) (.node (x92s10 P) .nil .nil) (.node (x124s10 P) .nil .nil))))) (.node (boot_o_6 P) (.node (boot_o_10 P) (.node (x18s2 P) (.node (x34s7 P) (.node (x66s9 P) (.node (x130s10 P) .nil .nil) .nil) (.node (x98s10 P) .nil .nil)) (.node (x50s9 P) (.node (x82s9 P) .nil .nil) (.node (x114s10 P) .nil .nil))) (.node (x26s4 P) (.node (x42s7 P) (.node (x74s9 P) (.node (x138s10 P) .nil .nil) .nil) (.node (x106s10 P) .nil .nil)) (.node (x58s9 P) (.node (x90s10 P) .nil .nil) (.node (x122s10 P) .nil .nil)))) (.node (x14 P) (.node (x22s5 P) (.node (x38s7 P) (.node (x70s9 P) (.node (x134s10 P) .nil .nil) .nil) (.node (x102s10 P) .nil .nil)) (.node (x54s9 P) (.node (x86s9 P) .nil .nil) (.node (x118s10 P) .nil .nil))) (.node (x30s6 P) (.node (x46s8 P) (.node (x78s9 P) (.node (x142s10 P) .nil .nil) .nil) (.node (x110s10 P) .nil .nil)) (.node (x62s9 P) (.node (x94s10 P) .nil .nil) (.node (x126s10 P) .nil .nil)))))))
noncomputable def st10 (w : World) (os : OsState) : SharedT := ⟨tr10 w.params, 143, {}, Array.mk [], {}, 1930, os⟩
-- statements 0 to 2: 18 steps, 0 turns
theorem p1 (w : World) : (fun os => PySem.W.Fast.tw10110043849684766642 PySem.W.Fast.tw14364793385576792824 pw w 11 (some (.ref 6)) 1 19 (st0 w os) (pT 0 2 ⟨0, 0, 0, 0⟩)) = fun os => some (.next, st1 w os, cE, ⟨2, 0, 2, 2⟩) := by kernel_rfl!
-- statements 2 to 3: 9551 steps, 257 turns
noncomputable def th2 (w : World) (os : OsState) : Thread := match PySem.W.Fast.tw10295753902157049106 PySem.W.Fast.tw14364793385576792824 pw ((w.withFollow "special-get-raises" false).withFollow "comprehension-iter-twice" false) 11 (some (.ref 6)) 1 89 (st1 ((w.withFollow "special-get-raises" false).withFollow "comprehension-iter-twice" false) os) (pT 2 3 ⟨2, 0, 2, 2⟩) with
  | some x => x.2
  | none => (pT 2 3 ⟨2, 0, 2, 2⟩)
theorem p2c0f (w : World) : (fun os => PySem.W.Fast.tw10295753902157049106 PySem.W.Fast.tw14364793385576792824 pw (w.withFollow "comprehension-iter-twice" false) 11 (some (.ref 6)) 1 89 (st1 (w.withFollow "comprehension-iter-twice" false) os) (pT 2 3 ⟨2, 0, 2, 2⟩)) = fun os => some (st2c0 (w.withFollow "comprehension-iter-twice" false) os, th2 (w.withFollow "comprehension-iter-twice" false) os) :=
  byRow2 "special-get-raises" (P := fun w => (fun os => PySem.W.Fast.tw10295753902157049106 PySem.W.Fast.tw14364793385576792824 pw (w.withFollow "comprehension-iter-twice" false) 11 (some (.ref 6)) 1 89 (st1 (w.withFollow "comprehension-iter-twice" false) os) (pT 2 3 ⟨2, 0, 2, 2⟩)) = fun os => some (st2c0 (w.withFollow "comprehension-iter-twice" false) os, th2 (w.withFollow "comprehension-iter-twice" false) os)) (fun w => by kernel_rfl!) (fun w => by kernel_rfl!) w
theorem p2c0t (w : World) : (fun os => PySem.W.Fast.tw10295753902157049106 PySem.W.Fast.tw14364793385576792824 pw (w.withFollow "comprehension-iter-twice" true) 11 (some (.ref 6)) 1 79 (st1 (w.withFollow "comprehension-iter-twice" true) os) (pT 2 3 ⟨2, 0, 2, 2⟩)) = fun os => some (st2c0 (w.withFollow "comprehension-iter-twice" true) os, th2 (w.withFollow "comprehension-iter-twice" true) os) :=
  byRow2 "special-get-raises" (P := fun w => (fun os => PySem.W.Fast.tw10295753902157049106 PySem.W.Fast.tw14364793385576792824 pw (w.withFollow "comprehension-iter-twice" true) 11 (some (.ref 6)) 1 79 (st1 (w.withFollow "comprehension-iter-twice" true) os) (pT 2 3 ⟨2, 0, 2, 2⟩)) = fun os => some (st2c0 (w.withFollow "comprehension-iter-twice" true) os, th2 (w.withFollow "comprehension-iter-twice" true) os)) (fun w => by kernel_rfl!) (fun w => by kernel_rfl!) w
theorem p2c1 (w : World) : (fun os => PySem.W.Fast.tw10295753902157049106 PySem.W.Fast.tw14364793385576792824 pw w 11 (some (.ref 6)) 1 1480 (st2c0 w os) (th2 w os)) = fun os => some (st2c1 w os, th2 w os) := by kernel_rfl!
theorem p2c2 (w : World) : (fun os => PySem.W.Fast.tw10295753902157049106 PySem.W.Fast.tw14364793385576792824 pw w 11 (some (.ref 6)) 1 1480 (st2c1 w os) (th2 w os)) = fun os => some (st2c2 w os, th2 w os) := by kernel_rfl!
theorem p2c3 (w : World) : (fun os => PySem.W.Fast.tw10295753902157049106 PySem.W.Fast.tw14364793385576792824 pw w 11 (some (.ref 6)) 1 1480 (st2c2 w os) (th2 w os)) = fun os => some (st2c3 w os, th2 w os) := by kernel_rfl!
theorem p2c4 (w : World) : (fun os => PySem.W.Fast.tw10295753902157049106 PySem.W.Fast.tw14364793385576792824 pw w 11 (some (.ref 6)) 1 1480 (st2c3 w os) (th2 w os)) = fun os => some (st2c4 w os, th2 w os) := by kernel_rfl!
theorem p2c5 (w : World) : (fun os => PySem.W.Fast.tw10295753902157049106 PySem.W.Fast.tw14364793385576792824 pw w 11 (some (.ref 6)) 1 1480 (st2c4 w os) (th2 w os)) = fun os => some (st2c5 w os, th2 w os) := by kernel_rfl!
theorem p2 (w : World) : (fun os => PySem.W.Fast.tw10110043849684766642 PySem.W.Fast.tw14364793385576792824 pw w 11 (some (.ref 6)) 1 2063 (st2c5 w os) (th2 w os)) = fun os => some (.next, st2 w os, cE, ⟨3, 0, 3, 11⟩) := by kernel_rfl!
-- statements 3 to 11: 132 steps, 0 turns
theorem p3 (w : World) : (fun os => PySem.W.Fast.tw10110043849684766642 PySem.W.Fast.tw14364793385576792824 pw w 11 (some (.ref 6)) 1 133 (st2 w os) (pT 3 11 ⟨3, 0, 3, 11⟩)) = fun os => some (.next, st3 w os, cE, ⟨11, 0, 11, 8⟩) := by kernel_rfl!
-- statements 11 to 12: 3076 steps, 67 turns
noncomputable def th4 (w : World) (os : OsState) : Thread := match PySem.W.Fast.tw10295753902157049106 PySem.W.Fast.tw14364793385576792824 pw (w.withFollow "special-get-raises" false) 11 (some (.ref 6)) 1 134 (st3 (w.withFollow "special-get-raises" false) os) (pT 11 12 ⟨11, 0, 11, 8⟩) with
  | some x => x.2
  | none => (pT 11 12 ⟨11, 0, 11, 8⟩)
theorem p4c0 (w : World) : (fun os => PySem.W.Fast.tw10295753902157049106 PySem.W.Fast.tw14364793385576792824 pw w 11 (some (.ref 6)) 1 134 (st3 w os) (pT 11 12 ⟨11, 0, 11, 8⟩)) = fun os => some (st4c0 w os, th4 w os) :=
  byRow2 "special-get-raises" (P := fun w => (fun os => PySem.W.Fast.tw10295753902157049106 PySem.W.Fast.tw14364793385576792824 pw w 11 (some (.ref 6)) 1 134 (st3 w os) (pT 11 12 ⟨11, 0, 11, 8⟩)) = fun os => some (st4c0 w os, th4 w os)) (fun w => by kernel_rfl!) (fun w => by kernel_rfl!) w
theorem p4c1 (w : World) : (fun os => PySem.W.Fast.tw10295753902157049106 PySem.W.Fast.tw14364793385576792824 pw w 11 (some (.ref 6)) 1 1530 (st4c0 w os) (th4 w os)) = fun os => some (st4c1 w os, th4 w os) := by kernel_rfl!
theorem p4 (w : World) : (fun os => PySem.W.Fast.tw10110043849684766642 PySem.W.Fast.tw14364793385576792824 pw w 11 (some (.ref 6)) 1 1413 (st4c1 w os) (th4 w os)) = fun os => some (.next, st4 w os, cE, ⟨12, 9, 12, 74⟩) := by kernel_rfl!
-- statements 12 to 13: 24 steps, 0 turns
theorem p5 (w : World) : (fun os => PySem.W.Fast.tw10110043849684766642 PySem.W.Fast.tw14364793385576792824 pw w 11 (some (.ref 6)) 1 25 (st4 w os) (pT 12 13 ⟨12, 9, 12, 74⟩)) = fun os => some (.next, st5 w os, cE, ⟨14, 0, 14, 28⟩) := by kernel_rfl!
-- statements 13 to 14: 4302 steps, 95 turns
noncomputable def th6 (w : World) (os : OsState) : Thread := match PySem.W.Fast.tw10295753902157049106 PySem.W.Fast.tw14364793385576792824 pw (w.withFollow "special-get-raises" false) 11 (some (.ref 6)) 1 100 (st5 (w.withFollow "special-get-raises" false) os) (pT 13 14 ⟨14, 0, 14, 28⟩) with
  | some x => x.2
  | none => (pT 13 14 ⟨14, 0, 14, 28⟩)
theorem p6c0 (w : World) : (fun os => PySem.W.Fast.tw10295753902157049106 PySem.W.Fast.tw14364793385576792824 pw w 11 (some (.ref 6)) 1 100 (st5 w os) (pT 13 14 ⟨14, 0, 14, 28⟩)) = fun os => some (st6c0 w os, th6 w os) :=
  byRow2 "special-get-raises" (P := fun w => (fun os => PySem.W.Fast.tw10295753902157049106 PySem.W.Fast.tw14364793385576792824 pw w 11 (some (.ref 6)) 1 100 (st5 w os) (pT 13 14 ⟨14, 0, 14, 28⟩)) = fun os => some (st6c0 w os, th6 w os)) (fun w => by kernel_rfl!) (fun w => by kernel_rfl!) w
theorem p6c1 (w : World) : (fun os => PySem.W.Fast.tw10295753902157049106 PySem.W.Fast.tw14364793385576792824 pw w 11 (some (.ref 6)) 1 1440 (st6c0 w os) (th6 w os)) = fun os => some (st6c1 w os, th6 w os) := by kernel_rfl!
theorem p6c2 (w : World) : (fun os => PySem.W.Fast.tw10295753902157049106 PySem.W.Fast.tw14364793385576792824 pw w 11 (some (.ref 6)) 1 1440 (st6c1 w os) (th6 w os)) = fun os => some (st6c2 w os, th6 w os) := by kernel_rfl!
theorem p6 (w : World) : (fun os => PySem.W.Fast.tw10110043849684766642 PySem.W.Fast.tw14364793385576792824 pw w 11 (some (.ref 6)) 1 1323 (st6c2 w os) (th6 w os)) = fun os => some (.next, st6 w os, cE, ⟨15, 9, 15, 110⟩) := by kernel_rfl!
-- statements 14 to 17: 85 steps, 0 turns
theorem p7 (w : World) : (fun os => PySem.W.Fast.tw10110043849684766642 PySem.W.Fast.tw14364793385576792824 pw w 11 (some (.ref 6)) 1 86 (st6 w os) (pT 14 17 ⟨15, 9, 15, 110⟩)) = fun os => some (.next, st7 w os, cE, ⟨21, 0, 21, 23⟩) := by kernel_rfl!
-- statements 17 to 18: 117 steps, 2 turns
theorem p8 (w : World) : (fun os => PySem.W.Fast.tw10110043849684766642 PySem.W.Fast.tw14364793385576792824 pw w 11 (some (.ref 6)) 1 118 (st7 w os) (pT 17 18 ⟨21, 0, 21, 23⟩)) = fun os => some (.next, st8 w os, cE, ⟨22, 9, 22, 16⟩) :=
  byRow2 "special-get-raises" (P := fun w => (fun os => PySem.W.Fast.tw10110043849684766642 PySem.W.Fast.tw14364793385576792824 pw w 11 (some (.ref 6)) 1 118 (st7 w os) (pT 17 18 ⟨21, 0, 21, 23⟩)) = fun os => some (.next, st8 w os, cE, ⟨22, 9, 22, 16⟩)) (fun w => by kernel_rfl!) (fun w => by kernel_rfl!) w
-- statements 18 to 26: 200 steps, 0 turns
theorem p9 (w : World) : (fun os => PySem.W.Fast.tw10110043849684766642 PySem.W.Fast.tw14364793385576792824 pw w 11 (some (.ref 6)) 1 201 (st8 w os) (pT 18 26 ⟨22, 9, 22, 16⟩)) = fun os => some (.next, st9 w os, cE, ⟨108, 0, 112, 15⟩) := by kernel_rfl!
-- statements 26 to 34: 287 steps, 0 turns
theorem p10 (w : World) : (fun os => PySem.W.Fast.tw10110043849684766642 PySem.W.Fast.tw14364793385576792824 pw w 11 (some (.ref 6)) 1 288 (st9 w os) (pT 26 34 ⟨108, 0, 112, 15⟩)) = fun os => some (.next, st10 w os, cE, ⟨171, 0, 251, 51⟩) := by kernel_rfl!
end Mine
end
section
open PySem PySem.W PyProof.Rows
set_option maxRecDepth 100000
namespace Mine
theorem segRun_mono {tb : String → Option Builtin} {p : Program} {w : World} {n₀ : Nat} {ann : Option Value} {b : Nat} (k : Nat) : ∀ (n : Nat) (s : Shared) (t : Thread) (r : Flow × Shared × Code × Pos), segRun tb p w n₀ ann b n s t = some r → segRun tb p w n₀ ann b (n + k) s t = some r
  | 0, _, _, _, h => by simp [segRun] at h
  | n + 1, s, t, r, h => by
    rw [show n + 1 + k = n + k + 1 by omega]
    unfold segRun at h ⊢
    cases ht : endAt b t with
    | some f => rw [ht] at h; exact h
    | none =>
      rw [ht] at h
      cases hk : stepOk n₀ ann t with
      | false => rw [hk] at h; cases h
      | true =>
        rw [hk] at h
        cases hs : step (denote tb) p w s t with
        | halt o s' => rw [hs] at h; cases h
        | go s' t' => rw [hs] at h; exact segRun_mono k n s' t' r h
@[reducible] noncomputable def ann : Option Value := some (.ref 6)
theorem goT {w : World} {n : Nat} {S S' : World → OsState → SharedT} {t t' : World → OsState → Thread} (h : (fun os => PySem.W.Fast.tw10295753902157049106 PySem.W.Fast.tw14364793385576792824 pw w 11 (some (.ref 6)) 1 n (S w os) (t w os)) = fun os => some (S' w os, t' w os)) (os : OsState) :
    segGo treeTable pw w 11 ann 1 n (S w os).abs (t w os) = some ((S' w os).abs, t' w os) := by
  have e := congrFun h os
  rw [← PySem.W.Fast.te10295753902157049106, ← PySem.W.Fast.te14364793385576792824] at e
  exact segGo_of e
theorem runT {w : World} {n : Nat} {S S' : World → OsState → SharedT} {t : World → OsState → Thread} {p' : Pos} (h : (fun os => PySem.W.Fast.tw10110043849684766642 PySem.W.Fast.tw14364793385576792824 pw w 11 (some (.ref 6)) 1 n (S w os) (t w os)) = fun os => some (Flow.next, S' w os, cE, p')) (os : OsState) :
    segRun treeTable pw w 11 ann 1 n (S w os).abs (t w os) = some (.next, (S' w os).abs, cE, p') := by
  have e := congrFun h os
  rw [← PySem.W.Fast.te10110043849684766642, ← PySem.W.Fast.te14364793385576792824] at e
  exact segRun_of e
noncomputable def Runs (w : World) (n : Nat) (S S' : World → OsState → SharedT) (a b : Nat) (p p' : Pos) : Prop := ∀ os, segRun treeTable pw w 11 ann 1 n (S w os).abs (piecesOf (gs a b) envE cE p fr) = some (.next, (S' w os).abs, cE, p')
theorem runs_of {w : World} {n a b : Nat} {S S' : World → OsState → SharedT} {p p' : Pos} (h : (fun os => PySem.W.Fast.tw10110043849684766642 PySem.W.Fast.tw14364793385576792824 pw w 11 (some (.ref 6)) 1 n (S w os) (pT a b p)) = fun os => some (Flow.next, S' w os, cE, p')) : Runs w n S S' a b p p' := fun os => by
  rw [← pT_eq]
  exact runT (t := fun _ _ => pT a b p) h os
theorem r1 (w : World) : Runs w 19 st0 st1 0 2 ⟨0, 0, 0, 0⟩ ⟨2, 0, 2, 2⟩ := runs_of (p1 w)
theorem r2tail (w : World) (os : OsState) : segRun treeTable pw w 11 ann 1 (1480 + (1480 + (1480 + (1480 + (1480 + 2063))))) (st2c0 w os).abs (th2 w os) = some (.next, (st2 w os).abs, cE, ⟨3, 0, 3, 11⟩) :=
  seg_go (goT (t := th2) (t' := th2) (p2c1 w) os) (seg_go (goT (t := th2) (t' := th2) (p2c2 w) os) (seg_go (goT (t := th2) (t' := th2) (p2c3 w) os) (seg_go (goT (t := th2) (t' := th2) (p2c4 w) os) (seg_go (goT (t := th2) (t' := th2) (p2c5 w) os) (runT (t := th2) (p2 w) os)))))
theorem r2 (w : World) : Runs w 9552 st1 st2 2 3 ⟨2, 0, 2, 2⟩ ⟨3, 0, 3, 11⟩ :=
  byRow2 "comprehension-iter-twice" (P := fun w => Runs w 9552 st1 st2 2 3 ⟨2, 0, 2, 2⟩ ⟨3, 0, 3, 11⟩)
    (fun w os => by
      rw [← pT_eq]
      exact seg_go (N := 9463) (goT (w := w.withFollow "comprehension-iter-twice" false) (S := st1) (t := fun _ _ => pT 2 3 ⟨2, 0, 2, 2⟩) (t' := th2) (p2c0f w) os) (r2tail _ os))
    (fun w os => by
      rw [← pT_eq]
      exact segRun_mono 10 9542 _ _ _ (seg_go (N := 9463) (goT (w := w.withFollow "comprehension-iter-twice" true) (S := st1) (t := fun _ _ => pT 2 3 ⟨2, 0, 2, 2⟩) (t' := th2) (p2c0t w) os) (r2tail _ os))) w
theorem r3 (w : World) : Runs w 133 st2 st3 3 11 ⟨3, 0, 3, 11⟩ ⟨11, 0, 11, 8⟩ := runs_of (p3 w)
theorem r4 (w : World) : Runs w 3077 st3 st4 11 12 ⟨11, 0, 11, 8⟩ ⟨12, 9, 12, 74⟩ := fun os => by
  rw [← pT_eq]
  exact seg_go (n := 134) (N := 2943) (goT (t := fun _ _ => pT 11 12 ⟨11, 0, 11, 8⟩) (t' := th4) (p4c0 w) os) (seg_go (n := 1530) (N := 1413) (goT (t := th4) (t' := th4) (p4c1 w) os) (runT (t := th4) (p4 w) os))
theorem r5 (w : World) : Runs w 25 st4 st5 12 13 ⟨12, 9, 12, 74⟩ ⟨14, 0, 14, 28⟩ := runs_of (p5 w)
theorem r6 (w : World) : Runs w 4303 st5 st6 13 14 ⟨14, 0, 14, 28⟩ ⟨15, 9, 15, 110⟩ := fun os => by
  rw [← pT_eq]
  exact seg_go (n := 100) (N := 4203) (goT (t := fun _ _ => pT 13 14 ⟨14, 0, 14, 28⟩) (t' := th6) (p6c0 w) os) (seg_go (n := 1440) (N := 2763) (goT (t := th6) (t' := th6) (p6c1 w) os) (seg_go (n := 1440) (N := 1323) (goT (t := th6) (t' := th6) (p6c2 w) os) (runT (t := th6) (p6 w) os)))
theorem r7 (w : World) : Runs w 86 st6 st7 14 17 ⟨15, 9, 15, 110⟩ ⟨21, 0, 21, 23⟩ := runs_of (p7 w)
theorem r8 (w : World) : Runs w 118 st7 st8 17 18 ⟨21, 0, 21, 23⟩ ⟨22, 9, 22, 16⟩ := runs_of (p8 w)
theorem r9 (w : World) : Runs w 201 st8 st9 18 26 ⟨22, 9, 22, 16⟩ ⟨108, 0, 112, 15⟩ := runs_of (p9 w)
theorem r10 (w : World) : Runs w 288 st9 st10 26 34 ⟨108, 0, 112, 15⟩ ⟨171, 0, 251, 51⟩ := runs_of (p10 w)

theorem fin_run (w : World) (os : OsState) : topRun treeTable pw w 11 ann 2 (st10 w os).abs ⟨doneF .next, cE, ⟨171, 0, 251, 51⟩, fr⟩ = some (st10 w os).abs := by kernel_rfl!
theorem one_more {w : World} {n N a b : Nat} {S S' : World → OsState → SharedT} {p p' : Pos} {os : OsState} {r : Shared} {rest : List Stmt} (h : Runs w n S S' a b p p') (k : topRun treeTable pw w 11 ann N (S' w os).abs (restOf rest envE cE p' fr) = some r) :
    topRun treeTable pw w 11 ann (n + N) (S w os).abs (restOf (gs a b ++ rest) envE cE p fr) = some r := piece_app (h os) k
theorem body_cut : bE = gs 0 2 ++ (gs 2 3 ++ (gs 3 11 ++ (gs 11 12 ++ (gs 12 13 ++ (gs 13 14 ++ (gs 14 17 ++ (gs 17 18 ++ (gs 18 26 ++ (gs 26 34 ++ []))))))))) := by kernel_rfl!
theorem body_run (w : World) (os : OsState) : topRun treeTable pw w 11 ann (19 + (9552 + (133 + (3077 + (25 + (4303 + (86 + (118 + (201 + (288 + 2)))))))))) (st0 w os).abs (restOf bE envE cE ⟨0, 0, 0, 0⟩ fr) = some (st10 w os).abs := by
  rw [body_cut]
  exact one_more (r1 w) (one_more (r2 w) (one_more (r3 w) (one_more (r4 w) (one_more (r5 w) (one_more (r6 w) (one_more (r7 w) (one_more (r8 w) (one_more (r9 w) (one_more (r10 w) (piece_nil (fin_run w os)))))))))))
theorem block_run (w : World) (os : OsState) : segRun treeTable pw w 11 ann 1 1 (st0 w os).abs (blockOf bE envE cE ⟨0, 0, 0, 0⟩ fr) = some (.next, (st0 w os).abs, cE, ⟨0, 0, 0, 0⟩) := by kernel_rfl!
theorem pre_runT (w : World) (os : OsState) : PySem.W.Fast.tw15667345088766844465 PySem.W.Fast.tw14364793385576792824 pw w 11 ann 12 ⟨boot_heap w.params, Array.mk [], boot_drawn, boot_toks, os⟩ (topStub pw) = some ((st0 w os).abs, ⟨PySem.W.Fast.tw11892475500146522536 PySem.W.Fast.tw14364793385576792824 cE, cE, ⟨0, 0, 0, 0⟩, fr⟩) := by kernel_rfl!
theorem pre_run (w : World) (os : OsState) : topGo treeTable pw w 11 ann 12 ⟨boot_heap w.params, Array.mk [], boot_drawn, boot_toks, os⟩ (topStub pw) = some ((st0 w os).abs, ⟨denote treeTable cE, cE, ⟨0, 0, 0, 0⟩, fr⟩) := by
  rw [PySem.W.Fast.te15667345088766844465, PySem.W.Fast.te14364793385576792824, PySem.W.Fast.te11892475500146522536]
  exact pre_runT w os
theorem top_run (w : World) (os : OsState) : topRun treeTable pw w 11 ann (12 + (1 + (19 + (9552 + (133 + (3077 + (25 + (4303 + (86 + (118 + (201 + (288 + 2)))))))))))) ⟨boot_heap w.params, Array.mk [], boot_drawn, boot_toks, os⟩ (topStub pw) = some (st10 w os).abs :=
  go_top (pre_run w os) (piece_block (block_run w os) (body_run w os))
end Mine
end
section
open PySem PySem.W PyProof.Rows
set_option maxRecDepth 100000
namespace Mine
noncomputable def hp (P : Params) : Heap := absHeap (tr10 P) 143 {}
noncomputable def sF (w : World) (os : OsState) : Shared := ⟨hp w.params, Array.mk [], {}, 1930, os⟩
theorem sF_eq (w : World) (os : OsState) : (st10 w os).abs = sF w os := rfl
noncomputable def qv : Program := view pw [33]
noncomputable def loose : List Str := ["CRLF", "NL", "_QUOPRI_MAP", "_QUOPRI_HEADER_MAP", "_QUOPRI_BODY_MAP", "ascii_lowercase", "ascii_uppercase", "ascii_letters", "digits", "hexdigits", "unquote", "quote", "_QUOPRI_BODY_ENCODE_MAP", "body_encode", "decode", "_gen_crc",
  "_law_bits", "_law_rest", "_law_folded", "_law_unmoved", "_law_held", "_law_bridge", "_law_register", "_law_plain", "_law_shown"]
noncomputable def Xt (s : Shared) : Bool := xlAt qv [] s && recOk [] s
theorem lk0 : importedModules pw.main.body = [] := by kernel_rfl!
theorem lk1 (w : World) : staticsOk [] (boot_heap w.params) (hp w.params) = true := by kernel_rfl!
theorem lk2 (w : World) : namesBound pw (hp w.params) = true := by kernel_rfl!
theorem lk3 (w : World) (os : OsState) : gensDone (sF w os) = true := by kernel_rfl!
theorem lk4 (w : World) : laidKept (boot_heap w.params) (hp w.params) = true := by kernel_rfl!
theorem size0 (w : World) : ((boot_heap w.params).isNs mainGlobals && (Array.mk [] : Array GenState).size == 0, (boot_heap w.params).objs.size, (boot_heap w.params).nsMap mainGlobals "__annotations__") = (true, 11, ann) := by kernel_rfl!
theorem open_fence (s : Shared) : fenceModules? pw s = some s := by kernel_rfl!
theorem openT (w : World) : (PySem.W.Fast.tw10274390034422433532 PySem.W.Fast.tw14364793385576792824 (opening pw) w 600 (start (opening pw)).1 (start (opening pw)).2).map (fun s => (s.heap, s.gens, s.drawn, s.toks)) = some (boot_heap w.params, Array.mk [], boot_drawn, boot_toks) := by kernel_rfl!
theorem lk5T (w : World) (os : OsState) : PySem.W.Fast.tw4187177175401517315 qv loose [] Xt true (sF w os) = openGood qv loose := by kernel_rfl!
end Mine
end
section
open PySem PySem.W PyProof.Rows
set_option maxRecDepth 100000
namespace Mine
noncomputable def k3 (_P : Params) : Obj := { cls := (Value.type "dict"), dict := none, data := (Data.dict (Array.mk [en _P "__name__" 165 (Value.str (Str.ofString "law_tx0023_01") 1798), en _P "__doc__" 166 Value.none, en _P "__package__" 167 Value.none, en _P "__loader__" 168 (Value.builtin "__main__.__loader__#opaque"), en _P "__spec__" 169 Value.none, en _P "__annotations__" 170 (Value.ref 6), en _P "__builtins__" 171 (Value.ref 4), en _P "__file__" 173 (Value.str (Str.ofString "/claim/cut.py") 172), en _P "__cached__" 174 Value.none, en _P "CRLF" 188 (Value.str (Str.mk (Array.mk [13, 10])) 187), en _P "NL" 190 (q1 10 189), en _P "_QUOPRI_MAP" 1218 (Value.ref 17), en _P "_QUOPRI_HEADER_MAP" 1219 (Value.ref 22), en _P "_QUOPRI_BODY_MAP" 1220 (Value.ref 24), en _P "ascii_lowercase" 1222 (Value.str (Str.ofString "abcdefghijklmnopqrstuvwxyz") 1221), en _P "ascii_uppercase" 1224 (Value.str (Str.ofString "ABCDEFGHIJKLMNOPQRSTUVWXYZ") 1223), en _P "ascii_letters" 1226 (Value.str (Str.ofString "abcdefghijklmnopqrstuvwxyzABCDEFGHIJKLMNOPQRSTUVWXYZ") 1225), en _P "digits" 1228 (Value.str (Str.ofString "0123456789") 1227), en _P "hexdigits" 1233 (Value.str (Str.ofString "0123456789abcdefABCDEF") 1232), en _P "unquote" 1739 (Value.ref 37), en _P "quote" 1746 (Value.ref 44), en _P "_QUOPRI_BODY_ENCODE_MAP" 1747 (Value.ref 46), en _P "body_encode" 1774 (Value.ref 57), en _P "decode" 1787 (Value.ref 65), en _P "_gen_crc" 1797 (Value.ref 72), en _P "_law_bits" 1809 (Value.ref 79), en _P "_law_rest" 1818 (Value.ref 86), en _P "_law_folded" 1826 (Value.ref 93), en _P "_law_unmoved" 1835 (Value.ref 100), en _P "_law_held" 1847 (Value.ref 107), en _P "_law_bridge" 1867 (Value.ref 114), en _P "_law_register" 1876 (Value.ref 121), en _P "_law_plain" 1883 (Value.ref 128), en _P "_law_shown" 1893 (Value.ref 135), en _P "law" 1929 (Value.ref 142)]) 37), slots := Array.mk [] }
noncomputable def k36 (_P : Params) : Obj := { cls := (Value.type "code"), dict := none, data := (Data.fields (Array.mk [(Value.str (Str.ofString "unquote") 1733), (Value.str (Str.ofString "unquote") 1734), (Value.str (Str.ofString "/claim/cut.py") 1735), (Value.int 17 0), (Value.int 1 0), (Value.int 0 0), (Value.int 0 0), (Value.int 3 0), (Value.ref 31), (Value.bool true), (Value.int 181 0), (Value.ref 32), Value.none, (Value.ref 33), (Value.ref 34), (Value.ref 35), (Value.int 1737 0), (Value.int 17 0), (Value.str (Str.ofString "/claim/cut.py") 1738)])), slots := Array.mk [] }
noncomputable def k37 (_P : Params) : Obj := { cls := (Value.type "function"), dict := none, data := (Data.func { name := fnN 14, qualname := (Str.ofString "unquote"), params := fnP 14, body := .stmts (fnB 14), scope := fnS 14, globals := 3, closure := [], defaults := Value.none, kwdefaults := Value.none, doc := Value.none, pyModule := (Value.str (Str.ofString "cpy313.email.quoprimime") 1234), annotations := none, code := (Value.ref 36), closureTuple := Value.none, builtins := 0 }), slots := Array.mk [] }
noncomputable def k46 (_P : Params) : Obj := { cls := (Value.type "list"), dict := none, data := (Data.seq (Array.mk lst14) 0), slots := Array.mk [] }
noncomputable def k50 (_P : Params) : Obj := { cls := (Value.type "tuple"), dict := none, data := (Data.seq (Array.mk [(Value.int 76 1755), (q1 10 189)]) 0), slots := Array.mk [] }
noncomputable def k56 (_P : Params) : Obj := { cls := (Value.type "code"), dict := none, data := (Data.fields (Array.mk [(Value.str (Str.ofString "body_encode") 1756), (Value.str (Str.ofString "body_encode") 1757), (Value.str (Str.ofString "/claim/cut.py") 1758), (Value.int 25 0), (Value.int 3 0), (Value.int 0 0), (Value.int 0 0), (Value.int 3 0), (Value.ref 51), (Value.bool true), (Value.int 181 0), (Value.ref 52), Value.none, (Value.ref 53), (Value.ref 54), (Value.ref 55), (Value.int 1772 0), (Value.int 25 0), (Value.str (Str.ofString "/claim/cut.py") 1773)])), slots := Array.mk [] }
noncomputable def k57 (_P : Params) : Obj := { cls := (Value.type "function"), dict := none, data := (Data.func { name := fnN 19, qualname := (Str.ofString "body_encode"), params := fnP 19, body := .stmts (fnB 19), scope := fnS 19, globals := 3, closure := [], defaults := (Value.ref 50), kwdefaults := Value.none, doc := Value.none, pyModule := (Value.str (Str.ofString "cpy313.email.quoprimime") 1234), annotations := none, code := (Value.ref 56), closureTuple := Value.none, builtins := 0 }), slots := Array.mk [] }
noncomputable def k58 (_P : Params) : Obj := { cls := (Value.type "tuple"), dict := none, data := (Data.seq (Array.mk [(q1 10 189)]) 0), slots := Array.mk [] }
noncomputable def k64 (_P : Params) : Obj := { cls := (Value.type "code"), dict := none, data := (Data.fields (Array.mk [(Value.str (Str.ofString "decode") 1775), (Value.str (Str.ofString "decode") 1776), (Value.str (Str.ofString "/claim/cut.py") 1777), (Value.int 63 0), (Value.int 2 0), (Value.int 0 0), (Value.int 0 0), (Value.int 3 0), (Value.ref 59), (Value.bool true), (Value.int 181 0), (Value.ref 60), Value.none, (Value.ref 61), (Value.ref 62), (Value.ref 63), (Value.int 1785 0), (Value.int 63 0), (Value.str (Str.ofString "/claim/cut.py") 1786)])), slots := Array.mk [] }
noncomputable def k65 (_P : Params) : Obj := { cls := (Value.type "function"), dict := none, data := (Data.func { name := fnN 20, qualname := (Str.ofString "decode"), params := fnP 20, body := .stmts (fnB 20), scope := fnS 20, globals := 3, closure := [], defaults := (Value.ref 58), kwdefaults := Value.none, doc := Value.none, pyModule := (Value.str (Str.ofString "cpy313.email.quoprimime") 1234), annotations := none, code := (Value.ref 64), closureTuple := Value.none, builtins := 0 }), slots := Array.mk [] }
noncomputable def k71 (_P : Params) : Obj := { cls := (Value.type "code"), dict := none, data := (Data.fields (Array.mk [(Value.str (Str.ofString "_gen_crc") 1790), (Value.str (Str.ofString "_gen_crc") 1791), (Value.str (Str.ofString "/claim/cut.py") 1792), (Value.int 94 0), (Value.int 1 0), (Value.int 0 0), (Value.int 0 0), (Value.int 3 0), (Value.ref 66), (Value.bool true), (Value.int 181 0), (Value.ref 67), Value.none, (Value.ref 68), (Value.ref 69), (Value.ref 70), (Value.int 1795 0), (Value.int 94 0), (Value.str (Str.ofString "/claim/cut.py") 1796)])), slots := Array.mk [] }
noncomputable def k72 (_P : Params) : Obj := { cls := (Value.type "function"), dict := none, data := (Data.func { name := fnN 22, qualname := (Str.ofString "_gen_crc"), params := fnP 22, body := .stmts (fnB 22), scope := fnS 22, globals := 3, closure := [], defaults := Value.none, kwdefaults := Value.none, doc := Value.none, pyModule := (Value.str (Str.ofString "cpy313.zipfile") 1788), annotations := none, code := (Value.ref 71), closureTuple := Value.none, builtins := 0 }), slots := Array.mk [] }
noncomputable def k78 (_P : Params) : Obj := { cls := (Value.type "code"), dict := none, data := (Data.fields (Array.mk [(Value.str (Str.ofString "_law_bits") 1800), (Value.str (Str.ofString "_law_bits") 1801), (Value.str (Str.ofString "/claim/cut.py") 1802), (Value.int 102 0), (Value.int 1 0), (Value.int 0 0), (Value.int 0 0), (Value.int 3 0), (Value.ref 73), (Value.bool true), (Value.int 181 0), (Value.ref 74), Value.none, (Value.ref 75), (Value.ref 76), (Value.ref 77), (Value.int 1807 0), (Value.int 102 0), (Value.str (Str.ofString "/claim/cut.py") 1808)])), slots := Array.mk [] }
noncomputable def k79 (_P : Params) : Obj := { cls := (Value.type "function"), dict := none, data := (Data.func { name := fnN 24, qualname := (Str.ofString "_law_bits"), params := fnP 24, body := .stmts (fnB 24), scope := fnS 24, globals := 3, closure := [], defaults := Value.none, kwdefaults := Value.none, doc := Value.none, pyModule := (Value.str (Str.ofString "law_tx0023_01") 1798), annotations := none, code := (Value.ref 78), closureTuple := Value.none, builtins := 0 }), slots := Array.mk [] }
noncomputable def k85 (_P : Params) : Obj := { cls := (Value.type "code"), dict := none, data := (Data.fields (Array.mk [(Value.str (Str.ofString "_law_rest") 1810), (Value.str (Str.ofString "_law_rest") 1811), (Value.str (Str.ofString "/claim/cut.py") 1812), (Value.int 108 0), (Value.int 2 0), (Value.int 0 0), (Value.int 0 0), (Value.int 3 0), (Value.ref 80), (Value.bool true), (Value.int 181 0), (Value.ref 81), Value.none, (Value.ref 82), (Value.ref 83), (Value.ref 84), (Value.int 1816 0), (Value.int 108 0), (Value.str (Str.ofString "/claim/cut.py") 1817)])), slots := Array.mk [] }
noncomputable def k86 (_P : Params) : Obj := { cls := (Value.type "function"), dict := none, data := (Data.func { name := fnN 25, qualname := (Str.ofString "_law_rest"), params := fnP 25, body := .stmts (fnB 25), scope := fnS 25, globals := 3, closure := [], defaults := Value.none, kwdefaults := Value.none, doc := Value.none, pyModule := (Value.str (Str.ofString "law_tx0023_01") 1798), annotations := none, code := (Value.ref 85), closureTuple := Value.none, builtins := 0 }), slots := Array.mk [] }
noncomputable def k92 (_P : Params) : Obj := { cls := (Value.type "code"), dict := none, data := (Data.fields (Array.mk [(Value.str (Str.ofString "_law_folded") 1819), (Value.str (Str.ofString "_law_folded") 1820), (Value.str (Str.ofString "/claim/cut.py") 1821), (Value.int 113 0), (Value.int 1 0), (Value.int 0 0), (Value.int 0 0), (Value.int 3 0), (Value.ref 87), (Value.bool true), (Value.int 181 0), (Value.ref 88), Value.none, (Value.ref 89), (Value.ref 90), (Value.ref 91), (Value.int 1824 0), (Value.int 113 0), (Value.str (Str.ofString "/claim/cut.py") 1825)])), slots := Array.mk [] }
noncomputable def k93 (_P : Params) : Obj := { cls := (Value.type "function"), dict := none, data := (Data.func { name := fnN 26, qualname := (Str.ofString "_law_folded"), params := fnP 26, body := .stmts (fnB 26), scope := fnS 26, globals := 3, closure := [], defaults := Value.none, kwdefaults := Value.none, doc := Value.none, pyModule := (Value.str (Str.ofString "law_tx0023_01") 1798), annotations := none, code := (Value.ref 92), closureTuple := Value.none, builtins := 0 }), slots := Array.mk [] }
noncomputable def k99 (_P : Params) : Obj := { cls := (Value.type "code"), dict := none, data := (Data.fields (Array.mk [(Value.str (Str.ofString "_law_unmoved") 1827), (Value.str (Str.ofString "_law_unmoved") 1828), (Value.str (Str.ofString "/claim/cut.py") 1829), (Value.int 117 0), (Value.int 1 0), (Value.int 0 0), (Value.int 0 0), (Value.int 3 0), (Value.ref 94), (Value.bool true), (Value.int 181 0), (Value.ref 95), Value.none, (Value.ref 96), (Value.ref 97), (Value.ref 98), (Value.int 1833 0), (Value.int 117 0), (Value.str (Str.ofString "/claim/cut.py") 1834)])), slots := Array.mk [] }
noncomputable def k100 (_P : Params) : Obj := { cls := (Value.type "function"), dict := none, data := (Data.func { name := fnN 27, qualname := (Str.ofString "_law_unmoved"), params := fnP 27, body := .stmts (fnB 27), scope := fnS 27, globals := 3, closure := [], defaults := Value.none, kwdefaults := Value.none, doc := Value.none, pyModule := (Value.str (Str.ofString "law_tx0023_01") 1798), annotations := none, code := (Value.ref 99), closureTuple := Value.none, builtins := 0 }), slots := Array.mk [] }
noncomputable def k106 (_P : Params) : Obj := { cls := (Value.type "code"), dict := none, data := (Data.fields (Array.mk [(Value.str (Str.ofString "_law_held") 1836), (Value.str (Str.ofString "_law_held") 1837), (Value.str (Str.ofString "/claim/cut.py") 1838), (Value.int 124 0), (Value.int 0 0), (Value.int 0 0), (Value.int 0 0), (Value.int 3 0), (Value.ref 101), (Value.bool true), (Value.int 181 0), (Value.ref 102), Value.none, (Value.ref 103), (Value.ref 104), (Value.ref 105), (Value.int 1845 0), (Value.int 124 0), (Value.str (Str.ofString "/claim/cut.py") 1846)])), slots := Array.mk [] }
noncomputable def k107 (_P : Params) : Obj := { cls := (Value.type "function"), dict := none, data := (Data.func { name := fnN 28, qualname := (Str.ofString "_law_held"), params := fnP 28, body := .stmts (fnB 28), scope := fnS 28, globals := 3, closure := [], defaults := Value.none, kwdefaults := Value.none, doc := Value.none, pyModule := (Value.str (Str.ofString "law_tx0023_01") 1798), annotations := none, code := (Value.ref 106), closureTuple := Value.none, builtins := 0 }), slots := Array.mk [] }
noncomputable def k113 (_P : Params) : Obj := { cls := (Value.type "code"), dict := none, data := (Data.fields (Array.mk [(Value.str (Str.ofString "_law_bridge") 1848), (Value.str (Str.ofString "_law_bridge") 1849), (Value.str (Str.ofString "/claim/cut.py") 1850), (Value.int 137 0), (Value.int 5 0), (Value.int 0 0), (Value.int 0 0), (Value.int 3 0), (Value.ref 108), (Value.bool true), (Value.int 181 0), (Value.ref 109), Value.none, (Value.ref 110), (Value.ref 111), (Value.ref 112), (Value.int 1865 0), (Value.int 137 0), (Value.str (Str.ofString "/claim/cut.py") 1866)])), slots := Array.mk [] }
noncomputable def k114 (_P : Params) : Obj := { cls := (Value.type "function"), dict := none, data := (Data.func { name := fnN 29, qualname := (Str.ofString "_law_bridge"), params := fnP 29, body := .stmts (fnB 29), scope := fnS 29, globals := 3, closure := [], defaults := Value.none, kwdefaults := Value.none, doc := Value.none, pyModule := (Value.str (Str.ofString "law_tx0023_01") 1798), annotations := none, code := (Value.ref 113), closureTuple := Value.none, builtins := 0 }), slots := Array.mk [] }
noncomputable def k120 (_P : Params) : Obj := { cls := (Value.type "code"), dict := none, data := (Data.fields (Array.mk [(Value.str (Str.ofString "_law_register") 1868), (Value.str (Str.ofString "_law_register") 1869), (Value.str (Str.ofString "/claim/cut.py") 1870), (Value.int 156 0), (Value.int 1 0), (Value.int 0 0), (Value.int 0 0), (Value.int 3 0), (Value.ref 115), (Value.bool true), (Value.int 181 0), (Value.ref 116), Value.none, (Value.ref 117), (Value.ref 118), (Value.ref 119), (Value.int 1874 0), (Value.int 156 0), (Value.str (Str.ofString "/claim/cut.py") 1875)])), slots := Array.mk [] }
noncomputable def k121 (_P : Params) : Obj := { cls := (Value.type "function"), dict := none, data := (Data.func { name := fnN 30, qualname := (Str.ofString "_law_register"), params := fnP 30, body := .stmts (fnB 30), scope := fnS 30, globals := 3, closure := [], defaults := Value.none, kwdefaults := Value.none, doc := Value.none, pyModule := (Value.str (Str.ofString "law_tx0023_01") 1798), annotations := none, code := (Value.ref 120), closureTuple := Value.none, builtins := 0 }), slots := Array.mk [] }
noncomputable def k127 (_P : Params) : Obj := { cls := (Value.type "code"), dict := none, data := (Data.fields (Array.mk [(Value.str (Str.ofString "_law_plain") 1877), (Value.str (Str.ofString "_law_plain") 1878), (Value.str (Str.ofString "/claim/cut.py") 1879), (Value.int 161 0), (Value.int 1 0), (Value.int 0 0), (Value.int 0 0), (Value.int 3 0), (Value.ref 122), (Value.bool true), (Value.int 181 0), (Value.ref 123), Value.none, (Value.ref 124), (Value.ref 125), (Value.ref 126), (Value.int 1881 0), (Value.int 161 0), (Value.str (Str.ofString "/claim/cut.py") 1882)])), slots := Array.mk [] }
noncomputable def k128 (_P : Params) : Obj := { cls := (Value.type "function"), dict := none, data := (Data.func { name := fnN 31, qualname := (Str.ofString "_law_plain"), params := fnP 31, body := .stmts (fnB 31), scope := fnS 31, globals := 3, closure := [], defaults := Value.none, kwdefaults := Value.none, doc := Value.none, pyModule := (Value.str (Str.ofString "law_tx0023_01") 1798), annotations := none, code := (Value.ref 127), closureTuple := Value.none, builtins := 0 }), slots := Array.mk [] }
noncomputable def k134 (_P : Params) : Obj := { cls := (Value.type "code"), dict := none, data := (Data.fields (Array.mk [(Value.str (Str.ofString "_law_shown") 1884), (Value.str (Str.ofString "_law_shown") 1885), (Value.str (Str.ofString "/claim/cut.py") 1886), (Value.int 163 0), (Value.int 2 0), (Value.int 0 0), (Value.int 0 0), (Value.int 3 0), (Value.ref 129), (Value.bool true), (Value.int 181 0), (Value.ref 130), Value.none, (Value.ref 131), (Value.ref 132), (Value.ref 133), (Value.int 1891 0), (Value.int 163 0), (Value.str (Str.ofString "/claim/cut.py") 1892)])), slots := Array.mk [] }
noncomputable def k135 (_P : Params) : Obj := { cls := (Value.type "function"), dict := none, data := (Data.func { name := fnN 32, qualname := (Str.ofString "_law_shown"), params := fnP 32, body := .stmts (fnB 32), scope := fnS 32, globals := 3, closure := [], defaults := Value.none, kwdefaults := Value.none, doc := Value.none, pyModule := (Value.str (Str.ofString "law_tx0023_01") 1798), annotations := none, code := (Value.ref 134), closureTuple := Value.none, builtins := 0 }), slots := Array.mk [] }
noncomputable def k141 (_P : Params) : Obj := { cls := (Value.type "code"), dict := none, data := (Data.fields (Array.mk [(Value.str (Str.ofString "law") 1894), (Value.str (Str.ofString "law") 1895), (Value.str (Str.ofString "/claim/cut.py") 1896), (Value.int 171 0), (Value.int 1 0), (Value.int 0 0), (Value.int 0 0), (Value.int 3 0), (Value.ref 136), (Value.bool true), (Value.int 181 0), (Value.ref 137), Value.none, (Value.ref 138), (Value.ref 139), (Value.ref 140), (Value.int 1927 0), (Value.int 171 0), (Value.str (Str.ofString "/claim/cut.py") 1928)])), slots := Array.mk [] }
noncomputable def k142 (_P : Params) : Obj := { cls := (Value.type "function"), dict := none, data := (Data.func { name := fnN 33, qualname := (Str.ofString "law"), params := fnP 33, body := .stmts (fnB 33), scope := fnS 33, globals := 3, closure := [], defaults := Value.none, kwdefaults := Value.none, doc := Value.none, pyModule := (Value.str (Str.ofString "law_tx0023_01") 1798), annotations := none, code := (Value.ref 141), closureTuple := Value.none, builtins := 0 }), slots := Array.mk [] }
noncomputable def KK (P : Params) : Frag := (nat_lit 2, boot_o_2 P) :: (nat_lit 3, k3 P) :: (nat_lit 36, k36 P) :: (nat_lit 37, k37 P) :: (nat_lit 46, k46 P) :: (nat_lit 50, k50 P) :: (nat_lit 56, k56 P) :: (nat_lit 57, k57 P) :: (nat_lit 58, k58 P) :: (nat_lit 64, k64 P) :: (nat_lit 65, k65 P) :: (nat_lit 71, k71 P) :: (nat_lit 72, k72 P) :: (nat_lit 78, k78 P) :: (nat_lit 79, k79 P) :: (nat_lit 85, k85 P) :: (nat_lit 86, k86 P) :: (nat_lit 92, k92 P) :: (nat_lit 93, k93 P) :: (nat_lit 99, k99 P) :: (nat_lit 100, k100 P) :: (nat_lit 106, k106 P) :: (nat_lit 107, k107 P) :: (nat_lit 113, k113 P) :: (nat_lit 114, k114 P) :: (nat_lit 120, k120 P) :: (nat_lit 121, k121 P) :: (nat_lit 127, k127 P) :: (nat_lit 128, k128 P) :: (nat_lit 134, k134 P) :: (nat_lit 135, k135 P) :: (nat_lit 141, k141 P) :: (nat_lit 142, k142 P) :: []
theorem k3_eq (P : Params) : x3s10 P = k3 P := by kernel_rfl!
theorem k36_eq (P : Params) : x36s7 P = k36 P := by kernel_rfl!
theorem k37_eq (P : Params) : x37s7 P = k37 P := by kernel_rfl!
theorem k46_eq (P : Params) : x46s8 P = k46 P := by kernel_rfl!
theorem k50_eq (P : Params) : x50s9 P = k50 P := by kernel_rfl!
theorem k56_eq (P : Params) : x56s9 P = k56 P := by kernel_rfl!
theorem k57_eq (P : Params) : x57s9 P = k57 P := by kernel_rfl!
theorem k58_eq (P : Params) : x58s9 P = k58 P := by kernel_rfl!
theorem k64_eq (P : Params) : x64s9 P = k64 P := by kernel_rfl!
theorem k65_eq (P : Params) : x65s9 P = k65 P := by kernel_rfl!
theorem k71_eq (P : Params) : x71s9 P = k71 P := by kernel_rfl!
theorem k72_eq (P : Params) : x72s9 P = k72 P := by kernel_rfl!
theorem k78_eq (P : Params) : x78s9 P = k78 P := by kernel_rfl!
theorem k79_eq (P : Params) : x79s9 P = k79 P := by kernel_rfl!
theorem k85_eq (P : Params) : x85s9 P = k85 P := by kernel_rfl!
theorem k86_eq (P : Params) : x86s9 P = k86 P := by kernel_rfl!
theorem k92_eq (P : Params) : x92s10 P = k92 P := by kernel_rfl!
theorem k93_eq (P : Params) : x93s10 P = k93 P := by kernel_rfl!
theorem k99_eq (P : Params) : x99s10 P = k99 P := by kernel_rfl!
theorem k100_eq (P : Params) : x100s10 P = k100 P := by kernel_rfl!
theorem k106_eq (P : Params) : x106s10 P = k106 P := by kernel_rfl!
theorem k107_eq (P : Params) : x107s10 P = k107 P := by kernel_rfl!
theorem k113_eq (P : Params) : x113s10 P = k113 P := by kernel_rfl!
theorem k114_eq (P : Params) : x114s10 P = k114 P := by kernel_rfl!
theorem k120_eq (P : Params) : x120s10 P = k120 P := by kernel_rfl!
theorem k121_eq (P : Params) : x121s10 P = k121 P := by kernel_rfl!
theorem k127_eq (P : Params) : x127s10 P = k127 P := by kernel_rfl!
theorem k128_eq (P : Params) : x128s10 P = k128 P := by kernel_rfl!
theorem k134_eq (P : Params) : x134s10 P = k134 P := by kernel_rfl!
theorem k135_eq (P : Params) : x135s10 P = k135 P := by kernel_rfl!
theorem k141_eq (P : Params) : x141s10 P = k141 P := by kernel_rfl!
theorem k142_eq (P : Params) : x142s10 P = k142 P := by kernel_rfl!
end Mine
end
section
open PySem PySem.W PyProof.Rows
set_option maxRecDepth 100000
namespace Mine
noncomputable def kas : List Nat := [2, 3, 36, 37, 46, 50, 56, 57, 58, 64, 65, 71, 72, 78, 79, 85, 86, 92, 93, 99, 100, 106, 107, 113, 114, 120, 121, 127, 128, 134, 135, 141, 142]
theorem kas_eq (P : Params) : kas = (KK P).map (·.1) := by kernel_rfl!
noncomputable def HH : Hook := kHook KK kas kas_eq
theorem lk6 (w : World) (os : OsState) : Hook.obs HH (sF w os) = Hook.val HH w := by kernel_rfl!
theorem left (N : Nat) (hN : Nat.ble 600 N = true) (hM : Nat.ble (12 + (1 + (19 + (9552 + (133 + (3077 + (25 + (4303 + (86 + (118 + (201 + (288 + 2)))))))))))) N = true) : LeftO pw qv loose Xt (Hook.obs HH) (Hook.val HH) N := by
  refine LeftO.of_pieces (H₀ := boot_heap) (H₁ := hp) (gs₀ := Array.mk []) (gs₁ := Array.mk []) (d₀ := boot_drawn) (d₁ := {}) (k₀ := boot_toks) (k₁ := 1930) (m₀ := 11) (ann := ann) ?_ size0 (fun w os => top_run w os) hM ?_
  · intro w
    have h := openT w
    rw [← PySem.W.Fast.te10274390034422433532, ← PySem.W.Fast.te14364793385576792824] at h
    obtain ⟨s, hs, hv⟩ := Option.map_eq_some_iff.mp h
    have m := importEnds_mono (N - 600) _ _ _ _ hs
    rw [show 600 + (N - 600) = N by have := Nat.le_of_ble_eq_true hN; omega] at m
    unfold fencedOpening
    rw [m]
    show ((fenceModules? pw s)).map _ = _
    rw [open_fence s]
    exact congrArg some hv
  · intro w
    funext os
    refine Prod.ext ?_ (Prod.ext ?_ ?_)
    · show (staticsOk (importedModules pw.main.body) (boot_heap w.params) (hp w.params) && namesBound pw (hp w.params) && gensDone (sF w os) && laidKept (boot_heap w.params) (hp w.params)) = true
      rw [lk0, lk1, lk2, lk3, lk4]; rfl
    · show openSeen qv loose (importedModules pw.main.body) Xt true (sF w os) = openGood qv loose
      rw [lk0, PySem.W.Fast.te4187177175401517315]
      exact lk5T w os
    · exact lk6 w os
end Mine
end
section
open PySem PySem.W PyProof.Rows PySem.Calls
set_option maxRecDepth 100000
namespace Mine
structure Amb (w : World) (mg mb : Str → Option Value) (h : Heap) : Prop where
  k : (KK w.params).In h
  t : TopRead qv loose mg mb h
theorem Amb.keeps {w : World} {mg mb : Str → Option Value} {h h' : Heap} (a : Amb w mg mb h) (hk : ∀ b o, h.get? b = some o → h'.get? b = some o) : Amb w mg mb h' := ⟨a.k.keeps hk, a.t.keeps hk⟩
structure Room (A : Around) (d u : Nat) : Prop where
  handled : A.handled = none
  depth : A.depth + d < recursionLimit
  units : A.units + u < cLine
theorem Room.deeper {A : Around} {d u : Nat} {env : Env} (r : Room A (d + 1) (u + 3)) : Room (A.deeper env) d u := ⟨r.handled, by have := r.depth; show A.depth + 1 + d < _; omega, by have := r.units; show A.units + 3 + u < _; omega⟩
theorem Room.le {A : Around} {d u d' u' : Nat} (r : Room A d u) (hd : d' ≤ d) (hu : u' ≤ u) : Room A d' u' := ⟨r.handled, by have := r.depth; omega, by have := r.units; omega⟩
/-- a call that hands back R, whose heap only grows -/
noncomputable def Pure (w : World) (mg mb : Str → Option Value) (f : Addr) (d u : Nat) (args : List Value) (R : Tok → Value) : Prop :=
  ∀ (A : Around) (s : Shared) (E : Value → Shared → Prop) (Q : Value → Shared → Prop), Room A d u → Amb w mg mb s.heap →
    (∀ t h' tk, s.heap.StaysIn h' → Q (R t) { s with heap := h', toks := tk }) → wpAny (model pw w) A (call (.ref f) args) Q E s
/-- what a body's end is to show -/
noncomputable def Ends (h₀ : Heap) (s : Shared) (R : Tok → Value) (fl : Flow) (s' : Shared) : Prop := ∃ t h' tk, fl = .ret (R t) ∧ s' = { s with heap := h', toks := tk } ∧ h₀.StaysIn h'
theorem Ends.mk' {h₀ h' : Heap} {s : Shared} {R : Tok → Value} {L : Addr} {m : Str → Option Value} {t : Tok} {tk : Nat} {v : Value} (F : Fr h₀ L h' m) (e : v = R t) : Ends h₀ s R (.ret v) { s with heap := h', toks := tk } := ⟨t, h', tk, by rw [e], rfl, F.keep⟩
theorem pure_of {w : World} {mg mb : Str → Option Value} {f : Addr} {d u : Nat} {args : List Value} {R : Tok → Value} {name qual : Str} {params : Arguments} {body : List Stmt} {scope : Scope} {dV kV doc pm cdv ct oc : Value} {an od : Option Addr} {osl : Array (Option Value)} {binds : List (Str × Value)}
    (ho : (KK w.params).lookup f = some ⟨oc, od, .func (fnOf name qual params body scope dV kV doc pm an cdv ct), osl⟩) (hc : codeIn (KK w.params) cdv qual = true)
    (hbind : ∀ s : Shared, (KK w.params).In s.heap → BindsTo s (fnOf name qual params body scope dV kV doc pm an cdv ct) ⟨args, []⟩ binds) (hcell : ∀ x ∈ scope.names, x.2 ≠ .cell) (hloc : ∀ x ∈ binds, scope.names.lookup x.1 = some .local)
    (h : ∀ (A : Around) (s : Shared) (L : Addr) (h₁ : Heap), Room A d u → (KK w.params).In s.heap → TopRead qv loose mg mb s.heap → Fr s.heap L h₁ (fun x => binds.reverse.lookup x) → News s.heap L h₁ [] →
      wpAny (model pw w) A (execs body (envOf qual scope L f cdv)) (Ends s.heap s R) (fun _ _ => False) { s with heap := h₁, toks := s.toks + binds.length })
    (hco : scope.isCoroutine = false) (hgen : scope.isGenerator = false) (hk : scope.kind = .function) : Pure w mg mb f (d + 1) (u + 3) args R := by
  intro A s E Q r a hQ
  refine wpAny_call (codeAny_call_def (fd := fnOf name qual params body scope dV kV doc pm an cdv ct) (body := body) (binds := binds) (by have := r.depth; omega) (a.k _ _ ho) rfl a.t.nolimit (codeRec_of a.k hc) rfl (hbind s a.k) hcell hloc (fun h₁ hns hk₁ => ?_) hco hgen hk)
  exact wpAny_mono (h _ s s.heap.objs.size h₁ r.deeper a.k a.t ⟨hns, hk₁, Nat.le_refl _⟩ News.nil) (fun fl s' e => by
    obtain ⟨t, h', tk, rfl, rfl, st⟩ := e
    exact hQ t h' tk st) (fun _ _ x => x.elim)
end Mine
end
section
open PySem PySem.W PyProof.Rows PySem.Calls
set_option maxRecDepth 100000
namespace Mine
/-- a map of names written as a list -/
noncomputable def bm : List (Str × Value) → Str → Option Value
  | [] => fun _ => none
  | p :: r => fun y => if y = p.1 then some p.2 else bm r y
theorem bm_lookup (l : List (Str × Value)) (y : Str) : l.lookup y = bm l y := by
  induction l with
  | nil => rfl
  | cons p r ih =>
    obtain ⟨a, v⟩ := p
    rw [List.lookup_cons]
    show _ = if y = a then some v else bm r y
    by_cases h : y = a
    · subst h; simp
    · rw [if_neg h]
      have : (y == a) = false := by simpa using h
      simp only [this]
      exact ih
theorem pure_fn {w : World} {mg mb : Str → Option Value} {f : Addr} {d u : Nat} {args : List Value} {R : Tok → Value} {name qual : Str} {params : Arguments} {body : List Stmt} {scope : Scope} {dV kV doc pm cdv ct oc : Value} {an od : Option Addr} {osl : Array (Option Value)} (binds : List (Str × Value))
    (ho : (KK w.params).lookup f = some ⟨oc, od, .func (fnOf name qual params body scope dV kV doc pm an cdv ct), osl⟩) (hc : codeIn (KK w.params) cdv qual = true)
    (hbind : ∀ s : Shared, (KK w.params).In s.heap → BindsTo s (fnOf name qual params body scope dV kV doc pm an cdv ct) ⟨args, []⟩ binds) (hcell : (scope.names.all fun x => x.2 != .cell) = true) (hloc : (binds.all fun x => decide (scope.names.lookup x.1 = some .local)) = true)
    (h : ∀ (A : Around) (s : Shared) (L : Addr) (h₁ : Heap) (tk : Nat), Room A d u → (KK w.params).In s.heap → TopRead qv loose mg mb s.heap → Fr s.heap L h₁ (bm binds.reverse) → News s.heap L h₁ [] →
      wpAny (model pw w) A (execs body (envOf qual scope L f cdv)) (Ends s.heap s R) (fun _ _ => False) { s with heap := h₁, toks := tk })
    (hco : scope.isCoroutine = false) (hgen : scope.isGenerator = false) (hk : scope.kind = .function) : Pure w mg mb f (d + 1) (u + 3) args R :=
  pure_of ho hc hbind (fun x hx => by have := List.all_eq_true.mp hcell x hx; simpa using this) (locs hloc) (fun A s L h₁ r K T F N => h A s L h₁ _ r K T (by have e : (fun x => binds.reverse.lookup x) = bm binds.reverse := funext (bm_lookup _); rw [e] at F; exact F) N) hco hgen hk
theorem use_pure {w : World} {mg mb : Str → Option Value} {f : Addr} {d u d' u' : Nat} {args : List Value} {R : Tok → Value} {A : Around} {s : Shared} {E Q : Value → Shared → Prop} {h₀ : Heap} {L : Addr} {m : Str → Option Value} {news : List (Addr × Obj)}
    (p : Pure w mg mb f d u args R) (r : Room A d' u') (hd : Nat.ble d d' = true) (hu : Nat.ble u u' = true) (K : (KK w.params).In h₀) (T : TopRead qv loose mg mb h₀) (F : Fr h₀ L s.heap m) (N : News h₀ L s.heap news)
    (h : ∀ t h' tk, Fr h₀ L h' m → News h₀ L h' news → Q (R t) { s with heap := h', toks := tk }) : wpAny (model pw w) A (call (.ref f) args) Q E s :=
  p A s E Q (r.le (Nat.le_of_ble_eq_true hd) (Nat.le_of_ble_eq_true hu)) ⟨K.keeps F.keep, T.keeps F.keep⟩ fun t h' tk st => h t h' tk (F.keeps st) fun q hq => ⟨st _ _ (N q hq).1, (N q hq).2⟩
end Mine
end
section
namespace Mine
open Nat

noncomputable def P : Nat := 4374732215
noncomputable def stp (r : Nat) : Nat := if (2 * r).testBit 32 then (2 * r) ^^^ P else 2 * r

theorem xlc (a b c : Nat) : a ^^^ (b ^^^ c) = b ^^^ (a ^^^ c) := by rw [← Nat.xor_assoc, Nat.xor_comm a b, Nat.xor_assoc]
theorem xcan (a b : Nat) : a ^^^ (a ^^^ b) = b := by rw [← Nat.xor_assoc, Nat.xor_self, Nat.zero_xor]

theorem tb2 (a i : Nat) : (2 * a).testBit i = (decide (1 ≤ i) && a.testBit (i - 1)) := by
  have := Nat.testBit_two_pow_mul (i := 1) (a := a) (j := i)
  simpa using this
theorem two_xor (a b : Nat) : 2 * (a ^^^ b) = 2 * a ^^^ 2 * b := by
  apply Nat.eq_of_testBit_eq
  intro i
  simp only [Nat.testBit_xor, tb2]
  cases decide (1 ≤ i) <;> simp
theorem stp_lin (a b : Nat) : stp (a ^^^ b) = stp a ^^^ stp b := by
  unfold stp
  rw [two_xor, Nat.testBit_xor]
  cases (2 * a).testBit 32 <;> cases (2 * b).testBit 32 <;> simp [Nat.xor_comm, xlc, xcan]
theorem stp_zero : stp 0 = 0 := by decide

noncomputable def red (n : Nat) : Nat := if h : n = 0 then 0 else stp (red (n / 2)) ^^^ (n % 2)
termination_by n
decreasing_by omega

theorem red_zero : red 0 = 0 := by unfold red; simp
theorem red_step (n : Nat) : red n = stp (red (n / 2)) ^^^ (n % 2) := by
  by_cases h : n = 0
  · subst h; simp [red_zero, stp_zero]
  · rw [red]; simp [h]

theorem red_lin : ∀ a b : Nat, red (a ^^^ b) = red a ^^^ red b := by
  intro a
  induction a using Nat.strongRecOn with
  | ind a ih =>
    intro b
    by_cases h : a = 0
    · subst h; simp [red_zero]
    · rw [red_step (a ^^^ b), red_step a, red_step b]
      have h1 : (a ^^^ b) / 2 = a / 2 ^^^ b / 2 := Nat.xor_div_two
      have h2 : (a ^^^ b) % 2 = a % 2 ^^^ b % 2 := by
        have := @Nat.xor_mod_two_pow a b 1
        simpa using this
      rw [h1, h2, ih (a / 2) (by omega), stp_lin]
      simp [Nat.xor_assoc, xlc]

theorem stp_lt {r : Nat} (h : r < 2 ^ 32) : stp r < 2 ^ 32 := by
  unfold stp
  have h2 : 2 * r < 2 ^ 33 := by omega
  split
  · rename_i hb
    have hP : P < 2 ^ 33 := by decide
    apply Nat.lt_pow_two_of_testBit
    intro i hi
    rw [Nat.testBit_xor]
    by_cases h3 : i = 32
    · subst h3; rw [hb]; decide
    · have h4 : 33 ≤ i := by omega
      have e1 : (2 * r).testBit i = false := Nat.testBit_lt_two_pow (Nat.lt_of_lt_of_le h2 (Nat.pow_le_pow_right (by decide) h4))
      have e2 : P.testBit i = false := Nat.testBit_lt_two_pow (Nat.lt_of_lt_of_le hP (Nat.pow_le_pow_right (by decide) h4))
      rw [e1, e2]; rfl
  · rename_i hb
    apply Nat.lt_pow_two_of_testBit
    intro i hi
    by_cases h3 : i = 32
    · subst h3; simpa using hb
    · have h4 : 33 ≤ i := by omega
      exact Nat.testBit_lt_two_pow (Nat.lt_of_lt_of_le h2 (Nat.pow_le_pow_right (by decide) h4))

theorem red_lt (n : Nat) : red n < 2 ^ 32 := by
  induction n using Nat.strongRecOn with
  | ind n ih =>
    by_cases h : n = 0
    · subst h; rw [red_zero]; decide
    · rw [red_step]
      exact Nat.xor_lt_two_pow (stp_lt (ih _ (by omega))) (by omega)

theorem red_small : ∀ {n : Nat}, n < 2 ^ 32 → red n = n := by
  intro n
  induction n using Nat.strongRecOn with
  | ind n ih =>
    intro h
    by_cases h0 : n = 0
    · subst h0; exact red_zero
    · rw [red_step, ih (n / 2) (by omega) (by omega)]
      have h1 : (2 * (n / 2)).testBit 32 = false := Nat.testBit_lt_two_pow (by omega)
      unfold stp
      rw [h1]
      simp only [Bool.false_eq_true, if_false]
      have h2 : 2 * (n / 2) ^^^ n % 2 = 2 * (n / 2) + n % 2 := by
        apply Nat.eq_of_testBit_eq
        intro i
        rw [Nat.testBit_xor, tb2]
        cases i with
        | zero => simp [Nat.testBit_zero]
        | succ i =>
          have e1 : (n % 2).testBit (i + 1) = false := Nat.testBit_lt_two_pow (by have := Nat.pow_le_pow_right (n := 2) (by decide) (show 1 ≤ i + 1 by omega); omega)
          have e2 : (2 * (n / 2) + n % 2).testBit (i + 1) = (n / 2).testBit i := by
            rw [Nat.testBit_succ]; congr 1; omega
          rw [e1, e2]; simp
      rw [h2]; omega

theorem red_P : red P = 0 := by
  rw [red_step, red_small (by decide)]; decide

theorem red_two (n : Nat) : red (2 * n) = stp (red n) := by
  rw [red_step]
  have h1 : 2 * n / 2 = n := by omega
  have h2 : 2 * n % 2 = 0 := by omega
  rw [h1, h2, Nat.xor_zero]

noncomputable def stpn : Nat → Nat → Nat
  | 0, r => r
  | k + 1, r => stp (stpn k r)
theorem stpn_lin (k a b : Nat) : stpn k (a ^^^ b) = stpn k a ^^^ stpn k b := by
  induction k with
  | zero => rfl
  | succ k ih => simp only [stpn, ih, stp_lin]
theorem stpn_zero (k : Nat) : stpn k 0 = 0 := by
  induction k with
  | zero => rfl
  | succ k ih => simp only [stpn, ih, stp_zero]
theorem stpn_add (j k r : Nat) : stpn (j + k) r = stpn j (stpn k r) := by
  induction j with
  | zero => simp [stpn]
  | succ j ih => rw [Nat.succ_add]; simp only [stpn, ih]
theorem stpn_lt {k r : Nat} (h : r < 2 ^ 32) : stpn k r < 2 ^ 32 := by
  induction k with
  | zero => exact h
  | succ k ih => exact stp_lt ih
theorem red_shift (n k : Nat) : red (n <<< k) = stpn k (red n) := by
  induction k with
  | zero => simp [stpn]
  | succ k ih =>
    have : n <<< (k + 1) = 2 * (n <<< k) := by rw [Nat.shiftLeft_succ]
    rw [this, red_two, ih, stpn]
theorem red_Pshift (k : Nat) : red (P <<< k) = 0 := by rw [red_shift, red_P, stpn_zero]
theorem red_idem (n : Nat) : red (red n) = red n := red_small (red_lt n)

noncomputable def unstp (r : Nat) : Nat := if r % 2 = 1 then (r ^^^ P) / 2 else r / 2
theorem stp_unstp {r : Nat} (h : r < 2 ^ 32) : stp (unstp r) = r := by
  unfold unstp
  have hP : P < 2 ^ 33 := by decide
  split
  · rename_i ho
    have h1 : (r ^^^ P) < 2 ^ 33 := Nat.xor_lt_two_pow (by omega) hP
    have h2 : (r ^^^ P) % 2 = 0 := by
      have := @Nat.xor_mod_two_pow r P 1
      have e : P % 2 = 1 := by decide
      simp only [Nat.pow_one] at this
      rw [this, ho, e]; decide
    have h3 : 2 * ((r ^^^ P) / 2) = r ^^^ P := by omega
    unfold stp
    rw [h3]
    have h4 : (r ^^^ P).testBit 32 = true := by
      rw [Nat.testBit_xor, Nat.testBit_lt_two_pow h]; decide
    rw [h4]
    simp only [if_true]
    rw [Nat.xor_assoc, Nat.xor_self, Nat.xor_zero]
  · have h3 : 2 * (r / 2) = r := by omega
    unfold stp
    rw [h3, Nat.testBit_lt_two_pow h]
    simp
theorem unstp_lt {r : Nat} (h : r < 2 ^ 32) : unstp r < 2 ^ 32 := by
  unfold unstp
  have hP : P < 2 ^ 33 := by decide
  split
  · have h1 : (r ^^^ P) < 2 ^ 33 := Nat.xor_lt_two_pow (by omega) hP
    omega
  · omega
noncomputable def unstpn : Nat → Nat → Nat
  | 0, r => r
  | k + 1, r => unstpn k (unstp r)
theorem unstpn_lt {k : Nat} : ∀ {r : Nat}, r < 2 ^ 32 → unstpn k r < 2 ^ 32 := by
  induction k with
  | zero => exact fun h => h
  | succ k ih => exact fun h => ih (unstp_lt h)
theorem stpn_unstpn {k : Nat} : ∀ {r : Nat}, r < 2 ^ 32 → stpn k (unstpn k r) = r := by
  induction k with
  | zero => exact fun _ => rfl
  | succ k ih =>
    intro r h
    show stp (stpn k (unstpn k (unstp r))) = r
    rw [ih (unstp_lt h), stp_unstp h]

/-- the first k bits of b, turned round -/
noncomputable def revK : Nat → Nat → Nat
  | 0, _ => 0
  | k + 1, b => 2 * revK k b + b / 2 ^ k % 2
theorem tbAdd (a d i : Nat) (hd : d < 2) : (2 * a + d).testBit i = if i = 0 then decide (d = 1) else a.testBit (i - 1) := by
  cases i with
  | zero =>
    simp only [Nat.testBit_zero, if_true]
    have : (2 * a + d) % 2 = d := by omega
    rw [this]
  | succ i =>
    rw [Nat.testBit_succ]
    have : (2 * a + d) / 2 = a := by omega
    rw [this]; simp
theorem revK_bit (k b i : Nat) : (revK k b).testBit i = (decide (i < k) && b.testBit (k - 1 - i)) := by
  induction k generalizing i with
  | zero => simp [revK]
  | succ k ih =>
    rw [revK, tbAdd _ _ _ (by omega)]
    by_cases h : i = 0
    · subst h
      simp [Nat.testBit_eq_decide_div_mod_eq]
    · rw [if_neg h, ih]
      have h1 : k - 1 - (i - 1) = k + 1 - 1 - i := by omega
      rw [h1]
      congr 1
      simp; omega
theorem revK_lt (k b : Nat) : revK k b < 2 ^ k := by
  apply Nat.lt_pow_two_of_testBit
  intro i hi
  rw [revK_bit]
  simp; omega
theorem revK_xor (k a b : Nat) : revK k (a ^^^ b) = revK k a ^^^ revK k b := by
  apply Nat.eq_of_testBit_eq
  intro i
  simp only [Nat.testBit_xor, revK_bit]
  cases decide (i < k) <;> simp

/-- the bits of a text, as the program's _law_bits tells them -/
noncomputable def bitsG (b : Nat) : List Nat → Nat
  | [] => b
  | c :: r => bitsG (b * 256 + revK 8 c) r
noncomputable def bitsT (T : List Nat) : Nat := bitsG 0 T
theorem add_is_xor {k a b : Nat} (h : b < 2 ^ k) : a * 2 ^ k + b = (a <<< k) ^^^ b := by
  rw [Nat.shiftLeft_eq]
  apply Nat.eq_of_testBit_eq
  intro i
  rw [Nat.testBit_xor, Nat.mul_comm, Nat.testBit_two_pow_mul_add _ h, Nat.testBit_two_pow_mul]
  by_cases hi : i < k
  · simp [hi, Nat.not_le.mpr hi]
  · have : b.testBit i = false := Nat.testBit_lt_two_pow (Nat.lt_of_lt_of_le h (Nat.pow_le_pow_right (by decide) (by omega)))
    simp [hi, this, Nat.not_lt.mp hi]
theorem bitsG_eq (T : List Nat) : ∀ b, bitsG b T = (b <<< (8 * T.length)) ^^^ bitsG 0 T := by
  induction T with
  | nil => intro b; simp [bitsG]
  | cons c r ih =>
    intro b
    rw [bitsG, bitsG, ih, ih (0 * 256 + revK 8 c)]
    have h1 : b * 256 + revK 8 c = (b <<< 8) ^^^ revK 8 c := add_is_xor (k := 8) (revK_lt 8 c)
    rw [h1, Nat.shiftLeft_xor_distrib, ← Nat.shiftLeft_add, Nat.xor_assoc]
    have h2 : 8 + 8 * r.length = 8 * (c :: r).length := by simp; omega
    rw [h2]; simp
theorem bitsT_append (T U : List Nat) : bitsT (T ++ U) = (bitsT T <<< (8 * U.length)) ^^^ bitsT U := by
  have : ∀ b, bitsG b (T ++ U) = bitsG (bitsG b T) U := by
    induction T with
    | nil => intro b; rfl
    | cons c r ih => intro b; exact ih _
  unfold bitsT
  rw [this, bitsG_eq]
theorem bitsT_one (c : Nat) : bitsT [c] = revK 8 c := by simp [bitsT, bitsG]
theorem bitsT_lt (T : List Nat) : bitsT T < 2 ^ (8 * T.length) := by
  induction T with
  | nil => simp [bitsT, bitsG]
  | cons c r ih =>
    have : c :: r = [c] ++ r := rfl
    rw [this, bitsT_append, bitsT_one]
    apply Nat.xor_lt_two_pow
    · rw [Nat.shiftLeft_eq]
      have h1 := revK_lt 8 c
      have h2 : 2 ^ (8 * ([c] ++ r).length) = 2 ^ 8 * 2 ^ (8 * r.length) := by
        rw [← Nat.pow_add]; congr 1; simp; omega
      rw [h2]
      exact (Nat.mul_lt_mul_right (Nat.two_pow_pos _)).mpr h1
    · refine Nat.lt_of_lt_of_le ih (Nat.pow_le_pow_right (by decide) ?_)
      simp; omega
/-- a register's state behind a text -/
noncomputable def crc (r : Nat) (T : List Nat) : Nat := red ((r <<< (8 * T.length)) ^^^ (bitsT T <<< 32))
theorem crc_lt (r : Nat) (T : List Nat) : crc r T < 2 ^ 32 := red_lt _
theorem crc_nil {r : Nat} (h : r < 2 ^ 32) : crc r [] = r := by
  simp [crc, bitsT, bitsG, red_small h]
theorem red_red_shift (x k : Nat) : red (red x <<< k) = red (x <<< k) := by rw [red_shift, red_idem, red_shift]
theorem crc_append (r : Nat) (T U : List Nat) : crc r (T ++ U) = crc (crc r T) U := by
  unfold crc
  rw [bitsT_append, red_lin, red_lin (red _ <<< _), red_red_shift, ← red_lin, ← red_lin]
  congr 1
  rw [Nat.shiftLeft_xor_distrib, Nat.shiftLeft_xor_distrib, ← Nat.shiftLeft_add, ← Nat.shiftLeft_add, ← Nat.shiftLeft_add]
  have h1 : 8 * (T ++ U).length = 8 * T.length + 8 * U.length := by simp; omega
  have h2 : 8 * U.length + 32 = 32 + 8 * U.length := by omega
  rw [h1, h2, Nat.xor_assoc]

noncomputable def rev32 (b : Nat) : Nat := revK 32 b
noncomputable def gstep (c : Nat) : Nat := if c % 2 = 1 then (c / 2) ^^^ 3988292384 else c / 2
noncomputable def gstepn : Nat → Nat → Nat
  | 0, c => c
  | k + 1, c => gstepn k (gstep c)
noncomputable def genCrc (c : Nat) : Nat := gstepn 8 c
theorem poly_rev : ∀ i, i < 32 → (3988292384 : Nat).testBit i = P.testBit (31 - i) := by decide
theorem gstep_rev {r : Nat} (h : r < 2 ^ 32) : gstep (rev32 r) = rev32 (stp r) := by
  have ho : (rev32 r % 2 = 1) ↔ (2 * r).testBit 32 = true := by
    have e : (rev32 r).testBit 0 = (2 * r).testBit 32 := by
      rw [rev32, revK_bit, tb2]; simp
    rw [← e, Nat.testBit_zero]; simp
  have half : ∀ i, (rev32 r / 2).testBit i = (decide (i < 32) && (2 * r).testBit (31 - i)) := by
    intro i
    rw [Nat.testBit_div_two, rev32, revK_bit, tb2]
    by_cases h1 : i + 1 < 32
    · have h3 : 32 - 1 - (i + 1) = 31 - i - 1 := by omega
      have h4 : i < 32 := by omega
      have h5 : 1 ≤ 31 - i := by omega
      simp [h1, h3, h4, h5]
    · by_cases h2 : i = 31
      · subst h2; simp
      · have h4 : ¬ i < 32 := by omega
        simp [h1, h4]
  apply Nat.eq_of_testBit_eq
  intro i
  unfold gstep stp
  by_cases hb : (2 * r).testBit 32 = true
  · rw [if_pos (ho.mpr hb), if_pos hb, Nat.testBit_xor, half, rev32, revK_bit, Nat.testBit_xor]
    by_cases hi : i < 32
    · rw [poly_rev i hi]; simp [hi]
    · have : (3988292384 : Nat).testBit i = false := Nat.testBit_lt_two_pow (Nat.lt_of_lt_of_le (by decide : 3988292384 < 2 ^ 32) (Nat.pow_le_pow_right (by decide) (by omega)))
      rw [this]; simp [hi]
  · rw [if_neg (fun q => hb (ho.mp q)), if_neg hb, half, rev32, revK_bit]
theorem gstepn_rev (k : Nat) : ∀ {r : Nat}, r < 2 ^ 32 → gstepn k (rev32 r) = rev32 (stpn k r) := by
  induction k with
  | zero => intro r _; rfl
  | succ k ih =>
    intro r h
    rw [gstepn, gstep_rev h, ih (stp_lt h)]
    have : stpn k (stp r) = stpn (k + 1) r := by
      rw [stpn_add]; rfl
    rw [this]
theorem rev_in {r c : Nat} (hc : c < 256) : rev32 r ^^^ c = rev32 (r ^^^ (revK 8 c <<< 24)) := by
  apply Nat.eq_of_testBit_eq
  intro i
  rw [Nat.testBit_xor, rev32, rev32, revK_bit, revK_bit, Nat.testBit_xor, Nat.testBit_shiftLeft, revK_bit]
  by_cases hi : i < 8
  · have h1 : i < 32 := by omega
    have h2 : 31 - i ≥ 24 := by omega
    have h3 : 31 - i - 24 < 8 := by omega
    have h4 : 8 - 1 - (31 - i - 24) = i := by omega
    simp [h1, h2, h3, h4]
  · have h0 : c.testBit i = false := Nat.testBit_lt_two_pow (Nat.lt_of_lt_of_le hc (Nat.pow_le_pow_right (n := 2) (by decide) (show 8 ≤ i by omega)))
    rw [h0]
    by_cases h1 : i < 32
    · have h2 : ¬ (24 ≤ 31 - i) := by omega
      simp [h1, h2]
    · simp [h1]
theorem crc_one {r c : Nat} (h : r < 2 ^ 32) (hc : c < 256) : genCrc (rev32 r ^^^ c) = rev32 (crc r [c]) := by
  have h1 := revK_lt 8 c
  have h2 : revK 8 c <<< 24 < 2 ^ 32 := by rw [Nat.shiftLeft_eq]; omega
  rw [rev_in hc, genCrc, gstepn_rev 8 (Nat.xor_lt_two_pow h h2), crc, bitsT_one]
  have e : (r <<< (8 * [c].length)) ^^^ (revK 8 c <<< 32) = (r ^^^ (revK 8 c <<< 24)) <<< 8 := by
    rw [Nat.shiftLeft_xor_distrib, ← Nat.shiftLeft_add]; rfl
  rw [e, red_shift, red_small (Nat.xor_lt_two_pow h h2)]
noncomputable def regText (r : Nat) (T : List Nat) : Nat := T.foldl (fun r c => genCrc (r ^^^ c)) r
theorem regText_crc (T : List Nat) : ∀ (r : Nat), r < 2 ^ 32 → (∀ c ∈ T, c < 256) → regText (rev32 r) T = rev32 (crc r T) := by
  induction T with
  | nil =>
    intro r h _
    rw [crc_nil h]
    exact List.foldl_nil
  | cons c T ih =>
    intro r h hc
    have e : crc r (c :: T) = crc (crc r [c]) T := crc_append r [c] T
    have e2 : regText (rev32 r) (c :: T) = regText (genCrc (rev32 r ^^^ c)) T := List.foldl_cons ..
    rw [e2, crc_one h (hc c (.head _)), ih _ (crc_lt _ _) (fun x hx => hc x (.tail _ hx)), e]
theorem rev_ones : rev32 4294967295 = 4294967295 := by
  have e : (4294967295 : Nat) = 2 ^ 32 - 1 := by decide
  rw [e]
  apply Nat.eq_of_testBit_eq
  intro i
  rw [rev32, revK_bit, Nat.testBit_two_pow_sub_one, Nat.testBit_two_pow_sub_one]
  by_cases h : i < 32 <;> simp [h]
  omega

/- the mark's own register -/
noncomputable def fk (k x : Nat) : Nat := x ^^^ (x >>> k)
theorem fk_fk (k x : Nat) : fk k (fk k x) = fk (2 * k) x := by
  unfold fk
  rw [Nat.shiftRight_xor_distrib, ← Nat.shiftRight_add, Nat.xor_assoc, xcan]
  have : k + k = 2 * k := by omega
  rw [this]
theorem fk_comm (j k x : Nat) : fk j (fk k x) = fk k (fk j x) := by
  unfold fk
  rw [Nat.shiftRight_xor_distrib, Nat.shiftRight_xor_distrib, ← Nat.shiftRight_add, ← Nat.shiftRight_add, Nat.add_comm k j, Nat.xor_assoc, Nat.xor_assoc, xlc (x >>> k)]
theorem fk_lin (k x y : Nat) : fk k (x ^^^ y) = fk k x ^^^ fk k y := by
  unfold fk
  rw [Nat.shiftRight_xor_distrib]
  simp [Nat.xor_assoc, xlc]
noncomputable def folded (b : Nat) : Nat := fk 32 (fk 16 (fk 8 (fk 4 (fk 2 (fk 1 b)))))
theorem folded_lin (x y : Nat) : folded (x ^^^ y) = folded x ^^^ folded y := by
  unfold folded
  simp only [fk_lin]
theorem folded_spec {b : Nat} (h : b < 2 ^ 64) : fk 1 (folded b) = b := by
  unfold folded
  rw [fk_comm 1 32, fk_comm 1 16, fk_comm 1 8, fk_comm 1 4, fk_comm 1 2, fk_fk 1, fk_fk 2, fk_fk 4, fk_fk 8, fk_fk 16, fk_fk 32]
  unfold fk
  have : b >>> (2 * 32) = 0 := by rw [Nat.shiftRight_eq_div_pow]; exact Nat.div_eq_of_lt h
  rw [this, Nat.xor_zero]
theorem fk_lt {k n x : Nat} (h : x < 2 ^ n) : fk k x < 2 ^ n := by
  unfold fk
  exact Nat.xor_lt_two_pow h (Nat.lt_of_le_of_lt (Nat.shiftRight_le x k) h)
theorem folded_lt {n b : Nat} (h : b < 2 ^ n) : folded b < 2 ^ n := fk_lt (fk_lt (fk_lt (fk_lt (fk_lt (fk_lt h)))))
/-- a turn of _law_unmoved -/
noncomputable def uturn (b : Nat) : Nat := folded (if folded b % 2 = 1 then b ^^^ P else b) / 2
theorem uturn_lt {b : Nat} (h : b < 2 ^ 32) : uturn b < 2 ^ 32 := by
  unfold uturn
  have hP : P < 2 ^ 33 := by decide
  have : folded (if folded b % 2 = 1 then b ^^^ P else b) < 2 ^ 33 := by
    apply folded_lt
    split
    · exact Nat.xor_lt_two_pow (by omega) hP
    · omega
  omega
theorem uturn_spec {b : Nat} (h : b < 2 ^ 32) : uturn b ^^^ stp (uturn b) = b := by
  have hP : P < 2 ^ 33 := by decide
  have main : ∀ b' : Nat, b' < 2 ^ 33 → folded b' % 2 = 0 → red b' = b → (folded b' / 2) ^^^ stp (folded b' / 2) = b := by
    intro b' hb' he hr
    have h1 : 2 * (folded b' / 2) = folded b' := by omega
    have h2 := folded_spec (b := b') (by omega)
    have h3 : folded b' / 2 < 2 ^ 32 := by have := folded_lt hb'; omega
    have h4 : folded b' >>> 1 = folded b' / 2 := by rw [Nat.shiftRight_eq_div_pow]
    rw [← hr]
    conv => rhs; rw [← h2, fk, h4]
    rw [red_lin, red_small h3]
    conv => rhs; rw [← h1, red_two, red_small h3]
    have h5 : 2 * (folded b' / 2) / 2 = folded b' / 2 := by omega
    rw [h5, Nat.xor_comm]
  unfold uturn
  by_cases hf : folded b % 2 = 1
  · rw [if_pos hf]
    refine main _ (Nat.xor_lt_two_pow (by omega) hP) ?_ ?_
    · rw [folded_lin]
      have := @Nat.xor_mod_two_pow (folded b) (folded P) 1
      have e : folded P % 2 = 1 := by decide
      simp only [Nat.pow_one] at this
      rw [this, hf, e]; decide
    · rw [red_lin, red_P, Nat.xor_zero, red_small h]
  · rw [if_neg hf]
    exact main _ (by omega) (by omega) (red_small h)
noncomputable def uturnn : Nat → Nat → Nat
  | 0, b => b
  | k + 1, b => uturn (uturnn k b)
theorem uturnn_lt {k b : Nat} (h : b < 2 ^ 32) : uturnn k b < 2 ^ 32 := by
  induction k with
  | zero => exact h
  | succ k ih => exact uturn_lt ih
noncomputable def dd (x : Nat) : Nat := x ^^^ stp x
noncomputable def ddn : Nat → Nat → Nat
  | 0, x => x
  | k + 1, x => ddn k (dd x)
theorem ddn_uturnn {b : Nat} (h : b < 2 ^ 32) : ∀ k, ddn k (uturnn k b) = b
  | 0 => rfl
  | k + 1 => by
    rw [ddn, uturnn]
    have : dd (uturn (uturnn k b)) = uturnn k b := uturn_spec (uturnn_lt h)
    rw [this, ddn_uturnn h k]
noncomputable def ek (k x : Nat) : Nat := x ^^^ stpn k x
theorem ek_ek (k x : Nat) : ek k (ek k x) = ek (k + k) x := by
  unfold ek
  rw [stpn_lin, ← stpn_add, Nat.xor_assoc, xcan]
theorem dd_ek (x : Nat) : dd x = ek 1 x := rfl
theorem ddn8 (x : Nat) : ddn 8 x = ek 8 x := by
  simp only [ddn, dd_ek, ek_ek]
theorem ddn16 (x : Nat) : ddn 16 x = ek 16 x := by
  simp only [ddn, dd_ek, ek_ek]
noncomputable def unmoved (mark : List Nat) : Nat := uturnn (8 * mark.length) (red (bitsT mark <<< 32))
theorem unmoved_lt (mark : List Nat) : unmoved mark < 2 ^ 32 := uturnn_lt (red_lt _)
theorem unmoved_spec (mark : List Nat) (h : mark.length = 1 ∨ mark.length = 2) : crc (unmoved mark) mark = unmoved mark := by
  have h1 : ek (8 * mark.length) (unmoved mark) = red (bitsT mark <<< 32) := by
    have h2 := ddn_uturnn (red_lt (bitsT mark <<< 32)) (8 * mark.length)
    unfold unmoved
    rcases h with h | h <;> rw [h] at h2 ⊢
    · rw [← ddn8]; exact h2
    · rw [← ddn16]; exact h2
  unfold crc
  rw [red_lin, red_shift, red_small (unmoved_lt mark), ← h1, ek, Nat.xor_comm, Nat.xor_assoc, Nat.xor_self, Nat.xor_zero]

/- the bridges -/
theorem lt_of_tb {x y : Nat} (i : Nat) (hx : x.testBit i = false) (hy : y.testBit i = true) (h : ∀ j, i < j → x.testBit j = y.testBit j) : x < y := by
  have e : x / 2 ^ (i + 1) = y / 2 ^ (i + 1) := by
    apply Nat.eq_of_testBit_eq
    intro j
    rw [Nat.testBit_div_two_pow, Nat.testBit_div_two_pow]
    exact h _ (by omega)
  rw [Nat.testBit_eq_decide_div_mod_eq] at hx hy
  have hx' := of_decide_eq_false hx
  have hy' := of_decide_eq_true hy
  have e1 : x / 2 ^ (i + 1) = x / 2 ^ i / 2 := by rw [Nat.pow_succ, Nat.div_div_eq_div_mul]
  have e2 : y / 2 ^ (i + 1) = y / 2 ^ i / 2 := by rw [Nat.pow_succ, Nat.div_div_eq_div_mul]
  have h1 : x / 2 ^ i < y / 2 ^ i := by omega
  apply Nat.lt_of_not_le
  intro hle
  have := Nat.div_le_div_right (c := 2 ^ i) hle
  omega
noncomputable def MASK : Nat := 3772834016
/-- a turn of the loop over held -/
noncomputable def hturn (b p o os : Nat) : Nat × Nat := if (b ^^^ o) &&& MASK < b &&& MASK then (b ^^^ o, p ^^^ os) else (b, p)
noncomputable def hall (held : List (Nat × Nat)) (b p : Nat) : Nat × Nat := held.foldl (fun x o => hturn x.1 x.2 o.1 o.2) (b, p)
noncomputable def hpower (held : List (Nat × Nat)) (power : Nat) : List (Nat × Nat) :=
  if power % 8 < 5 then
    if (hall held (stpn power 1) (1 <<< power)).1 &&& MASK > 0 then held ++ [hall held (stpn power 1) (1 <<< power)] else held
  else held
noncomputable def heldF (n : Nat) : List (Nat × Nat) := ((List.range n).map (32 + ·)).foldl hpower []
noncomputable def heldL : List (Nat × Nat) := [(79764919, 4294967296), (222504665, 12884901888), (319059676, 17179869184), (890018660, 51539607552), (1595256236, 85899345920), (2651331244, 1168231104512),
  (255263344, 3423088934912), (352751221, 7735236100096), (168233467, 9994388897792), (34814532, 33109902884864), (470228791, 573996609306624), (419434323, 2251821288521728)]
theorem heldL_eq : heldF 21 = heldL := by decide +kernel
noncomputable def ALLOW : Nat := 8759942804610847
theorem allow_bits : ∀ i, i < 53 → ALLOW.testBit i = decide (i % 8 < 5) := by decide +kernel
noncomputable def leads : List Nat := [23, 22, 14, 29, 30, 31, 21, 15, 7, 13, 5, 6]
noncomputable def chainOk : List (Nat × Nat) → List Nat → List Nat → Bool
  | [], [], _ => true
  | o :: r, l :: ls, dn => (o.1 &&& MASK).testBit l && decide (o.1 &&& MASK < 2 ^ (l + 1)) && dn.all (fun j => !(o.1 &&& MASK).testBit j) && chainOk r ls (l :: dn)
  | _, _, _ => false
theorem chain_held : chainOk heldL leads [] = true := by decide +kernel
theorem and_xor (a b c : Nat) : (a ^^^ b) &&& c = (a &&& c) ^^^ (b &&& c) := Nat.and_xor_distrib_right ..
theorem hturn_keep {b p o os j : Nat} (hb : (b &&& MASK).testBit j = false) (ho : (o &&& MASK).testBit j = false) : ((hturn b p o os).1 &&& MASK).testBit j = false := by
  unfold hturn
  split
  · show ((b ^^^ o) &&& MASK).testBit j = false
    rw [and_xor, Nat.testBit_xor, hb, ho]; rfl
  · exact hb
theorem hturn_lead {b p o os l : Nat} (h1 : (o &&& MASK).testBit l = true) (h2 : o &&& MASK < 2 ^ (l + 1)) : ((hturn b p o os).1 &&& MASK).testBit l = false := by
  unfold hturn
  rw [and_xor]
  cases hb : (b &&& MASK).testBit l with
  | true =>
    have hlt : (b &&& MASK) ^^^ (o &&& MASK) < b &&& MASK := by
      apply lt_of_tb l
      · rw [Nat.testBit_xor, hb, h1]; rfl
      · exact hb
      · intro j hj
        have : (o &&& MASK).testBit j = false := Nat.testBit_lt_two_pow (Nat.lt_of_lt_of_le h2 (Nat.pow_le_pow_right (by decide) (by omega)))
        rw [Nat.testBit_xor, this]; simp
    rw [if_pos hlt]
    show ((b ^^^ o) &&& MASK).testBit l = false
    rw [and_xor, Nat.testBit_xor, hb, h1]; rfl
  | false =>
    have hlt : ¬ ((b &&& MASK) ^^^ (o &&& MASK) < b &&& MASK) := by
      apply Nat.not_lt.mpr
      apply Nat.le_of_lt
      apply lt_of_tb l
      · exact hb
      · rw [Nat.testBit_xor, hb, h1]; rfl
      · intro j hj
        have : (o &&& MASK).testBit j = false := Nat.testBit_lt_two_pow (Nat.lt_of_lt_of_le h2 (Nat.pow_le_pow_right (by decide) (by omega)))
        rw [Nat.testBit_xor, this]; simp
    rw [if_neg hlt]
    exact hb
theorem hall_cons (o : Nat × Nat) (r : List (Nat × Nat)) (b p : Nat) : hall (o :: r) b p = hall r (hturn b p o.1 o.2).1 (hturn b p o.1 o.2).2 := rfl
theorem hall_leads : ∀ (held : List (Nat × Nat)) (ls dn : List Nat) (b p : Nat), chainOk held ls dn = true → (∀ j ∈ dn, (b &&& MASK).testBit j = false) →
    ∀ j, j ∈ dn ∨ j ∈ ls → ((hall held b p).1 &&& MASK).testBit j = false := by
  intro held
  induction held with
  | nil =>
    intro ls dn b p hc hd j hj
    cases ls with
    | nil => rcases hj with hj | hj
             · exact hd j hj
             · cases hj
    | cons l ls => simp [chainOk] at hc
  | cons o r ih =>
    intro ls dn b p hc hd j hj
    cases ls with
    | nil => simp [chainOk] at hc
    | cons l ls =>
      simp only [chainOk, Bool.and_eq_true, List.all_eq_true, Bool.not_eq_true', decide_eq_true_eq] at hc
      obtain ⟨⟨⟨h1, h2⟩, h3⟩, h4⟩ := hc
      rw [hall_cons]
      refine ih ls (l :: dn) _ _ h4 ?_ j ?_
      · intro i hi
        rcases List.mem_cons.mp hi with rfl | hi
        · exact hturn_lead h1 h2
        · exact hturn_keep (hd i hi) (h3 i hi)
      · rcases hj with hj | hj
        · exact .inl (.tail _ hj)
        · rcases List.mem_cons.mp hj with rfl | hj
          · exact .inl (.head _)
          · exact .inr hj
theorem mask_leads : ∀ i, i < 32 → MASK.testBit i = true → i ∈ leads := by decide +kernel
theorem hall_mask (b p : Nat) : (hall heldL b p).1 &&& MASK = 0 := by
  apply Nat.eq_of_testBit_eq
  intro i
  rw [Nat.zero_testBit]
  by_cases hi : i < 32
  · cases hm : MASK.testBit i with
    | false => rw [Nat.testBit_and, hm]; simp
    | true => exact hall_leads heldL leads [] b p chain_held (fun _ h => nomatch h) i (.inr (mask_leads i hi hm))
  · have : MASK.testBit i = false := Nat.testBit_lt_two_pow (Nat.lt_of_lt_of_le (by decide : MASK < 2 ^ 32) (Nat.pow_le_pow_right (by decide) (by omega)))
    rw [Nat.testBit_and, this]; simp
noncomputable def Within (p : Nat) : Prop := ∀ i, p.testBit i = true → ALLOW.testBit i = true
theorem within_xor {a b : Nat} (ha : Within a) (hb : Within b) : Within (a ^^^ b) := by
  intro i h
  rw [Nat.testBit_xor] at h
  cases h1 : a.testBit i with
  | true => exact ha i h1
  | false =>
    rw [h1] at h
    exact hb i (by simpa using h)
theorem within_of {p : Nat} (h : p &&& ALLOW = p) : Within p := by
  intro i hi
  rw [← h, Nat.testBit_and] at hi
  exact (Bool.and_eq_true_iff.mp hi).2
theorem red_low (n : Nat) : red (2 ^ 32 * n) = stpn 32 (red n) := by
  rw [← red_shift, Nat.shiftLeft_eq, Nat.mul_comm]
structure HOk (o : Nat × Nat) : Prop where
  lt : o.1 < 2 ^ 32
  red : Mine.red o.2 = o.1
  within : Within o.2
theorem hok_of {o : Nat × Nat} (h : (decide (o.1 < 2 ^ 32) && decide (stpn 32 (o.2 / 2 ^ 32) = o.1) && decide (o.2 % 2 ^ 32 = 0) && decide (o.2 / 2 ^ 32 < 2 ^ 32) && decide (o.2 &&& ALLOW = o.2)) = true) : HOk o := by
  simp only [Bool.and_eq_true, decide_eq_true_eq] at h
  obtain ⟨⟨⟨⟨h1, h2⟩, h3⟩, h4⟩, h5⟩ := h
  refine ⟨h1, ?_, within_of h5⟩
  have e : o.2 = 2 ^ 32 * (o.2 / 2 ^ 32) := by omega
  rw [e, red_low, red_small h4, h2]
theorem held_ok : ∀ o ∈ heldL, HOk o := by
  have h : heldL.all (fun o => decide (o.1 < 2 ^ 32) && decide (stpn 32 (o.2 / 2 ^ 32) = o.1) && decide (o.2 % 2 ^ 32 = 0) && decide (o.2 / 2 ^ 32 < 2 ^ 32) && decide (o.2 &&& ALLOW = o.2)) = true := by decide +kernel
  intro o ho
  exact hok_of (List.all_eq_true.mp h o ho)
theorem hall_inv : ∀ (held : List (Nat × Nat)), (∀ o ∈ held, HOk o) → ∀ b p, b < 2 ^ 32 → Within p →
    (hall held b p).1 < 2 ^ 32 ∧ Within (hall held b p).2 ∧ red (hall held b p).2 ^^^ (hall held b p).1 = red p ^^^ b := by
  intro held
  induction held with
  | nil => intro _ b p hb hp; exact ⟨hb, hp, rfl⟩
  | cons o r ih =>
    intro ho b p hb hp
    rw [hall_cons]
    have h1 := ho o (.head _)
    have ih' := ih (fun x hx => ho x (.tail _ hx))
    by_cases hc : (b ^^^ o.1) &&& MASK < b &&& MASK
    · have e : hturn b p o.1 o.2 = (b ^^^ o.1, p ^^^ o.2) := if_pos hc
      rw [e]
      obtain ⟨a1, a2, a3⟩ := ih' (b ^^^ o.1) (p ^^^ o.2) (Nat.xor_lt_two_pow hb h1.lt) (within_xor hp h1.within)
      refine ⟨a1, a2, a3.trans ?_⟩
      rw [red_lin, h1.red]
      simp [Nat.xor_assoc, Nat.xor_comm, xlc, xcan]
    · have e : hturn b p o.1 o.2 = (b, p) := if_neg hc
      rw [e]
      exact ih' b p hb hp

noncomputable def brChar (f : Nat) : Nat := 64 + 16 * (f % 2) + 8 * (f / 2 % 2) + 4 * (f / 4 % 2) + 2 * (f / 8 % 2) + f / 16
theorem brChar_bits : ∀ f, f < 32 → revK 8 (brChar f) = (f <<< 3) ^^^ 2 := by decide +kernel
theorem brChar_range : ∀ f, f < 32 → 64 ≤ brChar f ∧ brChar f < 96 := by decide +kernel
noncomputable def digG (b : Nat) : List Nat → Nat
  | [] => b
  | f :: r => digG (b * 256 + f) r
theorem bridge_bits (fs : List Nat) : (∀ f ∈ fs, f < 32) → ∀ b a, bitsG ((b <<< 3) ^^^ a) (fs.map brChar) = (digG b fs <<< 3) ^^^ bitsG a (fs.map fun _ => 64) := by
  induction fs with
  | nil => intro _ b a; rfl
  | cons f r ih =>
    intro h b a
    have hf := h f (.head _)
    simp only [List.map_cons, bitsG, digG]
    have e1 : ((b <<< 3) ^^^ a) * 256 + revK 8 (brChar f) = (((b <<< 3) ^^^ a) <<< 8) ^^^ revK 8 (brChar f) := add_is_xor (k := 8) (revK_lt 8 _)
    have e2 : a * 256 + revK 8 64 = (a <<< 8) ^^^ revK 8 64 := add_is_xor (k := 8) (revK_lt 8 _)
    have e3 : b * 256 + f = (b <<< 8) ^^^ f := add_is_xor (k := 8) (by omega)
    have e4 : revK 8 64 = 2 := by decide
    have e5 := ih (fun x hx => h x (.tail _ hx)) (b * 256 + f) (a * 256 + revK 8 64)
    rw [← e5, e1, e2, e3, e4, brChar_bits f hf]
    congr 1
    simp only [Nat.shiftLeft_xor_distrib, ← Nat.shiftLeft_add]
    have e6 : 3 + 8 = 8 + 3 := rfl
    rw [e6]
    simp [Nat.xor_assoc, xlc]
noncomputable def fiveAt (pw t : Nat) : Nat := (pw >>> (8 * t)) &&& 31
theorem fiveAt_eq (pw t : Nat) : fiveAt pw t = pw / 2 ^ (8 * t) % 32 := by
  unfold fiveAt
  rw [Nat.shiftRight_eq_div_pow]
  exact Nat.and_two_pow_sub_one_eq_mod _ 5
noncomputable def fives (pw : Nat) : List Nat := [6, 5, 4, 3, 2, 1, 0].map (fiveAt pw)
theorem within_digits {pw : Nat} (h : Within pw) : digG 0 (fives pw) = pw := by
  have hz : ∀ i, i < 53 → ¬ i % 8 < 5 → pw / 2 ^ i % 2 = 0 := by
    intro i hi h5
    cases hb : pw.testBit i with
    | true =>
      have := h i hb
      rw [allow_bits i hi] at this
      exact absurd (of_decide_eq_true this) h5
    | false =>
      rw [Nat.testBit_eq_decide_div_mod_eq] at hb
      have := of_decide_eq_false hb
      omega
  have hlt : pw < 2 ^ 53 := by
    apply Nat.lt_pow_two_of_testBit
    intro i hi
    cases hb : pw.testBit i with
    | false => rfl
    | true =>
      have h1 := h i hb
      have h2 : ALLOW.testBit i = false := Nat.testBit_lt_two_pow (Nat.lt_of_lt_of_le (by decide : ALLOW < 2 ^ 53) (Nat.pow_le_pow_right (by decide) hi))
      rw [h1] at h2; cases h2
  have a5 := hz 5 (by decide) (by decide)
  have a6 := hz 6 (by decide) (by decide)
  have a7 := hz 7 (by decide) (by decide)
  have b5 := hz 13 (by decide) (by decide)
  have b6 := hz 14 (by decide) (by decide)
  have b7 := hz 15 (by decide) (by decide)
  have c5 := hz 21 (by decide) (by decide)
  have c6 := hz 22 (by decide) (by decide)
  have c7 := hz 23 (by decide) (by decide)
  have d5 := hz 29 (by decide) (by decide)
  have d6 := hz 30 (by decide) (by decide)
  have d7 := hz 31 (by decide) (by decide)
  have e5 := hz 37 (by decide) (by decide)
  have e6 := hz 38 (by decide) (by decide)
  have e7 := hz 39 (by decide) (by decide)
  have f5 := hz 45 (by decide) (by decide)
  have f6 := hz 46 (by decide) (by decide)
  have f7 := hz 47 (by decide) (by decide)
  simp only [fives, List.map_cons, List.map_nil, digG, fiveAt_eq]
  simp only [Nat.reduceMul, Nat.reducePow] at *
  omega

theorem fives_lt (pw : Nat) : ∀ f ∈ fives pw, f < 32 := by
  intro f hf
  obtain ⟨t, _, rfl⟩ := List.mem_map.mp hf
  rw [fiveAt_eq]
  exact Nat.mod_lt _ (by decide)
noncomputable def ats : List Nat := [64, 64, 64, 64, 64, 64, 64]
/-- the powers of x that a bridge is to bring -/
noncomputable def powersF (state aim : Nat) (front back : List Nat) : Nat :=
  (hall heldL (unstpn (35 + 8 * back.length) (crc state (front ++ ats ++ back) ^^^ aim)) 0).2 ^^^ (hall heldL (unstpn (35 + 8 * back.length) (crc state (front ++ ats ++ back) ^^^ aim)) 0).1
noncomputable def bridgeF (state aim : Nat) (front back : List Nat) : List Nat := (fives (powersF state aim front back)).map brChar
theorem bridgeF_length (state aim : Nat) (front back : List Nat) : (bridgeF state aim front back).length = 7 := rfl
theorem bridgeF_range (state aim : Nat) (front back : List Nat) : ∀ c ∈ bridgeF state aim front back, 64 ≤ c ∧ c < 96 := by
  intro c hc
  obtain ⟨f, hf, rfl⟩ := List.mem_map.mp hc
  exact brChar_range f (fives_lt _ f hf)
theorem powersF_spec (state aim : Nat) (front back : List Nat) (ha : aim < 2 ^ 32) :
    Within (powersF state aim front back) ∧ red (powersF state aim front back) = unstpn (35 + 8 * back.length) (crc state (front ++ ats ++ back) ^^^ aim) := by
  have hd : unstpn (35 + 8 * back.length) (crc state (front ++ ats ++ back) ^^^ aim) < 2 ^ 32 := unstpn_lt (Nat.xor_lt_two_pow (crc_lt _ _) ha)
  unfold powersF
  generalize unstpn (35 + 8 * back.length) (crc state (front ++ ats ++ back) ^^^ aim) = d at hd ⊢
  obtain ⟨h1, h2, h3⟩ := hall_inv heldL held_ok d 0 hd (fun i h => by rw [Nat.zero_testBit] at h; cases h)
  have hm := hall_mask d 0
  refine ⟨within_xor h2 ?_, ?_⟩
  · intro i hi
    have hi32 : i < 32 := by
      apply Nat.lt_of_not_le
      intro hle
      have : (hall heldL d 0).1.testBit i = false := Nat.testBit_lt_two_pow (Nat.lt_of_lt_of_le h1 (Nat.pow_le_pow_right (by decide) hle))
      rw [hi] at this; cases this
    have hb : ((hall heldL d 0).1 &&& MASK).testBit i = false := by rw [hm, Nat.zero_testBit]
    rw [Nat.testBit_and, hi] at hb
    have key : ∀ j, j < 32 → MASK.testBit j = false → ALLOW.testBit j = true := by decide +kernel
    exact key i hi32 (by simpa using hb)
  · rw [red_lin, red_small h1, h3, red_zero, Nat.zero_xor]
theorem bitsT_bridge (state aim : Nat) (front back : List Nat) (ha : aim < 2 ^ 32) : bitsT (bridgeF state aim front back) = (powersF state aim front back <<< 3) ^^^ bitsT ats := by
  have h := bridge_bits (fives (powersF state aim front back)) (fives_lt _) 0 0
  rw [within_digits (powersF_spec state aim front back ha).1] at h
  exact h
theorem bridge_spec (state aim : Nat) (front back : List Nat) (ha : aim < 2 ^ 32) : crc state (front ++ bridgeF state aim front back ++ back) = aim := by
  have hb := bitsT_bridge state aim front back ha
  obtain ⟨_, hr⟩ := powersF_spec state aim front back ha
  have hlen : (front ++ bridgeF state aim front back ++ back).length = (front ++ ats ++ back).length := by
    simp [bridgeF_length, ats]; omega
  have e1 : bitsT (front ++ bridgeF state aim front back ++ back) = bitsT (front ++ ats ++ back) ^^^ (powersF state aim front back <<< (3 + 8 * back.length)) := by
    rw [bitsT_append, bitsT_append front, bitsT_append (front ++ ats), bitsT_append front, hb]
    have : (bridgeF state aim front back).length = ats.length := rfl
    rw [this]
    simp only [Nat.shiftLeft_xor_distrib, ← Nat.shiftLeft_add]
    simp [Nat.xor_assoc, Nat.xor_comm, xlc]
  have e2 : crc state (front ++ bridgeF state aim front back ++ back) = crc state (front ++ ats ++ back) ^^^ red (powersF state aim front back <<< (35 + 8 * back.length)) := by
    unfold crc
    rw [hlen, e1, Nat.shiftLeft_xor_distrib, ← Nat.xor_assoc, red_lin, ← Nat.shiftLeft_add]
    have : 3 + 8 * back.length + 32 = 35 + 8 * back.length := by omega
    rw [this]
  rw [e2, red_shift, hr, stpn_unstpn (Nat.xor_lt_two_pow (crc_lt _ _) ha), xcan]

end Mine
end
section
open PySem PySem.W PyProof.Rows PySem.Calls
set_option maxRecDepth 100000
namespace Mine
theorem Ends.int {h₀ h' : Heap} {s : Shared} {x y : Int} {L : Addr} {m : Str → Option Value} {t : Tok} {tk : Nat} (F : Fr h₀ L h' m) (e : x = y) : Ends h₀ s (fun t => .int y t) (.ret (.int x t)) { s with heap := h', toks := tk } := ⟨t, h', tk, by rw [e], rfl, F.keep⟩
theorem Ends.bool {h₀ h' : Heap} {s : Shared} {x y : Bool} {L : Addr} {m : Str → Option Value} {tk : Nat} (F : Fr h₀ L h' m) (e : x = y) : Ends h₀ s (fun _ => .bool y) (.ret (.bool x)) { s with heap := h', toks := tk } := ⟨0, h', tk, by rw [e], rfl, F.keep⟩
theorem Ends.str {h₀ h' : Heap} {s : Shared} {x y : Str} {L : Addr} {m : Str → Option Value} {t : Tok} {tk : Nat} (F : Fr h₀ L h' m) (e : x = y) : Ends h₀ s (fun t => .str y t) (.ret (.str x t)) { s with heap := h', toks := tk } := ⟨t, h', tk, by rw [e], rfl, F.keep⟩
/-- names that hold values -/
noncomputable def Has (m : Str → Option Value) : List (Str × Value) → Prop
  | [] => True
  | p :: r => m p.1 = some p.2 ∧ Has m r
theorem Has.all {m : Str → Option Value} : ∀ {l : List (Str × Value)}, Has m l → ∀ p ∈ l, m p.1 = some p.2
  | _ :: _, h, _, .head _ => h.1
  | _ :: _, h, _, .tail _ hp => h.2.all _ hp
theorem sub_app {α : Type} {a b c : List α} (ha : ∀ p ∈ a, p ∈ c) (hb : ∀ p ∈ b, p ∈ c) : ∀ p ∈ a ++ b, p ∈ c := fun p hp => (List.mem_append.mp hp).elim (ha p) (hb p)
section
variable {h₀ : Heap} {x : Str}
/-- a turn's end under a loop that keeps its ledger -/
theorem turn_end {σ : Type} {led : List (Addr × Obj)} {ps : σ → List (Str × Value)} {stored : List Str} {m₀ : Str → Option Value} {P : List Int → σ → Prop} {pre : List Int} (c : σ) {L : Addr} {m' : Str → Option Value} {own news' : List (Addr × Obj)} {s₁ : Shared} {h' : Heap} {tk : Nat} {Q : Flow → Shared → Prop}
    (F : Fr h₀ L h' m') (N : News h₀ L h' news') (hn : ∀ p ∈ led ++ own, p ∈ news') (hk : Has m' (ps c)) (hr : ∀ z, z ≠ x → (∀ p ∈ ps c, z ≠ p.1) → stored.contains z = false → m' z = m₀ z) (hp : P pre c) :
    InvPostN h₀ L (KstS (fun _ => led) ps (fun _ => True) x stored m₀ P pre) own (led.map (·.1)) s₁ Q .next { s₁ with heap := h', toks := tk } :=
  kst_end c F N (fun p hp => hn p (List.mem_append_left _ hp)) (fun p hp => hn p (List.mem_append_right _ hp)) rfl trivial hk.all hr hp
end
/-- the codes of a text -/
noncomputable def cs (x : Str) : List Nat := x.cps.toList
theorem codes_eq (x : Str) : KStt.codes x = (cs x).map fun (n : Nat) => (n : Int) := rfl
theorem toNat_codes (l : List Nat) : (l.map fun (n : Nat) => (n : Int)).map Int.toNat = l := by
  rw [List.map_map]
  conv => rhs; rw [← List.map_id l]
  apply List.map_congr_left
  intro a _
  exact Int.toNat_natCast a
theorem revK_rec (k c : Nat) : revK (k + 1) c = 2 * revK k c + c / 2 ^ k % 2 := rfl
theorem fill : (fun (_ : OpenLaw) (_ : Params → Frag) => True) PySem.Challenge.rw_tx0023_01 KK := by k_fill; trivial
end Mine
end
section
open PySem PySem.W PyProof.Rows PySem.Calls
set_option maxRecDepth 100000
namespace Mine
/-- the map of names inside and after a loop -/
noncomputable def lm (stored : List Str) (u m₀ : Str → Option Value) (ps : List (Str × Value)) : Str → Option Value := kstB (fun z => if stored.contains z then u z else m₀ z) ps
/-- how a turn of a loop ends -/
noncomputable def TE {σ : Type} (h₀ : Heap) (L : Addr) (stored : List Str) (Led : σ → List (Addr × Obj)) (ps : σ → List (Str × Value)) (m₀ : Str → Option Value) (Pn : σ → Prop) (own : List (Addr × Obj)) (s₁ : Shared) (fl : Flow) (s₂ : Shared) : Prop :=
  (fl = .next ∨ fl = .cont) ∧ ∃ (c : σ) (h' : Heap) (tk : Nat) (m' : Str → Option Value), s₂ = { s₁ with heap := h', toks := tk } ∧ Fr h₀ L h' m' ∧ News h₀ L h' (own ++ Led c) ∧ Has m' (ps c) ∧ (∀ z, (∀ p ∈ ps c, z ≠ p.1) → stored.contains z = false → m' z = m₀ z) ∧ Pn c
theorem TE.mk {σ : Type} {h₀ : Heap} {L : Addr} {stored : List Str} {Led : σ → List (Addr × Obj)} {ps : σ → List (Str × Value)} {m₀ m' : Str → Option Value} {Pn : σ → Prop} {own news' : List (Addr × Obj)} {s₁ : Shared} {fl : Flow} {h' : Heap} {tk : Nat} (c : σ)
    (hf : fl = .next ∨ fl = .cont) (F : Fr h₀ L h' m') (N : News h₀ L h' news') (hn : ∀ p ∈ own ++ Led c, p ∈ news') (hk : Has m' (ps c)) (hr : ∀ z, (∀ p ∈ ps c, z ≠ p.1) → stored.contains z = false → m' z = m₀ z) (hp : Pn c) :
    TE h₀ L stored Led ps m₀ Pn own s₁ fl { s₁ with heap := h', toks := tk } := ⟨hf, c, h', tk, m', rfl, F, fun p h => N p (hn p h), hk, hr, hp⟩
section
variable {w : World} {A : Around} {E : Value → Shared → Prop} {s : Shared} {env : Env} {h₀ : Heap} {x : Str} {body : List Stmt} {Q : Flow → Shared → Prop}
theorem lm_eq {ps : List (Str × Value)} {stored : List Str} {m₀ m₁ : Str → Option Value} (h1 : Has m₁ ps) (h2 : ∀ z, (∀ p ∈ ps, z ≠ p.1) → stored.contains z = false → m₁ z = m₀ z) : lm stored m₁ m₀ ps = m₁ := by
  funext y
  refine kstB_eq h1.all fun hn => ?_
  show (if stored.contains y = true then m₁ y else m₀ y) = m₁ y
  cases h3 : stored.contains y with
  | true => simp
  | false => simp only [Bool.false_eq_true, if_false]; exact (h2 y hn h3).symm
theorem lpCore {σ : Type} {I : Addr} {fp wr : List Addr} {n : Nat} {Pv : Nat → Value → Prop} {St : Nat → Heap → Prop} {m₀ : Str → Option Value} (Led : σ → List (Addr × Obj)) (ps : σ → List (Str × Value)) (stored : List Str) (P : Nat → σ → Prop) (c₀ : σ)
    (W : Walks pw w A I fp wr n Pv St) (hLf : env.locals ∉ fp) (hwr : ∀ b ∈ wr, h₀.get? b = none) (hnw : ∀ p ∈ Led c₀, p.1 ∉ wr) (hst : St 0 s.heap) (F : Fr h₀ env.locals s.heap m₀) (N : News h₀ env.locals s.heap (Led c₀)) (hk : Has m₀ (ps c₀)) (hp : P 0 c₀) (hx : stored.contains x = true)
    (hcl : ∀ i h c c', P (i + 1) c' → St (i + 1) h → (∀ p ∈ Led c, p.1 ∉ wr) → News h₀ env.locals h (Led c') → ∀ p ∈ Led c', p.1 ∉ wr)
    (turn : ∀ (c : σ) i v (u : Str → Option Value) h tk own, i < n → Pv i v → P i c →
      Fr h₀ env.locals h (fun y => if y = x then some v else lm stored u m₀ (ps c) y) → News h₀ env.locals h (Led c ++ own) → (∀ p ∈ own, p.1 ∈ fp) → (∀ p ∈ Led c, p.1 ∉ wr) →
      wpAny (model pw w) A (execs body env) (TE h₀ env.locals stored Led ps m₀ (P (i + 1)) own { s with heap := h, toks := tk }) E { s with heap := h, toks := tk })
    (done : ∀ (c : σ) (u : Str → Option Value) h tk, P n c → Fr h₀ env.locals h (lm stored u m₀ (ps c)) → News h₀ env.locals h (Led c) → Q .next { s with heap := h, toks := tk }) :
    LoopAtV pw w A h₀ env x body Q E (.ref I) s := by
  refine ⟨I, fp, wr, n, Pv, St, m₀, Led c₀, (fun i m nx => ∃ c : σ, nx = Led c ∧ Has m (ps c) ∧ (∀ z, (∀ p ∈ ps c, z ≠ p.1) → stored.contains z = false → m z = m₀ z) ∧ P i c), rfl, W, hLf, hwr, hnw, hst, F, N, ⟨c₀, rfl, hk, fun _ _ _ => rfl, hp⟩, ?_, ?_⟩
  · rintro i v m₁ news₁ s₁ own ⟨hh', tk', rfl⟩ hin hP ⟨c, rfl, h1, h2, hp'⟩ hoff hown hget hfp hst₁ F₁ N₁
    have N₂ : News h₀ env.locals hh' (Led c ++ own) := fun p hp => N₁ p ((List.mem_append.mp hp).elim (fun h => List.mem_append.mpr (.inr h)) fun h => List.mem_append.mpr (.inl h))
    have e : lm stored m₁ m₀ (ps c) = m₁ := lm_eq h1 h2
    refine wpAny_mono (turn c i v m₁ hh' tk' own hin hP hp' (by rw [e]; exact F₁) N₂ hown hoff) (fun f s₂ p => ?_) fun _ _ e => e
    obtain ⟨hf, c', h', tk, m', rfl, F', N', hk', hr', hp''⟩ := p
    have st' : St (i + 1) h' := by
      refine W.frame _ _ _ hst₁ fun b hb o e => ?_
      cases hn : h₀.get? b with
      | some o₀ =>
        have : o₀ = o := by have := F₁.keep b o₀ hn; rw [e] at this; exact (Option.some.inj this).symm
        exact this ▸ F'.keep b o₀ hn
      | none => exact (N' _ (List.mem_append_left _ (hfp b hb hn o e))).1
    have fin : LoopStepU h₀ env.locals wr own (fun m nx => ∃ c : σ, nx = Led c ∧ Has m (ps c) ∧ (∀ z, (∀ p ∈ ps c, z ≠ p.1) → stored.contains z = false → m z = m₀ z) ∧ P (i + 1) c) { s with heap := hh', toks := tk' } .next { s with heap := h', toks := tk } :=
      ⟨rfl, h', tk, m', Led c', rfl, F', N', hcl i h' c c' hp'' st' hoff fun p hp => N' p (List.mem_append_right _ hp), c', rfl, hk', hr', hp''⟩
    rcases hf with rfl | rfl
    · exact .next fin
    · exact .cont fin
  · rintro h' tk m' news' F' N' _ ⟨c, rfl, h1, h2, hp'⟩
    exact done c m' h' tk hp' (by rw [lm_eq h1 h2]; exact F') N'
/-- a loop over the signs of a text -/
theorem lpText {σ : Type} {xt : Str} {tx : Tok} {m₀ : Str → Option Value} (led : List (Addr × Obj)) (ps : σ → List (Str × Value)) (stored : List Str) (P : List Nat → σ → Prop) (c₀ : σ)
    (hh : A.handled = none) (F : Fr h₀ env.locals s.heap m₀) (N : News h₀ env.locals s.heap led) (hk : Has m₀ (ps c₀)) (hp : P [] c₀) (hx : stored.contains x = true)
    (turn : ∀ (c : σ) (pre post : List Nat) (n : Nat) t (u : Str → Option Value) h tk own, cs xt = pre ++ n :: post → P pre c →
      Fr h₀ env.locals h (fun y => if y = x then some (.str ⟨#[n]⟩ t) else lm stored u m₀ (ps c) y) → News h₀ env.locals h (led ++ own) →
      wpAny (model pw w) A (execs body env) (TE h₀ env.locals stored (fun _ => led) ps m₀ (P (pre ++ [n])) own { s with heap := h, toks := tk }) E { s with heap := h, toks := tk })
    (done : ∀ (c : σ) (u : Str → Option Value) h tk, P (cs xt) c → Fr h₀ env.locals h (lm stored u m₀ (ps c)) → News h₀ env.locals h led → Q .next { s with heap := h, toks := tk }) :
    wpAny (model pw w) A (pyIter (.str xt tx)) (fun it s₂ => LoopAtV pw w A h₀ env x body Q E it s₂) E s := by
  refine wpAny_pyIter_str fun o St hW hst => ?_
  have hI : ∀ p ∈ led, p.1 ∉ [s.heap.objs.size] := fun p hp hI => absurd (Heap.lt_size (N p hp).1) ((List.mem_singleton.mp hI) ▸ Nat.lt_irrefl _)
  refine lpCore (s := { s with heap := s.heap.push o }) (fun _ => led) ps stored (fun i c => P ((cs xt).take i) c) c₀ (hW A hh) ?_ ?_ hI hst (F.push _) (fun p hp => ⟨Heap.get?_push_of_some _ (N p hp).1, (N p hp).2⟩) hk (by simpa using hp) hx (fun _ _ _ _ _ _ h _ => h) ?_ ?_
  · intro hm
    exact absurd F.ns.lt ((List.mem_singleton.mp hm) ▸ Nat.lt_irrefl _)
  · intro b' hb
    rw [List.mem_singleton.mp hb]
    exact next_is_new F
  · rintro c i v u h tk own hi ⟨n, t, hn, rfl⟩ hp' F₁ N₁ _ _
    have hn' : (cs xt)[i]? = some n := by simpa [cs] using hn
    have hs : (cs xt).take (i + 1) = (cs xt).take i ++ [n] := by simp [List.take_add_one, hn']
    have e : cs xt = (cs xt).take i ++ n :: (cs xt).drop (i + 1) := by
      have ht := List.take_append_drop (i + 1) (cs xt)
      rw [hs, List.append_assoc] at ht
      exact ht.symm
    rw [hs]
    exact turn c _ _ n t u h tk own e hp' F₁ N₁
  · intro c u h tk hp' F₁ N₁
    have hl : xt.cps.size = (cs xt).length := by simp [cs]
    rw [hl, List.take_length] at hp'
    exact done c u h tk hp' F₁ N₁
theorem iter_cls {h : Heap} {I : Addr} {k d : Int} {n : Int} (st : IsRangeIter h I k n d) {h₀ : Heap} {L : Addr} {l : List (Addr × Obj)} (N : News h₀ L h l) (hc : ∀ p ∈ l, p.2.cls ≠ .type "range_iterator") : ∀ p ∈ l, p.1 ∉ [I] := by
  intro p hp hI
  rw [List.mem_singleton] at hI
  have h1 := (N p hp).1
  rw [hI] at h1
  have h2 : h.get? I = some _ := st
  rw [h2] at h1
  exact hc p hp (by rw [← Option.some.inj h1])
/-- a loop over range(a, b, d) -/
theorem lpRangeO {σ : Type} {r : Addr} {a₀ b₀ d : Int} {t₀ u₀ v₀ : Tok} {n : Nat} {m₀ : Str → Option Value} (Led : σ → List (Addr × Obj)) (ps : σ → List (Str × Value)) (stored : List Str) (P : Nat → σ → Prop) (c₀ : σ)
    (hh : A.handled = none) (hr : IsRange s.heap r a₀ b₀ d t₀ u₀ v₀) (hsmall : Builtin.Range.small a₀ b₀ d = true) (hn : Builtin.Range.rangeSize a₀ b₀ d = (n : Int)) (F : Fr h₀ env.locals s.heap m₀) (N : News h₀ env.locals s.heap (Led c₀)) (hk : Has m₀ (ps c₀)) (hp : P 0 c₀) (hx : stored.contains x = true)
    (hc : (∀ c c', Led c = Led c') ∨ ∀ i c, P i c → ∀ p ∈ Led c, p.2.cls ≠ .type "range_iterator")
    (turn : ∀ (c : σ) (i : Nat) t (u : Str → Option Value) h tk own, i < n → P i c →
      Fr h₀ env.locals h (fun y => if y = x then some (.int (a₀ + i * d) t) else lm stored u m₀ (ps c) y) → News h₀ env.locals h (Led c ++ own) → (∀ p ∈ own, ∀ q ∈ Led c, p.1 ≠ q.1) →
      wpAny (model pw w) A (execs body env) (TE h₀ env.locals stored Led ps m₀ (P (i + 1)) own { s with heap := h, toks := tk }) E { s with heap := h, toks := tk })
    (done : ∀ (c : σ) (u : Str → Option Value) h tk, P n c → Fr h₀ env.locals h (lm stored u m₀ (ps c)) → News h₀ env.locals h (Led c) → Q .next { s with heap := h, toks := tk }) :
    wpAny (model pw w) A (pyIter (.ref r)) (fun it s₂ => LoopAtV pw w A h₀ env x body Q E it s₂) E s := by
  refine wpAny_pyIter_range hr hsmall ?_
  have W : Walks pw w A s.heap.objs.size [s.heap.objs.size] [s.heap.objs.size] n (fun i v => i < n ∧ ∃ t, v = .int (a₀ + i * d) t)
      (fun i h => IsRangeIter h s.heap.objs.size (a₀ + (i : Nat) * d) ((n : Int) - (i : Nat)) d) := (Walks.range hh _ a₀ d n).bound
  refine lpCore (s := { s with heap := s.heap.push _ }) Led ps stored P c₀ W ?_ ?_ ?_ (by show IsRangeIter _ _ _ _ _; rw [hn]; simpa using Heap.get?_push_size _ rfl) (F.push _) (fun p hp => ⟨Heap.get?_push_of_some _ (N p hp).1, (N p hp).2⟩) hk hp hx (fun i h c c' hp st hl N' => hc.elim (fun e => e c c' ▸ hl) fun hc => iter_cls st N' (hc _ c' hp)) ?_ ?_
  · intro hm
    exact absurd F.ns.lt ((List.mem_singleton.mp hm) ▸ Nat.lt_irrefl _)
  · intro b hb
    rw [List.mem_singleton.mp hb]
    exact next_is_new F
  · intro p hp hI
    exact absurd (Heap.lt_size (N p hp).1) ((List.mem_singleton.mp hI) ▸ Nat.lt_irrefl _)
  · rintro c i v u h tk own hi ⟨_, t, rfl⟩ hp' F₁ N₁ h1 h2
    exact turn c i t u h tk own hi hp' F₁ N₁ fun p hp q hq e => h2 q hq (by rw [← e]; exact h1 p hp)
  · exact done
/-- a loop over range(a, b, d) -/
theorem lpRange {σ : Type} {r : Addr} {a₀ b₀ d : Int} {t₀ u₀ v₀ : Tok} {n : Nat} {m₀ : Str → Option Value} (Led : σ → List (Addr × Obj)) (ps : σ → List (Str × Value)) (stored : List Str) (P : Nat → σ → Prop) (c₀ : σ)
    (hh : A.handled = none) (hr : IsRange s.heap r a₀ b₀ d t₀ u₀ v₀) (hsmall : Builtin.Range.small a₀ b₀ d = true) (hn : Builtin.Range.rangeSize a₀ b₀ d = (n : Int)) (F : Fr h₀ env.locals s.heap m₀) (N : News h₀ env.locals s.heap (Led c₀)) (hk : Has m₀ (ps c₀)) (hp : P 0 c₀) (hx : stored.contains x = true)
    (hc : (∀ c c', Led c = Led c') ∨ ∀ i c, P i c → ∀ p ∈ Led c, p.2.cls ≠ .type "range_iterator")
    (turn : ∀ (c : σ) (i : Nat) t (u : Str → Option Value) h tk own, i < n → P i c →
      Fr h₀ env.locals h (fun y => if y = x then some (.int (a₀ + i * d) t) else lm stored u m₀ (ps c) y) → News h₀ env.locals h (Led c ++ own) →
      wpAny (model pw w) A (execs body env) (TE h₀ env.locals stored Led ps m₀ (P (i + 1)) own { s with heap := h, toks := tk }) E { s with heap := h, toks := tk })
    (done : ∀ (c : σ) (u : Str → Option Value) h tk, P n c → Fr h₀ env.locals h (lm stored u m₀ (ps c)) → News h₀ env.locals h (Led c) → Q .next { s with heap := h, toks := tk }) :
    wpAny (model pw w) A (pyIter (.ref r)) (fun it s₂ => LoopAtV pw w A h₀ env x body Q E it s₂) E s := by
  exact lpRangeO Led ps stored P c₀ hh hr hsmall hn F N hk hp hx hc (fun c i t u h tk own a b F N _ => turn c i t u h tk own a b F N) done
/-- a loop over a list that the loop leaves alone -/
theorem lpList {σ : Type} {l : Addr} {vs : List Value} {nn : Nat} {m₀ : Str → Option Value} (led : List (Addr × Obj)) (ps : σ → List (Str × Value)) (stored : List Str) (P : Nat → σ → Prop) (c₀ : σ)
    (hh : A.handled = none) (hl : s.heap.get? l = some (listOf vs.toArray nn)) (hlL : l ≠ env.locals) (F : Fr h₀ env.locals s.heap m₀) (N : News h₀ env.locals s.heap led) (hk : Has m₀ (ps c₀)) (hp : P 0 c₀) (hx : stored.contains x = true)
    (turn : ∀ (c : σ) (i : Nat) v (u : Str → Option Value) h tk own, vs[i]? = some v → P i c →
      Fr h₀ env.locals h (fun y => if y = x then some v else lm stored u m₀ (ps c) y) → News h₀ env.locals h (led ++ own) →
      wpAny (model pw w) A (execs body env) (TE h₀ env.locals stored (fun _ => led) ps m₀ (P (i + 1)) own { s with heap := h, toks := tk }) E { s with heap := h, toks := tk })
    (done : ∀ (c : σ) (u : Str → Option Value) h tk, P vs.length c → Fr h₀ env.locals h (lm stored u m₀ (ps c)) → News h₀ env.locals h led → Q .next { s with heap := h, toks := tk }) :
    wpAny (model pw w) A (pyIter (.ref l)) (fun it s₂ => LoopAtV pw w A h₀ env x body Q E it s₂) E s := by
  have hls : s.heap.IsList l vs.toArray := ⟨_, hl, rfl, nn, rfl⟩
  have hne : l ≠ s.heap.objs.size := Nat.ne_of_lt (Heap.lt_size hl)
  refine wpAny_pyIter_list hls ?_
  have W := Walks.list (prog := pw) (w := w) hh s.heap.objs.size l hne vs.toArray
  have hlen : vs.toArray.size = vs.length := by simp
  rw [hlen] at W
  refine lpCore (s := { s with heap := s.heap.push _ }) (fun _ => led) ps stored P c₀ W ?_ ?_ ?_ ⟨⟨_, Heap.get?_push_size _ rfl, rfl, rfl⟩, hls.at fun o e => Heap.get?_push_of_some _ e⟩ (F.push _) (fun p hp => ⟨Heap.get?_push_of_some _ (N p hp).1, (N p hp).2⟩) hk hp hx (fun _ _ _ _ _ _ h _ => h) ?_ done
  · intro hm
    rcases List.mem_cons.mp hm with e | hm
    · exact absurd F.ns.lt (e ▸ Nat.lt_irrefl _)
    · exact hlL (List.mem_singleton.mp hm).symm
  · intro b hb
    rw [List.mem_singleton.mp hb]
    exact next_is_new F
  · intro p hp hI
    exact absurd (Heap.lt_size (N p hp).1) ((List.mem_singleton.mp hI) ▸ Nat.lt_irrefl _)
  · intro c i v u h tk own hi hv hp' F₁ N₁ _ _
    exact turn c i v u h tk own (by simpa using hv) hp' F₁ N₁
end
end Mine
end
section
open PySem PySem.W PyProof.Rows PySem.Calls
set_option maxRecDepth 100000
namespace Mine
/-- the same, of a loop that has no continue -/
noncomputable def TEn {σ : Type} (h₀ : Heap) (L : Addr) (stored : List Str) (Led : σ → List (Addr × Obj)) (ps : σ → List (Str × Value)) (m₀ : Str → Option Value) (Pn : σ → Prop) (own : List (Addr × Obj)) (s₁ : Shared) (fl : Flow) (s₂ : Shared) : Prop := fl = .next ∧ TE h₀ L stored Led ps m₀ Pn own s₁ fl s₂
section
variable {w : World} {A : Around} {E : Value → Shared → Prop} {s : Shared} {env : Env} {h₀ : Heap} {x1 x2 : Str} {body : List Stmt} {Q : Flow → Shared → Prop}
/-- a loop over a list of pairs of whole numbers, that the loop leaves alone -/
theorem lpPairs {σ : Type} {l : Addr} {vs : List Value} {nn : Nat} {m₀ : Str → Option Value} {pairs : List (Nat × Nat)} {p1 p2 pt : Pos} {xn : Nat} (led : List (Addr × Obj)) (ps : σ → List (Str × Value)) (stored : List Str) (P : List (Nat × Nat) → σ → Prop) (c₀ : σ)
    (hh : A.handled = none) (hx1 : env.kindOf x1 = some .local) (hx2 : env.kindOf x2 = some .local) (hpl : (env.scope.kind == .class || (env.scope.kind == .module && env.locals != env.globals)) = false)
    (hl : s.heap.get? l = some (listOf vs.toArray nn)) (hlL : l ≠ env.locals) (hlen : vs.length = pairs.length)
    (hT : ∀ (i : Nat) v h m, vs[i]? = some v → Fr h₀ env.locals h m → News h₀ env.locals h led → ∃ (T : Addr) (p : Nat × Nat) (ta tb : Tok), pairs[i]? = some p ∧ v = Value.ref T ∧ h.IsTuple T #[.int p.1 ta, .int p.2 tb])
    (F : Fr h₀ env.locals s.heap m₀) (N : News h₀ env.locals s.heap led) (hk : Has m₀ (ps c₀)) (hp : P [] c₀)
    (turn : ∀ (c : σ) (pre post : List (Nat × Nat)) (p : Nat × Nat) ta tb (u : Str → Option Value) (s : Shared) h tk own, pairs = pre ++ p :: post → P pre c →
      Fr h₀ env.locals h (fun y => if y = x2 then some (.int p.2 tb) else if y = x1 then some (.int p.1 ta) else lm stored u m₀ (ps c) y) → News h₀ env.locals h (led ++ own) →
      wpAny (model pw w) A (execs body env) (TEn h₀ env.locals stored (fun _ => led) ps m₀ (P (pre ++ [p])) own { s with heap := h, toks := tk }) E { s with heap := h, toks := tk })
    (done : ∀ (c : σ) (u : Str → Option Value) h tk, P pairs c → Fr h₀ env.locals h (lm stored u m₀ (ps c)) → News h₀ env.locals h led → Q .next { s with heap := h, toks := tk }) :
    wpAny (model pw w) A (pyIter (.ref l)) (fun it s₂ => LoopAtT pw w A h₀ env (.Tuple [.Name x1 p1, .Name x2 p2] xn pt) body Q E it s₂) E s := by
  have hls : s.heap.IsList l vs.toArray := ⟨_, hl, rfl, nn, rfl⟩
  have hne : l ≠ s.heap.objs.size := Nat.ne_of_lt (Heap.lt_size hl)
  refine wpAny_pyIter_list hls ?_
  have W := Walks.list (prog := pw) (w := w) hh s.heap.objs.size l hne vs.toArray
  have hsz : vs.toArray.size = vs.length := by simp
  rw [hsz] at W
  refine ⟨_, _, _, vs.length, _, _, m₀, led, (fun i m nx => nx = led ∧ ∃ c : σ, Has m (ps c) ∧ (∀ z, (∀ p ∈ ps c, z ≠ p.1) → stored.contains z = false → m z = m₀ z) ∧ P (pairs.take i) c), rfl, W, ?_, ?_, ?_, ⟨⟨_, Heap.get?_push_size _ rfl, rfl, rfl⟩, hls.at fun o e => Heap.get?_push_of_some _ e⟩, F.push _, (fun p hp => ⟨Heap.get?_push_of_some _ (N p hp).1, (N p hp).2⟩), (fun i s' v Q' st hQ' => letGo_listiter st.1 hQ'), ⟨rfl, c₀, hk, fun _ _ _ => rfl, by simpa using hp⟩, ?_, ?_⟩
  · intro hm
    rcases List.mem_cons.mp hm with e | hm
    · exact absurd F.ns.lt (e ▸ Nat.lt_irrefl _)
    · exact hlL (List.mem_singleton.mp hm).symm
  · intro b hb
    rw [List.mem_singleton.mp hb]
    exact next_is_new F
  · intro p hp hI
    exact absurd (Heap.lt_size (N p hp).1) ((List.mem_singleton.mp hI) ▸ Nat.lt_irrefl _)
  · rintro i v m₁ news₁ s₁ own hi hv ⟨rfl, c, h1, h2, hp'⟩ hoff hown hget hfp hst₁ F₁ N₁
    have N₂ : News h₀ env.locals s₁.heap (news₁ ++ own) := fun p hp => N₁ p ((List.mem_append.mp hp).elim (fun h => List.mem_append.mpr (.inr h)) fun h => List.mem_append.mpr (.inl h))
    have e : lm stored m₁ m₀ (ps c) = m₁ := lm_eq h1 h2
    obtain ⟨T, p, ta, tb, hpi, rfl, hTup⟩ := hT i v s₁.heap m₁ (by simpa using hv) F₁ fun p hp => N₂ p (List.mem_append_left _ hp)
    have hs : pairs.take (i + 1) = pairs.take i ++ [p] := by simp [List.take_add_one, hpi]
    have epp : pairs = pairs.take i ++ p :: pairs.drop (i + 1) := by
      have ht := List.take_append_drop (i + 1) pairs
      rw [hs, List.append_assoc] at ht
      exact ht.symm
    refine wpAny_assign_Tuple hh hTup rfl rfl fun h₃ hx₃ => ?_
    have up₃ : ∀ b o, s₁.heap.get? b = some o → h₃.get? b = some o := fun b o x => hx₃ b o (Nat.ne_of_lt (Heap.lt_size x)) x
    have F₃ : Fr h₀ env.locals h₃ m₁ := ⟨F₁.ns.at fun o x => up₃ _ o x, fun b o e => up₃ b o (F₁.keep b o e), F₁.above⟩
    have N₃ : News h₀ env.locals h₃ (news₁ ++ own) := fun p hp => ⟨up₃ _ _ (N₂ p hp).1, (N₂ p hp).2⟩
    show wpAny _ _ (do holding [.int p.2 tb] (assign (.Name x1 p1) env (.int p.1 ta)); do holding [] (assign (.Name x2 p2) env (.int p.2 tb)); pure ()) _ _ _
    refine wpAny_bind (wpAny_holding (wpAny_assign_Name (wpAny_storeName_local hx1 F₃.ns (fun h₄ hn₄ hs₄ => ?_) hpl)))
    have F₄ := F₃.set hn₄ hs₄
    refine wpAny_bind (wpAny_holding (wpAny_assign_Name (wpAny_storeName_local hx2 F₄.ns (fun h₅ hn₅ hs₅ => wpAny_pure ?_) hpl)))
    have F₅ := F₄.set hn₅ hs₅
    have N₅ : News h₀ env.locals h₅ (news₁ ++ own) := (N₃.set hs₄).set hs₅
    refine wpAny_mono (turn c _ _ p ta tb m₁ s₁ h₅ _ own epp hp' (by rw [e]; exact F₅) N₅) (fun f s₂ q => ?_) fun _ _ e => e
    obtain ⟨rfl, _, c', h', tk, m', rfl, F', N', hk', hr', hp''⟩ := q
    exact ⟨rfl, h', tk, m', news₁, rfl, F', N', hoff, rfl, c', hk', hr', by rw [hs]; exact hp''⟩
  · rintro h' tk m' news' F' N' _ ⟨rfl, c, h1, h2, hp'⟩
    rw [hlen, List.take_length] at hp'
    exact done c m' h' tk hp' (by rw [lm_eq h1 h2]; exact F') N'
/-- a while loop -/
noncomputable def TW {σ : Type} (h₀ : Heap) (L : Addr) (s : Shared) (Led : σ → List (Addr × Obj)) (ps : σ → List (Str × Value)) (stored : List Str) (m₀ : Str → Option Value) (P : σ → Prop) (μ : σ → Nat) (c : σ) (fl : Flow) (s₂ : Shared) : Prop :=
  (fl = .next ∨ fl = .cont) ∧ ∃ (c' : σ) (h' : Heap) (tk : Nat) (m' : Str → Option Value), s₂ = { s with heap := h', toks := tk } ∧ Fr h₀ L h' m' ∧ News h₀ L h' (Led c') ∧ Has m' (ps c') ∧ (∀ z, (∀ p ∈ ps c', z ≠ p.1) → stored.contains z = false → m' z = m₀ z) ∧ P c' ∧ μ c' < μ c
theorem TW.mk {σ : Type} {h₀ : Heap} {L : Addr} {s : Shared} {Led : σ → List (Addr × Obj)} {ps : σ → List (Str × Value)} {stored : List Str} {m₀ m' : Str → Option Value} {P : σ → Prop} {μ : σ → Nat} {c : σ} {fl : Flow} {h' : Heap} {tk : Nat} {news' : List (Addr × Obj)} (c' : σ)
    (hf : fl = .next ∨ fl = .cont) (F : Fr h₀ L h' m') (N : News h₀ L h' news') (hn : ∀ p ∈ Led c', p ∈ news') (hk : Has m' (ps c')) (hr : ∀ z, (∀ p ∈ ps c', z ≠ p.1) → stored.contains z = false → m' z = m₀ z) (hp : P c' ∧ μ c' < μ c) :
    TW h₀ L s Led ps stored m₀ P μ c fl { s with heap := h', toks := tk } := ⟨hf, c', h', tk, m', rfl, F, fun p h => N p (hn p h), hk, hr, hp⟩
theorem lpWhile {σ : Type} {L : Addr} {test : Expr} {body : List Stmt} {pos : Pos} {m₀ : Str → Option Value} (Led : σ → List (Addr × Obj)) (ps : σ → List (Str × Value)) (stored : List Str) (P : σ → Prop) (μ : σ → Nat) (c₀ : σ)
    (F : Fr h₀ L s.heap m₀) (N : News h₀ L s.heap (Led c₀)) (hk : Has m₀ (ps c₀)) (hp : P c₀)
    (turn : ∀ (c : σ) (u : Str → Option Value) h tk, P c → Fr h₀ L h (lm stored u m₀ (ps c)) → News h₀ L h (Led c) →
      wpAny (model pw w) A (isTrue test env (eval test env)) (fun b s₂ =>
        if b = true then wpAny (model pw w) A (execs body env) (TW h₀ L s Led ps stored m₀ P μ c) E s₂ else Q .next s₂) E { s with heap := h, toks := tk })
    (hE : PassesOwn (model pw w) A env E := by passes_own) :
    wpAny (model pw w) A (exec (.While test body [] pos) env) Q E s := by
  refine ksw_while Led ps (fun _ => True) stored P μ c₀ F N trivial hk.all hp (fun c u h tk _ hp F N => ?_) hE
  refine wpAny_mono (turn c u h tk hp F N) (fun b s₂ p => ?_) fun _ _ x => x
  cases b with
  | false => simpa using p
  | true =>
    simp only [if_true] at p ⊢
    refine wpAny_mono p (fun f s₃ q => ?_) fun _ _ x => x
    obtain ⟨hf, c', h', tk', m', rfl, F', N', hk', hr', hp9, hm9⟩ := q
    have fin : KswEnd h₀ L s Led ps (fun _ => True) stored m₀ P μ c { s with heap := h', toks := tk' } := ksw_end c' F' N' (fun p hp => hp) trivial hk'.all hr' hp9 hm9
    rcases hf with rfl | rfl
    · exact fin
    · exact fin
end
end Mine
namespace Mine
/-- a call that hands back a value of which R holds, whose heap only grows -/
noncomputable def PureP (w : World) (mg mb : Str → Option Value) (f : Addr) (d u : Nat) (args : List Value) (Pre : Heap → Prop) (R : Value → Heap → Prop) : Prop :=
  ∀ (A : Around) (s : Shared) (E : Value → Shared → Prop) (Q : Value → Shared → Prop), Room A d u → Amb w mg mb s.heap → Pre s.heap →
    (∀ v h' tk, s.heap.StaysIn h' → R v h' → Q v { s with heap := h', toks := tk }) → wpAny (model pw w) A (call (.ref f) args) Q E s
noncomputable def EndsP (h₀ : Heap) (s : Shared) (R : Value → Heap → Prop) (fl : Flow) (s' : Shared) : Prop := ∃ v h' tk, fl = .ret v ∧ s' = { s with heap := h', toks := tk } ∧ h₀.StaysIn h' ∧ R v h'
theorem pureP_fn {w : World} {mg mb : Str → Option Value} {f : Addr} {d u : Nat} {args : List Value} {Pre : Heap → Prop} {R : Value → Heap → Prop} {name qual : Str} {params : Arguments} {body : List Stmt} {scope : Scope} {dV kV doc pm cdv ct oc : Value} {an od : Option Addr} {osl : Array (Option Value)} (binds : List (Str × Value))
    (ho : (KK w.params).lookup f = some ⟨oc, od, .func (fnOf name qual params body scope dV kV doc pm an cdv ct), osl⟩) (hc : codeIn (KK w.params) cdv qual = true)
    (hbind : ∀ s : Shared, (KK w.params).In s.heap → BindsTo s (fnOf name qual params body scope dV kV doc pm an cdv ct) ⟨args, []⟩ binds) (hcell : (scope.names.all fun x => x.2 != .cell) = true) (hloc : (binds.all fun x => decide (scope.names.lookup x.1 = some .local)) = true)
    (h : ∀ (A : Around) (s : Shared) (L : Addr) (h₁ : Heap) (tk : Nat), Room A d u → (KK w.params).In s.heap → TopRead qv loose mg mb s.heap → Pre s.heap → Fr s.heap L h₁ (bm binds.reverse) → News s.heap L h₁ [] →
      wpAny (model pw w) A (execs body (envOf qual scope L f cdv)) (EndsP s.heap s R) (fun _ _ => False) { s with heap := h₁, toks := tk })
    (hco : scope.isCoroutine = false) (hgen : scope.isGenerator = false) (hk : scope.kind = .function) : PureP w mg mb f (d + 1) (u + 3) args Pre R := by
  intro A s E Q r a hPre hQ
  refine wpAny_call (codeAny_call_def (fd := fnOf name qual params body scope dV kV doc pm an cdv ct) (body := body) (binds := binds) (by have := r.depth; omega) (a.k _ _ ho) rfl a.t.nolimit (codeRec_of a.k hc) rfl (hbind s a.k) (fun x hx => by have := List.all_eq_true.mp hcell x hx; simpa using this) (locs hloc) (fun h₁ hns hk₁ => ?_) hco hgen hk)
  have e : (fun x => binds.reverse.lookup x) = bm binds.reverse := funext (bm_lookup _)
  exact wpAny_mono (h _ s s.heap.objs.size h₁ _ r.deeper a.k a.t hPre ⟨e ▸ hns, hk₁, Nat.le_refl _⟩ News.nil) (fun fl s' e => by
    obtain ⟨v, h', tk, rfl, rfl, st, hR⟩ := e
    exact hQ v h' tk st hR) (fun _ _ x => x.elim)
theorem use_pureP {w : World} {mg mb : Str → Option Value} {f : Addr} {d u d' u' : Nat} {args : List Value} {Pre : Heap → Prop} {R : Value → Heap → Prop} {A : Around} {s : Shared} {E Q : Value → Shared → Prop} {h₀ : Heap} {L : Addr} {m : Str → Option Value} {news : List (Addr × Obj)}
    (p : PureP w mg mb f d u args Pre R) (hPre : Pre s.heap) (r : Room A d' u') (hd : Nat.ble d d' = true) (hu : Nat.ble u u' = true) (K : (KK w.params).In h₀) (T : TopRead qv loose mg mb h₀) (F : Fr h₀ L s.heap m) (N : News h₀ L s.heap news)
    (h : ∀ v h' tk, Fr h₀ L h' m → News h₀ L h' news → R v h' → Q v { s with heap := h', toks := tk }) : wpAny (model pw w) A (call (.ref f) args) Q E s :=
  p A s E Q (r.le (Nat.le_of_ble_eq_true hd) (Nat.le_of_ble_eq_true hu)) ⟨K.keeps F.keep, T.keeps F.keep⟩ hPre fun v h' tk st hR => h v h' tk (F.keeps st) (fun q hq => ⟨st _ _ (N q hq).1, (N q hq).2⟩) hR
/-- a list that holds these pairs -/
noncomputable def HoldsPairs (h : Heap) (l : Addr) (pairs : List (Nat × Nat)) : Prop := ∃ (vs : List Value) (nn : Nat), h.get? l = some (listOf vs.toArray nn) ∧ vs.length = pairs.length ∧
  ∀ (i : Nat) v, vs[i]? = some v → ∃ (T : Addr) (p : Nat × Nat) (ta tb : Tok), pairs[i]? = some p ∧ v = Value.ref T ∧ h.IsTuple T #[.int p.1 ta, .int p.2 tb]
theorem HoldsPairs.keeps {h h' : Heap} {l : Addr} {pairs : List (Nat × Nat)} (x : HoldsPairs h l pairs) (k : ∀ b o, h.get? b = some o → h'.get? b = some o) : HoldsPairs h' l pairs := by
  obtain ⟨vs, nn, h1, h2, h3⟩ := x
  refine ⟨vs, nn, k _ _ h1, h2, fun i v hv => ?_⟩
  obtain ⟨T, p, ta, tb, e1, e2, o, ho, r⟩ := h3 i v hv
  exact ⟨T, p, ta, tb, e1, e2, o, k _ _ ho, r⟩
end Mine
namespace Mine
theorem app_list {w : World} {A : Around} {E : Value → Shared → Prop} {s : Shared} {h₀ : Heap} {L l : Addr} {m : Str → Option Value} {news rest : List (Addr × Obj)} {its : Array Value} {nn : Nat} {x : Value} {Q : Value → Shared → Prop}
    (F : Fr h₀ L s.heap m) (N : News h₀ L s.heap news) (hm : (l, W.listOf its nn) ∈ news) (hsz : its.size ≤ 1000) (hr : ∀ p ∈ rest, p ∈ news ∧ p.1 ≠ l)
    (h : ∀ h', Fr h₀ L h' m → News h₀ L h' ((l, W.listOf (its.push x) (nn + 1)) :: rest) → Q .none { s with heap := h' }) : wpAny (model pw w) A (call (.builtin "list.append") [.ref l, x]) Q E s := by
  have ho := News.get N hm
  refine append_at (D := l) (its := its) (n := nn) ho (fun h' hs ho' => ?_) (by rw [sizeLine_eq]; omega)
  refine h h' (F.change hs (N _ hm).2.1 (N _ hm).2.2) fun p hp => ?_
  rcases List.mem_cons.mp hp with rfl | e
  · exact ⟨ho', (N _ hm).2⟩
  · obtain ⟨h1, h2⟩ := hr p e
    exact ⟨(hs.2 _ h2).trans (N _ h1).1, (N _ h1).2⟩
end Mine
end
section
open PySem PySem.W PyProof.Rows PySem.Calls
set_option maxRecDepth 100000
set_option maxHeartbeats 4000000
set_option linter.all false
namespace Mine
theorem or_split (a b : Nat) : a ||| b = (a ^^^ b) + (a &&& b) := by
  induction a using Nat.strongRecOn generalizing b with
  | _ a ih =>
    by_cases h0 : a = 0
    · subst h0; simp
    have ih' := ih (a / 2) (by omega) (b / 2)
    have o1 : (a ||| b) / 2 = a / 2 ||| b / 2 := Nat.or_div_two
    have x1 : (a ^^^ b) / 2 = a / 2 ^^^ b / 2 := Nat.xor_div_two
    have n1 : (a &&& b) / 2 = a / 2 &&& b / 2 := Nat.and_div_two
    have o2 : (a ||| b) % 2 = a % 2 ||| b % 2 := Nat.or_mod_two_pow (n := 1)
    have x2 : (a ^^^ b) % 2 = a % 2 ^^^ b % 2 := Nat.xor_mod_two_pow (n := 1)
    have n2 : (a &&& b) % 2 = a % 2 &&& b % 2 := Nat.and_mod_two_pow (n := 1)
    have e2 : a % 2 ||| b % 2 = (a % 2 ^^^ b % 2) + (a % 2 &&& b % 2) := by
      rcases Nat.mod_two_eq_zero_or_one a with h | h <;> rcases Nat.mod_two_eq_zero_or_one b with h' | h' <;> rw [h, h'] <;> rfl
    omega
theorem band_nat (a b : Nat) : Builtin.bitAnd (a : Int) (b : Int) = ((a &&& b : Nat) : Int) := by simp [Builtin.bitAnd]
theorem bxor_nat (a b : Nat) : Builtin.bitXor (a : Int) (b : Int) = ((a ^^^ b : Nat) : Int) := by
  have e : ∀ x : Nat, Builtin.bitNot (x : Int) < 0 := fun x => by simp only [Builtin.bitNot]; omega
  have en : ∀ x : Int, Builtin.bitNot (Builtin.bitNot x) = x := fun x => by simp only [Builtin.bitNot]; omega
  have ho : Builtin.bitOr (a : Int) (b : Int) = ((a ||| b : Nat) : Int) := by
    unfold Builtin.bitOr Builtin.bitAnd
    have h1 : decide (0 ≤ Builtin.bitNot (a : Int)) = false := by simpa using e a
    have h2 : decide (0 ≤ Builtin.bitNot (b : Int)) = false := by simpa using e b
    simp only [h1, h2, en, Int.toNat_natCast]
  unfold Builtin.bitXor
  rw [ho, band_nat, or_split a b]
  omega
theorem shr_nat (a : Nat) (n : Nat) : (a : Int).fdiv (2 ^ n) = ((a >>> n : Nat) : Int) := by
  have : ((2 : Int) ^ n) = ((2 ^ n : Nat) : Int) := by simp
  rw [this, Int.fdiv_eq_ediv_of_nonneg _ (Int.natCast_nonneg _), ← Int.natCast_ediv, Nat.shiftRight_eq_div_pow]
theorem shl_nat (a : Nat) (n : Nat) : (a : Int) * 2 ^ n = ((a <<< n : Nat) : Int) := by
  have : ((2 : Int) ^ n) = ((2 ^ n : Nat) : Int) := by simp
  rw [this, ← Int.natCast_mul, Nat.shiftLeft_eq]
theorem fmod_nat (a b : Nat) : (a : Int).fmod (b : Int) = ((a % b : Nat) : Int) := by
  rw [Int.fmod_eq_emod_of_nonneg _ (Int.natCast_nonneg _)]; rfl
theorem fdiv_nat (a b : Nat) : (a : Int).fdiv (b : Int) = ((a / b : Nat) : Int) := by
  rw [Int.fdiv_eq_ediv_of_nonneg _ (Int.natCast_nonneg _)]; rfl
theorem Has.int {o : Option Value} {a b : Int} {t : Tok} (h : o = some (.int a t)) (e : a = b) : o = some (.int b t) := by rw [h, e]
theorem Has.str {o : Option Value} {a b : Str} {t : Tok} (h : o = some (.str a t)) (e : a = b) : o = some (.str b t) := by rw [h, e]
theorem if_c {c : Prop} [Decidable c] {α : Type} {a b : α} (h : c) : (if c then a else b) = a := if_pos h
/-- the rest's turn -/
theorem rest_cond (b p : Nat) (z : Int) (hz : z = p) : Builtin.bitAnd ((b : Int).fdiv (2 ^ z.toNat)) 1 = 1 ↔ b.testBit p = true := by
  subst hz
  rw [Int.toNat_natCast, shr_nat]
  show Builtin.bitAnd _ ((1 : Nat) : Int) = _ ↔ _
  rw [band_nat, Nat.testBit, Nat.and_comm]
  simp only [Nat.one_and_eq_mod_two, bne_iff_ne, ne_eq]
  omega
theorem rest_new (b p : Nat) (hp : 32 ≤ p) (z : Int) (hz : z = p) : Builtin.bitXor (b : Int) (4374732215 * 2 ^ (z - 32).toNat) = ((b ^^^ (P <<< (p - 32)) : Nat) : Int) := by
  subst hz
  have e : ((p : Int) - 32).toNat = p - 32 := by omega
  rw [e, ← bxor_nat, ← shl_nat]
  rfl
theorem rest_lt {b p : Nat} (hp : 32 ≤ p) (hb : b < 2 ^ (p + 1)) : (if b.testBit p then b ^^^ (P <<< (p - 32)) else b) < 2 ^ p := by
  have hP : ∀ j, (P <<< (p - 32)).testBit j = (decide (p - 32 ≤ j) && P.testBit (j - (p - 32))) := fun j => Nat.testBit_shiftLeft ..
  have hP33 : ∀ j, 33 ≤ j → P.testBit j = false := fun j hj => Nat.testBit_lt_two_pow (Nat.lt_of_lt_of_le (by decide : P < 2 ^ 33) (Nat.pow_le_pow_right (by decide) hj))
  apply Nat.lt_pow_two_of_testBit
  intro j hj
  by_cases h : b.testBit p = true
  · rw [if_pos h, Nat.testBit_xor, hP]
    by_cases hjp : j = p
    · subst hjp
      have : j - (j - 32) = 32 := by omega
      rw [h, this]
      have : P.testBit 32 = true := by decide
      simp [this]
    · rw [hP33 _ (by omega), Nat.testBit_lt_two_pow (Nat.lt_of_lt_of_le hb (Nat.pow_le_pow_right (by decide) (by omega)))]
      simp
  · rw [if_neg h]
    by_cases hjp : j = p
    · subst hjp; simpa using h
    · exact Nat.testBit_lt_two_pow (Nat.lt_of_lt_of_le hb (Nat.pow_le_pow_right (by decide) (by omega)))
theorem rest_lt' {b top i : Nat} (hi : i < top - 31) (hb : b < 2 ^ (top + 1 - i)) : (if b.testBit (top - i) then b ^^^ (P <<< (top - i - 32)) else b) < 2 ^ (top + 1 - (i + 1)) := by
  have e : top + 1 - i = top - i + 1 := by omega
  have e2 : top + 1 - (i + 1) = top - i := by omega
  rw [e] at hb
  rw [e2]
  exact rest_lt (by omega) hb
theorem rest_red (b p : Nat) : red (if b.testBit p then b ^^^ (P <<< (p - 32)) else b) = red b := by
  split
  · rw [red_lin, red_Pshift, Nat.xor_zero]
  · rfl
end Mine
namespace Mine
theorem gstepn_succ (k : Nat) : ∀ c, gstepn (k + 1) c = gstep (gstepn k c) := by
  induction k with
  | zero => intro c; rfl
  | succ k ih => intro c; exact ih (gstep c)
theorem unstpn_succ (k : Nat) : ∀ c, unstpn (k + 1) c = unstp (unstpn k c) := by
  induction k with
  | zero => intro c; rfl
  | succ k ih => intro c; exact ih (unstp c)
theorem odd_cond (b : Nat) : Builtin.bitAnd (b : Int) 1 = 0 ↔ ¬ b % 2 = 1 := by
  show Builtin.bitAnd _ ((1 : Nat) : Int) = _ ↔ _
  rw [band_nat, Nat.and_one_is_mod]
  omega
theorem shr1 (b : Nat) : (b : Int).fdiv (2 ^ (1 : Int).toNat) = ((b / 2 : Nat) : Int) := by
  show (b : Int).fdiv (2 ^ 1) = _
  rw [shr_nat, Nat.shiftRight_eq_div_pow]
theorem xor_P (b : Nat) : Builtin.bitXor (b : Int) 4374732215 = ((b ^^^ P : Nat) : Int) := bxor_nat b P
theorem xor_G (b : Nat) : Builtin.bitXor (b : Int) 3988292384 = ((b ^^^ 3988292384 : Nat) : Int) := bxor_nat b 3988292384
theorem reg_new (r b p : Nat) (z : Int) (hz : z = p) : 2 * (r : Int) + ((b : Int).fdiv (2 ^ z.toNat)).fmod 2 = ((2 * r + b / 2 ^ p % 2 : Nat) : Int) := by
  subst hz
  rw [Int.toNat_natCast, shr_nat]
  have : ((b >>> p : Nat) : Int).fmod 2 = ((b >>> p % 2 : Nat) : Int) := fmod_nat _ 2
  rw [this, Nat.shiftRight_eq_div_pow]
  omega
end Mine
namespace Mine
theorem News.off {h₀ h : Heap} {L a : Addr} {o : Obj} {news : List (Addr × Obj)} (N : News h₀ L h news) (hm : (a, o) ∈ news) : a ≠ L := (N _ hm).2.1
end Mine
namespace Mine
theorem cs_len (x : Str) : x.length = (cs x).length := by simp [cs, Str.length]
theorem odd1 (b : Nat) : (b : Int).fmod 2 = 1 ↔ b % 2 = 1 := by
  have : (b : Int).fmod 2 = ((b % 2 : Nat) : Int) := fmod_nat _ 2
  rw [this]; omega
end Mine
namespace Mine
/-- a text of these codes -/
noncomputable def tx (l : List Nat) : Str := ⟨l.toArray⟩
theorem cs_tx (l : List Nat) : cs (tx l) = l := rfl
theorem tx_cs (x : Str) : tx (cs x) = x := rfl
theorem tx_app (a b : List Nat) : tx a ++ tx b = tx (a ++ b) := by
  refine Str.ext' (Array.toList_inj.mp ?_)
  rw [Str.cps_append, Array.toList_append]
  rfl
theorem tx_len (l : List Nat) : (tx l).length = l.length := by rw [cs_len]; rfl
noncomputable def plainN (c : Nat) : Bool := c == 9 || (decide (32 ≤ c) && (decide (c ≤ 126) && c != 61))
noncomputable def showC (fg : List Nat) (c : Nat) : List Nat := if plainN c then [c] else [61, fg.getD (c / 16) 0, fg.getD (c % 16) 0]
noncomputable def showT (fg : List Nat) (l : List Nat) : List Nat := l.flatMap (showC fg)
theorem showT_snoc (fg l : List Nat) (c : Nat) : showT fg (l ++ [c]) = showT fg l ++ showC fg c := by simp [showT]
theorem showC_len (fg : List Nat) (c : Nat) : (showC fg c).length ≤ 3 := by unfold showC; split <;> simp
theorem showT_len (fg l : List Nat) : (showT fg l).length ≤ 3 * l.length := by
  induction l with
  | nil => simp [showT]
  | cons c r ih =>
    have := showC_len fg c
    have e : showT fg (c :: r) = showC fg c ++ showT fg r := by simp [showT]
    rw [e, List.length_append, List.length_cons]
    omega
end Mine
namespace Mine
theorem item_tx {x : Str} {i : Int} (k : Nat) (hk : i = (k : Int)) (h1 : k < (cs x).length) : Txt.item x i = tx [(cs x).getD k 0] := by
  rw [PyProof.Rows.item_at (n := k) (by omega) (by rw [cs_len]; omega) (by omega)]
  have : x.cps.getD k 0 = (cs x).getD k 0 := by simp [cs]
  rw [this]; rfl
theorem eqs : Str.ofString "=" = tx [61] := by decide +kernel
end Mine
end
section
open PySem PySem.W PyProof.Rows PySem.Calls
set_option maxRecDepth 100000
set_option maxHeartbeats 4000000
set_option linter.all false
namespace Mine
local macro_rules | `(tactic| k_steps) => `(tactic| repeat' (first
  | (k_unfold; (try dsimp only))
  | ((fail_if_success (with_reducible first | show wpAny _ _ (exec (.For _ _ _ _ _) _) _ _ _ | show wpAny _ _ (exec (.While _ _ _ _) _) _ _ _ | show wpAny _ _ (pyIter _) _ _ _ | show wpAny _ _ (call (Value.ref _) _) _ _ _ | show wpAny _ _ (call (Value.builtin "chr") _) _ _ _)); walk1; (try (all_goals dsimp only)))
  | ((fail_if_success (with_reducible first | show wpAny _ _ (call (Value.ref _) _) _ _ _ | show wpAny _ _ (call (Value.builtin "chr") _) _ _ _)); dsimp only; walk1) | fail "no step"))
noncomputable def plainF (n : Int) : Bool := n == 9 || (decide (32 ≤ n) && (decide (n ≤ 126) && n != 61))
theorem bits_inner (b k n : Nat) : 2 * ((b * 2 ^ k + revK k n : Nat) : Int) + (((n : Int).fdiv (2 ^ ((k : Int)).toNat)).fmod 2) = ((b * 2 ^ (k + 1) + revK (k + 1) n : Nat) : Int) := by
  have e1 : ((n : Int).fdiv (2 ^ ((k : Int)).toNat)).fmod 2 = ((n / 2 ^ k % 2 : Nat) : Int) := by
    rw [Int.toNat_natCast]
    have : ((2 : Int) ^ k) = ((2 ^ k : Nat) : Int) := by simp
    rw [this, Int.fdiv_eq_ediv_of_nonneg _ (Int.natCast_nonneg _), Int.fmod_eq_emod_of_nonneg _ (by decide), ← Int.natCast_ediv]
    rfl
  rw [e1, revK_rec, Nat.pow_succ]
  have : b * (2 ^ k * 2) = 2 * (b * 2 ^ k) := by rw [← Nat.mul_assoc, Nat.mul_comm]
  omega
theorem bitsG_snoc (T : List Nat) (n : Nat) : ∀ b, bitsG b (T ++ [n]) = bitsG b T * 2 ^ 8 + revK 8 n := by
  induction T with
  | nil => intro b; rfl
  | cons c r ih => intro b; exact ih _
theorem plain_pure (w : World) (mg mb : Str → Option Value) (n : Int) (tk : Tok) : Pure w mg mb 128 1 3 [.int n tk] (fun _ => .bool (plainF n)) := by
  refine' pure_fn (d := 0) (u := 0) [("octet", .int n tk)] ?ho ?hc ?hb ?h1 ?h2 ?h ?c1 ?c2 ?c3
  case ho => k_is
  case hc => k_is
  case hb => intro s X; exact BindsTo.of_eq rfl
  case h1 => kernel_rfl!
  case h2 => kernel_rfl!
  case c1 => rfl
  case c2 => rfl
  case c3 => rfl
  case h =>
    intro A s L h₁ tk r KX T F N
    have hh := r.handled
    conv in (occs := *) (fnS 31) => all_goals whnf
    conv in (fnB 31) => whnf
    simp only [List.reverse_cons, List.reverse_nil, List.nil_append, List.cons_append, bm] at F
    (show wpAny _ _ _ _ _ _); k_fold
    k_steps
    all_goals (refine Ends.bool (by assumption) ?_)
    all_goals (unfold plainF; simp [*])
theorem bits_pure (w : World) (mg mb : Str → Option Value) (x : Str) (tk : Tok) : Pure w mg mb 79 1 3 [.str x tk] (fun t => .int (bitsT (cs x) : Nat) t) := by
  refine' pure_fn (d := 0) (u := 0) [("text", .str x tk)] ?ho ?hc ?hb ?h1 ?h2 ?h ?c1 ?c2 ?c3
  case ho => k_is
  case hc => k_is
  case hb => intro s X; exact BindsTo.of_eq rfl
  case h1 => kernel_rfl!
  case h2 => kernel_rfl!
  case c1 => rfl
  case c2 => rfl
  case c3 => rfl
  case h =>
    intro A s L h₁ tk r KX T F N
    have hh := r.handled
    conv in (occs := *) (fnS 24) => all_goals whnf
    conv in (fnB 24) => whnf
    simp only [List.reverse_cons, List.reverse_nil, List.nil_append, List.cons_append, bm] at F
    (show wpAny _ _ _ _ _ _); k_fold
    k_steps
    with_unfolding_all refine' For_invVF (by assumption) ?k1 ?k2 ?_
    case k1 => exact rfl
    case k2 => exact rfl
    k_steps
    refine lpText (σ := Nat × Tok) [] (fun c => [(Str.ofString "bits", .int (c.1 : Int) c.2)]) [Str.ofString "bits", Str.ofString "place", Str.ofString "sign"] (fun pre c => c.1 = bitsG 0 pre) (0, _) hh (by assumption) (by assumption) (by exact ⟨rfl, trivial⟩) (by rfl) (by rfl) ?turn ?done
    case done =>
      intro c u h tk hp F N
      dsimp only [lm, kstB] at F ⊢
      k_steps
      refine Ends.int (by assumption) ?_
      rw [hp]
      rfl
    case turn =>
      intro c pre post n t u h tk own e hp F N
      dsimp only [lm, kstB] at F ⊢
      k_steps
      with_unfolding_all refine' For_invVF (by assumption) ?k1 ?k2 ?_
      case k1 => exact rfl
      case k2 => exact rfl
      k_steps
      refine lpRange (n := 8) (σ := Nat × Tok) (fun _ => own) (fun c' => [(Str.ofString "bits", .int (c'.1 : Int) c'.2)]) [Str.ofString "bits", Str.ofString "place"] (fun i c' => c'.1 = c.1 * 2 ^ i + revK i n) (c.1, _) hh (by assumption) (by decide) (by rfl) (by assumption) (by assumption) (by exact ⟨rfl, trivial⟩) (by simp [revK]) (by rfl) (.inl fun _ _ => rfl) ?turn ?done
      case done =>
        intro c' u' h tk hp' F N
        dsimp only [lm, kstB] at F ⊢
        k_steps
        refine TE.mk (c'.1, _) (by simp) (by assumption) (by assumption) (by intro p hp; simp only [List.mem_append, List.mem_cons, List.not_mem_nil, or_false, false_or] at hp ⊢; first | assumption | (rcases hp with h | h <;> simp [h]) | (rcases hp with h | h | h <;> simp [h]) | (rcases hp with h | h | h | h <;> simp [h])) (by exact ⟨rfl, trivial⟩) (by ksw_same) ?_
        show c'.1 = _
        rw [hp', hp]
        show _ = bitsG 0 (pre ++ [n])
        rw [bitsG_snoc]
      case turn =>
        intro c' i t' u' h tk own' hlt hp' F N
        dsimp only [lm, kstB] at F ⊢
        k_steps
        refine TE.mk (c.1 * 2 ^ (i + 1) + revK (i + 1) n, _) (by simp) (by assumption) (by assumption) (by intro p hp; simp only [List.mem_append, List.mem_cons, List.not_mem_nil, or_false, false_or] at hp ⊢; first | assumption | (rcases hp with h | h <;> simp [h]) | (rcases hp with h | h | h <;> simp [h]) | (rcases hp with h | h | h | h <;> simp [h])) (by refine ⟨congrArg (fun z => some (Value.int z _)) ?_, trivial⟩; rw [hp']; simpa using bits_inner c.1 i n) (by ksw_same) rfl
end Mine
end
section
open PySem PySem.W PyProof.Rows PySem.Calls
set_option maxRecDepth 100000
set_option maxHeartbeats 4000000
set_option linter.all false
namespace Mine
local macro_rules | `(tactic| k_steps) => `(tactic| repeat' (first
  | (k_unfold; (try dsimp only))
  | ((fail_if_success (with_reducible first | show wpAny _ _ (exec (.For _ _ _ _ _) _) _ _ _ | show wpAny _ _ (exec (.While _ _ _ _) _) _ _ _ | show wpAny _ _ (pyIter _) _ _ _ | show wpAny _ _ (call (Value.ref _) _) _ _ _ | show wpAny _ _ (call (Value.builtin "chr") _) _ _ _)); walk1; (try (all_goals dsimp only)))
  | ((fail_if_success (with_reducible first | show wpAny _ _ (call (Value.ref _) _) _ _ _ | show wpAny _ _ (call (Value.builtin "chr") _) _ _ _)); dsimp only; walk1) | fail "no step"))
local macro_rules | `(tactic| walk_at "binaryOp LShift int int") => `(tactic| refine lshift_int_small (by omega) (by omega) (by first | decide | omega) ?_)
theorem rest_pure (w : World) (mg mb : Str → Option Value) (bits top : Nat) (t1 t2 : Tok) (h1 : bits < 2 ^ (top + 1)) (h2 : 31 ≤ top) (h3 : top ≤ 1000) : Pure w mg mb 86 1 3 [.int bits t1, .int top t2] (fun t => .int (red bits : Nat) t) := by
  refine' pure_fn (d := 0) (u := 0) [("bits", .int bits t1), ("top", .int top t2)] ?ho ?hc ?hb ?h1 ?h2 ?h ?c1 ?c2 ?c3
  case ho => k_is
  case hc => k_is
  case hb => intro s X; exact BindsTo.of_eq rfl
  case h1 => kernel_rfl!
  case h2 => kernel_rfl!
  case c1 => rfl
  case c2 => rfl
  case c3 => rfl
  case h =>
    intro A s L h₁ tk r KX T F N
    have hh := r.handled
    conv in (occs := *) (fnS 25) => all_goals whnf
    conv in (fnB 25) => whnf
    simp only [List.reverse_cons, List.reverse_nil, List.nil_append, List.cons_append, bm] at F
    (show wpAny _ _ _ _ _ _); k_fold
    k_steps
    with_unfolding_all refine' For_invVF (by assumption) ?k1 ?k2 ?_
    case k1 => exact rfl
    case k2 => exact rfl
    k_steps
    refine lpRange (n := top - 31) (σ := Nat × Tok) (fun _ => []) (fun c' => [(Str.ofString "bits", .int (c'.1 : Int) c'.2)]) [Str.ofString "bits", Str.ofString "place"] (fun i c' => c'.1 < 2 ^ (top + 1 - i) ∧ red c'.1 = red bits) (bits, _) hh (by assumption) (by exact small_down (by omega) (by omega) (by omega) (by omega)) (by rw [rangeSize_downNat]; omega) (by assumption) (by assumption) (by exact ⟨rfl, trivial⟩) (by exact ⟨by simpa using h1, rfl⟩) (by rfl) (.inl fun _ _ => rfl) ?turn ?done
    case done =>
      intro c' u' h tk hp' F N
      dsimp only [lm, kstB] at F ⊢
      k_steps
      refine Ends.int (by assumption) ?_
      have h4 : top + 1 - (top - 31) = 32 := by omega
      rw [← hp'.2, red_small (by rw [h4] at hp'; exact hp'.1)]
    case turn =>
      intro c' i t' u' h tk own' hlt hp' F N
      dsimp only [lm, kstB] at F ⊢
      k_steps
      all_goals first
        | have hc : c'.1.testBit (top - i) = true := (rest_cond c'.1 (top - i) ((top : Int) + (i : Int) * -1) (by omega)).mp (by assumption)
        | have hc : ¬ c'.1.testBit (top - i) = true := fun h => absurd ((rest_cond c'.1 (top - i) ((top : Int) + (i : Int) * -1) (by omega)).mpr h) (by assumption)
      all_goals (refine TE.mk (if c'.1.testBit (top - i) then c'.1 ^^^ (P <<< (top - i - 32)) else c'.1, _) (by simp) (by assumption) (by assumption) (by intro p hp; simp only [List.mem_append, List.mem_cons, List.not_mem_nil, or_false, false_or] at hp ⊢; first | assumption | (rcases hp with h | h <;> simp [h]) | (rcases hp with h | h | h <;> simp [h]) | (rcases hp with h | h | h | h <;> simp [h])) (by refine ⟨Has.int rfl ?_, trivial⟩; simp only [hc, if_true, if_false]; first | rfl | exact rest_new _ _ (by omega) _ (by omega)) (by ksw_same) ?_)
      all_goals exact ⟨rest_lt' hlt hp'.1, (rest_red _ _).trans hp'.2⟩
end Mine
end
section
open PySem PySem.W PyProof.Rows PySem.Calls
set_option maxRecDepth 100000
set_option maxHeartbeats 4000000
set_option linter.all false
namespace Mine
local macro_rules | `(tactic| k_steps) => `(tactic| repeat' (first
  | (k_unfold; (try dsimp only))
  | ((fail_if_success (with_reducible first | show wpAny _ _ (exec (.For _ _ _ _ _) _) _ _ _ | show wpAny _ _ (exec (.While _ _ _ _) _) _ _ _ | show wpAny _ _ (pyIter _) _ _ _ | show wpAny _ _ (call (Value.ref _) _) _ _ _ | show wpAny _ _ (call (Value.builtin "chr") _) _ _ _)); walk1; (try (all_goals dsimp only)))
  | ((fail_if_success (with_reducible first | show wpAny _ _ (call (Value.ref _) _) _ _ _ | show wpAny _ _ (call (Value.builtin "chr") _) _ _ _)); dsimp only; walk1) | fail "no step"))
local macro_rules | `(tactic| walk_at "binaryOp RShift int int") => `(tactic| refine rshift_int (by omega) ?_)
theorem register_pure (w : World) (mg mb : Str → Option Value) (bits : Nat) (t1 : Tok) : Pure w mg mb 121 1 3 [.int bits t1] (fun t => .int (rev32 bits : Nat) t) := by
  refine' pure_fn (d := 0) (u := 0) [("bits", .int bits t1)] ?ho ?hc ?hb ?h1 ?h2 ?h ?c1 ?c2 ?c3
  case ho => k_is
  case hc => k_is
  case hb => intro s X; exact BindsTo.of_eq rfl
  case h1 => kernel_rfl!
  case h2 => kernel_rfl!
  case c1 => rfl
  case c2 => rfl
  case c3 => rfl
  case h =>
    intro A s L h₁ tk r KX T F N
    have hh := r.handled
    conv in (occs := *) (fnS 30) => all_goals whnf
    conv in (fnB 30) => whnf
    simp only [List.reverse_cons, List.reverse_nil, List.nil_append, List.cons_append, bm] at F
    (show wpAny _ _ _ _ _ _); k_fold
    k_steps
    with_unfolding_all refine' For_invVF (by assumption) ?k1 ?k2 ?_
    case k1 => exact rfl
    case k2 => exact rfl
    k_steps
    refine lpRange (n := 32) (σ := Nat × Tok) (fun _ => []) (fun c' => [(Str.ofString "register", .int (c'.1 : Int) c'.2)]) [Str.ofString "register", Str.ofString "place"] (fun i c' => c'.1 = revK i bits) (0, _) hh (by assumption) (by decide) (by rfl) (by assumption) (by assumption) (by exact ⟨rfl, trivial⟩) (by rfl) (by rfl) (.inl fun _ _ => rfl) ?turn ?done
    case done =>
      intro c' u' h tk hp' F N
      dsimp only [lm, kstB] at F ⊢
      k_steps
      exact Ends.int (by assumption) (by rw [hp']; rfl)
    case turn =>
      intro c' i t' u' h tk own' hlt hp' F N
      dsimp only [lm, kstB] at F ⊢
      k_steps
      refine TE.mk (revK (i + 1) bits, _) (by simp) (by assumption) (by assumption) (by intro p hp; simp only [List.mem_append, List.mem_cons, List.not_mem_nil, or_false, false_or] at hp ⊢; first | assumption | (rcases hp with h | h <;> simp [h]) | (rcases hp with h | h | h <;> simp [h]) | (rcases hp with h | h | h | h <;> simp [h])) (by refine ⟨Has.int rfl ?_, trivial⟩; rw [hp']; exact reg_new _ _ _ _ (by omega)) (by ksw_same) rfl
theorem crc_pure (w : World) (mg mb : Str → Option Value) (bits : Nat) (t1 : Tok) : Pure w mg mb 72 1 3 [.int bits t1] (fun t => .int (genCrc bits : Nat) t) := by
  refine' pure_fn (d := 0) (u := 0) [("crc", .int bits t1)] ?ho ?hc ?hb ?h1 ?h2 ?h ?c1 ?c2 ?c3
  case ho => k_is
  case hc => k_is
  case hb => intro s X; exact BindsTo.of_eq rfl
  case h1 => kernel_rfl!
  case h2 => kernel_rfl!
  case c1 => rfl
  case c2 => rfl
  case c3 => rfl
  case h =>
    intro A s L h₁ tk r KX T F N
    have hh := r.handled
    conv in (occs := *) (fnS 22) => all_goals whnf
    conv in (fnB 22) => whnf
    simp only [List.reverse_cons, List.reverse_nil, List.nil_append, List.cons_append, bm] at F
    (show wpAny _ _ _ _ _ _); k_fold
    k_steps
    with_unfolding_all refine' For_invVF (by assumption) ?k1 ?k2 ?_
    case k1 => exact rfl
    case k2 => exact rfl
    k_steps
    refine lpRange (n := 8) (σ := Nat × Tok) (fun _ => []) (fun c' => [(Str.ofString "crc", .int (c'.1 : Int) c'.2)]) [Str.ofString "crc", Str.ofString "j"] (fun i c' => c'.1 = gstepn i bits) (bits, _) hh (by assumption) (by decide) (by rfl) (by assumption) (by assumption) (by exact ⟨rfl, trivial⟩) (by rfl) (by rfl) (.inl fun _ _ => rfl) ?turn ?done
    case done =>
      intro c' u' h tk hp' F N
      dsimp only [lm, kstB] at F ⊢
      k_steps
      exact Ends.int (by assumption) (by rw [hp']; rfl)
    case turn =>
      intro c' i t' u' h tk own' hlt hp' F N
      dsimp only [lm, kstB] at F ⊢
      k_steps
      all_goals first
        | have hc : c'.1 % 2 = 1 := by have := odd_cond c'.1; simp_all; done
        | have hc : ¬ c'.1 % 2 = 1 := by have := odd_cond c'.1; simp_all; done
        | trace_state
      all_goals refine TE.mk (gstep c'.1, _) (by simp) (by assumption) (by assumption) (by intro p hp; simp only [List.mem_append, List.mem_cons, List.not_mem_nil, or_false, false_or] at hp ⊢; first | assumption | (rcases hp with h | h <;> simp [h]) | (rcases hp with h | h | h <;> simp [h]) | (rcases hp with h | h | h | h <;> simp [h])) (by refine ⟨Has.int rfl ?_, trivial⟩; simp only [gstep, hc, if_true, if_false]; simp only [shr1, xor_G]) (by ksw_same) (by show _ = _; rw [hp', gstepn_succ])
theorem folded_pure (w : World) (mg mb : Str → Option Value) (bits : Nat) (t1 : Tok) : Pure w mg mb 93 1 3 [.int bits t1] (fun t => .int (folded bits : Nat) t) := by
  refine' pure_fn (d := 0) (u := 0) [("bits", .int bits t1)] ?ho ?hc ?hb ?h1 ?h2 ?h ?c1 ?c2 ?c3
  case ho => k_is
  case hc => k_is
  case hb => intro s X; exact BindsTo.of_eq rfl
  case h1 => kernel_rfl!
  case h2 => kernel_rfl!
  case c1 => rfl
  case c2 => rfl
  case c3 => rfl
  case h =>
    intro A s L h₁ tk r KX T F N
    have hh := r.handled
    conv in (occs := *) (fnS 26) => all_goals whnf
    conv in (fnB 26) => whnf
    simp only [List.reverse_cons, List.reverse_nil, List.nil_append, List.cons_append, bm] at F
    (show wpAny _ _ _ _ _ _); k_fold
    k_steps
    with_unfolding_all refine' For_invVF (by assumption) ?k1 ?k2 ?_
    case k1 => exact rfl
    case k2 => exact rfl
    k_steps
    refine lpList (σ := Nat × Tok) _ (fun c' => [(Str.ofString "bits", .int (c'.1 : Int) c'.2)]) [Str.ofString "bits", Str.ofString "step"] (fun i c' => c'.1 = (([1, 2, 4, 8, 16, 32] : List Nat).take i).foldl (fun b k => fk k b) bits) (bits, _) hh (by exact News.get (by assumption) (.head _)) (by exact News.off (by assumption) (.head _)) (by assumption) (by assumption) (by exact ⟨rfl, trivial⟩) (by rfl) (by rfl) ?turn ?done
    case done =>
      intro c' u' h tk hp' F N
      dsimp only [lm, kstB] at F ⊢
      k_steps
      exact Ends.int (by assumption) (by rw [hp']; rfl)
    case turn =>
      intro c' i v u' h tk own' hv hp' F N
      obtain ⟨k, tv, rfl, hk⟩ : ∃ (k : Nat) (tv : Tok), v = .int (k : Int) tv ∧ ([1, 2, 4, 8, 16, 32] : List Nat)[i]? = some k := by
        rcases i with _|_|_|_|_|_|i <;> simp at hv <;> subst hv <;> first | exact ⟨1, _, rfl, rfl⟩ | exact ⟨2, _, rfl, rfl⟩ | exact ⟨4, _, rfl, rfl⟩ | exact ⟨8, _, rfl, rfl⟩ | exact ⟨16, _, rfl, rfl⟩ | exact ⟨32, _, rfl, rfl⟩
      dsimp only [lm, kstB] at F ⊢
      k_steps
      refine TE.mk (fk k c'.1, _) (by simp) (by assumption) (by assumption) (by intro p hp; simp only [List.mem_append, List.mem_cons, List.not_mem_nil, or_false, false_or] at hp ⊢; first | assumption | (rcases hp with h | h <;> simp [h]) | (rcases hp with h | h | h <;> simp [h]) | (rcases hp with h | h | h | h <;> simp [h])) (by refine ⟨Has.int rfl ?_, trivial⟩; rw [Int.toNat_natCast, shr_nat, bxor_nat]; rfl) (by ksw_same) ?_
      show _ = _
      rw [List.take_add_one, hk, List.foldl_append, hp']
      rfl
end Mine
end
section
open PySem PySem.W PyProof.Rows PySem.Calls
set_option maxRecDepth 100000
set_option maxHeartbeats 4000000
set_option linter.all false
namespace Mine
local macro_rules | `(tactic| k_steps) => `(tactic| repeat' (first
  | (k_unfold; (try dsimp only))
  | ((fail_if_success (with_reducible first | show wpAny _ _ (exec (.For _ _ _ _ _) _) _ _ _ | show wpAny _ _ (exec (.While _ _ _ _) _) _ _ _ | show wpAny _ _ (pyIter _) _ _ _ | show wpAny _ _ (call (Value.ref _) _) _ _ _ | show wpAny _ _ (call (Value.builtin "chr") _) _ _ _)); walk1; (try (all_goals dsimp only)))
  | ((fail_if_success (with_reducible first | show wpAny _ _ (call (Value.ref _) _) _ _ _ | show wpAny _ _ (call (Value.builtin "chr") _) _ _ _)); dsimp only; walk1) | fail "no step"))
local macro_rules | `(tactic| walk_at "binaryOp RShift int int") => `(tactic| refine rshift_int (by omega) ?_)
local macro_rules | `(tactic| walk_at "binaryOp LShift int int") => `(tactic| refine lshift_int_small (by omega) (by omega) (by first | decide | omega) ?_)
theorem unmoved_pure (w : World) (mg mb : Str → Option Value) (mark : Str) (t1 : Tok) (hm : (cs mark).length ≤ 2) : Pure w mg mb 100 2 6 [.str mark t1] (fun t => .int (unmoved (cs mark) : Nat) t) := by
  have hb : bitsT (cs mark) < 2 ^ 16 := Nat.lt_of_lt_of_le (bitsT_lt _) (Nat.pow_le_pow_right (by decide) (by omega))
  have hl : mark.length ≤ 2 := by rw [cs_len]; exact hm
  refine' pure_fn (d := 1) (u := 3) [("mark", .str mark t1)] ?ho ?hc ?hb ?h1 ?h2 ?h ?c1 ?c2 ?c3
  case ho => k_is
  case hc => k_is
  case hb => intro s X; exact BindsTo.of_eq rfl
  case h1 => kernel_rfl!
  case h2 => kernel_rfl!
  case c1 => rfl
  case c2 => rfl
  case c3 => rfl
  case h =>
    intro A s L h₁ tk r KX T F N
    have hh := r.handled
    conv in (occs := *) (fnS 27) => all_goals whnf
    conv in (fnB 27) => whnf
    simp only [List.reverse_cons, List.reverse_nil, List.nil_append, List.cons_append, bm] at F
    (show wpAny _ _ _ _ _ _); k_fold
    k_steps
    refine use_pure (bits_pure w mg mb mark _) (by assumption) (by rfl) (by rfl) (by assumption) (by assumption) (by assumption) (by assumption) ?_; intro t h tk F N; dsimp only
    k_steps
    rw [show ((bitsT (cs mark) : Nat) : Int) * (2 : Int) ^ Int.toNat 32 = ((bitsT (cs mark) <<< 32 : Nat) : Int) from shl_nat _ 32, show (32 : Int) + 8 * (mark.length : Int) = ((32 + 8 * (cs mark).length : Nat) : Int) by rw [cs_len]; omega]
    refine use_pure (rest_pure w mg mb (bitsT (cs mark) <<< 32) (32 + 8 * (cs mark).length) _ _ (by rw [Nat.shiftLeft_eq, Nat.add_assoc, Nat.pow_add, Nat.mul_comm]; exact Nat.mul_lt_mul_of_pos_left (Nat.lt_of_lt_of_le (bitsT_lt _) (Nat.pow_le_pow_right (by decide) (by omega))) (by decide)) (by omega) (by omega)) (by assumption) (by rfl) (by rfl) (by assumption) (by assumption) (by assumption) (by assumption) ?_; intro t h tk F N; dsimp only
    k_steps
    with_unfolding_all refine' For_invVF (by assumption) ?k1 ?k2 ?_
    case k1 => exact rfl
    case k2 => exact rfl
    k_steps
    refine lpRange (n := 8 * (cs mark).length) (σ := Nat × Tok) (fun _ => []) (fun c' => [(Str.ofString "bits", .int (c'.1 : Int) c'.2)]) [Str.ofString "bits", Str.ofString "turn"] (fun i c' => c'.1 = uturnn i (red (bitsT (cs mark) <<< 32))) (_, _) hh (by assumption) (by exact small_one (by omega) (by omega) (by omega) (by omega)) (by rw [rangeSize_nat, cs_len]; omega) (by assumption) (by assumption) (by exact ⟨rfl, trivial⟩) (by rfl) (by rfl) (.inl fun _ _ => rfl) ?turn ?done
    case done =>
      intro c' u' h tk hp' F N
      dsimp only [lm, kstB] at F ⊢
      k_steps
      exact Ends.int (by assumption) (by rw [hp']; rfl)
    case turn =>
      intro c' i t' u' h tk own' hlt hp' F N
      dsimp only [lm, kstB] at F ⊢
      k_steps
      refine use_pure (folded_pure w mg mb c'.1 _) (by assumption) (by rfl) (by rfl) (by assumption) (by assumption) (by assumption) (by assumption) ?_; intro t h tk F N; dsimp only
      k_steps
      all_goals first
        | have hc : folded c'.1 % 2 = 1 := (odd1 _).mp (by assumption)
        | have hc : ¬ folded c'.1 % 2 = 1 := fun h => absurd ((odd1 _).mpr h) (by assumption)
        | trace_state
      · rw [xor_P]
        refine use_pure (folded_pure w mg mb (c'.1 ^^^ P) _) (by assumption) (by rfl) (by rfl) (by assumption) (by assumption) (by assumption) (by assumption) ?_; intro t h tk F N; dsimp only
        k_steps
        refine TE.mk (uturn c'.1, _) (by simp) (by assumption) (by assumption) (by intro p hp; simp only [List.mem_append, List.mem_cons, List.not_mem_nil, or_false, false_or] at hp ⊢; first | assumption | (rcases hp with h | h <;> simp [h]) | (rcases hp with h | h | h <;> simp [h]) | (rcases hp with h | h | h | h <;> simp [h])) (by refine ⟨Has.int rfl ?_, trivial⟩; simp only [uturn, hc, if_true, if_false]; exact shr1 _) (by ksw_same) (by show _ = _; rw [hp']; rfl)
      · refine use_pure (folded_pure w mg mb c'.1 _) (by assumption) (by rfl) (by rfl) (by assumption) (by assumption) (by assumption) (by assumption) ?_; intro t h tk F N; dsimp only
        k_steps
        refine TE.mk (uturn c'.1, _) (by simp) (by assumption) (by assumption) (by intro p hp; simp only [List.mem_append, List.mem_cons, List.not_mem_nil, or_false, false_or] at hp ⊢; first | assumption | (rcases hp with h | h <;> simp [h]) | (rcases hp with h | h | h <;> simp [h]) | (rcases hp with h | h | h | h <;> simp [h])) (by refine ⟨Has.int rfl ?_, trivial⟩; simp only [uturn, hc, if_true, if_false]; exact shr1 _) (by ksw_same) (by show _ = _; rw [hp']; rfl)
end Mine
end
section
open PySem PySem.W PyProof.Rows PySem.Calls
set_option maxRecDepth 100000
set_option maxHeartbeats 4000000
set_option linter.all false
namespace Mine
local macro_rules | `(tactic| k_steps) => `(tactic| repeat' (first
  | (k_unfold; (try dsimp only))
  | ((fail_if_success (with_reducible first | show wpAny _ _ (exec (.For _ _ _ _ _) _) _ _ _ | show wpAny _ _ (exec (.While _ _ _ _) _) _ _ _ | show wpAny _ _ (pyIter _) _ _ _ | show wpAny _ _ (call (Value.ref _) _) _ _ _)); walk1; (try (all_goals dsimp only)))
  | ((fail_if_success (with_reducible show wpAny _ _ (call (Value.ref _) _) _ _ _)); dsimp only; walk1) | fail "no step"))
theorem plainF_nat (c : Nat) : plainF (c : Int) = plainN c := by
  have e1 : ((c : Int) == 9) = (c == 9) := by rw [Bool.eq_iff_iff]; simp; omega
  have e2 : ((c : Int) != 61) = (c != 61) := by rw [Bool.eq_iff_iff]; simp; omega
  unfold plainF plainN
  rw [e1, e2]
  congr 2
  · simp; omega
  · congr 1; simp; omega
theorem shown_pure (w : World) (mg mb : Str → Option Value) (x fg : Str) (t1 t2 : Tok) (hx : x.length ≤ 1000) (hc : ∀ c ∈ cs x, c < 256) (hf : fg.length = 16) : Pure w mg mb 135 2 6 [.str x t1, .str fg t2] (fun t => .str (tx (showT (cs fg) (cs x))) t) := by
  refine' pure_fn (d := 1) (u := 3) [("text", .str x t1), ("figures", .str fg t2)] ?ho ?hc ?hb ?h1 ?h2 ?h ?c1 ?c2 ?c3
  case ho => k_is
  case hc => k_is
  case hb => intro s X; exact BindsTo.of_eq rfl
  case h1 => kernel_rfl!
  case h2 => kernel_rfl!
  case c1 => rfl
  case c2 => rfl
  case c3 => rfl
  case h =>
    intro A s L h₁ tk r KX T F N
    have hh := r.handled
    conv in (occs := *) (fnS 32) => all_goals whnf
    conv in (fnB 32) => whnf
    simp only [List.reverse_cons, List.reverse_nil, List.nil_append, List.cons_append, bm] at F
    (show wpAny _ _ _ _ _ _); k_fold
    k_steps
    with_unfolding_all refine' For_invVF (by assumption) ?k1 ?k2 ?_
    case k1 => exact rfl
    case k2 => exact rfl
    k_steps
    refine lpText (σ := List Nat × Tok) [] (fun c => [(Str.ofString "shown", .str (tx c.1) c.2)]) [Str.ofString "shown", Str.ofString "sign"] (fun pre c => c.1 = showT (cs fg) pre) ([], _) hh (by assumption) (by assumption) (by exact ⟨rfl, trivial⟩) (by rfl) (by rfl) ?turn ?done
    case done =>
      intro c u h tk hp F N
      dsimp only [lm, kstB] at F ⊢
      k_steps
      exact Ends.str (by assumption) (by rw [hp])
    case turn =>
      intro c pre post n t u h tk own e hp F N
      have hn : n < 256 := hc n (by rw [e]; simp)
      have hcl : (tx c.1).length ≤ 3000 := by
        rw [tx_len, hp]
        have h1 := showT_len (cs fg) pre
        have h2 : (cs x).length ≤ 1000 := by rw [← cs_len]; exact hx
        rw [e] at h2; simp at h2
        omega
      dsimp only [lm, kstB] at F ⊢
      k_steps
      refine use_pure (plain_pure w mg mb (n : Int) _) (by assumption) (by rfl) (by rfl) (by assumption) (by assumption) (by assumption) (by assumption) ?_; intro t h tk F N; dsimp only
      have hm16 : 0 ≤ (n : Int).fmod 16 ∧ (n : Int).fmod 16 < 16 := by have : (n : Int).fmod 16 = ((n % 16 : Nat) : Int) := fmod_nat n 16; omega
      k_steps
      all_goals first
        | have hpl : plainN n = true := by rw [← plainF_nat]; assumption
        | have hpl : plainN n = false := by rw [← plainF_nat]; assumption
        | trace_state
      · refine TE.mk (c.1 ++ showC (cs fg) n, _) (by simp) (by assumption) (by assumption) (by intro p hp; simp only [List.mem_append, List.mem_cons, List.not_mem_nil, or_false, false_or] at hp ⊢; first | assumption | (rcases hp with h | h <;> simp [h]) | (rcases hp with h | h | h <;> simp [h]) | (rcases hp with h | h | h | h <;> simp [h])) (by refine ⟨Has.str rfl ?_, trivial⟩; rw [showC, if_pos hpl, ← tx_app]; rfl) (by ksw_same) (by show _ = _; rw [hp, showT_snoc])
      · refine TE.mk (c.1 ++ showC (cs fg) n, _) (by simp) (by assumption) (by assumption) (by intro p hp; simp only [List.mem_append, List.mem_cons, List.not_mem_nil, or_false, false_or] at hp ⊢; first | assumption | (rcases hp with h | h <;> simp [h]) | (rcases hp with h | h | h <;> simp [h]) | (rcases hp with h | h | h | h <;> simp [h])) (by refine ⟨Has.str rfl ?_, trivial⟩; rw [showC, hpl, item_tx (i := (n : Int).fdiv 16) (n / 16) (fdiv_nat n 16) (by rw [← cs_len]; omega), item_tx (i := (n : Int).fmod 16) (n % 16) (fmod_nat n 16) (by rw [← cs_len]; omega), eqs, tx_app, tx_app, tx_app]; rfl) (by ksw_same) (by show _ = _; rw [hp, showT_snoc])
end Mine
end
section
open PySem PySem.W PyProof.Rows PySem.Calls
set_option maxRecDepth 100000
set_option maxHeartbeats 4000000
set_option linter.all false
namespace Mine
theorem held_cond (b o : Nat) : Builtin.bitAnd (Builtin.bitXor (b : Int) (o : Int)) 3772834016 < Builtin.bitAnd (b : Int) 3772834016 ↔ (b ^^^ o) &&& MASK < b &&& MASK := by
  rw [bxor_nat]
  show Builtin.bitAnd _ ((MASK : Nat) : Int) < Builtin.bitAnd _ ((MASK : Nat) : Int) ↔ _
  rw [band_nat, band_nat]
  omega
theorem mask_cond (b : Nat) : Builtin.bitAnd (b : Int) 3772834016 > 0 ↔ b &&& MASK > 0 := by
  show Builtin.bitAnd _ ((MASK : Nat) : Int) > 0 ↔ _
  rw [band_nat]
  omega
theorem hall_snoc (l : List (Nat × Nat)) (o : Nat × Nat) (b p : Nat) : hall (l ++ [o]) b p = hturn (hall l b p).1 (hall l b p).2 o.1 o.2 := by simp [hall]
theorem bits_le (n k : Nat) (h : n < 2 ^ k) : (Builtin.Int.intBits (n : Int) : Int) ≤ k := by
  have := (intBits_le_iff (x := (n : Int)) (m := k)).mpr (by simpa using h)
  omega
theorem bridge_lt {state : Nat} {X : List Nat} (hs : state < 2 ^ 32) : (state <<< (8 * X.length)) ^^^ (bitsT X <<< 32) < 2 ^ (8 * X.length + 32 + 1) := by
  have h1 : state <<< (8 * X.length) < 2 ^ (8 * X.length + 32) := by rw [Nat.shiftLeft_eq, Nat.pow_add, Nat.mul_comm]; exact Nat.mul_lt_mul_of_pos_left hs (Nat.two_pow_pos _)
  have h2 : bitsT X <<< 32 < 2 ^ (8 * X.length + 32) := by rw [Nat.shiftLeft_eq, Nat.pow_add]; exact Nat.mul_lt_mul_of_pos_right (bitsT_lt X) (by decide)
  exact Nat.lt_of_lt_of_le (Nat.xor_lt_two_pow h1 h2) (Nat.pow_le_pow_right (by decide) (by omega))
theorem ats_tx : Str.ofString "@@@@@@@" = tx ats := by decide +kernel
theorem unstpn_lt' {k r : Nat} (h : r < 2 ^ 32) : unstpn k r < 2 ^ 32 := unstpn_lt h
theorem odd0 (b : Nat) : (b : Int).fmod 2 = 1 ↔ b % 2 = 1 := odd1 b
theorem five_chr (p t : Nat) (z : Int) (hz : z = (8 * t : Nat)) : ∀ f : Int, f = Builtin.bitAnd ((p : Int).fdiv (2 ^ z.toNat)) 31 →
    64 + 16 * f.fmod 2 + 8 * (f.fdiv 2).fmod 2 + 4 * (f.fdiv 4).fmod 2 + 2 * (f.fdiv 8).fmod 2 + f.fdiv 16 = ((brChar (fiveAt p t) : Nat) : Int) := by
  rintro f rfl
  have e : Builtin.bitAnd ((p : Int).fdiv (2 ^ z.toNat)) 31 = ((fiveAt p t : Nat) : Int) := by
    subst hz
    rw [Int.toNat_natCast, shr_nat]
    exact band_nat _ 31
  rw [e]
  generalize fiveAt p t = f
  have d : ∀ k : Nat, (f : Int).fdiv (k : Int) = ((f / k : Nat) : Int) := fun k => fdiv_nat f k
  have m : ∀ x : Nat, (x : Int).fmod 2 = ((x % 2 : Nat) : Int) := fun x => fmod_nat x 2
  have d2 : (f : Int).fdiv 2 = ((f / 2 : Nat) : Int) := d 2
  have d4 : (f : Int).fdiv 4 = ((f / 4 : Nat) : Int) := d 4
  have d8 : (f : Int).fdiv 8 = ((f / 8 : Nat) : Int) := d 8
  have d16 : (f : Int).fdiv 16 = ((f / 16 : Nat) : Int) := d 16
  rw [d2, d4, d8, d16, m, m, m, m]
  unfold brChar
  omega
end Mine
end
section
open PySem PySem.W PyProof.Rows PySem.Calls
set_option maxRecDepth 100000
set_option maxHeartbeats 4000000
set_option linter.all false
namespace Mine
local macro_rules | `(tactic| k_steps) => `(tactic| repeat' (first
  | (k_unfold; (try dsimp only))
  | ((fail_if_success (with_reducible first | show wpAny _ _ (exec (.For _ _ _ _ _) _) _ _ _ | show wpAny _ _ (exec (.While _ _ _ _) _) _ _ _ | show wpAny _ _ (pyIter _) _ _ _ | show wpAny _ _ (call (Value.ref _) _) _ _ _ | show wpAny _ _ (call (Value.builtin "chr") _) _ _ _)); walk1; (try (all_goals dsimp only)))
  | ((fail_if_success (with_reducible first | show wpAny _ _ (call (Value.ref _) _) _ _ _ | show wpAny _ _ (call (Value.builtin "chr") _) _ _ _)); dsimp only; walk1) | fail "no step"))
local macro_rules | `(tactic| walk_at "binaryOp RShift int int") => `(tactic| refine rshift_int (by omega) ?_)
local macro_rules | `(tactic| walk_at "binaryOp LShift int int") => `(tactic| refine lshift_int (by omega) (by omega) ?_)
theorem bridge_pure (w : World) (mg mb : Str → Option Value) (l : Addr) (state aim : Nat) (f b : List Nat) (t1 t2 t3 t4 : Tok) (hs : state < 2 ^ 32) (ha : aim < 2 ^ 32) (hf : f.length ≤ 5) (hb : b.length ≤ 1) :
    PureP w mg mb 114 2 6 [.ref l, .int state t1, .str (tx f) t2, .str (tx b) t3, .int aim t4] (fun h => HoldsPairs h l heldL) (fun v _ => ∃ t, v = .str (tx (bridgeF state aim f b)) t) := by
  have et : tx f ++ Str.ofString "@@@@@@@" ++ tx b = tx (f ++ ats ++ b) := by rw [ats_tx, tx_app, tx_app]
  have hl1 : (tx f).length ≤ 5 := by rw [tx_len]; exact hf
  have hl2 : (tx b).length ≤ 1 := by rw [tx_len]; exact hb
  have hlt : (f ++ ats ++ b).length = f.length + 7 + b.length := by simp [ats]; omega
  have hl3 : (tx f ++ Str.ofString "@@@@@@@" ++ tx b).length = f.length + 7 + b.length := by rw [et, tx_len, hlt]
  have hz1 := bits_le state 32 hs
  have hz2 : (Builtin.Int.intBits ((bitsT (f ++ ats ++ b) : Nat) : Int) : Int) ≤ 104 := bits_le _ 104 (Nat.lt_of_lt_of_le (bitsT_lt _) (Nat.pow_le_pow_right (by decide) (by rw [hlt]; omega)))
  refine' pureP_fn (d := 1) (u := 3) [("held", .ref l), ("state", .int state t1), ("front", .str (tx f) t2), ("back", .str (tx b) t3), ("aim", .int aim t4)] ?ho ?hc ?hb ?h1 ?h2 ?h ?c1 ?c2 ?c3
  case ho => k_is
  case hc => k_is
  case hb => intro s X; exact BindsTo.of_eq rfl
  case h1 => kernel_rfl!
  case h2 => kernel_rfl!
  case c1 => rfl
  case c2 => rfl
  case c3 => rfl
  case h =>
    intro A s L h₁ tk r KX T hPre F N
    have hh := r.handled
    conv in (occs := *) (fnS 29) => all_goals whnf
    conv in (fnB 29) => whnf
    simp only [List.reverse_cons, List.reverse_nil, List.nil_append, List.cons_append, bm] at F
    (show wpAny _ _ _ _ _ _); k_fold
    k_steps
    rw [et]
    refine use_pure (bits_pure w mg mb (tx (f ++ ats ++ b)) _) (by assumption) (by rfl) (by rfl) (by assumption) (by assumption) (by assumption) (by assumption) ?_; intro t h tk F N; dsimp only
    rw [cs_tx]
    k_steps
    have hl4 : (tx (f ++ ats ++ b)).length = (f ++ ats ++ b).length := tx_len _
    have ea : Builtin.bitXor ((state : Int) * 2 ^ (8 * ((tx (f ++ ats ++ b)).length : Int)).toNat) (((bitsT (f ++ ats ++ b) : Nat) : Int) * 2 ^ Int.toNat 32) = (((state <<< (8 * (f ++ ats ++ b).length)) ^^^ (bitsT (f ++ ats ++ b) <<< 32) : Nat) : Int) := by
      rw [hl4, ← bxor_nat, ← shl_nat, ← shl_nat]
      rfl
    have eb : (8 : Int) * ((tx (f ++ ats ++ b)).length : Int) + 32 = ((8 * (f ++ ats ++ b).length + 32 : Nat) : Int) := by rw [hl4]; omega
    simp only [et]
    rw [ea, eb]
    refine use_pure (rest_pure w mg mb ((state <<< (8 * (f ++ ats ++ b).length)) ^^^ (bitsT (f ++ ats ++ b) <<< 32)) (8 * (f ++ ats ++ b).length + 32) _ _ (bridge_lt hs) (by omega) (by rw [hlt]; omega)) (by assumption) (by rfl) (by rfl) (by assumption) (by assumption) (by assumption) (by assumption) ?_; intro t h tk F N; dsimp only
    rw [show red ((state <<< (8 * (f ++ ats ++ b).length)) ^^^ (bitsT (f ++ ats ++ b) <<< 32)) = crc state (f ++ ats ++ b) from rfl]
    k_steps
    have hcr : crc state (f ++ ats ++ b) ^^^ aim < 2 ^ 32 := Nat.xor_lt_two_pow (crc_lt _ _) ha
    with_unfolding_all refine' For_invVF (by assumption) ?k1 ?k2 ?_
    case k1 => exact rfl
    case k2 => exact rfl
    k_steps
    refine lpRange (n := 35 + 8 * b.length) (σ := Nat × Tok) (fun _ => []) (fun c' => [(Str.ofString "bits", .int (c'.1 : Int) c'.2)]) [Str.ofString "bits", Str.ofString "turn"] (fun i c' => c'.1 = unstpn i (crc state (f ++ ats ++ b) ^^^ aim)) (crc state (f ++ ats ++ b) ^^^ aim, _) hh (by assumption) (by exact small_one (by omega) (by omega) (by omega) (by omega)) (by rw [rangeSize_nat, tx_len]; omega) (by assumption) (by assumption) (by refine ⟨Has.int rfl ?_, trivial⟩; exact bxor_nat _ _) (by rfl) (by rfl) (.inl fun _ _ => rfl) ?turn ?done
    case turn =>
      intro c' i t' u' h tk own' hlt hp' F N
      dsimp only [lm, kstB] at F ⊢
      k_steps
      all_goals first
        | have hc : c'.1 % 2 = 1 := (odd1 _).mp (by assumption)
        | have hc : ¬ c'.1 % 2 = 1 := fun h => absurd ((odd1 _).mpr h) (by assumption)
      all_goals refine TE.mk (unstp c'.1, _) (by simp) (by assumption) (by assumption) (by intro p hp; simp only [List.mem_append, List.mem_cons, List.not_mem_nil, or_false, false_or] at hp ⊢; first | assumption | (rcases hp with h | h <;> simp [h]) | (rcases hp with h | h | h <;> simp [h]) | (rcases hp with h | h | h | h <;> simp [h])) (by refine ⟨Has.int rfl ?_, trivial⟩; simp only [unstp, hc, if_true, if_false, xor_P, shr1]) (by ksw_same) (by show _ = _; rw [hp', unstpn_succ])
    case done =>
      intro c' u' h tk hp' F N
      dsimp only [lm, kstB] at F ⊢
      k_steps
      with_unfolding_all refine' For_invTF (by assumption) ?_ ?hs1
      case hs1 => exact fun _ => rfl
      k_steps
      have hP2 := hPre.keeps F.keep
      obtain ⟨vs, nn, hv1, hv2, hv3⟩ := hPre
      refine lpPairs (pairs := heldL) (vs := vs) (nn := nn) (σ := (Nat × Nat) × Tok × Tok) [] (fun c => [(Str.ofString "bits", .int (c.1.1 : Int) c.2.1), (Str.ofString "powers", .int (c.1.2 : Int) c.2.2)]) [Str.ofString "bits", Str.ofString "powers", Str.ofString "other", Str.ofString "others"] (fun pre c => c.1 = hall pre (unstpn (35 + 8 * b.length) (crc state (f ++ ats ++ b) ^^^ aim)) 0) ((c'.1, 0), _, _) hh (by rfl) (by rfl) (by rfl) (by exact Fr.keep (by assumption) _ _ hv1) (by exact Nat.ne_of_lt (Nat.lt_of_lt_of_le (Heap.lt_size hv1) (Fr.above (by assumption)))) hv2 (fun i v h m hv F _ => by obtain ⟨T, p, ta, tb, e1, e2, o, ho, r⟩ := hv3 i v hv; exact ⟨T, p, ta, tb, e1, e2, o, F.keep _ _ ho, r⟩) (by assumption) (by assumption) (by exact ⟨rfl, rfl, trivial⟩) (by show _ = _; rw [hp']; rfl) ?turn ?done
      case turn =>
        intro c pre post p ta tb u s h tk own e hp F N
        dsimp only [lm, kstB] at F ⊢
        k_steps
        all_goals first
          | have hc : (c.1.1 ^^^ p.1) &&& MASK < c.1.1 &&& MASK := (held_cond _ _).mp (by assumption)
          | have hc : ¬ (c.1.1 ^^^ p.1) &&& MASK < c.1.1 &&& MASK := fun h => absurd ((held_cond _ _).mpr h) (by assumption)
        all_goals refine ⟨rfl, TE.mk (hturn c.1.1 c.1.2 p.1 p.2, _, _) (by simp) (by assumption) (by assumption) (by intro p hp; simp only [List.mem_append, List.mem_cons, List.not_mem_nil, or_false, false_or] at hp ⊢; first | assumption | (rcases hp with h | h <;> simp [h]) | (rcases hp with h | h | h <;> simp [h]) | (rcases hp with h | h | h | h <;> simp [h])) (by refine ⟨Has.int rfl ?_, Has.int rfl ?_, trivial⟩ <;> simp only [hturn, hc, if_true, if_false, bxor_nat]) (by ksw_same) (by show _ = _; rw [hall_snoc, ← hp])⟩
      case done =>
        intro c u h tk hp F N
        dsimp only [lm, kstB] at F ⊢
        k_steps
        with_unfolding_all refine' For_invVF (by assumption) ?k1 ?k2 ?_
        case k1 => exact rfl
        case k2 => exact rfl
        k_steps
        refine lpRange (n := 7) (σ := List Nat × Tok × Tok) (fun _ => []) (fun c' => [(Str.ofString "bridge", .str (tx c'.1) c'.2.1), (Str.ofString "powers", .int ((c.1.2 ^^^ c.1.1 : Nat) : Int) c'.2.2)]) [Str.ofString "bridge", Str.ofString "powers", Str.ofString "five", Str.ofString "turn"] (fun i c' => c'.1 = ((fives (c.1.2 ^^^ c.1.1)).take i).map brChar) ([], _, _) hh (by assumption) (by decide) (by rfl) (by assumption) (by assumption) (by refine ⟨rfl, Has.int rfl ?_, trivial⟩; exact bxor_nat _ _) (by rfl) (by rfl) (.inl fun _ _ => rfl) ?turn ?done
        case turn =>
          intro c' i t' u' h tk own' hlt hp' F N
          have hcl : (tx c'.1).length ≤ 7 := by rw [tx_len, hp']; simp [fives]; omega
          have hfv : (fives (c.1.2 ^^^ c.1.1))[i]? = some (fiveAt (c.1.2 ^^^ c.1.1) (6 - i)) := by
            rcases i with _|_|_|_|_|_|_|i <;> first | rfl | omega
          have hbr := brChar_range (fiveAt (c.1.2 ^^^ c.1.1) (6 - i)) (fives_lt _ _ (List.mem_of_getElem? hfv))
          dsimp only [lm, kstB] at F ⊢
          k_steps
          rw [five_chr (c.1.2 ^^^ c.1.1) (6 - i) (8 * (6 + (i : Int) * -1)) (by omega) _ rfl]
          walk1
          k_steps
          refine TE.mk (c'.1 ++ [brChar (fiveAt (c.1.2 ^^^ c.1.1) (6 - i))], _, _) (by simp) (by assumption) (by assumption) (by intro p hp; simp only [List.mem_append, List.mem_cons, List.not_mem_nil, or_false, false_or] at hp ⊢; first | assumption | (rcases hp with h | h <;> simp [h]) | (rcases hp with h | h | h <;> simp [h]) | (rcases hp with h | h | h | h <;> simp [h])) (by refine ⟨Has.str rfl ?_, rfl, trivial⟩; rw [← tx_app]; rfl) (by ksw_same) (by show _ = _; rw [hp', List.take_add_one, hfv]; simp)
        case done =>
          intro c' u' h tk hp' F N
          dsimp only [lm, kstB] at F ⊢
          k_steps
          refine ⟨_, _, _, rfl, rfl, Fr.keep (by assumption), _, congrArg (fun z => Value.str (tx z) _) ?_⟩
          rw [hp']
          have : c.1.2 ^^^ c.1.1 = powersF state aim f b := by unfold powersF; rw [← hp]
          rw [this]
          rfl
end Mine
end
section
open PySem PySem.W PyProof.Rows PySem.Calls
set_option maxRecDepth 100000
set_option maxHeartbeats 4000000
set_option linter.all false
namespace Mine
local macro_rules | `(tactic| k_steps) => `(tactic| repeat' (first
  | (k_unfold; (try dsimp only))
  | ((fail_if_success (with_reducible first | show wpAny _ _ (exec (.For _ _ _ _ _) _) _ _ _ | show wpAny _ _ (exec (.While _ _ _ _) _) _ _ _ | show wpAny _ _ (pyIter _) _ _ _ | show wpAny _ _ (call (Value.ref _) _) _ _ _ | show wpAny _ _ (call (Value.builtin "chr") _) _ _ _ | show wpAny _ _ (call (Value.type "int") _) _ _ _ | show wpAny _ _ (call (Value.builtin "str.translate") _) _ _ _)); walk1; (try (all_goals dsimp only)))
  | ((fail_if_success (with_reducible first | show wpAny _ _ (call (Value.ref _) _) _ _ _ | show wpAny _ _ (call (Value.builtin "chr") _) _ _ _ | show wpAny _ _ (call (Value.type "int") _) _ _ _ | show wpAny _ _ (call (Value.builtin "str.translate") _) _ _ _)); dsimp only; walk1) | fail "no step"))
local macro_rules | `(tactic| walk_at "binaryOp LShift int int") => `(tactic| refine lshift_int (by omega) (by first | (have : Builtin.Int.intBits 1 = 1 := by decide +kernel); omega | omega) ?_)
/-- the held pairs in the making -/
structure HS where
  vs : List Value
  nn : Nat
  tups : List (Addr × Obj)
noncomputable def HS.ok (c : HS) (pairs : List (Nat × Nat)) : Prop := c.vs.length = pairs.length ∧ (∀ p ∈ c.tups, p.2.cls = .type "tuple") ∧
  ∀ (i : Nat) v, c.vs[i]? = some v → ∃ (T : Addr) (p : Nat × Nat) (ta tb : Tok) (o : Obj) (n : Nat), pairs[i]? = some p ∧ v = Value.ref T ∧ (T, o) ∈ c.tups ∧ o.cls = .type "tuple" ∧ o.data = .seq #[.int p.1 ta, .int p.2 tb] n
theorem heldF_succ (n : Nat) : heldF (n + 1) = hpower (heldF n) (32 + n) := by simp [heldF, List.range_succ]
theorem HS.ok_nil : HS.ok ⟨[], 0, []⟩ (heldF 0) := by
  refine ⟨rfl, fun p h => ?_, fun i v h => ?_⟩
  · cases h
  · simp at h
theorem HS.ok_cls {c : HS} {pairs : List (Nat × Nat)} {l : Addr} (hc : c.ok pairs) : ∀ p ∈ (l, listOf c.vs.toArray c.nn) :: c.tups, p.2.cls ≠ .type "range_iterator" := by
  intro p hp
  rcases List.mem_cons.mp hp with e | e
  · rw [e]; simp [W.listOf]
  · rw [hc.2.1 p e]; simp
theorem HS.ok_add {c : HS} {pairs : List (Nat × Nat)} {T : Addr} {o : Obj} {p : Nat × Nat} {ta tb : Tok} {n nn : Nat} (hc : c.ok pairs) (h1 : o.cls = .type "tuple") (h2 : o.data = .seq #[.int p.1 ta, .int p.2 tb] n) : HS.ok ⟨c.vs ++ [.ref T], nn, (T, o) :: c.tups⟩ (pairs ++ [p]) := by
  obtain ⟨a1, a2, a3⟩ := hc
  refine ⟨by simp [a1], fun q hq => ?_, fun i v hv => ?_⟩
  · rcases List.mem_cons.mp hq with e | e
    · rw [e]; exact h1
    · exact a2 q e
  · by_cases hi : i < c.vs.length
    · have hv' : c.vs[i]? = some v := by
        have : (c.vs ++ [Value.ref T])[i]? = some v := hv
        rwa [List.getElem?_append_left hi] at this
      obtain ⟨T', p', ta', tb', o', n', e1, e2, e3, e4, e5⟩ := a3 i v hv'
      exact ⟨T', p', ta', tb', o', n', by rw [List.getElem?_append_left (by omega)]; exact e1, e2, .tail _ e3, e4, e5⟩
    · have hv' : (c.vs ++ [Value.ref T])[i]? = some v := hv
      rw [List.getElem?_append_right (by omega)] at hv'
      have hi0 : i - c.vs.length = 0 := by
        rcases Nat.eq_zero_or_pos (i - c.vs.length) with e | e
        · exact e
        · rw [List.getElem?_eq_none (by simp; omega)] at hv'; cases hv'
      rw [hi0] at hv'
      refine ⟨T, p, ta, tb, o, n, ?_, (Option.some.inj hv').symm, .head _, h1, h2⟩
      rw [List.getElem?_append_right (by omega)]
      have : i - pairs.length = 0 := by omega
      rw [this]; rfl
theorem HS.holds {c : HS} {pairs : List (Nat × Nat)} {l L : Addr} {h₀ h : Heap} (hc : c.ok pairs) (N : News h₀ L h ((l, listOf c.vs.toArray c.nn) :: c.tups)) : HoldsPairs h l pairs := by
  refine ⟨c.vs, c.nn, News.get N (.head _), hc.1, fun i v hv => ?_⟩
  obtain ⟨T, p, ta, tb, o, n, e1, e2, e3, e4, e5⟩ := hc.2.2 i v hv
  exact ⟨T, p, ta, tb, e1, e2, o, News.get N (.tail _ e3), e4, n, e5⟩
theorem pow_cond (i : Nat) : ((32 : Int) + (i : Int) * 1).fmod 8 < 5 ↔ (32 + i) % 8 < 5 := by
  have e : ((32 : Int) + (i : Int) * 1) = ((32 + i : Nat) : Int) := by omega
  have : ((32 + i : Nat) : Int).fmod 8 = (((32 + i) % 8 : Nat) : Int) := fmod_nat _ 8
  rw [e, this]; omega
theorem red_one (k : Nat) : red (1 <<< k) = stpn k 1 := by rw [red_shift, red_small (by decide)]
theorem hpower_len (h : List (Nat × Nat)) (p : Nat) : (hpower h p).length ≤ h.length + 1 := by
  unfold hpower
  split
  · split
    · simp
    · omega
  · omega
theorem heldF_len : ∀ n, (heldF n).length ≤ n := by
  intro n
  induction n with
  | zero => exact Nat.le_refl _
  | succ n ih => rw [heldF_succ]; exact Nat.le_trans (hpower_len _ _) (by omega)
theorem HS.off {c : HS} {pairs : List (Nat × Nat)} {l L : Addr} {h₀ h : Heap} {news : List (Addr × Obj)} (hc : c.ok pairs) (N : News h₀ L h news) (hl : (l, listOf c.vs.toArray c.nn) ∈ news) (hs : ∀ p ∈ c.tups, p ∈ news) : ∀ p ∈ c.tups, p.1 ≠ l := by
  intro p hp e
  have h1 := (N p (hs p hp)).1
  have h2 := News.get N hl
  rw [e, h2] at h1
  have h3 := hc.2.1 p hp
  rw [← Option.some.inj h1] at h3
  simp [W.listOf] at h3
/-- what _law_held leaves: a list of pairs, all of it new -/
noncomputable def HeldAt (H : Heap) (v : Value) (h : Heap) : Prop := ∃ (l : Addr) (c : HS), v = .ref l ∧ c.ok heldL ∧ ∀ p ∈ (l, listOf c.vs.toArray c.nn) :: c.tups, h.get? p.1 = some p.2 ∧ H.get? p.1 = none
theorem held_pure (w : World) (mg mb : Str → Option Value) (H : Heap) : PureP w mg mb 107 2 6 [] (fun h => h = H) (HeldAt H) := by
  refine' pureP_fn (d := 1) (u := 3) [] ?ho ?hc ?hb ?h1 ?h2 ?h ?c1 ?c2 ?c3
  case ho => k_is
  case hc => k_is
  case hb => intro s X; exact BindsTo.of_eq rfl
  case h1 => kernel_rfl!
  case h2 => kernel_rfl!
  case c1 => rfl
  case c2 => rfl
  case c3 => rfl
  case h =>
    intro A s L h₁ tk r KX T hPre F N
    have hh := r.handled
    conv in (occs := *) (fnS 28) => all_goals whnf
    conv in (fnB 28) => whnf
    simp only [List.reverse_nil, bm] at F
    (show wpAny _ _ _ _ _ _); k_fold
    k_steps
    with_unfolding_all refine' For_invVF (by assumption) ?k1 ?k2 ?_
    case k1 => exact rfl
    case k2 => exact rfl
    k_steps
    rename_i l hA hA1 hB F1 N1 hC tk1 t1 u1 v1 a3 a2 a1 a0
    have ib : Builtin.Int.intBits 1 = 1 := by decide +kernel
    refine lpRangeO (n := 21) (σ := HS) (fun c => (l, listOf c.vs.toArray c.nn) :: c.tups) (fun _ => [(Str.ofString "held", .ref l)]) [Str.ofString "power", Str.ofString "bits", Str.ofString "powers", Str.ofString "other", Str.ofString "others"] (fun i c => c.ok (heldF i)) ⟨[], 0, []⟩ hh a3 (by decide) (by rfl) a2 a1 (by exact ⟨rfl, trivial⟩) HS.ok_nil (by rfl) (.inr fun i c hc => HS.ok_cls hc) ?turn ?done
    case done =>
      intro c u h tk hp F N
      dsimp only [lm, kstB] at F ⊢
      k_steps
      exact ⟨_, _, _, rfl, rfl, Fr.keep (by assumption), l, c, rfl, by rw [← heldL_eq]; exact hp, fun p hp => ⟨(N p hp).1, hPre ▸ (N p hp).2.2⟩⟩
    case turn =>
      intro c i t u h tk own hi hp F N hoff
      dsimp only [lm, kstB] at F ⊢
      k_steps
      · have hc : (32 + i) % 8 < 5 := (pow_cond i).mp (by assumption)
        have e1 : (1 : Int) * (2 : Int) ^ ((32 : Int) + (i : Int) * 1).toNat = ((1 <<< (32 + i) : Nat) : Int) := by
          have : ((32 : Int) + (i : Int) * 1).toNat = 32 + i := by omega
          rw [this]; exact shl_nat 1 _
        have e2 : ((32 : Int) + (i : Int) * 1) = ((32 + i : Nat) : Int) := by omega
        rw [e1]
        rw [show Value.int ((32 : Int) + (i : Int) * 1) t = Value.int ((32 + i : Nat) : Int) t by rw [e2]]
        refine use_pure (rest_pure w mg mb (1 <<< (32 + i)) (32 + i) _ _ (by rw [Nat.shiftLeft_eq, Nat.one_mul]; exact Nat.pow_lt_pow_right (by decide) (by omega)) (by omega) (by omega)) (by assumption) (by rfl) (by rfl) (by assumption) (by assumption) (by assumption) (by assumption) ?_; intro t h tk F N; dsimp only
        rw [red_one]
        k_steps
        with_unfolding_all refine' For_invTF (by assumption) ?_ ?hs1
        case hs1 => exact fun _ => rfl
        k_steps
        refine lpPairs (pairs := heldF i) (vs := c.vs) (nn := c.nn) (σ := (Nat × Nat) × Tok × Tok) ((l, listOf c.vs.toArray c.nn) :: c.tups ++ own) (fun c => [(Str.ofString "bits", .int (c.1.1 : Int) c.2.1), (Str.ofString "powers", .int (c.1.2 : Int) c.2.2)]) [Str.ofString "bits", Str.ofString "powers", Str.ofString "other", Str.ofString "others"] (fun pre c => c.1 = hall pre (stpn (32 + i) 1) (1 <<< (32 + i))) ((_, _), _, _) hh (by rfl) (by rfl) (by rfl) (by exact News.get (by assumption) (.head _)) (by exact News.off (by assumption) (.head _)) hp.1 (fun i v h m hv _ N => by obtain ⟨T, p, ta, tb, o, n, e1, e2, e3, e4, e5⟩ := hp.2.2 i v hv; exact ⟨T, p, ta, tb, e1, e2, o, News.get N (List.mem_append_left _ (.tail _ e3)), e4, n, e5⟩) (by assumption) (by assumption) (by refine ⟨rfl, Has.int rfl ?_, trivial⟩; exact e1) (by rfl) ?turn ?done
        case turn =>
          intro c pre post p ta tb u s h tk own e hp F N
          dsimp only [lm, kstB] at F ⊢
          k_steps
          all_goals first
            | have hc : (c.1.1 ^^^ p.1) &&& MASK < c.1.1 &&& MASK := (held_cond _ _).mp (by assumption)
            | have hc : ¬ (c.1.1 ^^^ p.1) &&& MASK < c.1.1 &&& MASK := fun h => absurd ((held_cond _ _).mpr h) (by assumption)
          all_goals refine ⟨rfl, TE.mk (hturn c.1.1 c.1.2 p.1 p.2, _, _) (by simp) (by assumption) (by assumption) (by intro p hp; simp only [List.mem_append, List.mem_cons, List.not_mem_nil, or_false, false_or] at hp ⊢; first | assumption | (rcases hp with h | h <;> simp [h]) | (rcases hp with h | h | h <;> simp [h]) | (rcases hp with h | h | h | h <;> simp [h])) (by refine ⟨Has.int rfl ?_, Has.int rfl ?_, trivial⟩ <;> simp only [hturn, hc, if_true, if_false, bxor_nat]) (by ksw_same) (by show _ = _; rw [hall_snoc, ← hp])⟩
        case done =>
          intro c' u' h tk hp' F N
          dsimp only [lm, kstB] at F ⊢
          k_steps
          · rename_i D hX FX N9 l1
            have hc2 : c'.1.1 &&& MASK > 0 := (mask_cond _).mp (by assumption)
            have hlen := heldF_len i
            refine app_list (rest := (D, ({ cls := Value.type "tuple", data := Data.seq #[Value.int (↑c'.fst.fst) c'.snd.fst, Value.int (↑c'.fst.snd) c'.snd.snd] } : Obj)) :: (c.tups ++ own)) (by assumption) N9 (by exact .tail _ (.head _)) (by simp [hp.1]; omega) (fun p hp9 => ?_) ?_
            · rcases List.mem_cons.mp hp9 with e | e
              · refine ⟨by rw [e]; exact .head _, ?_⟩
                rw [e]
                exact Nat.ne_of_gt (l1 _ (.head _))
              · refine ⟨.tail _ (.tail _ e), ?_⟩
                rcases List.mem_append.mp e with e | e
                · exact HS.off hp N9 (.tail _ (.head _)) (fun p hp => .tail _ (.tail _ (List.mem_append_left _ hp))) p e
                · exact hoff p e _ (.head _)
            intro h' F N
            dsimp only
            k_steps
            refine TE.mk ⟨c.vs ++ [.ref D], c.nn + 1, (D, ({ cls := Value.type "tuple", data := Data.seq #[Value.int (↑c'.fst.fst) c'.snd.fst, Value.int (↑c'.fst.snd) c'.snd.snd] } : Obj)) :: c.tups⟩ (by simp) (by assumption) (by rw [List.push_toArray] at N; exact N) (by intro p hp; simp only [List.mem_append, List.mem_cons, List.not_mem_nil, or_false, false_or] at hp ⊢; first | assumption | (rcases hp with h | h <;> simp [h]) | (rcases hp with h | h | h <;> simp [h]) | (rcases hp with h | h | h | h <;> simp [h])) (by exact ⟨rfl, trivial⟩) (by ksw_same) ?_
            show HS.ok _ _
            rw [heldF_succ, hpower, if_pos hc, ← hp', if_pos hc2]
            exact HS.ok_add hp rfl rfl
          · have hc2 : ¬ c'.1.1 &&& MASK > 0 := fun h => absurd ((mask_cond _).mpr h) (by assumption)
            refine TE.mk c (by simp) (by assumption) (by assumption) (by intro p hp; simp only [List.mem_append, List.mem_cons, List.not_mem_nil, or_false, false_or] at hp ⊢; first | assumption | (rcases hp with h | h <;> simp [h]) | (rcases hp with h | h | h <;> simp [h]) | (rcases hp with h | h | h | h <;> simp [h])) (by exact ⟨rfl, trivial⟩) (by ksw_same) (by show HS.ok _ _; rw [heldF_succ, hpower, if_pos hc, ← hp', if_neg hc2]; exact hp)
      · have hc : ¬ (32 + i) % 8 < 5 := fun h => absurd ((pow_cond i).mpr h) (by assumption)
        refine TE.mk c (by simp) (by assumption) (by assumption) (by intro p hp; simp only [List.mem_append, List.mem_cons, List.not_mem_nil, or_false, false_or] at hp ⊢; first | assumption | (rcases hp with h | h <;> simp [h]) | (rcases hp with h | h | h <;> simp [h]) | (rcases hp with h | h | h | h <;> simp [h])) (by exact ⟨rfl, trivial⟩) (by ksw_same) (by show HS.ok _ _; rw [heldF_succ, hpower, if_neg hc]; exact hp)
end Mine
end
section
open PySem PySem.W PyProof.Rows PySem.Calls
set_option maxRecDepth 100000
set_option maxHeartbeats 4000000
set_option linter.all false
namespace Mine
open PySem.NumText
theorem wp_text16 {M : Model} {A : Around} {E : Value → Shared → Prop} {s : Shared} {Q : Value → Shared → Prop} {v : Value} {text : List Nat} {n : Int}
    (hs : (text.takeWhile (· != 0)).length ≤ 640) (hr : (int_private% "readNumeral") 0 16 (text.takeWhile (· != 0)) = (int_private% "Numeral.value") n)
    (ha : ((text.takeWhile (· != 0)).length == text.length) = true) (h : Q (.int n s.toks) { s with toks := s.toks + 1 }) :
    wpAny M A ((int_private% "intFromText") v text 16) Q E s := by
  obtain ⟨hp, g, d, tk, os⟩ := s
  repeat (any_goals (first
    | assumption
    | (with_reducible refine wpAny_ite_true (decide_eq_true hs) ?_)
    | (with_reducible refine wpAny_ite_true (decide_eq_true ha) ?_)
    | wp_step))
  all_goals (try rw [hr])
  all_goals (try dsimp only)
  repeat (any_goals (first
    | assumption
    | (with_reducible refine wpAny_ite_true (decide_eq_true hs) ?_)
    | (with_reducible refine wpAny_ite_true (decide_eq_true ha) ?_)
    | wp_step))
noncomputable def hexes : List Nat := [48, 49, 50, 51, 52, 53, 54, 55, 56, 57, 65, 66, 67, 68, 69, 70, 97, 98, 99, 100, 101, 102]
noncomputable def hexv (c : Nat) : Nat := if c < 58 then c - 48 else if c < 71 then c - 55 else c - 87
structure Hex2 (a b : Nat) : Prop where
  small : (tx [a, b]).cps.all (· < 128) = true
  seen : (([a, b] : List Nat).takeWhile (· != 0)).length ≤ 640
  whole : ((([a, b] : List Nat).takeWhile (· != 0)).length == ([a, b] : List Nat).length) = true
  reads : (int_private% "readNumeral") 0 16 (([a, b] : List Nat).takeWhile (· != 0)) = (int_private% "Numeral.value") ((16 * hexv a + hexv b : Nat) : Int)
theorem hex_texts : ∀ a ∈ hexes, ∀ b ∈ hexes, (tx [a, b]).cps.all (· < 128) = true ∧ (([a, b] : List Nat).takeWhile (· != 0)).length ≤ 640 ∧ ((([a, b] : List Nat).takeWhile (· != 0)).length == ([a, b] : List Nat).length) = true := by decide +kernel
theorem hex_reads : hexes.map (fun a => hexes.map fun b => (int_private% "readNumeral") 0 16 (([a, b] : List Nat).takeWhile (· != 0))) = hexes.map (fun a => hexes.map fun b => (int_private% "Numeral.value") ((16 * hexv a + hexv b : Nat) : Int)) := by kernel_rfl
theorem hex2_of {a b : Nat} (ha : a ∈ hexes) (hb : b ∈ hexes) : Hex2 a b := by
  obtain ⟨h1, h2, h3⟩ := hex_texts a ha b hb
  exact ⟨h1, h2, h3, List.map_inj_left.mp (List.map_inj_left.mp hex_reads a ha) b hb⟩
theorem wp_hex {M : Model} {A : Around} {E : Value → Shared → Prop} {s : Shared} {Q : Value → Shared → Prop} {v : Value} {a b : Nat} (hx : Hex2 a b) (h : Q (.int ((16 * hexv a + hexv b : Nat) : Int) s.toks) { s with toks := s.toks + 1 }) :
    wpAny M A ((int_private% "intFromText") v (if (tx [a, b]).cps.all (· < 128) = true then (tx [a, b]).cps.toList else Unicode.numberText (tx [a, b]).cps.toList) (Int.toNat 16)) Q E s := by
  rw [if_pos hx.small]
  exact wp_text16 (text := [a, b]) hx.seen hx.reads hx.whole h
structure Hid2 (p : Prop) : Prop where
  out : p
theorem gives_hex {a b : Nat} {u u2 : Tok} (hx : Hex2 a b) : Gives (Builtin.«int.__new__» ⟨[.type "int", .str (tx [a, b]) u, .int 16 u2], []⟩) (.int ((16 * hexv a + hexv b : Nat) : Int)) :=
  .of_wp fun M A E s Q h => by
    obtain ⟨hp, g, d, tk, os⟩ := s
    have f1 := F.conv_sub_int
    have f2 := F.madeHere_int
    have f6 : typeOf (.str (tx [a, b]) u) = pure (.type "str") := rfl
    have f7 := hx.small
    have hk := Hid2.mk hx
    clear hx
    repeat (any_goals (first
      | assumption
      | ((with_reducible show wpAny _ _ ((int_private% "intFromText") _ _ _) _ _ _); refine wp_hex hk.out ?_)
      | wp_step))
    all_goals first | exact ⟨_, rfl, h⟩ | skip
theorem typeCall_int_2 (a b : Value) : checkTypeCall "int" ⟨[a, b], []⟩ = pure () := by kernel_rfl
theorem newCall_int_2 (a b : Value) : checkBuiltinCall "int.__new__" ⟨[.type "int", a, b], []⟩ = pure () := by kernel_rfl
theorem call_hex {w : World} {A : Around} {E : Value → Shared → Prop} {s : Shared} {Q : Value → Shared → Prop} {a b : Nat} {t t2 : Tok} (hx : Hex2 a b) (h : Q (.int ((16 * hexv a + hexv b : Nat) : Int) s.toks) { s with toks := s.toks + 1 }) :
    wpAny (model pw w) A (call (.type "int") [.str (tx [a, b]) t, .int 16 t2]) Q E s :=
  callType_new F.called_int F.newNe_int (typeCall_int_2 _ _) (newCall_int_2 _ _) (fun obj => F.args_object_init_3 obj _ _) F.entry_int_new (gives_hex hx).meets (show (Made.int _).post _ s from ⟨rfl, h⟩)
end Mine
namespace Mine
theorem slice_tx (l : List Nat) (i j : Nat) (a b : Int) (ha : a = (i : Int)) (hb : b = (j : Int)) (h1 : i ≤ j) (h2 : j ≤ l.length) : Txt.slice (tx l) (some a) (some b) = tx ((l.drop i).take (j - i)) := by
  subst ha hb
  have h := slice_closesL (x := tx l) (i := (i : Int)) (j := (j : Int)) (by omega) (by omega) (by rw [tx_len]; omega)
  have h := eq_of_beq h
  rw [h]
  have e1 : (i : Int).toNat = i := Int.toNat_natCast i
  have e2 : ((j : Int) - (i : Int)).toNat = j - i := by omega
  rw [e1, e2]
  rfl
theorem slice_to (l : List Nat) (j : Nat) (b : Int) (hb : b = (j : Int)) (h2 : j ≤ l.length) : Txt.slice (tx l) none (some b) = tx (l.take j) := by
  subst hb
  have h := slice_closes_toL (x := tx l) (j := (j : Int)) (by omega) (by rw [tx_len]; omega)
  have h := eq_of_beq h
  rw [h]
  have e2 : ((j : Int) - 0).toNat = j := by omega
  rw [e2]
  rfl
theorem slice_from (l : List Nat) (i : Nat) (a : Int) (ha : a = (i : Int)) (h2 : i ≤ l.length) : Txt.slice (tx l) (some a) none = tx (l.drop i) := by
  subst ha
  have h := slice_closes_fromL (x := tx l) (i := (i : Int)) (b := ((tx l).length : Int)) (by omega) (by rw [tx_len]; omega) rfl
  have h := eq_of_beq h
  rw [h, tx_len]
  have e1 : (i : Int).toNat = i := Int.toNat_natCast i
  have e2 : ((l.length : Int) - (i : Int)).toNat = l.length - i := by omega
  rw [e1, e2, List.take_of_length_le (by show (((tx l).cps.toList).drop i).length ≤ _; rw [List.length_drop]; exact Nat.le_refl _)]
  rfl
end Mine
end
section
open PySem PySem.W PyProof.Rows PySem.Calls
set_option maxRecDepth 100000
set_option maxHeartbeats 4000000
set_option linter.all false
namespace Mine
local macro_rules | `(tactic| k_steps) => `(tactic| repeat' (first
  | (k_unfold; (try dsimp only))
  | ((fail_if_success (with_reducible first | show wpAny _ _ (exec (.For _ _ _ _ _) _) _ _ _ | show wpAny _ _ (exec (.While _ _ _ _) _) _ _ _ | show wpAny _ _ (pyIter _) _ _ _ | show wpAny _ _ (call (Value.ref _) _) _ _ _ | show wpAny _ _ (call (Value.builtin "chr") _) _ _ _ | show wpAny _ _ (call (Value.type "int") _) _ _ _)); walk1; (try (all_goals dsimp only)))
  | ((fail_if_success (with_reducible first | show wpAny _ _ (call (Value.ref _) _) _ _ _ | show wpAny _ _ (call (Value.builtin "chr") _) _ _ _ | show wpAny _ _ (call (Value.type "int") _) _ _ _)); dsimp only; walk1) | fail "no step"))
theorem unquote_pure (w : World) (mg mb : Str → Option Value) (a b : Nat) (t1 : Tok) (hx : Hex2 a b) (hn : 16 * hexv a + hexv b < 256) : Pure w mg mb 37 1 3 [.str (tx [61, a, b]) t1] (fun t => .str (tx [16 * hexv a + hexv b]) t) := by
  have hl : (tx [61, a, b]).length = 3 := by rw [tx_len]; rfl
  refine' pure_fn (d := 0) (u := 0) [("s", .str (tx [61, a, b]) t1)] ?ho ?hc ?hb ?h1 ?h2 ?h ?c1 ?c2 ?c3
  case ho => k_is
  case hc => k_is
  case hb => intro s X; exact BindsTo.of_eq rfl
  case h1 => kernel_rfl!
  case h2 => kernel_rfl!
  case c1 => rfl
  case c2 => rfl
  case c3 => rfl
  case h =>
    intro A s L h₁ tk r KX T F N
    have hh := r.handled
    conv in (occs := *) (fnS 14) => all_goals whnf
    conv in (fnB 14) => whnf
    simp only [List.reverse_cons, List.reverse_nil, List.nil_append, List.cons_append, bm] at F
    (show wpAny _ _ _ _ _ _); k_fold
    k_steps
    rw [slice_tx [61, a, b] 1 3 1 3 rfl rfl (by decide) (by simp)]
    refine call_hex hx ?_
    dsimp only
    k_steps
    walk1
    k_steps
    exact Ends.str (by assumption) rfl
end Mine
end
section
open PySem PySem.W PyProof.Rows PySem.Calls
set_option maxRecDepth 100000
set_option maxHeartbeats 4000000
set_option linter.all false
namespace Mine
noncomputable def isHex (c : Nat) : Bool := hexes.contains c
/-- what a line decodes to, its end with it -/
noncomputable def decL (m : List Nat) : List Nat → List Nat
  | [] => m
  | c :: r =>
    if c = 61 then
      if r = [] then [] else if isHex (r.getD 0 0) && isHex (r.getD 1 0) then (16 * hexv (r.getD 0 0) + hexv (r.getD 1 0)) :: decL m (r.drop 2) else 61 :: decL m r
    else c :: decL m r
termination_by l => l.length
decreasing_by all_goals simp <;> omega
noncomputable def decD (m : List Nat) (lines : List (List Nat × List Nat)) : List Nat := lines.flatMap fun p => decL m p.2
theorem decL_nil (m : List Nat) : decL m [] = m := by rw [decL]
theorem decL_ne {m r : List Nat} {c : Nat} (h : c ≠ 61) : decL m (c :: r) = c :: decL m r := by rw [decL]; simp [h]
theorem decL_soft (m : List Nat) : decL m [61] = [] := by rw [decL]; simp
theorem decL_hex {m r : List Nat} {a b : Nat} (h : (isHex a && isHex b) = true) : decL m (61 :: a :: b :: r) = (16 * hexv a + hexv b) :: decL m r := by rw [decL]; simp [h]
theorem decL_not {m r : List Nat} (hr : r ≠ []) (h : (isHex (r.getD 0 0) && isHex (r.getD 1 0)) = false) : decL m (61 :: r) = 61 :: decL m r := by rw [decL]; rw [if_pos rfl, if_neg hr, h]; rfl
theorem strv {l : List (Str × Tok)} {lines : List (List Nat × List Nat)} {i : Nat} {v : Value} (h1 : l.map (fun x => x.1) = lines.map fun p => tx p.1) (h2 : (strValues l)[i]? = some v) : ∃ (p : List Nat × List Nat) (t : Tok), lines[i]? = some p ∧ v = .str (tx p.1) t := by
  have h3 : (l.map (fun x => x.1))[i]? = (lines.map fun p => tx p.1)[i]? := by rw [h1]
  rw [List.getElem?_map, List.getElem?_map] at h3
  unfold strValues at h2
  rw [List.getElem?_map] at h2
  cases hl : l[i]? with
  | none => rw [hl] at h2; cases h2
  | some q =>
    rw [hl] at h2 h3
    cases hq : lines[i]? with
    | none => rw [hq] at h3; cases h3
    | some p =>
      rw [hq] at h3
      obtain ⟨y, t⟩ := q
      have h4 : y = tx p.1 := Option.some.inj h3
      exact ⟨p, t, rfl, by rw [← h4]; exact (Option.some.inj h2).symm⟩
end Mine
namespace Mine
theorem decD_snoc {m : List Nat} {lines : List (List Nat × List Nat)} {i : Nat} {p : List Nat × List Nat} (h : lines[i]? = some p) : decD m (lines.take (i + 1)) = decD m (lines.take i) ++ decL m p.2 := by
  rw [List.take_add_one, h]
  simp [decD]
theorem tx_inj {a b : List Nat} (h : tx a = tx b) : a = b := by
  have := congrArg cs h
  simpa [cs_tx] using this
/-- the state of the while loop in decode -/
structure DW where
  dec : List Nat
  i : Nat
  t1 : Tok
  t2 : Tok
  t3 : Tok
  t4 : Tok
noncomputable def DW.ok (m ln tot : List Nat) (c : DW) : Prop := c.i ≤ ln.length ∧ c.dec ++ (if c.i < ln.length then decL m (ln.drop c.i) else []) = tot
end Mine
namespace Mine
theorem lpWhileC {w : World} {A : Around} {E : Value → Shared → Prop} {s : Shared} {env : Env} {h₀ : Heap} {Q : Flow → Shared → Prop} {σ : Type} {L : Addr} {test : Expr} {body : List Stmt} {pos : Pos} {m₀ : Str → Option Value} (led : List (Addr × Obj)) (ps : σ → List (Str × Value)) (stored : List Str) (P : σ → Prop) (μ : σ → Nat) (c₀ : σ)
    (F : Fr h₀ L s.heap m₀) (N : News h₀ L s.heap led) (hk : Has m₀ (ps c₀)) (hp : P c₀)
    (turn : ∀ (c : σ) (u : Str → Option Value) h tk, P c → Fr h₀ L h (lm stored u m₀ (ps c)) → News h₀ L h led →
      wpAny (model pw w) A (isTrue test env (eval test env)) (fun b s₂ =>
        if b = true then wpAny (model pw w) A (execs body env) (TW h₀ L s (fun _ => led) ps stored m₀ P μ c) E s₂ else Q .next s₂) E { s with heap := h, toks := tk })
    (hE : PassesOwn (model pw w) A env E := by passes_own) :
    wpAny (model pw w) A (exec (.While test body [] pos) env) Q E s := lpWhile (fun _ => led) ps stored P μ c₀ F N hk hp turn hE
end Mine
namespace Mine
noncomputable def hexOcc (e : Str) : Bool := (Builtin.Str.occurrences (Str.ofString "0123456789abcdefABCDEF") e 0 (Str.ofString "0123456789abcdefABCDEF").length 1).isEmpty
theorem hexOcc_eq : ∀ c, c < 256 → hexOcc (tx [c]) = !isHex c := by decide +kernel
theorem item_at' {ln : List Nat} {i : Nat} {z : Int} (hz : z = (i : Int)) (h : i < ln.length) : Txt.item (tx ln) z = tx [ln.getD i 0] := item_tx i hz h
theorem eq_test {ln : List Nat} {i : Nat} (h : i < ln.length) {b : Bool} (e : (Txt.item (tx ln) (i : Int) != Str.ofString "=") = b) : (ln.getD i 0 != 61) = b := by
  rw [item_at' rfl h, eqs] at e
  rw [← e, Bool.eq_iff_iff, bne_iff_ne, bne_iff_ne]
  constructor
  · intro h1 h2; exact h1 (by have := tx_inj h2; simpa using this)
  · intro h1 h2; exact h1 (by rw [h2])
theorem drop_at {ln : List Nat} {i : Nat} (h : i < ln.length) : ln.drop i = ln.getD i 0 :: ln.drop (i + 1) := by
  rw [List.drop_eq_getElem_cons h]
  simp [h]
theorem getD_drop (ln : List Nat) (i k : Nat) : (ln.drop i).getD k 0 = ln.getD (i + k) 0 := by simp [List.getD_eq_getElem?_getD]
theorem lit_ne {m ln : List Nat} {i : Nat} (h : i < ln.length) (e : (Txt.item (tx ln) (i : Int) != Str.ofString "=") = true) : decL m (ln.drop i) = ln.getD i 0 :: decL m (ln.drop (i + 1)) := by
  have := eq_test h e
  rw [drop_at h, decL_ne (by simpa using this)]
theorem lit_eq {ln : List Nat} {i : Nat} (h : i < ln.length) (e : (Txt.item (tx ln) (i : Int) != Str.ofString "=") = false) : ln.getD i 0 = 61 := by
  have := eq_test h e
  simpa using this
theorem lit_no {m ln : List Nat} {i : Nat} (h : i < ln.length) (e : (Txt.item (tx ln) (i : Int) != Str.ofString "=") = false) (h1 : i + 1 ≠ ln.length) (hx : (isHex (ln.getD (i + 1) 0) && isHex (ln.getD (i + 2) 0)) = false) : decL m (ln.drop i) = ln.getD i 0 :: decL m (ln.drop (i + 1)) := by
  have e1 := lit_eq h e
  rw [drop_at h, e1, decL_not (by intro h9; have := congrArg List.length h9; simp at this; omega) (by rw [getD_drop, getD_drop]; exact hx)]
theorem lit_short {m ln : List Nat} {i : Nat} (h : i < ln.length) (e : (Txt.item (tx ln) (i : Int) != Str.ofString "=") = false) (h1 : i + 1 ≠ ln.length) (h2 : ¬ i + 2 < ln.length) : decL m (ln.drop i) = ln.getD i 0 :: decL m (ln.drop (i + 1)) := by
  refine lit_no h e h1 ?_
  have : ln.getD (i + 2) 0 = 0 := by rw [List.getD_eq_getElem?_getD, List.getElem?_eq_none (by omega)]; rfl
  rw [this]
  simp [isHex, hexes]
theorem occ_at {ln : List Nat} (hc : ∀ c ∈ ln, c < 256) {i : Nat} {z : Int} (hz : z = (i : Int)) (h : i < ln.length) {b : Bool} (e : hexOcc (Txt.item (tx ln) z) = b) : isHex (ln.getD i 0) = !b := by
  rw [item_at' hz h, hexOcc_eq _ (hc _ (by simp [h]))] at e
  rw [← e]; simp
theorem lit_not1 {m ln : List Nat} (hc : ∀ c ∈ ln, c < 256) {i : Nat} (h : i < ln.length) (e : (Txt.item (tx ln) (i : Int) != Str.ofString "=") = false) (h2 : i + 2 < ln.length) (o : hexOcc (Txt.item (tx ln) ((i : Int) + 1)) = true) : decL m (ln.drop i) = ln.getD i 0 :: decL m (ln.drop (i + 1)) := by
  refine lit_no h e (by omega) ?_
  rw [occ_at hc (i := i + 1) (by omega) (by omega) o]; rfl
theorem lit_not2 {m ln : List Nat} (hc : ∀ c ∈ ln, c < 256) {i : Nat} (h : i < ln.length) (e : (Txt.item (tx ln) (i : Int) != Str.ofString "=") = false) (h2 : i + 2 < ln.length) (o : hexOcc (Txt.item (tx ln) ((i : Int) + 2)) = true) : decL m (ln.drop i) = ln.getD i 0 :: decL m (ln.drop (i + 1)) := by
  refine lit_no h e (by omega) ?_
  rw [occ_at hc (i := i + 2) (by omega) (by omega) o]; simp
theorem DW.lit_go {m ln tot : List Nat} {c : DW} {t1 t2 t3 t4 : Tok} (hp : c.ok m ln tot) (h : c.i < ln.length) (hl : decL m (ln.drop c.i) = ln.getD c.i 0 :: decL m (ln.drop (c.i + 1))) (h1 : c.i + 1 ≠ ln.length) : DW.ok m ln tot ⟨c.dec ++ [ln.getD c.i 0], c.i + 1, t1, t2, t3, t4⟩ ∧ ln.length - (c.i + 1) < ln.length - c.i := by
  obtain ⟨a1, a2⟩ := hp
  rw [if_pos h, hl] at a2
  refine ⟨⟨by show c.i + 1 ≤ _; omega, ?_⟩, by omega⟩
  show (c.dec ++ [ln.getD c.i 0]) ++ (if c.i + 1 < ln.length then decL m (ln.drop (c.i + 1)) else []) = tot
  rw [if_pos (by omega), ← a2]; simp
theorem DW.lit_end {m ln tot : List Nat} {c : DW} {t1 t2 t3 t4 : Tok} (hp : c.ok m ln tot) (h : c.i < ln.length) (hl : decL m (ln.drop c.i) = ln.getD c.i 0 :: decL m (ln.drop (c.i + 1))) (h1 : c.i + 1 = ln.length) : DW.ok m ln tot ⟨c.dec ++ [ln.getD c.i 0] ++ m, c.i + 1, t1, t2, t3, t4⟩ ∧ ln.length - (c.i + 1) < ln.length - c.i := by
  obtain ⟨a1, a2⟩ := hp
  rw [if_pos h, hl] at a2
  refine ⟨⟨by show c.i + 1 ≤ _; omega, ?_⟩, by omega⟩
  show (c.dec ++ [ln.getD c.i 0] ++ m) ++ (if c.i + 1 < ln.length then decL m (ln.drop (c.i + 1)) else []) = tot
  rw [if_neg (by omega), ← a2, h1, List.drop_length, decL_nil]; simp
theorem DW.soft {m ln tot : List Nat} {c : DW} {t1 t2 t3 t4 : Tok} (hp : c.ok m ln tot) (h : c.i < ln.length) (e : (Txt.item (tx ln) (c.i : Int) != Str.ofString "=") = false) (h1 : c.i + 1 = ln.length) : DW.ok m ln tot ⟨c.dec, c.i + 1, t1, t2, t3, t4⟩ ∧ ln.length - (c.i + 1) < ln.length - c.i := by
  obtain ⟨a1, a2⟩ := hp
  rw [if_pos h, drop_at h, lit_eq h e, h1, List.drop_length, decL_soft] at a2
  refine ⟨⟨by show c.i + 1 ≤ _; omega, ?_⟩, by omega⟩
  show c.dec ++ (if c.i + 1 < ln.length then decL m (ln.drop (c.i + 1)) else []) = tot
  rw [if_neg (by omega), ← a2]
theorem isHex_mem {c : Nat} (h : isHex c = true) : c ∈ hexes := by simpa [isHex] using h
theorem hex_lt : ∀ a ∈ hexes, ∀ b ∈ hexes, 16 * hexv a + hexv b < 256 := by decide +kernel
theorem DW.hex {m ln tot : List Nat} {c : DW} (hc : ∀ c ∈ ln, c < 256) (hp : c.ok m ln tot) (e : (Txt.item (tx ln) (c.i : Int) != Str.ofString "=") = false) (h2 : c.i + 2 < ln.length) (o1 : hexOcc (Txt.item (tx ln) ((c.i : Int) + 1)) = false) (o2 : hexOcc (Txt.item (tx ln) ((c.i : Int) + 2)) = false) :
    ∃ a b, Hex2 a b ∧ 16 * hexv a + hexv b < 256 ∧ Txt.slice (tx ln) (some (c.i : Int)) (some ((c.i : Int) + 3)) = tx [61, a, b] ∧ ∀ t1 t2 t3 t4, 
      (c.i + 3 = ln.length → DW.ok m ln tot ⟨c.dec ++ [16 * hexv a + hexv b] ++ m, c.i + 3, t1, t2, t3, t4⟩ ∧ ln.length - (c.i + 3) < ln.length - c.i) ∧ (c.i + 3 ≠ ln.length → DW.ok m ln tot ⟨c.dec ++ [16 * hexv a + hexv b], c.i + 3, t1, t2, t3, t4⟩ ∧ ln.length - (c.i + 3) < ln.length - c.i) := by
  have h : c.i < ln.length := by omega
  have e1 := lit_eq h e
  have x1 : isHex (ln.getD (c.i + 1) 0) = true := by rw [occ_at hc (i := c.i + 1) (by omega) (by omega) o1]; rfl
  have x2 : isHex (ln.getD (c.i + 2) 0) = true := by rw [occ_at hc (i := c.i + 2) (by omega) (by omega) o2]; rfl
  have ed : ln.drop c.i = 61 :: ln.getD (c.i + 1) 0 :: ln.getD (c.i + 2) 0 :: ln.drop (c.i + 3) := by
    rw [drop_at h, e1, drop_at (i := c.i + 1) (by omega), drop_at (i := c.i + 1 + 1) (by omega)]
  obtain ⟨a1, a2⟩ := hp
  rw [if_pos h, ed, decL_hex (by rw [x1, x2]; rfl)] at a2
  refine ⟨ln.getD (c.i + 1) 0, ln.getD (c.i + 2) 0, hex2_of (isHex_mem x1) (isHex_mem x2), hex_lt _ (isHex_mem x1) _ (isHex_mem x2), ?_, fun t1 t2 t3 t4 => ⟨fun h3 => ?_, fun h3 => ?_⟩⟩
  · rw [slice_tx ln c.i (c.i + 3) _ _ rfl (by omega) (by omega) (by omega), ed]
    have : c.i + 3 - c.i = 3 := by omega
    rw [this]; rfl
  · refine ⟨⟨by show c.i + 3 ≤ _; omega, ?_⟩, by omega⟩
    show (_ ++ _ ++ m) ++ (if c.i + 3 < ln.length then decL m (ln.drop (c.i + 3)) else []) = tot
    rw [if_neg (by omega), ← a2, h3, List.drop_length, decL_nil]; simp
  · refine ⟨⟨by show c.i + 3 ≤ _; omega, ?_⟩, by omega⟩
    show (_ ++ _) ++ (if c.i + 3 < ln.length then decL m (ln.drop (c.i + 3)) else []) = tot
    rw [if_pos (by omega), ← a2]; simp
end Mine
end
section
open PySem PySem.W PyProof.Rows PySem.Calls
set_option maxRecDepth 100000
set_option maxHeartbeats 4000000
set_option linter.all false
namespace Mine
theorem slice_neg (x : Str) (i : Int) (h : i < 0) (h2 : 0 ≤ i + x.length) : Txt.slice x none (some i) = Txt.slice x none (some (i + x.length)) := by
  have e : Builtin.Str.strSliceIndices none (some i) 1 x.length = Builtin.Str.strSliceIndices none (some (i + x.length)) 1 x.length := by
    unfold Builtin.Str.strSliceIndices
    simp only [if_pos h, if_neg (Int.not_lt.mpr h2)]
  unfold Txt.slice
  rw [e]
theorem slice_cut (D R m : List Nat) (h : D = R ++ m) (hm : m ≠ []) (z : Int) (hz : z = -(m.length : Int)) : Txt.slice (tx D) none (some z) = tx R := by
  subst h hz
  have hl : 0 < m.length := List.length_pos_iff.mpr hm
  rw [slice_neg _ _ (by omega) (by rw [tx_len, List.length_append]; omega), slice_to _ R.length _ (by rw [tx_len, List.length_append]; omega) (by simp)]
  simp
theorem ends_app {D R m : List Nat} (h : D = R ++ m) : Txt.endswith (tx D) (tx m) = true := by
  subst h
  unfold Txt.endswith
  rw [tx_len, tx_len]
  unfold Builtin.Str.subAt
  rw [tx_len]
  simp [tx]
end Mine
namespace Mine
/-- is the last sign of x neither CR nor LF? -/
noncomputable def crOcc (e : Str) : Bool := (Builtin.Str.occurrences (Str.ofString "\r\n") e 0 (Str.ofString "\r\n").length 1).isEmpty
end Mine
end
section
open PySem PySem.W PyProof.Rows PySem.Calls
set_option maxRecDepth 100000
set_option maxHeartbeats 4000000
set_option linter.all false
namespace Mine
local macro_rules | `(tactic| k_steps) => `(tactic| repeat' (first
  | (k_unfold; (try dsimp only))
  | ((fail_if_success (with_reducible first | show wpAny _ _ (exec (.For _ _ _ _ _) _) _ _ _ | show wpAny _ _ (exec (.While _ _ _ _) _) _ _ _ | show wpAny _ _ (pyIter _) _ _ _ | show wpAny _ _ (call (Value.ref _) _) _ _ _ | show wpAny _ _ (call (Value.builtin "chr") _) _ _ _ | show wpAny _ _ (call (Value.type "int") _) _ _ _)); walk1; (try (all_goals dsimp only)))
  | ((fail_if_success (with_reducible first | show wpAny _ _ (call (Value.ref _) _) _ _ _ | show wpAny _ _ (call (Value.builtin "chr") _) _ _ _ | show wpAny _ _ (call (Value.type "int") _) _ _ _)); dsimp only; walk1) | fail "no step"))
theorem decode_pure (w : World) (mg mb : Str → Option Value) (x m : List Nat) (lines : List (List Nat × List Nat)) (R : List Nat) (t1 t2 : Tok) (h0 : x ≠ []) (hx : x.length ≤ 1000) (hm : m.length ≤ 2)
    (hlines : Txt.lines (tx x) = lines.map fun p => tx p.1) (hrs : ∀ p ∈ lines, Txt.rstrip (tx p.1) = tx p.2) (hps : ∀ p ∈ lines, p.1.length ≤ 1000 ∧ p.2.length ≤ 1000) (hpc : ∀ p ∈ lines, ∀ c ∈ p.2, c < 256) (hD : ∀ i, (decD m (lines.take i)).length ≤ 3000)
    (hR : (crOcc (Txt.item (tx x) (-1)) = false ∧ R = decD m lines) ∨ (crOcc (Txt.item (tx x) (-1)) = true ∧ decD m lines = R ++ m ∧ m ≠ [])) :
    Pure w mg mb 65 2 6 [.str (tx x) t1, .str (tx m) t2] (fun t => .str (tx R) t) := by
  have hl : (tx x).length ≤ 1000 := by rw [tx_len]; exact hx
  have hlm : (tx m).length ≤ 2 := by rw [tx_len]; exact hm
  have hl0 : 0 < (tx x).length := by rw [tx_len]; exact List.length_pos_iff.mpr h0
  refine' pure_fn (d := 1) (u := 3) [("encoded", .str (tx x) t1), ("eol", .str (tx m) t2)] ?ho ?hc ?hb ?h1 ?h2 ?h ?c1 ?c2 ?c3
  case ho => k_is
  case hc => k_is
  case hb => intro s X; exact binds_K X rfl (by k_is) rfl rfl rfl
  case h1 => kernel_rfl!
  case h2 => kernel_rfl!
  case c1 => rfl
  case c2 => rfl
  case c3 => rfl
  case h =>
    intro A s L h₁ tk r KX T F N
    have hh := r.handled
    conv in (occs := *) (fnS 20) => all_goals whnf
    conv in (fnB 20) => whnf
    simp only [List.reverse_cons, List.reverse_nil, List.nil_append, List.cons_append, bm] at F
    (show wpAny _ _ _ _ _ _); k_fold
    k_steps
    rotate_left
    · exfalso; omega
    with_unfolding_all refine' For_invVF (by assumption) ?k1 ?k2 ?_
    case k1 => exact rfl
    case k2 => exact rfl
    k_steps
    rename_i k0 le lst lln lis lFr lNw
    refine lpList (σ := List Nat × Tok) _ (fun c => [(Str.ofString "decoded", .str (tx c.1) c.2)]) [Str.ofString "decoded", Str.ofString "line", Str.ofString "i", Str.ofString "n", Str.ofString "c"] (fun i c => c.1 = decD m (lines.take i)) ([], _) hh (by exact News.get lNw (.head _)) (by exact News.off lNw (.head _)) lFr lNw (by exact ⟨rfl, trivial⟩) (by simp [decD]) (by rfl) ?turn ?done
    case done =>
      intro c u h tk hp F N
      have hsl := congrArg List.length (le.trans hlines)
      rw [List.length_map, List.length_map] at hsl
      rw [show (strValues _).length = lines.length from (List.length_map ..).trans hsl, List.take_length] at hp
      have hcl : (tx c.1).length ≤ 3000 := by rw [tx_len, hp]; simpa using hD lines.length
      dsimp only [lm, kstB] at F ⊢
      k_steps
      · rcases hR with ⟨h1, h2⟩ | ⟨h1, h2, h3⟩
        · have h4 : crOcc (Txt.item (tx x) (-1)) = true := by assumption
          rw [h1] at h4; cases h4
        · refine Ends.str (by assumption) ?_
          rw [slice_cut c.1 R m (hp.trans h2) h3 _ (by rw [tx_len])]
      · rcases hR with ⟨h1, h2⟩ | ⟨h1, h2, h3⟩
        · have h4 : crOcc (Txt.item (tx x) (-1)) = true := by assumption
          rw [h1] at h4; cases h4
        · have h4 : Txt.endswith (tx c.1) (tx m) = false := by assumption
          rw [ends_app (hp.trans h2)] at h4; cases h4
      · rcases hR with ⟨h1, h2⟩ | ⟨h1, h2, h3⟩
        · exact Ends.str (by assumption) (by rw [hp, h2])
        · have h4 : crOcc (Txt.item (tx x) (-1)) = false := by assumption
          rw [h1] at h4; cases h4
    case turn =>
      intro c i v u h tk own hv hp F N
      obtain ⟨p, tv, hi, rfl⟩ := strv (le.trans hlines) hv
      have hpm := List.mem_of_getElem? hi
      have hp1 : (tx p.1).length ≤ 1000 := by rw [tx_len]; exact (hps p hpm).1
      have hp2 : (tx p.2).length ≤ 1000 := by rw [tx_len]; exact (hps p hpm).2
      have hcl : (tx c.1).length ≤ 3000 := by rw [tx_len, hp]; exact hD i
      dsimp only [lm, kstB] at F ⊢
      k_steps
      · have hne : p.2 ≠ [] := by
          have h : ((Txt.rstrip (tx p.1)).length : Int) ≠ 0 := by assumption
          rw [hrs p hpm, tx_len] at h
          exact List.length_pos_iff.mp (by omega)
        have hpl := tx_len p.2
        refine lpWhileC (σ := DW) _ (fun c => [(Str.ofString "decoded", .str (tx c.dec) c.t1), (Str.ofString "i", .int (c.i : Int) c.t2), (Str.ofString "line", .str (tx p.2) c.t3), (Str.ofString "n", .int (p.2.length : Int) c.t4)]) [Str.ofString "decoded", Str.ofString "line", Str.ofString "i", Str.ofString "n", Str.ofString "c"] (DW.ok m p.2 (c.1 ++ decL m p.2)) (fun c => p.2.length - c.i) ⟨c.1, 0, _, _, _, _⟩ (by assumption) (by assumption) (by exact ⟨rfl, rfl, Has.str rfl (hrs p hpm), Has.int rfl (by rw [hrs p hpm, tx_len]), trivial⟩) (by refine ⟨Nat.zero_le _, ?_⟩; rw [if_pos (List.length_pos_iff.mpr hne)]; rfl) ?_
        intro c' u' h tk hp' F N
        have hcl' : (tx c'.dec).length ≤ 3000 := by
          have h1 := congrArg List.length hp'.2
          have h2 := hD (i + 1)
          rw [decD_snoc hi, ← hp] at h2
          rw [List.length_append] at h1
          rw [tx_len]
          omega
        dsimp only [lm, kstB] at F ⊢
        k_steps
        rotate_left 7
        · have hlt : c'.i < p.2.length := by omega
          obtain ⟨a, b, hx2, hn, hs, hstep⟩ := DW.hex (hpc p hpm) hp' (by assumption) (by omega) (by assumption) (by assumption)
          rw [hs]
          refine use_pure (unquote_pure w mg mb a b _ hx2 hn) (by assumption) (by rfl) (by rfl) (by assumption) (by assumption) (by assumption) (by assumption) ?_; intro t h tk F N; dsimp only
          have hcl9 : (tx [16 * hexv a + hexv b]).length = 1 := by rw [tx_len]; rfl
          k_steps
          · refine TW.mk ⟨c'.dec ++ [16 * hexv a + hexv b] ++ m, c'.i + 3, _, _, _, _⟩ (by simp) (by assumption) (by assumption) (by intro p hp; simp only [List.mem_append, List.mem_cons, List.not_mem_nil, or_false, false_or] at hp ⊢; first | assumption | (rcases hp with h | h <;> simp [h]) | (rcases hp with h | h | h <;> simp [h]) | (rcases hp with h | h | h | h <;> simp [h])) (by exact ⟨Has.str rfl (by dsimp only; rw [tx_app, tx_app]), Has.int rfl (by dsimp only; omega), rfl, rfl, trivial⟩) (by ksw_same) ((hstep _ _ _ _).1 (by omega))
          · refine TW.mk ⟨c'.dec ++ [16 * hexv a + hexv b], c'.i + 3, _, _, _, _⟩ (by simp) (by assumption) (by assumption) (by intro p hp; simp only [List.mem_append, List.mem_cons, List.not_mem_nil, or_false, false_or] at hp ⊢; first | assumption | (rcases hp with h | h <;> simp [h]) | (rcases hp with h | h | h <;> simp [h]) | (rcases hp with h | h | h | h <;> simp [h])) (by exact ⟨Has.str rfl (tx_app _ _), Has.int rfl (by dsimp only; omega), rfl, rfl, trivial⟩) (by ksw_same) ((hstep _ _ _ _).2 (by omega))
        rotate_left 2
        · have hend : ¬ c'.i < p.2.length := by omega
          refine TE.mk (c'.dec, _) (by simp) (by assumption) (by assumption) (by intro p hp; simp only [List.mem_append, List.mem_cons, List.not_mem_nil, or_false, false_or] at hp ⊢; first | assumption | (rcases hp with h | h <;> simp [h]) | (rcases hp with h | h | h <;> simp [h]) | (rcases hp with h | h | h | h <;> simp [h])) (by exact ⟨rfl, trivial⟩) (by ksw_same) ?_
          show _ = _
          rw [decD_snoc hi, ← hp, ← hp'.2, if_neg hend, List.append_nil]
        rotate_left 2
        · refine TW.mk ⟨c'.dec, c'.i + 1, _, _, _, _⟩ (by simp) (by assumption) (by assumption) (by intro p hp; simp only [List.mem_append, List.mem_cons, List.not_mem_nil, or_false, false_or] at hp ⊢; first | assumption | (rcases hp with h | h <;> simp [h]) | (rcases hp with h | h | h <;> simp [h]) | (rcases hp with h | h | h | h <;> simp [h])) (by exact ⟨rfl, Has.int rfl (by dsimp only; omega), rfl, rfl, trivial⟩) (by ksw_same) (DW.soft hp' (by omega) (by assumption) (by omega))
        all_goals
          have hlt : c'.i < p.2.length := by omega
          have hl9 : decL m (p.2.drop c'.i) = p.2.getD c'.i 0 :: decL m (p.2.drop (c'.i + 1)) := by
            first
            | exact lit_ne hlt (by assumption)
            | exact lit_short hlt (by assumption) (by omega) (by omega)
            | exact lit_not1 (hpc p hpm) hlt (by assumption) (by omega) (by assumption)
            | exact lit_not2 (hpc p hpm) hlt (by assumption) (by omega) (by assumption)
          first
          | refine TW.mk ⟨c'.dec ++ [p.2.getD c'.i 0] ++ m, c'.i + 1, _, _, _, _⟩ (by simp) (by assumption) (by assumption) (by intro p hp; simp only [List.mem_append, List.mem_cons, List.not_mem_nil, or_false, false_or] at hp ⊢; first | assumption | (rcases hp with h | h <;> simp [h]) | (rcases hp with h | h | h <;> simp [h]) | (rcases hp with h | h | h | h <;> simp [h])) (by exact ⟨Has.str rfl (by dsimp only; rw [item_at' rfl hlt, tx_app, tx_app]), Has.int rfl (by dsimp only; omega), rfl, rfl, trivial⟩) (by ksw_same) (DW.lit_end hp' hlt hl9 (by omega))
          | refine TW.mk ⟨c'.dec ++ [p.2.getD c'.i 0], c'.i + 1, _, _, _, _⟩ (by simp) (by assumption) (by assumption) (by intro p hp; simp only [List.mem_append, List.mem_cons, List.not_mem_nil, or_false, false_or] at hp ⊢; first | assumption | (rcases hp with h | h <;> simp [h]) | (rcases hp with h | h | h <;> simp [h]) | (rcases hp with h | h | h | h <;> simp [h])) (by exact ⟨Has.str rfl (by dsimp only; rw [item_at' rfl hlt, tx_app]), Has.int rfl (by dsimp only; omega), rfl, rfl, trivial⟩) (by ksw_same) (DW.lit_go hp' hlt hl9 (by omega))
      · have he : p.2 = [] := by
          have h : ((Txt.rstrip (tx p.1)).length : Int) = 0 := by assumption
          rw [hrs p hpm, tx_len] at h
          exact List.length_eq_zero_iff.mp (by omega)
        refine TE.mk (c.1 ++ m, _) (by simp) (by assumption) (by assumption) (by intro p hp; simp only [List.mem_append, List.mem_cons, List.not_mem_nil, or_false, false_or] at hp ⊢; first | assumption | (rcases hp with h | h <;> simp [h]) | (rcases hp with h | h | h <;> simp [h]) | (rcases hp with h | h | h | h <;> simp [h])) (by exact ⟨Has.str rfl (tx_app _ _), trivial⟩) (by ksw_same) ?_
        show _ = _
        rw [decD_snoc hi, ← hp, he, decL_nil]
end Mine
end
section
open PySem PySem.W PyProof.Rows PySem.Calls
set_option maxRecDepth 100000
set_option maxHeartbeats 4000000
set_option linter.all false
namespace Mine
open MeetsSeq2
noncomputable def fgU : List Nat := [48, 49, 50, 51, 52, 53, 54, 55, 56, 57, 65, 66, 67, 68, 69, 70]
noncomputable def lst46 (P : Params) : List Value := match (k46 P).data with | .seq a _ => a.toList | _ => []
theorem tab_all (P : Params) : ((List.range 256).all fun c => c == 10 || c == 13 || match (lst46 P)[c]? with | some (.str y _) => y == tx (showC fgU c) | _ => false) = true := by kernel_rfl
theorem tab_at (P : Params) {c : Nat} (h : c < 256) (h1 : c ≠ 10) (h2 : c ≠ 13) : ∃ t, (lst46 P)[c]? = some (.str (tx (showC fgU c)) t) := by
  have := List.all_eq_true.mp (tab_all P) c (List.mem_range.mpr h)
  simp only [Bool.or_eq_true, beq_iff_eq, h1, h2, false_or] at this
  split at this
  · rename_i y t e
    exact ⟨t, by rw [e, show y = tx (showC fgU c) by simpa using this]⟩
  · cases this
theorem look_tab {prog : Program} {w : World} {P : Params} {A : Around} {E : Value → Shared → Prop} {s : Shared} {Q : Builtin.Str.Mapped → Shared → Prop} {c : Nat} (hl : s.heap.get? 46 = some (k46 P)) (h : c < 256 ∧ c ≠ 10 ∧ c ≠ 13)
    (hQ : Q (.text (tx (showC fgU c))) { s with toks := s.toks + 1 }) : wpAny (model prog w) A (Builtin.Str.tableLookup (.ref 46) c) Q E s := by
  obtain ⟨t, ht⟩ := tab_at P h.1 h.2.1 h.2.2
  have hL : s.heap.IsList 46 (lst46 P).toArray := ⟨_, hl, rfl, 0, rfl⟩
  have h256 := h.1
  unfold Builtin.Str.tableLookup
  obtain ⟨hp, g, d, tk, os⟩ := s
  refine wpAny_bind (wpAny_attempt ?_)
  have ht' : (lst46 P).toArray[((c : Int)).toNat]? = some (.str (tx (showC fgU c)) t) := by simpa using ht
  repeat (first | exact hQ | ((with_reducible show wpAny _ _ (getItem _ _) _ _ _); refine wpAny_getItem_list hL (k := (c : Int)) (by omega) (by omega) (x := .str (tx (showC fgU c)) t) ht' ?_) | wp_step)
theorem fold_cs (ps : List Str) : ∀ a : Array Nat, (ps.foldl (fun acc p => acc ++ p.cps) a) = (a.toList ++ ps.flatMap cs).toArray := by
  induction ps with
  | nil => intro a; simp
  | cons p r ih => intro a; rw [List.foldl_cons, ih]; simp [cs]
theorem fold_tx (ps : List Str) : ({ cps := ps.foldl (fun acc p => acc ++ p.cps) #[] } : Str) = tx (ps.flatMap cs) := by rw [fold_cs]; rfl
/-- what the loop of translate holds -/
noncomputable def TI (l : List Nat) (h : Heap) (g : Array GenState) (d : Drawn) (os : OsState) (rest : List Nat) (b : List Str × Nat × Bool × List (Nat × Option Nat) × Bool) (s : Shared) : Prop :=
  b.2.2.2.2 = false ∧ (∃ k, s = ⟨h, g, d, k, os⟩) ∧ (∃ pre, pre ++ rest = l ∧ b.1.reverse.flatMap cs = showT fgU pre ∧ b.2.1 = (showT fgU pre).length) ∧ ∀ c a, b.2.2.2.1.lookup c = some a → ∃ d, a = some d ∧ showC fgU c = [d]
theorem TI.go {l : List Nat} {h : Heap} {g : Array GenState} {d : Drawn} {os : OsState} {x : Nat} {rest : List Nat} {pieces : List Str} {total : Nat} {fast fast' : Bool} {known known' : List (Nat × Option Nat)} {s : Shared} {k : Nat} {p : Str} {n : Nat}
    (hI : TI l h g d os (x :: rest) (pieces, total, fast, known, false) s) (hp : cs p = showC fgU x) (hn : n = p.length) (hkn : ∀ c a, known'.lookup c = some a → ∃ d, a = some d ∧ showC fgU c = [d]) : TI l h g d os rest (p :: pieces, total + n, fast', known', false) ⟨h, g, d, k, os⟩ := by
  obtain ⟨_, _, ⟨pre, e1, e2, e3⟩, _⟩ := hI
  refine ⟨rfl, ⟨_, rfl⟩, ⟨pre ++ [x], by rw [← e1]; simp, ?_, ?_⟩, hkn⟩
  · show (p :: pieces).reverse.flatMap cs = _
    rw [showT_snoc, List.reverse_cons, List.flatMap_append, ← hp]
    have e2' : pieces.reverse.flatMap cs = showT fgU pre := e2
    rw [e2']; simp
  · show total + n = _
    have e3' : total = (showT fgU pre).length := e3
    rw [showT_snoc, List.length_append, ← hp, hn, cs_len, e3']
theorem TI.long {l : List Nat} {h : Heap} {g : Array GenState} {d : Drawn} {os : OsState} {rest : List Nat} {b : List Str × Nat × Bool × List (Nat × Option Nat) × Bool} {s : Shared} (hI : TI l h g d os rest b s) (hl : l.length ≤ 1000) : Builtin.Str.tooLong b.2.1 = false := by
  obtain ⟨_, _, ⟨pre, e1, e2, e3⟩, _⟩ := hI
  have h1 := showT_len fgU pre
  have h2 : pre.length ≤ l.length := by rw [← e1]; simp
  unfold Builtin.Str.tooLong
  rw [sizeLine_eq]
  simp; omega
theorem plain_lt {x : Nat} (h : plainN x = true) : x < 128 := by
  unfold plainN at h
  simp only [Bool.or_eq_true, beq_iff_eq, Bool.and_eq_true, decide_eq_true_eq] at h
  omega
theorem translate_meets {P : Params} (l : List Nat) (t : Tok) (hl : l.length ≤ 1000) (hc : ∀ c ∈ l, c < 256 ∧ c ≠ 10 ∧ c ≠ 13) (h0 : l ≠ []) :
    Meets (Builtin.«str.translate» ⟨[.str (tx l) t, .ref 46], []⟩) (fun A R s => s.heap.get? 46 = some (k46 P) ∧ ∀ t' k, R (.ok (.ret (.str (tx (showT fgU l)) t'))) { s with toks := k }) :=
  .of_wp fun prog w' A R s h => by
    obtain ⟨hp, g, d, tk, os⟩ := s
    obtain ⟨hl46, h⟩ := h
    have hl0 : ((tx l).length == 0) = false := by rw [tx_len]; have := List.length_pos_iff.mpr h0; simpa using h0
    unfold Builtin.«str.translate»
    wp_walk using (wpAny_forIn_array _ (TI l hp g d os) _)
    case fin =>
      rintro ⟨pieces, total, fast, known, ad⟩ s hI
      have hlong := hI.long hl
      obtain ⟨_, ⟨k, rfl⟩, ⟨pre, e1, e2, e3⟩, _⟩ := hI
      dsimp only at hlong ⊢
      rw [hlong, fold_tx]
      have e2' : pieces.reverse.flatMap cs = showT fgU pre := e2
      have e1' : pre = l := by simpa using e1
      rw [e2', e1']
      have hsz : ¬ (tx (showT fgU l)).length > sizeLine := by
        have := showT_len fgU l
        rw [tx_len, sizeLine_eq]; omega
      wp_walk
      exact ⟨_, rfl, h _ _⟩
    case turn =>
      rintro x rest ⟨pieces, total, fast, known, ad⟩ s hI
      have hlong := hI.long hl
      have hx : x < 256 ∧ x ≠ 10 ∧ x ≠ 13 := by obtain ⟨_, _, ⟨pre, e1, e2, e3⟩, _⟩ := hI; exact hc x (by rw [← e1]; simp)
      obtain ⟨rfl, ⟨k, rfl⟩, _, hkn⟩ := id hI
      dsimp only at hlong hkn ⊢
      rw [hlong]
      cases fast with
      | false =>
        repeat (first | ((with_reducible show wpAny _ _ (Builtin.Str.tableLookup _ _) _ _ _); refine look_tab (P := P) hl46 hx ?_) | wp_step)
        exact TI.go (n := (tx (showC fgU x)).length) (p := tx (showC fgU x)) hI rfl rfl hkn
      | true =>
        cases hk : known.lookup x with
        | some a =>
          obtain ⟨d', rfl, hd⟩ := hkn x a hk
          repeat (first | ((with_reducible show wpAny _ _ (Builtin.Str.tableLookup _ _) _ _ _); refine look_tab (P := P) hl46 hx ?_) | wp_step)
          exact TI.go (n := 1) (p := ⟨#[d']⟩) hI hd.symm rfl hkn
        | none =>
          cases hpl : plainN x with
          | true =>
            have hsh : showC fgU x = [x] := by unfold showC; rw [hpl]; rfl
            have hx8 : x < 128 := plain_lt hpl
            have hcnd : ((tx (showC fgU x)).length == 1 && (tx (showC fgU x)).cps.all fun x => decide (x < 128)) = true := by rw [hsh, tx_len]; simp [tx, hx8]
            have hc0 : (tx (showC fgU x)).cps[0]? = some x := by rw [hsh]; rfl
            repeat (first | ((with_reducible show wpAny _ _ (Builtin.Str.tableLookup _ _) _ _ _); refine look_tab (P := P) hl46 hx ?_) | wp_step)
            simp only [hcnd, hc0, if_true]
            repeat (first | ((with_reducible show wpAny _ _ (Builtin.Str.tableLookup _ _) _ _ _); refine look_tab (P := P) hl46 hx ?_) | wp_step)
            exact TI.go (n := 1) (p := ⟨#[x]⟩) hI hsh.symm rfl fun c a h => by
              rw [List.lookup_cons] at h
              by_cases hcx : c = x
              · subst hcx; simp at h; exact ⟨c, h.symm, hsh⟩
              · have : (c == x) = false := by simpa using hcx
                rw [this] at h; exact hkn c a h
          | false =>
            have hsh : showC fgU x = [61, fgU.getD (x / 16) 0, fgU.getD (x % 16) 0] := by unfold showC; rw [hpl]; rfl
            have hcnd : ((tx (showC fgU x)).length == 1 && (tx (showC fgU x)).cps.all fun x => decide (x < 128)) = false := by rw [hsh, tx_len]; rfl
            repeat (first | ((with_reducible show wpAny _ _ (Builtin.Str.tableLookup _ _) _ _ _); refine look_tab (P := P) hl46 hx ?_) | wp_step)
            simp only [hcnd, Bool.false_eq_true, if_false]
            repeat (first | ((with_reducible show wpAny _ _ (Builtin.Str.tableLookup _ _) _ _ _); refine look_tab (P := P) hl46 hx ?_) | wp_step)
            exact TI.go (n := (tx (showC fgU x)).length) (p := tx (showC fgU x)) hI rfl rfl hkn
    all_goals exact ⟨rfl, ⟨_, rfl⟩, ⟨[], rfl, rfl, rfl⟩, fun c a h => by cases h⟩
theorem translate_call {w : World} {A : Around} {E : Value → Shared → Prop} {s : Shared} {Q : Value → Shared → Prop} {h₀ : Heap} {L : Addr} {m : Str → Option Value} {l : List Nat} {t : Tok} (K : (KK w.params).In h₀) (Fm : Fr h₀ L s.heap m) (hl : l.length ≤ 1000) (hc : ∀ c ∈ l, c < 256 ∧ c ≠ 10 ∧ c ≠ 13) (h0 : l ≠ [])
    (h : ∀ t' k, Q (.str (tx (showT fgU l)) t') { s with toks := k }) : wpAny (model pw w) A (call (.builtin "str.translate") [.str (tx l) t, .ref 46]) Q E s :=
  call_meets F.slot_str_translate (typeIs_str _ _ _) F.entry_str_translate (F.args_str_translate_2 _ _) (translate_meets (P := w.params) l t hl hc h0) ⟨Fm.keep _ _ (K _ _ (by rfl)), h⟩
theorem gm_translate {M : Model} {A : Around} {E : Value → Shared → Prop} {s : Shared} {x : Str} {t : Tok} {pl : Sem Bool} {Q : Value × List Value → Shared → Prop} (h : Q (.builtin "str.translate", [.str x t]) s) : wpAny M A (getMethod (.str x t) (Str.ofString "translate") pl) Q E s :=
  by with_reducible exact GM.of (.str x t) (typeIs_str _ _ _) F.slot_str_translate F.type_str_translate GM.noRef h
end Mine
end
section
open PySem PySem.W PyProof.Rows PySem.Calls
set_option maxRecDepth 100000
set_option maxHeartbeats 4000000
set_option linter.all false
namespace Mine
theorem md_get : typeLookup (.type "method_descriptor") "__get__" = pure (some (.builtin "method_descriptor.__get__")) := by rw [typeLookup_type, builtinLookup_eq_fast]; kernel_rfl
theorem md_set : typeLookup (.type "method_descriptor") "__set__" = pure none := by rw [typeLookup_type, builtinLookup_eq_fast]; kernel_rfl
theorem md_del : typeLookup (.type "method_descriptor") "__delete__" = pure none := by rw [typeLookup_type, builtinLookup_eq_fast]; kernel_rfl
theorem md_type : typeOf (.builtin "list.append") = pure (.type "method_descriptor") := by show builtinType _ = _; rw [builtinType_eq_fast]; kernel_rfl
theorem la_look : typeLookup (.type "list") "append" = pure (some (.builtin "list.append")) := F.slot_list_append.lookup
theorem slot_md_get : Slot "method_descriptor" "__get__" "method_descriptor.__get__" :=
  .of (owner := "method_descriptor") (n := "__get__") (by rw [typeLookup_type, builtinLookup_eq_fast]; kernel_rfl) (by decide +kernel) (by decide +kernel) (by decide +kernel)
    (by first | exact .inl (by decide +kernel) | exact .inr (by decide +kernel)) (by rw [isSubtype_type]; kernel_rfl)
theorem entry_md_get : entryFor table "method_descriptor.__get__" = some Builtin.«method_descriptor.__get__» := entryFor_of_tree (by kernel_rfl)
theorem args_md_get (a b c : Value) : argsOk "method_descriptor.__get__" ⟨[a, b, c], []⟩ := by
  unfold argsOk; kernel_rfl
/-- what list.append is when it is bound -/
noncomputable def bound (l : Addr) : Obj := { cls := .type "builtin_function_or_method", data := .fields #[.builtin "list.append", .ref l] }
theorem meets_get (l : Addr) (its : Array Value) (nn : Nat) :
    Meets (Builtin.«method_descriptor.__get__» ⟨[.builtin "list.append", .ref l, .type "list"], []⟩) (fun A R s => s.heap.get? l = some (W.listOf its nn) ∧ ∀ k, R (.ok (.ret (.ref s.heap.objs.size))) { s with heap := s.heap.push (bound l), toks := k }) :=
  Meets.of_wp fun prog w A R s hs => by
    obtain ⟨hp, g, d, tk, os⟩ := s
    obtain ⟨hx, hs⟩ := hs
    have hT : ∀ tk', (⟨hp, g, d, tk', os⟩ : Shared).TypeIs (.ref l) "list" := fun _ => ⟨_, hx, rfl⟩
    have f6 : isSubtype (W.listOf its nn).cls (Value.type (".".intercalate ("list.append".cutAt '.').dropLast)) = pure true := by
      rw [show ".".intercalate ("list.append".cutAt '.').dropLast = "list" by decide +kernel]
      show isSubtype (.type "list") (.type "list") = _
      rw [isSubtype_type]; kernel_rfl
    unfold Builtin.«method_descriptor.__get__»
    repeat (any_goals (first | assumption | exact hT _ | wp_step))
    all_goals exact ⟨_, rfl, hs _⟩
theorem meets_ga (l : Addr) (its : Array Value) (nn : Nat) (u : Tok) :
    Meets (Builtin.«object.__getattribute__» ⟨[.ref l, .str "append" u], []⟩) (fun A R s => s.heap.get? l = some (W.listOf its nn) ∧ ∀ k, R (.ok (.ret (.ref s.heap.objs.size))) { s with heap := s.heap.push (bound l), toks := k }) :=
  Meets.of_wp fun prog w A R s hs => by
    obtain ⟨hp, g, d, tk, os⟩ := s
    obtain ⟨hx, hs⟩ := hs
    have hT : ∀ tk', (⟨hp, g, d, tk', os⟩ : Shared).TypeIs (.ref l) "list" := fun _ => ⟨_, hx, rfl⟩
    have f1 := md_get
    have f2 := md_set
    have f3 := md_del
    have f4 := md_type
    have f5 := la_look
    unfold Builtin.«object.__getattribute__»
    repeat (any_goals (first | assumption | exact hT _ | ((with_reducible show wpAny _ _ (call (Value.builtin "method_descriptor.__get__") _) _ _ _); refine call_meets slot_md_get md_type entry_md_get (args_md_get _ _ _) (meets_get l its nn) ⟨hx, fun k => ⟨_, rfl, hs k⟩⟩) | wp_step))
    have key : ∀ R' : Result → Shared → Prop, (∀ k, R' (.ok (.ret (.ref hp.objs.size))) ⟨hp.push (bound l), g, d, k, os⟩) → codeAny (model prog w) A.in1 (Code.call (.builtin "method_descriptor.__get__") ⟨[.builtin "list.append", .ref l, .type "list"], []⟩) R' ⟨hp, g, d, tk, os⟩ := fun R' h =>
      codeAny_call_builtin slot_md_get.plain entry_md_get (slot_md_get.check _ _ _ _ _ _ _ _ md_type (args_md_get _ _ _) (meets_get l its nn prog w A.in1 R' ⟨hp, g, d, tk, os⟩ ⟨hx, h⟩))
    refine key _ fun k => ?_
    exact wpAny_pure ⟨_, rfl, hs k⟩
theorem get_append {w : World} {A : Around} {E : Value → Shared → Prop} {s : Shared} {Q : Value → Shared → Prop} {h₀ : Heap} {L l : Addr} {m : Str → Option Value} {news : List (Addr × Obj)} {its : Array Value} {nn : Nat} (Fm : Fr h₀ L s.heap m) (N : News h₀ L s.heap news) (hm : (l, W.listOf its nn) ∈ news)
    (h : ∀ B h' tk, Fr h₀ L h' m → News h₀ L h' ((B, bound l) :: news) → Q (.ref B) { s with heap := h', toks := tk }) : wpAny (model pw w) A (getAttr (.ref l) (Str.ofString "append") true) Q E s := by
  have hx := News.get N hm
  have h' := fun tk => h s.heap.objs.size (s.heap.push (bound l)) tk (Fm.push _) (News.push Fm N _)
  obtain ⟨hp, g, d, tk, os⟩ := s
  have hT : ∀ tk', (⟨hp, g, d, tk', os⟩ : Shared).TypeIs (.ref l) "list" := fun _ => ⟨_, hx, rfl⟩
  have f3 := F.slot_list_getattribute.lookup
  have f4 := F.slot_list_getattribute.bind (.ref l)
  unfold getAttr getAttrBy
  repeat (any_goals (first | assumption | exact hT _ | ((with_reducible show wpAny _ _ (call (Value.builtin "list.__getattribute__") _) _ _ _); refine call_meets F.slot_list_getattribute (hT _) am_entry_list_getattribute (F.args_list_getattribute_2 _ _) (meets_ga l its nn _) ⟨hx, fun k => ?_⟩) | wp_step))
  exact handed_on rfl (h' _)
end Mine
end
section
open PySem PySem.W PyProof.Rows PySem.Calls
set_option maxRecDepth 100000
set_option maxHeartbeats 4000000
set_option linter.all false
namespace Mine
theorem call_bound {w : World} {A : Around} {E : Value → Shared → Prop} {s : Shared} {B l : Addr} {its : Array Value} {nn : Nat} {v : Value} {Q : Value → Shared → Prop} (hB : s.heap.get? B = some (bound l)) (hl : s.heap.get? l = some (W.listOf its nn)) (hsz : its.size ≤ 1000)
    (h : ∀ h', Heap.SameBut l s.heap h' → h'.get? l = some (W.listOf (its.push v) (nn + 1)) → Q .none { s with heap := h' }) : wpAny (model pw w) A (call (.ref B) [v]) Q E s := by
  obtain ⟨hp, g, d, tk, os⟩ := s
  have hT : ∀ tk', (⟨hp, g, d, tk', os⟩ : Shared).TypeIs (.ref l) "list" := fun _ => ⟨_, hl, rfl⟩
  have f1 : isSubtype (W.listOf its nn).cls (Value.type "module") = pure false := by show isSubtype (.type "list") _ = _; rw [isSubtype_type]; kernel_rfl
  have f2 : Manifest.varargsMethods.contains "list.append" = false := by decide +kernel
  refine wpAny_call (codeAny_of_tree ?_)
  show wpAny _ A.in1 (callAny (.ref B) ⟨[v], []⟩) _ _ _
  unfold callAny
  refine wpAny_bind (wpAny_load hB ?_)
  show wpAny _ _ (do checkBoundCall "list.append" ⟨[.ref l, v], []⟩; return ← again (.builtin "list.append" ⟨[.ref l, v], []⟩)) _ _ _
  unfold checkBoundCall
  repeat (any_goals (first | assumption | exact hT _ | wp_step))
  refine ⟨plainId_quiet F.slot_list_append.plain _, codeAny_builtin F.entry_list_append ?_⟩
  rw [Around.under_plainId F.slot_list_append.plain]
  show wpAny _ _ (updateSeq l (·.push v) >>= fun _ => ret .none) _ _ _
  refine wpAny_bind (wpAny_updateSeq hl rfl (wpAny_pure ?_) (by rw [sizeLine_eq]; omega))
  refine h _ (Heap.SameBut.update ..) ?_
  rw [Heap.get?_update_self _ hl (by rw [show (W.listOf its nn) = ({ cls := .type "list", data := .seq its nn } : Obj) from rfl, mapSeq_push]; rfl), show (W.listOf its nn) = ({ cls := .type "list", data := .seq its nn } : Obj) from rfl, mapSeq_push]
theorem app_bound {w : World} {A : Around} {E : Value → Shared → Prop} {s : Shared} {h₀ : Heap} {L l B : Addr} {m : Str → Option Value} {news rest : List (Addr × Obj)} {its : Array Value} {nn : Nat} {x : Value} {Q : Value → Shared → Prop}
    (F : Fr h₀ L s.heap m) (N : News h₀ L s.heap news) (hB : (B, bound l) ∈ news) (hm : (l, W.listOf its nn) ∈ news) (hsz : its.size ≤ 1000) (hr : ∀ p ∈ rest, p ∈ news ∧ p.1 ≠ l)
    (h : ∀ h', Fr h₀ L h' m → News h₀ L h' ((l, W.listOf (its.push x) (nn + 1)) :: rest) → Q .none { s with heap := h' }) : wpAny (model pw w) A (call (.ref B) [x]) Q E s := by
  refine call_bound (News.get N hB) (News.get N hm) hsz (fun h' hs ho' => ?_)
  refine h h' (F.change hs (N _ hm).2.1 (N _ hm).2.2) fun p hp => ?_
  rcases List.mem_cons.mp hp with rfl | e
  · exact ⟨ho', (N _ hm).2⟩
  · obtain ⟨h1, h2⟩ := hr p e
    exact ⟨(hs.2 _ h2).trans (N _ h1).1, (N _ h1).2⟩
theorem bound_off {h₀ h : Heap} {L l B : Addr} {its : Array Value} {nn : Nat} {news : List (Addr × Obj)} (N : News h₀ L h news) (hB : (B, bound l) ∈ news) (hm : (l, W.listOf its nn) ∈ news) : B ≠ l := by
  intro e
  have h1 := News.get N hB
  have h2 := News.get N hm
  rw [e, h2] at h1
  have h3 := congrArg Obj.cls (Option.some.inj h1)
  simp [W.listOf, bound] at h3
end Mine
end
section
open PySem PySem.W PyProof.Rows PySem.Calls
set_option maxRecDepth 100000
set_option maxHeartbeats 4000000
set_option linter.all false
namespace Mine
section
variable {w : World} {A : Around} {E : Value → Shared → Prop} {s : Shared} {env : Env} {h₀ : Heap} {x : Str} {body : List Stmt} {Q : Flow → Shared → Prop}
/-- a loop over a list that the loop leaves alone, with a ledger that changes -/
theorem lpListG {σ : Type} {l : Addr} {vs : List Value} {nn : Nat} {m₀ : Str → Option Value} (Led : σ → List (Addr × Obj)) (ps : σ → List (Str × Value)) (stored : List Str) (P : Nat → σ → Prop) (c₀ : σ)
    (hh : A.handled = none) (hl : s.heap.get? l = some (listOf vs.toArray nn)) (hlL : l ≠ env.locals) (F : Fr h₀ env.locals s.heap m₀) (N : News h₀ env.locals s.heap (Led c₀)) (hk : Has m₀ (ps c₀)) (hp : P 0 c₀) (hx : stored.contains x = true)
    (hadr : ∀ c c', (Led c).map (·.1) = (Led c').map (·.1))
    (turn : ∀ (c : σ) (i : Nat) v (u : Str → Option Value) h tk own, vs[i]? = some v → P i c →
      Fr h₀ env.locals h (fun y => if y = x then some v else lm stored u m₀ (ps c) y) → News h₀ env.locals h (Led c ++ own) → (∀ p ∈ own, p.1 ≠ l → ∀ q ∈ Led c, p.1 ≠ q.1) →
      wpAny (model pw w) A (execs body env) (TE h₀ env.locals stored Led ps m₀ (P (i + 1)) own { s with heap := h, toks := tk }) E { s with heap := h, toks := tk })
    (done : ∀ (c : σ) (u : Str → Option Value) h tk, P vs.length c → Fr h₀ env.locals h (lm stored u m₀ (ps c)) → News h₀ env.locals h (Led c) → Q .next { s with heap := h, toks := tk }) :
    wpAny (model pw w) A (pyIter (.ref l)) (fun it s₂ => LoopAtV pw w A h₀ env x body Q E it s₂) E s := by
  have hls : s.heap.IsList l vs.toArray := ⟨_, hl, rfl, nn, rfl⟩
  have hne : l ≠ s.heap.objs.size := Nat.ne_of_lt (Heap.lt_size hl)
  refine wpAny_pyIter_list hls ?_
  have W := Walks.list (prog := pw) (w := w) hh s.heap.objs.size l hne vs.toArray
  have hlen : vs.toArray.size = vs.length := by simp
  rw [hlen] at W
  refine lpCore (s := { s with heap := s.heap.push _ }) Led ps stored P c₀ W ?_ ?_ ?_ ⟨⟨_, Heap.get?_push_size _ rfl, rfl, rfl⟩, hls.at fun o e => Heap.get?_push_of_some _ e⟩ (F.push _) (fun p hp => ⟨Heap.get?_push_of_some _ (N p hp).1, (N p hp).2⟩) hk hp hx (fun _ _ c c' _ _ h _ p hp => ?_) ?_ done
  · intro hm
    rcases List.mem_cons.mp hm with e | hm
    · exact absurd F.ns.lt (e ▸ Nat.lt_irrefl _)
    · exact hlL (List.mem_singleton.mp hm).symm
  · intro b hb
    rw [List.mem_singleton.mp hb]
    exact next_is_new F
  · intro p hp hI
    exact absurd (Heap.lt_size (N p hp).1) ((List.mem_singleton.mp hI) ▸ Nat.lt_irrefl _)
  · have h1 : p.1 ∈ (Led c').map (·.1) := List.mem_map.mpr ⟨p, hp, rfl⟩
    rw [← hadr c c'] at h1
    obtain ⟨q, hq, e⟩ := List.mem_map.mp h1
    rw [← e]; exact h q hq
  · intro c i v u h tk own hi hv hp' F₁ N₁ h1 h2
    refine turn c i v u h tk own (by simpa using hv) hp' F₁ N₁ fun p hp hpl q hq e => ?_
    rcases List.mem_cons.mp (h1 p hp) with e1 | e1
    · exact h2 q hq (by rw [← e, e1]; exact .head _)
    · exact hpl (List.mem_singleton.mp e1)
end
/-- the rows that body_encode writes -/
noncomputable def Fits : List (List Nat) → Prop
  | [] => False
  | [r] => r.length ≤ 11
  | r :: r' :: rs => 12 ≤ (r ++ (r' :: rs).flatten).length ∧
      ((r.length = 8 ∧ (r ++ (r' :: rs).flatten).getD 8 0 = 61) ∨
       (r.length = 9 ∧ (r ++ (r' :: rs).flatten).getD 8 0 ≠ 61 ∧ (r ++ (r' :: rs).flatten).getD 9 0 = 61) ∨
       (r.length = 10 ∧ (r ++ (r' :: rs).flatten).getD 8 0 ≠ 61 ∧ (r ++ (r' :: rs).flatten).getD 9 0 ≠ 61)) ∧ Fits (r' :: rs)
/-- the state of the while loop in body_encode -/
structure EW where
  done : List (List Nat)
  rest : List (List Nat)
  vs : List Value
  nn : Nat
  t1 : Tok
  t2 : Tok
  t3 : Tok
noncomputable def written (rows : List (List Nat)) : List Str := rows.dropLast.map (fun r => tx (r ++ [61])) ++ [tx (rows.getLastD [])]
noncomputable def EW.ok (rows : List (List Nat)) (c : EW) : Prop := c.done ++ c.rest = rows ∧ Fits c.rest ∧ c.rest ≠ [] ∧ StrsAre c.vs (c.done.map fun r => tx (r ++ [61]))
end Mine
end
section
open PySem PySem.W PyProof.Rows PySem.Calls
set_option maxRecDepth 100000
set_option maxHeartbeats 4000000
set_option linter.all false
namespace Mine
theorem keeps_B {M : Model} {B l : Addr} (h : Heap) (X : h.get? B = some (bound l)) : ∃ k, (k = Keeper.frame ∨ k = Keeper.machine ∨ k = Keeper.boundFrame) ∧ Looks M h (keeperOf (.ref B)) k := by
  refine ⟨.machine, .inr (.inl rfl), (Looks.ld (part := none) X).andThen .now⟩
/-- a mark: B is the bound append of l -/
structure BndAt (B l : Addr) : Prop where
  one : True
theorem callWith_B {M : Model} {A : Around} {E : Value → Shared → Prop} {s : Shared} {Q : Value → Shared → Prop} {pos : Pos} {first : List Value} {env : Env} {B l : Addr} {e : Expr} {rest : List Expr} (_b : BndAt B l) (h : wpAny M A (spliced (backTo pos (starEach (e :: rest) env))) (fun vs s₁ => s₁.heap.get? B = some (bound l) ∧ wpAny M A (call (.ref B) (first ++ vs)) Q E s₁) E s)
    (he : starEach (e :: rest) env = (false, eval e env) :: starEach rest env := by rfl) (hplain : (backTo pos (starEach rest env)).any (·.1) = false := by rfl) :
    wpAny M A (callWith pos (.ref B) first (backTo pos (starEach (e :: rest) env)) []) Q E s := by
  rw [he] at h ⊢
  exact callWith_of (by show ((false || (backTo pos (starEach rest env)).any (·.1)) || false) = false; rw [hplain]; rfl) keeps_B (evalArgs_plain h)
end Mine
end
section
open PySem PySem.W PyProof.Rows PySem.Calls
set_option maxRecDepth 100000
set_option maxHeartbeats 4000000
set_option linter.all false
namespace Mine
theorem EW.step {rows : List (List Nat)} {E : List Nat} {c : EW} (hE : E = rows.flatten) (hok : c.ok rows) (h : c.done.flatten.length + 12 ≤ E.length) :
    ∃ r r' rs, c.rest = r :: r' :: rs ∧ E.drop c.done.flatten.length = r ++ (r' :: rs).flatten ∧ Fits (r' :: rs) ∧
      ((r.length = 8 ∧ E.getD (c.done.flatten.length + 8) 0 = 61) ∨
       (r.length = 9 ∧ E.getD (c.done.flatten.length + 8) 0 ≠ 61 ∧ E.getD (c.done.flatten.length + 9) 0 = 61) ∨
       (r.length = 10 ∧ E.getD (c.done.flatten.length + 8) 0 ≠ 61 ∧ E.getD (c.done.flatten.length + 9) 0 ≠ 61)) := by
  obtain ⟨h1, h2, h3, h4⟩ := hok
  have hE' : E = c.done.flatten ++ c.rest.flatten := by rw [hE, ← h1, List.flatten_append]
  have hd : E.drop c.done.flatten.length = c.rest.flatten := by rw [hE']; simp
  match hr : c.rest, h2, h3 with
  | [r], h2, _ =>
    exfalso
    have h5 := congrArg List.length hE'
    rw [hr, List.length_append] at h5
    have h6 : ([r] : List (List Nat)).flatten.length = r.length := by simp
    have h7 : r.length ≤ 11 := h2
    omega
  | r :: r' :: rs, h2, _ =>
    rw [hr] at hd
    have hg : ∀ k, E.getD (c.done.flatten.length + k) 0 = (r ++ (r' :: rs).flatten).getD k 0 := fun k => by
      rw [← getD_drop, hd]; rfl
    refine ⟨r, r', rs, rfl, hd, h2.2.2, ?_⟩
    rw [hg, hg]
    exact h2.2.1
theorem EW.next {rows : List (List Nat)} {c : EW} {r r' : List Nat} {rs : List (List Nat)} {v : Value} {t : Tok} {nn : Nat} {t1 t2 t3 : Tok} (hok : c.ok rows) (hr : c.rest = r :: r' :: rs) (hf : Fits (r' :: rs)) (hv : v = .str (tx (r ++ [61])) t) : EW.ok rows ⟨c.done ++ [r], r' :: rs, c.vs ++ [v], nn, t1, t2, t3⟩ ∧ (r' :: rs).length < c.rest.length := by
  obtain ⟨h1, h2, h3, h4⟩ := hok
  subst hv
  refine ⟨⟨by rw [← h1, hr]; simp, hf, by simp, ?_⟩, by rw [hr]; simp⟩
  have := KStt.strs_snoc (x := tx (r ++ [61])) (t := t) h4
  simpa using this
theorem take_app {a b : List Nat} {n : Nat} (h : a.length = n) : (a ++ b).take n = a := by subst h; simp
theorem take_app1 {a b : List Nat} {n : Nat} (h : a.length = n) (hb : (a ++ b).getD n 0 = 61) (hl : n < (a ++ b).length) : (a ++ b).take (n + 1) = a ++ [61] := by
  rw [List.take_add_one, take_app h]
  have : (a ++ b)[n]? = some 61 := by
    rw [List.getD_eq_getElem?_getD, List.getElem?_eq_getElem hl] at hb
    rw [List.getElem?_eq_getElem hl]
    exact congrArg some hb
  rw [this]; rfl
theorem eq_test2 {ln : List Nat} {i : Nat} {z : Int} (hz : z = (i : Int)) (h : i < ln.length) {b : Bool} (e : (Txt.item (tx ln) z == Str.ofString "=") = b) : (ln.getD i 0 == 61) = b := by
  rw [item_at' hz h, eqs] at e
  rw [← e, Bool.eq_iff_iff, beq_iff_eq, beq_iff_eq]
  constructor
  · intro h1; rw [h1]
  · intro h1; have := tx_inj h1; simpa using this
/-- what a turn of the while loop in body_encode appends -/
theorem EW.turn {rows : List (List Nat)} {E : List Nat} {c : EW} (hE : E = rows.flatten) (hok : c.ok rows) (h : c.done.flatten.length + 12 ≤ E.length) :
    ∃ r r' rs, c.rest = r :: r' :: rs ∧ Fits (r' :: rs) ∧ (c.done ++ [r]).flatten.length = c.done.flatten.length + r.length ∧
      ((E.getD (c.done.flatten.length + 8) 0 == 61) = true → r.length = 8 ∧ (E.drop c.done.flatten.length).take 9 = r ++ [61]) ∧
      ((E.getD (c.done.flatten.length + 8) 0 == 61) = false → (E.getD (c.done.flatten.length + 9) 0 == 61) = true → r.length = 9 ∧ (E.drop c.done.flatten.length).take 10 = r ++ [61]) ∧
      ((E.getD (c.done.flatten.length + 8) 0 == 61) = false → (E.getD (c.done.flatten.length + 9) 0 == 61) = false → r.length = 10 ∧ (E.drop c.done.flatten.length).take 10 = r) := by
  obtain ⟨r, r', rs, h1, h2, h3, h4⟩ := EW.step hE hok h
  have hl : (E.drop c.done.flatten.length).length = E.length - c.done.flatten.length := List.length_drop
  refine ⟨r, r', rs, h1, h3, by simp, fun a => ?_, fun a b => ?_, fun a b => ?_⟩
  · rw [beq_iff_eq] at a
    rcases h4 with ⟨x, y⟩ | ⟨x, y, z⟩ | ⟨x, y, z⟩
    · refine ⟨x, ?_⟩
      rw [h2] at hl ⊢
      exact take_app1 x (by rw [← h2, getD_drop]; exact y) (by omega)
    · exact absurd a y
    · exact absurd a y
  · have a' : ¬ E.getD (c.done.flatten.length + 8) 0 = 61 := by simpa using a
    rw [beq_iff_eq] at b
    rcases h4 with ⟨x, y⟩ | ⟨x, y, z⟩ | ⟨x, y, z⟩
    · exact absurd y a'
    · refine ⟨x, ?_⟩
      rw [h2] at hl ⊢
      exact take_app1 x (by rw [← h2, getD_drop]; exact z) (by omega)
    · exact absurd b z
  · have a' : ¬ E.getD (c.done.flatten.length + 8) 0 = 61 := by simpa using a
    have b' : ¬ E.getD (c.done.flatten.length + 9) 0 = 61 := by simpa using b
    rcases h4 with ⟨x, y⟩ | ⟨x, y, z⟩ | ⟨x, y, z⟩
    · exact absurd y a'
    · exact absurd z b'
    · refine ⟨x, ?_⟩
      rw [h2]
      exact take_app x
end Mine
end
section
open PySem PySem.W PyProof.Rows PySem.Calls
set_option maxRecDepth 100000
set_option maxHeartbeats 4000000
set_option linter.all false
namespace Mine
theorem strs_length : ∀ {vs : List Value} {ys : List Str}, StrsAre vs ys → vs.length = ys.length
  | _, _, .nil => rfl
  | _, _, .cons _ _ h => by simp [strs_length h]
theorem EW.size {rows : List (List Nat)} {c : EW} (hp : c.ok rows) (h : rows.length ≤ 100) : c.vs.toArray.size ≤ 1000 := by
  obtain ⟨h1, _, _, h4⟩ := hp
  have h5 := strs_length h4
  have h6 := congrArg List.length h1
  simp only [List.length_append, List.length_map, List.size_toArray] at h5 h6 ⊢
  omega
theorem rest_ok {a b c : Addr × Obj} {own : List (Addr × Obj)} {l : Addr} (h1 : a.1 ≠ l) (h2 : b.1 ≠ l) (h3 : ∀ p ∈ own, p.1 ≠ l) : ∀ p ∈ [a, b] ++ own, p ∈ [a, b, c] ++ own ∧ p.1 ≠ l := by
  intro p hp
  rcases List.mem_append.mp hp with h | h
  · rcases List.mem_cons.mp h with rfl | h
    · exact ⟨.head _, h1⟩
    · rw [List.mem_singleton.mp h]; exact ⟨.tail _ (.head _), h2⟩
  · exact ⟨List.mem_append_right _ h, h3 p h⟩
theorem led_ok {a b c : Addr × Obj} {own : List (Addr × Obj)} : ∀ p ∈ [a, b, c] ++ own, p ∈ c :: ([a, b] ++ own) := by
  intro p hp
  rcases List.mem_append.mp hp with h | h
  · rcases List.mem_cons.mp h with rfl | h
    · exact .tail _ (.head _)
    · rcases List.mem_cons.mp h with rfl | h
      · exact .tail _ (.tail _ (.head _))
      · rw [List.mem_singleton.mp h]; exact .head _
  · exact .tail _ (List.mem_append_right _ h)
theorem led_ok2 {a b c : Addr × Obj} {own : List (Addr × Obj)} : ∀ p ∈ own ++ [a, b, c], p ∈ c :: ([a, b] ++ own) := by
  intro p hp
  exact led_ok p (List.mem_append.mpr (List.mem_append.mp hp).symm)
theorem Fits.ne {rows : List (List Nat)} (h : Fits rows) : rows ≠ [] := by
  intro e; subst e; exact h
theorem EW.start {rows : List (List Nat)} {nn : Nat} {t1 t2 t3 : Tok} (h : Fits rows) : EW.ok rows ⟨[], rows, [], nn, t1, t2, t3⟩ := ⟨rfl, h, h.ne, .nil⟩
/-- the join of texts -/
noncomputable def joinL (e : List Nat) : List (List Nat) → List Nat
  | [] => []
  | [r] => r
  | r :: r' :: rs => r ++ e ++ joinL e (r' :: rs)
theorem join_tx (e : List Nat) : ∀ l : List (List Nat), Str.join (tx e) (l.map tx) = tx (joinL e l)
  | [] => rfl
  | [r] => rfl
  | r :: r' :: rs => by
    have h := join_tx e (r' :: rs)
    show tx r ++ tx e ++ Str.join (tx e) ((r' :: rs).map tx) = _
    rw [h, tx_app, tx_app]; rfl
theorem tjoin_tx (e : List Nat) (l : List (List Nat)) : Txt.join (tx e) (l.map tx) = tx (joinL e l) := by
  show Builtin.Str.glued _ _ = _
  rw [StrLaws.glued_eq_join, join_tx]
noncomputable def writtenL (rows : List (List Nat)) : List (List Nat) := rows.dropLast.map (fun r => r ++ [61]) ++ [rows.getLastD []]
theorem written_eq (rows : List (List Nat)) : written rows = (writtenL rows).map tx := by
  simp [written, writtenL, Function.comp_def]
theorem joinL_written (e : List Nat) : ∀ rows : List (List Nat), rows ≠ [] → joinL e (writtenL rows) = joinL (61 :: e) rows
  | [r], _ => rfl
  | r :: r' :: rs, _ => by
    have h := joinL_written e (r' :: rs) (by simp)
    have e1 : writtenL (r :: r' :: rs) = (r ++ [61]) :: writtenL (r' :: rs) := by
      simp [writtenL, List.dropLast]
    have e2 : ∃ a as, writtenL (r' :: rs) = a :: as := by
      cases hw : writtenL (r' :: rs) with
      | nil => simp [writtenL] at hw
      | cons a as => exact ⟨a, as, rfl⟩
    obtain ⟨a, as, e2⟩ := e2
    show _ = r ++ (61 :: e) ++ joinL (61 :: e) (r' :: rs)
    rw [e1, ← h, e2]
    show r ++ [61] ++ e ++ joinL e (a :: as) = _
    simp
/-- the last row is what is left -/
theorem EW.last {rows : List (List Nat)} {E : List Nat} {c : EW} (hE : E = rows.flatten) (hok : c.ok rows) (h : E.length < c.done.flatten.length + 12) : ∃ r, c.rest = [r] ∧ E.drop c.done.flatten.length = r ∧ c.done.flatten.length ≤ E.length ∧ ∀ v t, v = .str (tx r) t → StrsAre (c.vs ++ [v]) (written rows) := by
  obtain ⟨h1, h2, h3, h4⟩ := hok
  have hE' : E = c.done.flatten ++ c.rest.flatten := by rw [hE, ← h1, List.flatten_append]
  have hd : E.drop c.done.flatten.length = c.rest.flatten := by rw [hE']; simp
  match hr : c.rest, h2, h3 with
  | [r], h2, _ =>
    refine ⟨r, rfl, by rw [hd, hr]; simp, by rw [hE']; simp, fun v t hv => ?_⟩
    subst hv
    have e : written rows = (c.done.map fun r => tx (r ++ [61])) ++ [tx r] := by
      rw [← h1, hr]; simp [written]
    rw [e]
    have := KStt.strs_snoc (x := tx r) (t := t) h4
    simpa using this
  | r :: r' :: rs, h2, _ =>
    exfalso
    have h5 := congrArg List.length hE'
    rw [hr, List.length_append] at h5
    have h6 : 12 ≤ (r ++ (r' :: rs).flatten).length := h2.1
    have h7 : (r :: r' :: rs).flatten = r ++ (r' :: rs).flatten := by simp
    rw [h7] at h5
    omega
theorem written_weight (rows : List (List Nat)) (hne : rows ≠ []) : ((written rows).map (·.length)).sum + (written rows).length ≤ rows.flatten.length + 2 * rows.length := by
  rw [written_eq]
  induction rows with
  | nil => exact absurd rfl hne
  | cons r rs ih =>
    cases rs with
    | nil => simp [writtenL, tx_len]
    | cons r' rs =>
      have h := ih (by simp)
      have e1 : writtenL (r :: r' :: rs) = (r ++ [61]) :: writtenL (r' :: rs) := by simp [writtenL, List.dropLast]
      rw [e1]
      simp only [List.map_cons, List.sum_cons, List.length_cons, tx_len, List.length_append, List.flatten_cons, List.length_nil] at h ⊢
      omega
end Mine
end
section
open PySem PySem.W PyProof.Rows PySem.Calls
set_option maxRecDepth 100000
set_option maxHeartbeats 4000000
set_option linter.all false
namespace Mine
local macro_rules | `(tactic| k_steps) => `(tactic| repeat' (first
  | (k_unfold; (try dsimp only))
  | ((fail_if_success (with_reducible first | show wpAny _ _ (exec (.For _ _ _ _ _) _) _ _ _ | show wpAny _ _ (exec (.While _ _ _ _) _) _ _ _ | show wpAny _ _ (pyIter _) _ _ _ | show wpAny _ _ (call (Value.ref _) _) _ _ _ | show wpAny _ _ (call (Value.builtin "chr") _) _ _ _ | show wpAny _ _ (call (Value.type "int") _) _ _ _ | show wpAny _ _ (call (Value.builtin "str.translate") _) _ _ _)); walk1; (try (all_goals dsimp only)))
  | ((fail_if_success (with_reducible first | show wpAny _ _ (call (Value.ref _) _) _ _ _ | show wpAny _ _ (call (Value.builtin "chr") _) _ _ _ | show wpAny _ _ (call (Value.type "int") _) _ _ _ | show wpAny _ _ (call (Value.builtin "str.translate") _) _ _ _)); dsimp only; walk1) | fail "no step"))
local macro_rules | `(tactic| walk_at "getMethod str") => `(tactic| with_reducible refine gm_translate ?_)
local macro_rules | `(tactic| walk_at "callWith ref") => `(tactic| refine callWith_B (by assumption) ?_)
local macro_rules | `(tactic| walk_at "And") => `(tactic| refine ⟨News.get (by assumption) (by simp), ?_⟩)
noncomputable def wsOcc (e : Str) : Bool := (Builtin.Str.occurrences (Str.ofString " \t") e 0 (Str.ofString " \t").length 1).isEmpty
theorem showT_ne {fg l : List Nat} (h : l ≠ []) : showT fg l ≠ [] := by
  cases l with
  | nil => exact absurd rfl h
  | cons c r =>
    have e : showT fg (c :: r) = showC fg c ++ showT fg r := by simp [showT]
    rw [e]; unfold showC
    split <;> simp
theorem le_len {sl : List (Str × Tok)} {x y : Str} (h1 : Txt.lines x = [y]) (h2 : sl.map (fun a => a.1) = Txt.lines x) : (strValues sl).length = 1 := by
  have := congrArg List.length (h2.trans h1)
  simpa [strValues] using this
theorem hown {own : List (Addr × Obj)} {LL : Addr} (l : Addr) {o1 o2 o3 : Obj} {B : Addr} (hLL : l < LL) (hoff : ∀ p ∈ own, p.1 ≠ LL → ∀ q ∈ [(LL, o1), (B, o2), (l, o3)], p.1 ≠ q.1) : ∀ p ∈ own, p.1 ≠ l := by
  intro p hp e
  by_cases h : p.1 = LL
  · exact absurd hLL (by rw [← e, h]; exact Nat.lt_irrefl _)
  · exact hoff p hp h _ (.tail _ (.tail _ (.head _))) e
theorem encode_pure (w : World) (mg mb : Str → Option Value) (x e : List Nat) (rows : List (List Nat)) (t1 t2 t3 : Tok) (h0 : x ≠ []) (hx : x.length ≤ 1000) (he : e.length ≤ 2) (hc : ∀ c ∈ x, c < 256 ∧ c ≠ 10 ∧ c ≠ 13)
    (hE : showT fgU x = rows.flatten) (hfit : Fits rows) (hrl : rows.length ≤ 100) (hlines : Txt.lines (tx (showT fgU x)) = [tx (showT fgU x)]) (hws : wsOcc (Txt.item (tx (showT fgU x)) (-1)) = true) (hcr : crOcc (Txt.item (tx (showT fgU x)) (-1)) = true) : Pure w mg mb 57 1 3 [.str (tx x) t1, .int 11 t2, .str (tx e) t3] (fun t => .str (tx (joinL e (writtenL rows))) t) := by
  have hl : (tx x).length ≤ 1000 := by rw [tx_len]; exact hx
  have hle : (tx e).length ≤ 2 := by rw [tx_len]; exact he
  have hl0 : 0 < (tx x).length := by rw [tx_len]; exact List.length_pos_iff.mpr h0
  have hsne : 0 < (tx (showT fgU x)).length := by rw [tx_len]; exact List.length_pos_iff.mpr (showT_ne h0)
  have hl3 : (tx (showT fgU x)).length ≤ 3000 := by rw [tx_len]; have := showT_len fgU x; omega
  have hws' : (Builtin.Str.occurrences (Str.ofString " \t") (Txt.item (tx (showT fgU x)) (-1)) 0 (Str.ofString " \t").length 1).isEmpty = true := hws
  have hcr' : (Builtin.Str.occurrences (Str.ofString "\r\n") (Txt.item (tx (showT fgU x)) (-1)) 0 (Str.ofString "\r\n").length 1).isEmpty = true := hcr
  refine' pure_fn (d := 0) (u := 0) [("body", .str (tx x) t1), ("maxlinelen", .int 11 t2), ("eol", .str (tx e) t3)] ?ho ?hc ?hb ?h1 ?h2 ?h ?c1 ?c2 ?c3
  case ho => k_is
  case hc => k_is
  case hb => intro s X; exact binds_K X rfl (by k_is) rfl rfl rfl
  case h1 => kernel_rfl!
  case h2 => kernel_rfl!
  case c1 => rfl
  case c2 => rfl
  case c3 => rfl
  case h =>
    intro A s L h₁ tk r KX T F N
    have hh := r.handled
    conv in (occs := *) (fnS 19) => all_goals whnf
    conv in (fnB 19) => whnf
    simp only [List.reverse_cons, List.reverse_nil, List.nil_append, List.cons_append, bm] at F
    (show wpAny _ _ _ _ _ _); k_fold
    k_steps
    rotate_left
    · exfalso; omega
    refine translate_call KX F hx hc h0 ?_
    intro t' k
    dsimp only
    k_steps
    rename_i l hA hA1 h3 F3 N3
    refine get_append F3 N3 (.head _) ?_
    intro B h4 tk4 F4 N4
    have hBl : BndAt B l := ⟨trivial⟩
    dsimp only
    k_steps
    with_unfolding_all refine' For_invVF (by assumption) ?k1 ?k2 ?_
    case k1 => exact rfl
    case k2 => exact rfl
    k_steps
    rename_i hpv F5 N5 sl h6 k6 le lst lln lis F6 N6
    have hLL : l < hpv.objs.size := Heap.lt_size (News.get N5 (.tail _ (.head _)))
    dsimp only at N6 lis ⊢
    generalize hpv.objs.size = LL at hLL N6 lis ⊢
    refine lpListG (σ := List Value × Nat) (fun c => [(LL, { cls := Value.type "list", data := Data.seq (strValues sl).toArray }), (B, bound l), (l, W.listOf c.1.toArray c.2)]) (fun _ => []) [Str.ofString "line", Str.ofString "start", Str.ofString "laststart", Str.ofString "stop", Str.ofString "room", Str.ofString "q"] (fun i c => (i = 0 → c.1 = []) ∧ (1 ≤ i → StrsAre c.1 (written rows))) ([], 0) hh (by exact News.get N6 (.head _)) (by exact News.off N6 (.head _)) F6 N6 (by trivial) (by exact ⟨fun _ => rfl, fun h => by omega⟩) (by rfl) (fun _ _ => rfl) ?turn ?done
    case done =>
      intro c u h tk hp F N
      dsimp only [lm, kstB] at F ⊢
      k_steps
      refine join_listW (News.isList N (.tail _ (.tail _ (.head _)))) (by exact hp.2 (by rw [le_len hlines le]; exact Nat.le_refl 1)) (by omega) (Nat.le_trans (written_weight rows hfit.ne) (by rw [← hE]; rw [tx_len] at hl3; omega)) ?_
      intro t9 k9
      rw [written_eq, tjoin_tx]
      k_steps
      exact ⟨_, _, _, rfl, rfl, Fr.keep (by assumption)⟩
    case turn =>
      intro c i v u h tk own hv hp F N hoff
      obtain ⟨rfl, tv, rfl⟩ : i = 0 ∧ ∃ tv, v = .str (tx (showT fgU x)) tv := by
        have h1 := le.trans hlines
        cases sl with
        | nil => simp at h1
        | cons a r =>
          have hr : r = [] := by simpa using congrArg List.length h1
          subst hr
          have ha : a.1 = tx (showT fgU x) := by simpa using h1
          rcases i with _ | i
          · exact ⟨rfl, a.2, by rw [← ha]; exact (Option.some.inj hv).symm⟩
          · simp [strValues] at hv
      have hc1 := hp.1 rfl
      obtain ⟨cvs, cnn⟩ := c
      dsimp only at hc1
      subst hc1
      have hEl := tx_len (showT fgU x)
      dsimp only [lm, kstB] at F ⊢
      k_steps
      refine lpWhile (σ := EW) (fun c => [(LL, { cls := Value.type "list", data := Data.seq (strValues sl).toArray }), (B, bound l), (l, W.listOf c.vs.toArray c.nn)] ++ own) (fun c => [(Str.ofString "start", .int (c.done.flatten.length : Int) c.t1)]) [Str.ofString "start", Str.ofString "stop"] (EW.ok rows) (fun c => c.rest.length) ⟨[], rows, [], cnn, _, 0, 0⟩ (by assumption) (by assumption) (by exact ⟨rfl, trivial⟩) (EW.start hfit) ?_
      intro c' u' h tk hp' F N
      dsimp only [lm, kstB] at F ⊢
      k_steps
      all_goals try (exfalso; omega)
      · have hlen : c'.done.flatten.length + 12 ≤ (showT fgU x).length := by omega
        obtain ⟨r, r', rs, hr, hf, hdl, hA1, hB1, hC1⟩ := EW.turn hE hp' hlen
        obtain ⟨hr8, htk⟩ := hA1 (eq_test2 (z := (c'.done.flatten.length : Int) + (11 - 1) - 2) (i := c'.done.flatten.length + 8) (by omega) (by omega) (by assumption))
        rw [slice_tx _ c'.done.flatten.length (c'.done.flatten.length + 9) _ _ rfl (by omega) (by omega) (by omega), show c'.done.flatten.length + 9 - c'.done.flatten.length = 9 by omega, htk]
        rename News s.heap L _ ([(LL, { cls := Value.type "list", data := Data.seq (strValues sl).toArray }), (B, bound l), (l, W.listOf c'.vs.toArray c'.nn)] ++ own) => N9
        have hBl2 : B ≠ l := bound_off N9 (.tail _ (.head _)) (.tail _ (.tail _ (.head _)))
        refine app_bound (rest := [(LL, { cls := Value.type "list", data := Data.seq (strValues sl).toArray }), (B, bound l)] ++ own) (by assumption) N9 (.tail _ (.head _)) (.tail _ (.tail _ (.head _))) (EW.size hp' hrl) (rest_ok (fun e => absurd hLL (e ▸ Nat.lt_irrefl _)) hBl2 (hown l hLL hoff)) ?_
        intro h' F N
        dsimp only
        k_steps
        rename News s.heap L _ ((l, W.listOf _ _) :: _) => N11
        rw [List.push_toArray] at N11
        refine TW.mk ⟨c'.done ++ [r], r' :: rs, c'.vs ++ [_], c'.nn + 1, _, 0, 0⟩ (by simp) (by assumption) N11 (by exact led_ok) (by exact ⟨Has.int rfl (by dsimp only; rw [hdl]; omega), trivial⟩) (by ksw_same) (EW.next hp' hr hf rfl)
      · have hlen : c'.done.flatten.length + 12 ≤ (showT fgU x).length := by omega
        obtain ⟨r, r', rs, hr, hf, hdl, hA1, hB1, hC1⟩ := EW.turn hE hp' hlen
        obtain ⟨hr8, htk⟩ := hB1 (eq_test2 (z := (c'.done.flatten.length : Int) + (11 - 1) - 2) (i := c'.done.flatten.length + 8) (by omega) (by omega) (by assumption)) (eq_test2 (z := (c'.done.flatten.length : Int) + (11 - 1) - 1) (i := c'.done.flatten.length + 9) (by omega) (by omega) (by assumption))
        rw [slice_tx _ c'.done.flatten.length (c'.done.flatten.length + 10) _ _ rfl (by omega) (by omega) (by omega), show c'.done.flatten.length + 10 - c'.done.flatten.length = 10 by omega, htk]
        rename News s.heap L _ ([(LL, { cls := Value.type "list", data := Data.seq (strValues sl).toArray }), (B, bound l), (l, W.listOf c'.vs.toArray c'.nn)] ++ own) => N9
        have hBl2 : B ≠ l := bound_off N9 (.tail _ (.head _)) (.tail _ (.tail _ (.head _)))
        refine app_bound (rest := [(LL, { cls := Value.type "list", data := Data.seq (strValues sl).toArray }), (B, bound l)] ++ own) (by assumption) N9 (.tail _ (.head _)) (.tail _ (.tail _ (.head _))) (EW.size hp' hrl) (rest_ok (fun e => absurd hLL (e ▸ Nat.lt_irrefl _)) hBl2 (hown l hLL hoff)) ?_
        intro h' F N
        dsimp only
        k_steps
        rename News s.heap L _ ((l, W.listOf _ _) :: _) => N11
        rw [List.push_toArray] at N11
        refine TW.mk ⟨c'.done ++ [r], r' :: rs, c'.vs ++ [_], c'.nn + 1, _, 0, 0⟩ (by simp) (by assumption) N11 (by exact led_ok) (by exact ⟨Has.int rfl (by dsimp only; rw [hdl]; omega), trivial⟩) (by ksw_same) (EW.next hp' hr hf rfl)
      · have hlen : c'.done.flatten.length + 12 ≤ (showT fgU x).length := by omega
        obtain ⟨r, r', rs, hr, hf, hdl, hA1, hB1, hC1⟩ := EW.turn hE hp' hlen
        obtain ⟨hr8, htk⟩ := hC1 (eq_test2 (z := (c'.done.flatten.length : Int) + (11 - 1) - 2) (i := c'.done.flatten.length + 8) (by omega) (by omega) (by assumption)) (eq_test2 (z := (c'.done.flatten.length : Int) + (11 - 1) - 1) (i := c'.done.flatten.length + 9) (by omega) (by omega) (by assumption))
        rw [slice_tx _ c'.done.flatten.length (c'.done.flatten.length + 10) _ _ rfl (by omega) (by omega) (by omega), show c'.done.flatten.length + 10 - c'.done.flatten.length = 10 by omega, htk]
        rename News s.heap L _ ([(LL, { cls := Value.type "list", data := Data.seq (strValues sl).toArray }), (B, bound l), (l, W.listOf c'.vs.toArray c'.nn)] ++ own) => N9
        have hBl2 : B ≠ l := bound_off N9 (.tail _ (.head _)) (.tail _ (.tail _ (.head _)))
        refine app_bound (rest := [(LL, { cls := Value.type "list", data := Data.seq (strValues sl).toArray }), (B, bound l)] ++ own) (by assumption) N9 (.tail _ (.head _)) (.tail _ (.tail _ (.head _))) (EW.size hp' hrl) (rest_ok (fun e => absurd hLL (e ▸ Nat.lt_irrefl _)) hBl2 (hown l hLL hoff)) ?_
        intro h' F N
        dsimp only
        k_steps
        rename News s.heap L _ ((l, W.listOf _ _) :: _) => N11
        rw [List.push_toArray] at N11
        refine TW.mk ⟨c'.done ++ [r], r' :: rs, c'.vs ++ [_], c'.nn + 1, _, 0, 0⟩ (by simp) (by assumption) N11 (by exact led_ok) (by exact ⟨Has.int rfl (by dsimp only; rw [hdl]; omega), trivial⟩) (by ksw_same) (EW.next hp' hr hf (by rw [eqs, tx_app]))
      · have hlen : (showT fgU x).length < c'.done.flatten.length + 12 := by omega
        obtain ⟨r, hr, hd, hle9, hS⟩ := EW.last hE hp' hlen
        rw [slice_from _ c'.done.flatten.length _ rfl hle9, hd]
        rename News s.heap L _ ([(LL, { cls := Value.type "list", data := Data.seq (strValues sl).toArray }), (B, bound l), (l, W.listOf c'.vs.toArray c'.nn)] ++ own) => N9
        have hBl2 : B ≠ l := bound_off N9 (.tail _ (.head _)) (.tail _ (.tail _ (.head _)))
        refine app_bound (rest := [(LL, { cls := Value.type "list", data := Data.seq (strValues sl).toArray }), (B, bound l)] ++ own) (by assumption) N9 (.tail _ (.head _)) (.tail _ (.tail _ (.head _))) (EW.size hp' hrl) (rest_ok (fun e => absurd hLL (e ▸ Nat.lt_irrefl _)) hBl2 (hown l hLL hoff)) ?_
        intro h' F N
        dsimp only
        k_steps
        rename News s.heap L _ ((l, W.listOf _ _) :: _) => N11
        rw [List.push_toArray] at N11
        refine TE.mk (c'.vs ++ [_], c'.nn + 1) (by simp) (by assumption) N11 (by exact led_ok2) (by exact trivial) (by ksw_same) ⟨fun h => by omega, fun _ => hS _ _ rfl⟩
end Mine
end
section
open PySem PySem.W PyProof.Rows PySem.Calls
set_option maxRecDepth 100000
set_option maxHeartbeats 4000000
set_option linter.all false
namespace Mine
/-- how a piece of a body ends -/
noncomputable def PE {σ : Type} (h₀ : Heap) (L : Addr) (Led : σ → List (Addr × Obj)) (ps : σ → List (Str × Value)) (Pn : σ → Prop) (s₁ : Shared) (fl : Flow) (s₂ : Shared) : Prop :=
  fl = .next ∧ ∃ (c : σ) (h' : Heap) (tk : Nat) (m' : Str → Option Value), s₂ = { s₁ with heap := h', toks := tk } ∧ Fr h₀ L h' m' ∧ News h₀ L h' (Led c) ∧ Has m' (ps c) ∧ Pn c
theorem PE.mk {σ : Type} {h₀ : Heap} {L : Addr} {Led : σ → List (Addr × Obj)} {ps : σ → List (Str × Value)} {Pn : σ → Prop} {s₁ : Shared} {h' : Heap} {tk : Nat} {m' : Str → Option Value} {news' : List (Addr × Obj)} (c : σ)
    (F : Fr h₀ L h' m') (N : News h₀ L h' news') (hn : ∀ p ∈ Led c, p ∈ news') (hk : Has m' (ps c)) (hp : Pn c) : PE h₀ L Led ps Pn s₁ .next { s₁ with heap := h', toks := tk } :=
  ⟨rfl, c, h', tk, m', rfl, F, fun p h => N p (hn p h), hk, hp⟩
theorem kstB_has {m : Str → Option Value} {ps : List (Str × Value)} (h : Has m ps) : kstB m ps = m := by
  funext y
  exact kstB_eq h.all fun _ => rfl
theorem wp_pre {M : Model} {env : Env} {Q : Flow → _ → Shared → Prop} {E : Value → _ → Shared → Prop} {rest : List Stmt} (Γ : _) : ∀ {pre : List Stmt} {p : _} {s : Shared}, Sem.wp M Γ (execs pre env) (fun f p s' => match f with | .next => Sem.wp M Γ (execs rest env) Q E p s' | f => Q f p s') E p s → Sem.wp M Γ (execs (pre ++ rest) env) Q E p s
  | [], p, s, h => h
  | st :: pre, p, s, h => by
    rw [execs_cons, Sem.wp_bind'] at h
    rw [List.cons_append, execs_cons, Sem.wp_bind']
    refine Sem.wp_mono M Γ _ (fun f p' s' h' => ?_) (fun _ _ _ h' => h') _ _ h
    cases f
    case next => exact wp_pre Γ h'
    all_goals exact h'
section
variable {w : World} {A : Around} {E : Value → Shared → Prop} {s : Shared} {env : Env} {h₀ : Heap} {Q : Flow → Shared → Prop} {σ : Type}
theorem cut1 {st : Stmt} (Led : σ → List (Addr × Obj)) (ps : σ → List (Str × Value)) (Pn : σ → Prop)
    (go : wpAny (model pw w) A (exec st env) (PE h₀ env.locals Led ps Pn s) E s)
    (done : ∀ (c : σ) (u : Str → Option Value) h tk, Pn c → Fr h₀ env.locals h (kstB u (ps c)) → News h₀ env.locals h (Led c) → Q .next { s with heap := h, toks := tk }) :
    wpAny (model pw w) A (exec st env) Q E s := by
  refine wpAny_mono go (fun f s₂ p => ?_) fun _ _ e => e
  obtain ⟨rfl, c, h', tk, m', rfl, F, N, hk, hp⟩ := p
  exact done c m' h' tk hp (by rw [kstB_has hk]; exact F) N
theorem execs_pre {pre rest : List Stmt} (h : wpAny (model pw w) A (execs pre env) (fun f s' => match f with | .next => wpAny (model pw w) A (execs rest env) Q E s' | f => Q f s') E s) : wpAny (model pw w) A (execs (pre ++ rest) env) Q E s := by
  intro Γ p hΓ
  refine wp_pre _ (Sem.wp_mono _ Γ _ (fun f p' s' h' => ?_) (fun _ _ _ h' => h') _ _ (h Γ p hΓ))
  cases f
  case next => exact h' Γ p' hΓ
  all_goals exact h'
theorem cutN {pre rest : List Stmt} (Led : σ → List (Addr × Obj)) (ps : σ → List (Str × Value)) (Pn : σ → Prop)
    (go : wpAny (model pw w) A (execs pre env) (PE h₀ env.locals Led ps Pn s) E s)
    (done : ∀ (c : σ) (u : Str → Option Value) h tk, Pn c → Fr h₀ env.locals h (kstB u (ps c)) → News h₀ env.locals h (Led c) → wpAny (model pw w) A (execs rest env) Q E { s with heap := h, toks := tk }) :
    wpAny (model pw w) A (execs (pre ++ rest) env) Q E s := by
  refine execs_pre (wpAny_mono go (fun f s₂ p => ?_) fun _ _ e => e)
  obtain ⟨rfl, c, h', tk, m', rfl, F, N, hk, hp⟩ := p
  exact done c m' h' tk hp (by rw [kstB_has hk]; exact F) N
/-- a loop over a list that the loop leaves alone, with a ledger whose addresses change -/
theorem lpListC {σ : Type} {x : Str} {body : List Stmt} {l : Addr} {vs : List Value} {nn : Nat} {m₀ : Str → Option Value} (Led : σ → List (Addr × Obj)) (ps : σ → List (Str × Value)) (stored : List Str) (P : Nat → σ → Prop) (c₀ : σ)
    (hh : A.handled = none) (hl : s.heap.get? l = some (listOf vs.toArray nn)) (hlL : l ≠ env.locals) (F : Fr h₀ env.locals s.heap m₀) (N : News h₀ env.locals s.heap (Led c₀)) (hk : Has m₀ (ps c₀)) (hp : P 0 c₀) (hx : stored.contains x = true)
    (hc : ∀ i c, P i c → ∀ p ∈ Led c, p.2.cls ≠ .type "list_iterator")
    (turn : ∀ (c : σ) (i : Nat) v (u : Str → Option Value) h tk own, vs[i]? = some v → P i c →
      Fr h₀ env.locals h (fun y => if y = x then some v else lm stored u m₀ (ps c) y) → News h₀ env.locals h (Led c ++ own) →
      wpAny (model pw w) A (execs body env) (TE h₀ env.locals stored Led ps m₀ (P (i + 1)) own { s with heap := h, toks := tk }) E { s with heap := h, toks := tk })
    (done : ∀ (c : σ) (u : Str → Option Value) h tk, P vs.length c → Fr h₀ env.locals h (lm stored u m₀ (ps c)) → News h₀ env.locals h (Led c) → Q .next { s with heap := h, toks := tk }) :
    wpAny (model pw w) A (pyIter (.ref l)) (fun it s₂ => LoopAtV pw w A h₀ env x body Q E it s₂) E s := by
  have hls : s.heap.IsList l vs.toArray := ⟨_, hl, rfl, nn, rfl⟩
  have hne : l ≠ s.heap.objs.size := Nat.ne_of_lt (Heap.lt_size hl)
  refine wpAny_pyIter_list hls ?_
  have W := Walks.list (prog := pw) (w := w) hh s.heap.objs.size l hne vs.toArray
  have hlen : vs.toArray.size = vs.length := by simp
  rw [hlen] at W
  refine lpCore (s := { s with heap := s.heap.push _ }) Led ps stored P c₀ W ?_ ?_ ?_ ⟨⟨_, Heap.get?_push_size _ rfl, rfl, rfl⟩, hls.at fun o e => Heap.get?_push_of_some _ e⟩ (F.push _) (fun p hp => ⟨Heap.get?_push_of_some _ (N p hp).1, (N p hp).2⟩) hk hp hx (fun i h c c' hP st _ N p hp hI => ?_) ?_ done
  · intro hm
    rcases List.mem_cons.mp hm with e | hm
    · exact absurd F.ns.lt (e ▸ Nat.lt_irrefl _)
    · exact hlL (List.mem_singleton.mp hm).symm
  · intro b hb
    rw [List.mem_singleton.mp hb]
    exact next_is_new F
  · intro p hp hI
    exact absurd (Heap.lt_size (N p hp).1) ((List.mem_singleton.mp hI) ▸ Nat.lt_irrefl _)
  · obtain ⟨⟨o, ho, hcl, _⟩, _⟩ := st
    have h1 := (N p hp).1
    rw [List.mem_singleton.mp hI, ho] at h1
    exact hc _ c' hP p hp (by rw [← Option.some.inj h1]; exact hcl)
  · intro c i v u h tk own hi hv hp' F₁ N₁ _ _
    exact turn c i v u h tk own (by simpa using hv) hp' F₁ N₁
end
end Mine
end
section
open PySem PySem.W PyProof.Rows PySem.Calls
set_option maxRecDepth 100000
set_option maxHeartbeats 4000000
set_option linter.all false
namespace Mine
/-- how a turn of a loop ends, of which only the names of ps are known -/
noncomputable def TP {σ : Type} (h₀ : Heap) (L : Addr) (Led : σ → List (Addr × Obj)) (ps : σ → List (Str × Value)) (Pn : σ → Prop) (own : List (Addr × Obj)) (s₁ : Shared) (fl : Flow) (s₂ : Shared) : Prop :=
  (fl = .next ∨ fl = .cont) ∧ ∃ (c : σ) (h' : Heap) (tk : Nat) (m' : Str → Option Value), s₂ = { s₁ with heap := h', toks := tk } ∧ Fr h₀ L h' m' ∧ News h₀ L h' (own ++ Led c) ∧ Has m' (ps c) ∧ Pn c
theorem TP.mk {σ : Type} {h₀ : Heap} {L : Addr} {Led : σ → List (Addr × Obj)} {ps : σ → List (Str × Value)} {m' : Str → Option Value} {Pn : σ → Prop} {own news' : List (Addr × Obj)} {s₁ : Shared} {fl : Flow} {h' : Heap} {tk : Nat} (c : σ)
    (hf : fl = .next ∨ fl = .cont) (F : Fr h₀ L h' m') (N : News h₀ L h' news') (hn : ∀ p ∈ own ++ Led c, p ∈ news') (hk : Has m' (ps c)) (hp : Pn c) :
    TP h₀ L Led ps Pn own s₁ fl { s₁ with heap := h', toks := tk } := ⟨hf, c, h', tk, m', rfl, F, fun p h => N p (hn p h), hk, hp⟩
section
variable {w : World} {A : Around} {E : Value → Shared → Prop} {s : Shared} {env : Env} {h₀ : Heap} {x : Str} {body : List Stmt} {Q : Flow → Shared → Prop}
theorem lpCoreP {σ : Type} {I : Addr} {fp wr : List Addr} {n : Nat} {Pv : Nat → Value → Prop} {St : Nat → Heap → Prop} {m₀ : Str → Option Value} (Led : σ → List (Addr × Obj)) (ps : σ → List (Str × Value)) (P : Nat → σ → Prop) (c₀ : σ)
    (W : Walks pw w A I fp wr n Pv St) (hLf : env.locals ∉ fp) (hwr : ∀ b ∈ wr, h₀.get? b = none) (hnw : ∀ p ∈ Led c₀, p.1 ∉ wr) (hst : St 0 s.heap) (F : Fr h₀ env.locals s.heap m₀) (N : News h₀ env.locals s.heap (Led c₀)) (hk : Has m₀ (ps c₀)) (hp : P 0 c₀)
    (hcl : ∀ i h c c', P (i + 1) c' → St (i + 1) h → (∀ p ∈ Led c, p.1 ∉ wr) → News h₀ env.locals h (Led c') → ∀ p ∈ Led c', p.1 ∉ wr)
    (turn : ∀ (c : σ) i v (u : Str → Option Value) h tk own, i < n → Pv i v → P i c →
      Fr h₀ env.locals h (fun y => if y = x then some v else kstB u (ps c) y) → News h₀ env.locals h (Led c ++ own) →
      wpAny (model pw w) A (execs body env) (TP h₀ env.locals Led ps (P (i + 1)) own { s with heap := h, toks := tk }) E { s with heap := h, toks := tk })
    (done : ∀ (c : σ) (u : Str → Option Value) h tk, P n c → Fr h₀ env.locals h (kstB u (ps c)) → News h₀ env.locals h (Led c) → Q .next { s with heap := h, toks := tk }) :
    LoopAtV pw w A h₀ env x body Q E (.ref I) s := by
  refine ⟨I, fp, wr, n, Pv, St, m₀, Led c₀, (fun i m nx => ∃ c : σ, nx = Led c ∧ Has m (ps c) ∧ P i c), rfl, W, hLf, hwr, hnw, hst, F, N, ⟨c₀, rfl, hk, hp⟩, ?_, ?_⟩
  · rintro i v m₁ news₁ s₁ own ⟨hh', tk', rfl⟩ hin hP ⟨c, rfl, h1, hp'⟩ hoff hown hget hfp hst₁ F₁ N₁
    have N₂ : News h₀ env.locals hh' (Led c ++ own) := fun p hp => N₁ p ((List.mem_append.mp hp).elim (fun h => List.mem_append.mpr (.inr h)) fun h => List.mem_append.mpr (.inl h))
    refine wpAny_mono (turn c i v m₁ hh' tk' own hin hP hp' (by rw [kstB_has h1]; exact F₁) N₂) (fun f s₂ p => ?_) fun _ _ e => e
    obtain ⟨hf, c', h', tk, m', rfl, F', N', hk', hp''⟩ := p
    have st' : St (i + 1) h' := by
      refine W.frame _ _ _ hst₁ fun b hb o e => ?_
      cases hn : h₀.get? b with
      | some o₀ =>
        have : o₀ = o := by have := F₁.keep b o₀ hn; rw [e] at this; exact (Option.some.inj this).symm
        exact this ▸ F'.keep b o₀ hn
      | none => exact (N' _ (List.mem_append_left _ (hfp b hb hn o e))).1
    have fin : LoopStepU h₀ env.locals wr own (fun m nx => ∃ c : σ, nx = Led c ∧ Has m (ps c) ∧ P (i + 1) c) { s with heap := hh', toks := tk' } .next { s with heap := h', toks := tk } :=
      ⟨rfl, h', tk, m', Led c', rfl, F', N', hcl i h' c c' hp'' st' hoff fun p hp => N' p (List.mem_append_right _ hp), c', rfl, hk', hp''⟩
    rcases hf with rfl | rfl
    · exact .next fin
    · exact .cont fin
  · rintro h' tk m' news' F' N' _ ⟨c, rfl, h1, hp'⟩
    exact done c m' h' tk hp' (by rw [kstB_has h1]; exact F') N'
/-- a loop over a list that the loop leaves alone -/
theorem lpListP {σ : Type} {l : Addr} {vs : List Value} {nn : Nat} {m₀ : Str → Option Value} (Led : σ → List (Addr × Obj)) (ps : σ → List (Str × Value)) (P : Nat → σ → Prop) (c₀ : σ)
    (hh : A.handled = none) (hl : s.heap.get? l = some (listOf vs.toArray nn)) (hlL : l ≠ env.locals) (F : Fr h₀ env.locals s.heap m₀) (N : News h₀ env.locals s.heap (Led c₀)) (hk : Has m₀ (ps c₀)) (hp : P 0 c₀)
    (hc : ∀ i c, P i c → ∀ p ∈ Led c, p.2.cls ≠ .type "list_iterator")
    (turn : ∀ (c : σ) (i : Nat) v (u : Str → Option Value) h tk own, vs[i]? = some v → P i c →
      Fr h₀ env.locals h (fun y => if y = x then some v else kstB u (ps c) y) → News h₀ env.locals h (Led c ++ own) →
      wpAny (model pw w) A (execs body env) (TP h₀ env.locals Led ps (P (i + 1)) own { s with heap := h, toks := tk }) E { s with heap := h, toks := tk })
    (done : ∀ (c : σ) (u : Str → Option Value) h tk, P vs.length c → Fr h₀ env.locals h (kstB u (ps c)) → News h₀ env.locals h (Led c) → Q .next { s with heap := h, toks := tk }) :
    wpAny (model pw w) A (pyIter (.ref l)) (fun it s₂ => LoopAtV pw w A h₀ env x body Q E it s₂) E s := by
  have hls : s.heap.IsList l vs.toArray := ⟨_, hl, rfl, nn, rfl⟩
  have hne : l ≠ s.heap.objs.size := Nat.ne_of_lt (Heap.lt_size hl)
  refine wpAny_pyIter_list hls ?_
  have W := Walks.list (prog := pw) (w := w) hh s.heap.objs.size l hne vs.toArray
  have hlen : vs.toArray.size = vs.length := by simp
  rw [hlen] at W
  refine lpCoreP (s := { s with heap := s.heap.push _ }) Led ps P c₀ W ?_ ?_ ?_ ⟨⟨_, Heap.get?_push_size _ rfl, rfl, rfl⟩, hls.at fun o e => Heap.get?_push_of_some _ e⟩ (F.push _) (fun p hp => ⟨Heap.get?_push_of_some _ (N p hp).1, (N p hp).2⟩) hk hp (fun i h c c' hP st _ N p hp hI => ?_) ?_ done
  · intro hm
    rcases List.mem_cons.mp hm with e | hm
    · exact absurd F.ns.lt (e ▸ Nat.lt_irrefl _)
    · exact hlL (List.mem_singleton.mp hm).symm
  · intro b hb
    rw [List.mem_singleton.mp hb]
    exact next_is_new F
  · intro p hp hI
    exact absurd (Heap.lt_size (N p hp).1) ((List.mem_singleton.mp hI) ▸ Nat.lt_irrefl _)
  · obtain ⟨⟨o, ho, hcl, _⟩, _⟩ := st
    have h1 := (N p hp).1
    rw [List.mem_singleton.mp hI, ho] at h1
    exact hc _ c' hP p hp (by rw [← Option.some.inj h1]; exact hcl)
  · intro c i v u h tk own hi hv hp' F₁ N₁
    exact turn c i v u h tk own (by simpa using hv) hp' F₁ N₁
/-- a loop over range(a, b, d) -/
theorem lpRangeP {σ : Type} {r : Addr} {a₀ b₀ d : Int} {t₀ u₀ v₀ : Tok} {n : Nat} {m₀ : Str → Option Value} (Led : σ → List (Addr × Obj)) (ps : σ → List (Str × Value)) (P : Nat → σ → Prop) (c₀ : σ)
    (hh : A.handled = none) (hr : IsRange s.heap r a₀ b₀ d t₀ u₀ v₀) (hsmall : Builtin.Range.small a₀ b₀ d = true) (hn : Builtin.Range.rangeSize a₀ b₀ d = (n : Int)) (F : Fr h₀ env.locals s.heap m₀) (N : News h₀ env.locals s.heap (Led c₀)) (hk : Has m₀ (ps c₀)) (hp : P 0 c₀)
    (hc : ∀ i c, P i c → ∀ p ∈ Led c, p.2.cls ≠ .type "range_iterator")
    (turn : ∀ (c : σ) (i : Nat) t (u : Str → Option Value) h tk own, i < n → P i c →
      Fr h₀ env.locals h (fun y => if y = x then some (.int (a₀ + i * d) t) else kstB u (ps c) y) → News h₀ env.locals h (Led c ++ own) →
      wpAny (model pw w) A (execs body env) (TP h₀ env.locals Led ps (P (i + 1)) own { s with heap := h, toks := tk }) E { s with heap := h, toks := tk })
    (done : ∀ (c : σ) (u : Str → Option Value) h tk, P n c → Fr h₀ env.locals h (kstB u (ps c)) → News h₀ env.locals h (Led c) → Q .next { s with heap := h, toks := tk }) :
    wpAny (model pw w) A (pyIter (.ref r)) (fun it s₂ => LoopAtV pw w A h₀ env x body Q E it s₂) E s := by
  refine wpAny_pyIter_range hr hsmall ?_
  have W : Walks pw w A s.heap.objs.size [s.heap.objs.size] [s.heap.objs.size] n (fun i v => i < n ∧ ∃ t, v = .int (a₀ + i * d) t)
      (fun i h => IsRangeIter h s.heap.objs.size (a₀ + (i : Nat) * d) ((n : Int) - (i : Nat)) d) := (Walks.range hh _ a₀ d n).bound
  refine lpCoreP (s := { s with heap := s.heap.push _ }) Led ps P c₀ W ?_ ?_ ?_ (by show IsRangeIter _ _ _ _ _; rw [hn]; simpa using Heap.get?_push_size _ rfl) (F.push _) (fun p hp => ⟨Heap.get?_push_of_some _ (N p hp).1, (N p hp).2⟩) hk hp (fun i h c c' hp st hl N' => iter_cls st N' (hc _ c' hp)) ?_ ?_
  · intro hm
    exact absurd F.ns.lt ((List.mem_singleton.mp hm) ▸ Nat.lt_irrefl _)
  · intro b hb
    rw [List.mem_singleton.mp hb]
    exact next_is_new F
  · intro p hp hI
    exact absurd (Heap.lt_size (N p hp).1) ((List.mem_singleton.mp hI) ▸ Nat.lt_irrefl _)
  · rintro c i v u h tk own hi ⟨_, t, rfl⟩ hp' F₁ N₁
    exact turn c i t u h tk own hi hp' F₁ N₁
  · exact done
end
end Mine
end
section
open PySem PySem.W PyProof.Rows PySem.Calls
set_option maxRecDepth 100000
set_option maxHeartbeats 4000000
set_option linter.all false
namespace Mine
/-! what the law computes, in plain words -/
noncomputable def fm (z : Int) (m : Nat) : Nat := (z.fmod m).toNat
theorem fm_eq (z : Int) {m : Nat} (h : 0 < m) : z.fmod (m : Int) = (fm z m : Int) := by
  have := Int.fmod_nonneg_of_pos z (show (0 : Int) < m by omega)
  unfold fm
  omega
theorem fm_lt (z : Int) {m : Nat} (h : 0 < m) : fm z m < m := by
  have h1 := Int.fmod_lt_of_pos z (show (0 : Int) < m by omega)
  have h2 := fm_eq z h
  omega
noncomputable def gx (X : List Int) (i : Nat) : Int := X.getD i 0
noncomputable def markL (X : List Int) : List Nat := fm (gx X 4) 256 :: (if fm ((gx X 4).fdiv 256) 2 = 1 then [fm ((gx X 4).fdiv 512) 256] else [])
noncomputable def octF (z : Int) : Nat := if fm z 256 = 10 ∨ fm z 256 = 13 then fm z 256 + 118 else fm z 256
noncomputable def oddF (z : Int) : Bool := fm (z.fdiv 256) 2 == 1
noncomputable def exF (z : Int) : List Nat := [33 + fm (z.fdiv 1280) 28, 62 + fm (z.fdiv 35840) 65]
noncomputable def szF (k : Nat) (z : Int) (nw : Bool) : Nat := if k = 3 then fm (z.fdiv 256 + 2) 5 else if nw then fm (z.fdiv 256 + 2) 3 else 2
noncomputable def frontF (k : Nat) (z : Int) (nw : Bool) : List Nat :=
  if plainN (octF z) then octF z :: (exF z ++ exF z).take (szF k z nw) else if oddF z then [] else [octF z]
noncomputable def backF (z : Int) : List Nat := if plainN (octF z) then [] else if oddF z then [octF z] else []
noncomputable def nwF (ts : List (List Nat)) : Bool := (showT fgU (ts.headD [])).headD 0 == 61
/-- the numbers that the law reads out of its script -/
structure LawP where
  U : Nat
  tn : Nat
  pl : Nat
  ch : Nat
  X : List Int
noncomputable def stF (p : LawP) (k : Nat) : Nat := if k = 0 then 4294967295 else p.U
noncomputable def brF (p : LawP) (k : Nat) (nw : Bool) : List Nat := bridgeF (stF p k) p.U (frontF k (gx p.X k) nw) (backF (gx p.X k))
noncomputable def turnF (pl ch : Nat) (br : List Nat) : List Nat := br.take pl ++ [br.getD pl 0 ^^^ ch] ++ br.drop (pl + 1)
noncomputable def brT (p : LawP) (k : Nat) (nw : Bool) : List Nat := if k = p.tn then turnF p.pl p.ch (brF p k nw) else brF p k nw
noncomputable def rowT (p : LawP) (k : Nat) (nw : Bool) : List Nat := frontF k (gx p.X k) nw ++ brT p k nw ++ backF (gx p.X k)
noncomputable def rowsT (p : LawP) : Nat → List (List Nat)
  | 0 => []
  | i + 1 => rowT p (3 - i) (nwF (rowsT p i)) :: rowsT p i
noncomputable def trailT (p : LawP) (i : Nat) : Nat := if 4 - i ≤ p.tn then (backF (gx p.X p.tn)).length else 0
noncomputable def lawP (X : List Int) : LawP := ⟨unmoved (markL X), 1 + fm (gx X 6) 3, fm ((gx X 6).fdiv 3) 7, fm ((gx X 6).fdiv 21) 32, X⟩
noncomputable def splitW (ws : List (List Nat)) : List (List Nat) := if (ws.getD 3 []).length = 12 then ws.take 3 ++ [(ws.getD 3 []).take 10, (ws.getD 3 []).drop 10] else ws
noncomputable def endF (X : List Int) : List Nat := [[10], [13, 10], [13]].getD (fm ((gx X 5).fdiv 48) 3) []
noncomputable def fgL : List Nat := [48, 49, 50, 51, 52, 53, 54, 55, 56, 57, 97, 98, 99, 100, 101, 102]
noncomputable def figF (X : List Int) : List Nat := if fm ((gx X 5).fdiv 864) 2 = 1 then fgL else fgU
noncomputable def ordF (X : List Int) : List Nat := [[0, 1, 2, 3], [0, 2, 1, 3], [0, 3, 1, 2], [0, 1, 3, 2], [0, 2, 3, 1], [0, 3, 2, 1]].getD (fm (gx X 5) 3 + 3 * fm ((gx X 5).fdiv 3) 2) []
noncomputable def tornF (X : List Int) (k : Nat) : Bool := fm (((gx X 5).fdiv 6).fdiv ((2 : Int) ^ k)) 2 == 1
noncomputable def blankF (X : List Int) : Bool := fm ((gx X 5).fdiv 144) 2 == 1
noncomputable def moreF (X : List Int) : Nat := fm ((gx X 5).fdiv 288) 3
/-- the state of the loop that sends -/
structure SD where
  sent : List Nat
  due : List Nat
  behind : Nat
noncomputable def txt (p : LawP) (ts : List (List Nat)) (k : Nat) : List Nat := ts.getD ((ordF p.X).getD k 0) []
noncomputable def sendF (p : LawP) (ts : List (List Nat)) (mark : List Nat) (trail : Nat) (k : Nat) (d : SD) : SD :=
  ⟨d.sent ++ showT (figF p.X) (txt p ts k) ++ (if k < 3 then (if tornF p.X k then [] else [61]) ++ (if blankF p.X then [32, 9] else []) ++ endF p.X else []),
   d.due ++ txt p ts k ++ (if k < 3 ∧ tornF p.X k = true then mark else []),
   (if (ordF p.X).getD k 0 = p.tn then trail else d.behind + (txt p ts k).length) + (if k < 3 ∧ tornF p.X k = true then mark.length else 0)⟩
noncomputable def sendN (p : LawP) (ts : List (List Nat)) (mark : List Nat) (trail : Nat) : Nat → SD
  | 0 => ⟨[], [], 0⟩
  | k + 1 => sendF p ts mark trail k (sendN p ts mark trail k)
noncomputable def moreN (X : List Int) (mark : List Nat) (d : SD) : Nat → SD
  | 0 => d
  | n + 1 => ⟨(moreN X mark d n).sent ++ endF X, (moreN X mark d n).due ++ mark, (moreN X mark d n).behind + mark.length⟩
end Mine
end
section
open PySem PySem.W PyProof.Rows PySem.Calls
set_option maxRecDepth 100000
set_option maxHeartbeats 4000000
set_option linter.all false
namespace Mine
local macro_rules | `(tactic| k_steps) => `(tactic| repeat' (first
  | (k_unfold; (try dsimp only))
  | ((fail_if_success (with_reducible first | show wpAny _ _ (exec (.For _ _ _ _ _) _) _ _ _ | show wpAny _ _ (exec (.While _ _ _ _) _) _ _ _ | show wpAny _ _ (pyIter _) _ _ _ | show wpAny _ _ (exec (.If _ _ _ _) _) _ _ _ | show wpAny _ _ (call (Value.ref _) _) _ _ _ | show wpAny _ _ (call (Value.builtin "chr") _) _ _ _ | show wpAny _ _ (call (Value.type "int") _) _ _ _ | show wpAny _ _ (call (Value.builtin "str.translate") _) _ _ _)); walk1; (try (all_goals dsimp only)))
  | ((fail_if_success (with_reducible first | show wpAny _ _ (exec (.If _ _ _ _) _) _ _ _ | show wpAny _ _ (call (Value.ref _) _) _ _ _ | show wpAny _ _ (call (Value.builtin "chr") _) _ _ _ | show wpAny _ _ (call (Value.type "int") _) _ _ _ | show wpAny _ _ (call (Value.builtin "str.translate") _) _ _ _)); dsimp only; walk1) | fail "no step"))
/-- the state of the law's first loop -/
structure LB where
  vt : List Value
  vw : List Value
  lt : Addr
  lw : Addr
  nt : Nat
  nw : Nat
  tr : Nat
  t5 : Tok
noncomputable def LB.led (lx lh : Addr) (us : List Value) (hc : HS) (c : LB) : List (Addr × Obj) := [(lx, W.listOf us.toArray 0), (c.lt, W.listOf c.vt.toArray c.nt), (c.lw, W.listOf c.vw.toArray c.nw)] ++ (lh, W.listOf hc.vs.toArray hc.nn) :: hc.tups
noncomputable def LB.ok (p : LawP) (i : Nat) (c : LB) : Prop := StrsAre c.vt ((rowsT p i).map tx) ∧ StrsAre c.vw (((rowsT p i).map (showT fgU)).map tx) ∧ c.tr = trailT p i
theorem LB.cls {lx lh : Addr} {us : List Value} {hc : HS} (hco : hc.ok heldL) (c : LB) : ∀ p ∈ c.led lx lh us hc, p.2.cls ≠ .type "list_iterator" := by
  intro p hp
  rcases List.mem_append.mp hp with e | e
  · simp only [List.mem_cons, List.not_mem_nil, or_false] at e
    rcases e with rfl | rfl | rfl <;> simp [W.listOf]
  · rcases List.mem_cons.mp e with rfl | e
    · simp [W.listOf]
    · rw [hco.2.1 p e]; simp
noncomputable def psL (p : LawP) (lx lh : Addr) (mk : List Nat) (t0 t1 t2 t3 t4 : Tok) (c : LB) : List (Str × Value) :=
  [(Str.ofString "x", .ref lx), (Str.ofString "mark", .str (tx mk) t0), (Str.ofString "unmoved", .int (p.U : Nat) t1), (Str.ofString "held", .ref lh), (Str.ofString "turned", .int (p.tn : Nat) t2), (Str.ofString "place", .int (p.pl : Nat) t3), (Str.ofString "change", .int (p.ch : Nat) t4), (Str.ofString "trail", .int (c.tr : Nat) c.t5), (Str.ofString "texts", .ref c.lt), (Str.ofString "written", .ref c.lw)]
noncomputable def psB (p : LawP) (lx lh : Addr) (mk : List Nat) (t0 t1 t2 t3 t4 : Tok) (k : Nat) (t : Tok) (c : LB) : List (Str × Value) :=
  [(Str.ofString "k", .int (k : Nat) t), (Str.ofString "x", .ref lx), (Str.ofString "mark", .str (tx mk) t0), (Str.ofString "unmoved", .int (p.U : Nat) t1), (Str.ofString "held", .ref lh), (Str.ofString "turned", .int (p.tn : Nat) t2), (Str.ofString "place", .int (p.pl : Nat) t3), (Str.ofString "change", .int (p.ch : Nat) t4), (Str.ofString "trail", .int (c.tr : Nat) c.t5), (Str.ofString "texts", .ref c.lt), (Str.ofString "written", .ref c.lw)]
theorem oct_ten {z : Int} (h : z.fmod 256 = 10 ∨ z.fmod 256 = 13) : z.fmod 256 + 118 = (octF z : Nat) := by
  have e := fm_eq z (m := 256) (by decide)
  have e' : z.fmod 256 = (fm z 256 : Int) := e
  rw [e'] at h ⊢
  unfold octF
  rw [if_pos (by omega)]; omega
theorem oct_not {z : Int} (h1 : ¬ z.fmod 256 = 10) (h2 : ¬ z.fmod 256 = 13) : z.fmod 256 = (octF z : Nat) := by
  have e := fm_eq z (m := 256) (by decide)
  have e' : z.fmod 256 = (fm z 256 : Int) := e
  rw [e'] at h1 h2 ⊢
  unfold octF
  rw [if_neg (by omega)]
theorem octF_lt (z : Int) : octF z < 256 := by
  have := fm_lt z (m := 256) (by decide)
  unfold octF
  split <;> omega
theorem st_zero {p : LawP} {k : Nat} (h : k = 0) : (4294967295 : Int) = (stF p k : Nat) := by unfold stF; rw [if_pos h]; rfl
theorem st_not {p : LawP} {k : Nat} (h : k ≠ 0) : (p.U : Int) = (stF p k : Nat) := by unfold stF; rw [if_neg h]
theorem st_lt {p : LawP} {k : Nat} (h : p.U < 2 ^ 32) : stF p k < 2 ^ 32 := by unfold stF; split <;> omega
theorem front_len (k : Nat) (z : Int) (nw : Bool) : (frontF k z nw).length ≤ 5 := by
  unfold frontF
  split
  · have : ((exF z ++ exF z).take (szF k z nw)).length ≤ 4 := by
      rw [List.length_take]
      exact Nat.le_trans (Nat.min_le_right _ _) (by simp [exF])
    simp only [List.length_cons]; omega
  · split <;> simp
theorem back_len (z : Int) : (backF z).length ≤ 1 := by
  unfold backF
  split
  · simp
  · split <;> simp
theorem fm28 (z : Int) : 0 ≤ z.fmod 28 ∧ z.fmod 28 < 28 := ⟨Int.fmod_nonneg_of_pos z (by decide), Int.fmod_lt_of_pos z (by decide)⟩
theorem fm65 (z : Int) : 0 ≤ z.fmod 65 ∧ z.fmod 65 < 65 := ⟨Int.fmod_nonneg_of_pos z (by decide), Int.fmod_lt_of_pos z (by decide)⟩
theorem sz_three {k : Nat} {z : Int} {nw : Bool} (h : k = 3) : (z.fdiv 256 + 2).fmod 5 = (szF k z nw : Nat) := by
  unfold szF; rw [if_pos h]; exact fm_eq _ (m := 5) (by decide)
theorem LB.first {p : LawP} {i : Nat} {c : LB} (hp : c.ok p i) (h : i ≠ 0) : ∃ y ys ty vw', c.vw = Value.str (tx (showT fgU y)) ty :: vw' ∧ rowsT p i = y :: ys := by
  obtain ⟨_, h2, _⟩ := hp
  cases i with
  | zero => exact absurd rfl h
  | succ i =>
    have e : rowsT p (i + 1) = rowT p (3 - i) (nwF (rowsT p i)) :: rowsT p i := rfl
    rw [e, List.map_cons, List.map_cons] at h2
    generalize c.vw = vw at h2 ⊢
    cases h2 with
    | cons _ t hr => exact ⟨_, _, _, _, rfl, e⟩
theorem odd_of {z : Int} {b : Bool} (h : ((z.fdiv 256).fmod 2 == 1) = b) : oddF z = b := by
  unfold oddF
  have e := fm_eq (z.fdiv 256) (m := 2) (by decide)
  have e' : (z.fdiv 256).fmod 2 = (fm (z.fdiv 256) 2 : Int) := e
  rw [e'] at h
  rw [← h, Bool.eq_iff_iff, beq_iff_eq, beq_iff_eq]; omega
theorem front_odd {k : Nat} {z : Int} {nw : Bool} (h1 : plainN (octF z) = false) (h2 : (z.fdiv 256).fmod 2 = 1) : Str.ofString "" = tx (frontF k z nw) := by
  have := odd_of (z := z) (b := true) (by rw [h2]; rfl)
  unfold frontF; rw [h1, this]; rfl
theorem back_odd {z : Int} (h1 : plainN (octF z) = false) (h2 : (z.fdiv 256).fmod 2 = 1) : (⟨#[((octF z : Nat) : Int).toNat]⟩ : Str) = tx (backF z) := by
  have := odd_of (z := z) (b := true) (by rw [h2]; rfl)
  unfold backF; rw [h1, this]; rfl
theorem front_even {k : Nat} {z : Int} {nw : Bool} (h1 : plainN (octF z) = false) (h2 : ¬ (z.fdiv 256).fmod 2 = 1) : (⟨#[((octF z : Nat) : Int).toNat]⟩ : Str) = tx (frontF k z nw) := by
  have := odd_of (z := z) (b := false) (by simp [h2])
  unfold frontF; rw [h1, this]; rfl
theorem back_even {z : Int} (h1 : plainN (octF z) = false) (h2 : ¬ (z.fdiv 256).fmod 2 = 1) : Str.ofString "" = tx (backF z) := by
  have := odd_of (z := z) (b := false) (by simp [h2])
  unfold backF; rw [h1, this]; rfl
theorem turnF_len {pl ch : Nat} {br : List Nat} : (turnF pl ch br).length ≤ br.length + 1 := by
  simp only [turnF, List.length_append, List.length_take, List.length_drop, List.length_cons, List.length_nil]; omega
theorem brT_len (p : LawP) (k : Nat) (nw : Bool) : (brT p k nw).length ≤ 8 := by
  unfold brT
  split
  · exact Nat.le_trans turnF_len (by show (bridgeF _ _ _ _).length + 1 ≤ 8; rw [bridgeF_length]; omega)
  · show (bridgeF _ _ _ _).length ≤ 8; rw [bridgeF_length]; omega
theorem br_not {p : LawP} {k : Nat} {nw : Bool} (h : k ≠ p.tn) : tx (bridgeF (stF p k) p.U (frontF k (gx p.X k) nw) (backF (gx p.X k))) = tx (brT p k nw) := by
  unfold brT; rw [if_neg h]; rfl
theorem trail_next {p : LawP} {i : Nat} (hi : i < 4) (htn : 1 ≤ p.tn ∧ p.tn ≤ 3) : trailT p (i + 1) = if 3 - i = p.tn then (backF (gx p.X p.tn)).length else trailT p i := by
  unfold trailT
  by_cases h : 3 - i = p.tn
  · rw [if_pos h, if_pos (by omega)]
  · rw [if_neg h]
    by_cases h2 : 4 - i ≤ p.tn
    · rw [if_pos h2, if_pos (by omega)]
    · rw [if_neg h2, if_neg (by omega)]
theorem tr_not {p : LawP} {i : Nat} {c : LB} {o : Option Value} (hi : i < 4) (hp : c.ok p i) (htn : 1 ≤ p.tn ∧ p.tn ≤ 3) (h : 3 - i ≠ p.tn) (e : o = some (.int (c.tr : Nat) c.t5)) : o = some (.int (trailT p (i + 1) : Nat) c.t5) := by
  rw [e, trail_next hi htn, if_neg h, hp.2.2]
theorem rowsT_len (p : LawP) : ∀ i, (rowsT p i).length = i
  | 0 => rfl
  | i + 1 => by show (rowsT p i).length + 1 = _; rw [rowsT_len p i]
theorem turnF_ne {pl ch : Nat} {br : List Nat} : turnF pl ch br ≠ [] := by simp [turnF]
theorem rowT_ne (p : LawP) (k : Nat) (nw : Bool) : rowT p k nw ≠ [] := by
  have h : brT p k nw ≠ [] := by
    unfold brT
    split
    · exact turnF_ne
    · intro e
      have := bridgeF_length (stF p k) p.U (frontF k (gx p.X k) nw) (backF (gx p.X k))
      rw [show bridgeF (stF p k) p.U (frontF k (gx p.X k) nw) (backF (gx p.X k)) = [] from e] at this
      exact absurd this (by decide)
  intro e
  simp only [rowT, List.append_eq_nil_iff] at e
  exact h e.1.2
theorem rows_ne {p : LawP} {i : Nat} {y : List Nat} {ys : List (List Nat)} (h : rowsT p i = y :: ys) : y ≠ [] := by
  cases i with
  | zero => cases h
  | succ i =>
    have e : rowsT p (i + 1) = rowT p (3 - i) (nwF (rowsT p i)) :: rowsT p i := rfl
    rw [e] at h
    injection h with h1 h2
    rw [← h1]; exact rowT_ne _ _ _
theorem ex_eq (z : Int) (x : Str) (h : x = ⟨#[(33 + (z.fdiv 1280).fmod 28).toNat]⟩ ++ ⟨#[(62 + (z.fdiv 35840).fmod 65).toNat]⟩) : x = tx (exF z) := by
  have e1 : (z.fdiv 1280).fmod 28 = (fm (z.fdiv 1280) 28 : Int) := fm_eq _ (m := 28) (by decide)
  have e2 : (z.fdiv 35840).fmod 65 = (fm (z.fdiv 35840) 65 : Int) := fm_eq _ (m := 65) (by decide)
  rw [h, e1, e2, show (33 + (fm (z.fdiv 1280) 28 : Int)).toNat = 33 + fm (z.fdiv 1280) 28 by omega, show (62 + (fm (z.fdiv 35840) 65 : Int)).toNat = 62 + fm (z.fdiv 35840) 65 by omega]
  exact tx_app _ _
theorem sz_le (k : Nat) (z : Int) (nw : Bool) : szF k z nw ≤ 4 := by
  have h1 := fm_lt (z.fdiv 256 + 2) (m := 5) (by decide)
  have h2 := fm_lt (z.fdiv 256 + 2) (m := 3) (by decide)
  unfold szF
  split
  · omega
  · split <;> omega
theorem mul_two {w : World} {A : Around} {E : Value → Shared → Prop} {s : Shared} {x : Str} {t u : Tok} {Q : Value → Shared → Prop} (h0 : x.length ≠ 0) (h1 : x.length ≤ 10) (h : Q (.str (x ++ x) s.toks) { s with toks := s.toks + 1 }) :
    wpAny (model pw w) A (binaryOp .Mult (.int 2 u) (.str x t)) Q E s := by
  have hne : (x.length == 0) = false := by simpa using h0
  refine lm_binaryOp_repeat_right (T := "str") (U := "int") (by decide) (fun s' => typeIs_int s' 2 u) (typeIs_str s x t) F.fills_int_mul noFill_str_mul F.slot_int_mul lm_noRepeat_int repeat_str F.slot_int_index.lookup
    (call_gives F.slot_int_mul (typeIs_int s 2 u) F.entry_int_mul (F.args_int_mul_2 _ _) (AutoIntG3.int___mul___int_str_0 2 u x t)
      ⟨rfl, typeIs_str s x t, call_gives F.slot_str_mul (typeIs_str s x t) F.entry_str_mul (F.args_str_mul_2 _ _) (gives_str_mul x 2 t u (by decide) (fun _ _ => by omega) (fun _ _ => ?_)) ?_⟩)
  · simp only [Builtin.Str.tooLong]
    have : ¬ x.length * (2 : Int).toNat > 2 ^ 24 := by
      have : (2 : Int).toNat = 2 := rfl
      rw [this]; omega
    simp
    rw [sizeLine_eq]; omega
  · rw [if_neg (by decide), if_neg (by rw [hne]; decide)]
    have e : (⟨(List.replicate (2 : Int).toNat x.cps).foldl (· ++ ·) #[]⟩ : Str) = x ++ x := by
      show (⟨(#[] ++ x.cps) ++ x.cps⟩ : Str) = ⟨x.cps ++ x.cps⟩
      simp
    rw [e]
    refine ⟨?_, h⟩
    rw [Str.length_append, sizeLine_eq]; omega
theorem turn_chr {br : List Nat} {pl ch : Nat} (hr : ∀ c ∈ br, 64 ≤ c ∧ c < 96) (hl : br.length = 7) (hp : pl < 7) : Builtin.bitXor (((Txt.item (tx br) (pl : Nat)).cps.getD 0 0 : Nat) : Int) (ch : Nat) = ((br.getD pl 0 ^^^ ch : Nat) : Int) := by
  rw [item_at' (ln := br) (i := pl) rfl (by omega), bxor_nat]
  rfl
theorem turn_lt {br : List Nat} {pl ch : Nat} (hr : ∀ c ∈ br, 64 ≤ c ∧ c < 96) (hl : br.length = 7) (hp : pl < 7) (hch : ch < 32) : br.getD pl 0 ^^^ ch < 128 := by
  have h1 : br.getD pl 0 < 96 := by
    rw [List.getD_eq_getElem?_getD, List.getElem?_eq_getElem (by omega)]
    exact (hr _ (List.getElem_mem _)).2
  exact Nat.xor_lt_two_pow (n := 7) (by omega) (by omega)
theorem nw_of {p : LawP} {i : Nat} {y : List Nat} {ys : List (List Nat)} (hr : rowsT p i = y :: ys) (hy : showT fgU y ≠ []) {b : Bool} (e : (Txt.item (tx (showT fgU y)) 0 == Str.ofString "=") = b) : nwF (rowsT p i) = b := by
  have h := eq_test2 (ln := showT fgU y) (i := 0) (z := 0) rfl (List.length_pos_iff.mpr hy) e
  unfold nwF
  rw [hr, List.headD_cons, ← h]
  show ((showT fgU y).headD 0 == 61) = ((showT fgU y).getD 0 0 == 61)
  cases showT fgU y <;> rfl
theorem sz_eq {p : LawP} {i k : Nat} {z : Int} {y : List Nat} {ys : List (List Nat)} (hr : rowsT p i = y :: ys) (hy : showT fgU y ≠ []) (hk : k ≠ 3) (e : (Txt.item (tx (showT fgU y)) 0 == Str.ofString "=") = true) : (z.fdiv 256 + 2).fmod 3 = (szF k z (nwF (rowsT p i)) : Nat) := by
  rw [nw_of hr hy e]
  unfold szF; rw [if_neg hk, if_pos rfl]; exact fm_eq _ (m := 3) (by decide)
theorem sz_ne {p : LawP} {i k : Nat} {z : Int} {y : List Nat} {ys : List (List Nat)} (hr : rowsT p i = y :: ys) (hy : showT fgU y ≠ []) (hk : k ≠ 3) (e : (Txt.item (tx (showT fgU y)) 0 == Str.ofString "=") = false) : (2 : Int) = (szF k z (nwF (rowsT p i)) : Nat) := by
  rw [nw_of hr hy e]
  unfold szF; rw [if_neg hk, if_neg (by decide)]; rfl
theorem front_plain {k : Nat} {z : Int} {nw : Bool} (h1 : plainN (octF z) = true) : tx [octF z] ++ tx ((exF z ++ exF z).take (szF k z nw)) = tx (frontF k z nw) := by
  rw [tx_app]; unfold frontF; rw [if_pos h1]; rfl
theorem back_plain {z : Int} (h1 : plainN (octF z) = true) : tx [] = tx (backF z) := by
  unfold backF; rw [if_pos h1]
theorem br_turn {p : LawP} {k : Nat} {nw : Bool} (hl : (bridgeF (stF p k) p.U (frontF k (gx p.X k) nw) (backF (gx p.X k))).length = 7) (hp : p.pl < 7) (h : k = p.tn) :
    Txt.slice (tx (bridgeF (stF p k) p.U (frontF k (gx p.X k) nw) (backF (gx p.X k)))) none (some (p.pl : Nat)) ++ (⟨#[(((bridgeF (stF p k) p.U (frontF k (gx p.X k) nw) (backF (gx p.X k))).getD p.pl 0 ^^^ p.ch : Nat) : Int).toNat]⟩ : Str) ++ Txt.slice (tx (bridgeF (stF p k) p.U (frontF k (gx p.X k) nw) (backF (gx p.X k)))) (some ((p.pl : Nat) + 1)) none = tx (brT p k nw) := by
  rw [slice_to _ p.pl _ rfl (by omega), slice_from _ (p.pl + 1) _ (by omega) (by omega)]
  unfold brT
  rw [if_pos h]
  show tx _ ++ tx [_] ++ tx _ = _
  rw [tx_app, tx_app]; rfl
theorem tr_turn {p : LawP} {i : Nat} {t : Tok} {o : Option Value} (hi : i < 4) (htn : 1 ≤ p.tn ∧ p.tn ≤ 3) (h : 3 - i = p.tn) (e : o = some (.int ((tx (backF (gx p.X (3 - i)))).length : Nat) t)) : o = some (.int (trailT p (i + 1) : Nat) t) := by
  rw [e, trail_next hi htn, if_pos h, tx_len, h]
theorem row_len (p : LawP) (k : Nat) (nw : Bool) : (frontF k (gx p.X k) nw ++ brT p k nw ++ backF (gx p.X k)).length ≤ 1000 := by
  have h1 := front_len k (gx p.X k) nw
  have h2 := brT_len p k nw
  have h3 := back_len (gx p.X k)
  simp only [List.length_append]; omega
theorem exF_lt (z : Int) : ∀ c ∈ exF z, 33 ≤ c ∧ c < 127 ∧ c ≠ 61 := by
  have h1 := fm_lt (z.fdiv 1280) (m := 28) (by decide)
  have h2 := fm_lt (z.fdiv 35840) (m := 65) (by decide)
  intro c hc
  simp only [exF, List.mem_cons, List.not_mem_nil, or_false] at hc
  omega
theorem front_lt (k : Nat) (z : Int) (nw : Bool) : ∀ c ∈ frontF k z nw, c < 256 := by
  intro c hc
  have ho := octF_lt z
  unfold frontF at hc
  split at hc
  · rcases List.mem_cons.mp hc with rfl | h
    · exact ho
    · have h2 := List.mem_of_mem_take h
      rcases List.mem_append.mp h2 with h3 | h3 <;> · have := exF_lt z c h3; omega
  · split at hc
    · cases hc
    · rw [List.mem_singleton.mp hc]; exact ho
theorem back_lt (z : Int) : ∀ c ∈ backF z, c < 256 := by
  intro c hc
  have ho := octF_lt z
  unfold backF at hc
  split at hc
  · cases hc
  · split at hc
    · rw [List.mem_singleton.mp hc]; exact ho
    · cases hc
theorem turnF_range {pl ch : Nat} {br : List Nat} (hr : ∀ c ∈ br, 64 ≤ c ∧ c < 96) (hl : br.length = 7) (hp : pl < 7) (hch : ch < 32) : ∀ c ∈ turnF pl ch br, 64 ≤ c ∧ c < 96 := by
  intro c hc
  simp only [turnF, List.mem_append, List.mem_singleton] at hc
  rcases hc with (h | h) | h
  · exact hr c (List.mem_of_mem_take h)
  · rw [h]
    have h1 : 64 ≤ br.getD pl 0 ∧ br.getD pl 0 < 96 := by
      rw [List.getD_eq_getElem?_getD, List.getElem?_eq_getElem (by omega)]
      exact hr _ (List.getElem_mem _)
    generalize br.getD pl 0 = b at h1
    have key : ∀ b, b < 96 → 64 ≤ b → ∀ ch, ch < 32 → 64 ≤ b ^^^ ch ∧ b ^^^ ch < 96 := by decide +kernel
    exact key b h1.2 h1.1 ch hch
  · exact hr c (List.mem_of_mem_drop h)
theorem brT_range (p : LawP) (k : Nat) (nw : Bool) (hpl : p.pl < 7) (hch : p.ch < 32) : ∀ c ∈ brT p k nw, 64 ≤ c ∧ c < 96 := by
  unfold brT
  split
  · exact turnF_range (bridgeF_range _ _ _ _) (bridgeF_length _ _ _ _) hpl hch
  · exact bridgeF_range _ _ _ _
theorem row_lt (p : LawP) (k : Nat) (nw : Bool) (hpl : p.pl < 7) (hch : p.ch < 32) : ∀ c ∈ frontF k (gx p.X k) nw ++ brT p k nw ++ backF (gx p.X k), c < 256 := by
  intro c hc
  rcases List.mem_append.mp hc with h | h
  · rcases List.mem_append.mp h with h | h
    · exact front_lt _ _ _ c h
    · have := brT_range p k nw hpl hch c h; omega
  · exact back_lt _ c h
theorem fgU_cs : cs (Str.ofString "0123456789ABCDEF") = fgU := by decide +kernel
theorem LB.te {h₀ h' : Heap} {L lx lh D D2 : Addr} {us : List Value} {hc : HS} {c : LB} {own : List (Addr × Obj)} {x1 x2 : Addr × Obj} {v1 v2 : Value} {tr : Nat} {t : Tok}
    (N : News h₀ L h' ((D2, W.listOf (v2 :: c.vw).toArray 0) :: x1 :: (D, W.listOf (v1 :: c.vt).toArray 0) :: x2 :: ([(lx, W.listOf us.toArray 0), (c.lt, W.listOf c.vt.toArray c.nt), (c.lw, W.listOf c.vw.toArray c.nw)] ++ (lh, W.listOf hc.vs.toArray hc.nn) :: hc.tups ++ own))) :
    News h₀ L h' (own ++ LB.led lx lh us hc ⟨v1 :: c.vt, v2 :: c.vw, D, D2, 0, 0, tr, t⟩) := by
  intro q hq
  refine N q ?_
  simp only [LB.led, List.mem_append, List.mem_cons, List.not_mem_nil, or_false] at hq ⊢
  rcases hq with h | (h | h | h) | h | h
  · simp [h]
  · simp [h]
  · simp [h]
  · simp [h]
  · simp [h]
  · simp [h]
theorem kst_has' {h₀ h : Heap} {L : Addr} {m : Str → Option Value} {ps : List (Str × Value)} (F : Fr h₀ L h m) (k : Has m ps) : Fr h₀ L h (kstB m ps) := by rw [kstB_has k]; exact F
section
variable {w : World} {mg mb : Str → Option Value} {A : Around} {s : Shared} {L : Addr} {h : Heap} {tk : Nat} {Q : Flow → Shared → Prop} {cd : Value}
theorem law_B (r : Room A 2 6) (KX : (KK w.params).In s.heap) (T : TopRead qv loose mg mb s.heap) (p : LawP) (hX : p.X.length = 7) (hU : p.U < 2 ^ 32) (htn : 1 ≤ p.tn ∧ p.tn ≤ 3) (hpl : p.pl < 7) (hch : p.ch < 32)
    (lx lh lt lw : Addr) (us : List Value) (hus : IntsAre us p.X) (hc : HS) (hco : hc.ok heldL) (u : Str → Option Value) (t0 t1 t2 t3 t4 t5 : Tok) (mk : List Nat)
    (F : Fr s.heap L h (kstB u [(Str.ofString "x", .ref lx), (Str.ofString "mark", .str (tx mk) t0), (Str.ofString "unmoved", .int (p.U : Nat) t1), (Str.ofString "held", .ref lh), (Str.ofString "turned", .int (p.tn : Nat) t2), (Str.ofString "place", .int (p.pl : Nat) t3), (Str.ofString "change", .int (p.ch : Nat) t4), (Str.ofString "trail", .int 0 t5), (Str.ofString "texts", .ref lt), (Str.ofString "written", .ref lw)]))
    (N : News s.heap L h ([(lx, W.listOf us.toArray 0), (lt, W.listOf #[] 0), (lw, W.listOf #[] 0)] ++ (lh, W.listOf hc.vs.toArray hc.nn) :: hc.tups))
    (next : ∀ (lt lw : Addr) (vt vw : List Value) (nt nw : Nat) (t5 : Tok) (u : Str → Option Value) (h : Heap) (tk : Nat), StrsAre vt ((rowsT p 4).map tx) → StrsAre vw (((rowsT p 4).map (showT fgU)).map tx) →
      Fr s.heap L h (kstB u [(Str.ofString "x", .ref lx), (Str.ofString "mark", .str (tx mk) t0), (Str.ofString "unmoved", .int (p.U : Nat) t1), (Str.ofString "turned", .int (p.tn : Nat) t2), (Str.ofString "place", .int (p.pl : Nat) t3), (Str.ofString "change", .int (p.ch : Nat) t4), (Str.ofString "trail", .int (trailT p 4 : Nat) t5), (Str.ofString "texts", .ref lt), (Str.ofString "written", .ref lw)]) →
      News s.heap L h [(lx, W.listOf us.toArray 0), (lt, W.listOf vt.toArray nt), (lw, W.listOf vw.toArray nw)] →
      wpAny (model pw w) A (execs (List.drop 13 (fnB 33)) (envOf (Str.ofString "law") (fnS 33) L 142 cd)) Q (fun _ _ => False) { s with heap := h, toks := tk }) :
    wpAny (model pw w) A (execs (List.drop 12 (fnB 33)) (envOf (Str.ofString "law") (fnS 33) L 142 cd)) Q (fun _ _ => False) { s with heap := h, toks := tk } := by
  have hh := r.handled
  conv in (occs := *) (fnS 33) => all_goals whnf
  conv in (List.drop 12 (fnB 33)) => whnf
  dsimp only [kstB] at F
  try k_fold
  k_steps
  with_unfolding_all refine' For_invVF (by assumption) ?k1 ?k2 ?_
  case k1 => exact rfl
  case k2 => exact rfl
  k_steps
  rename_i ll hx FX NX l2
  refine lpListP (σ := LB) (l := ll) (fun c => c.led lx lh us hc) (fun c => psL p lx lh mk t0 t1 t2 t3 t4 c) (fun i c => LB.ok p i c) ⟨[], [], lt, lw, 0, 0, 0, t5⟩ hh (News.get NX (.head _)) (News.off NX (.head _)) FX (fun p hp => NX p (.tail _ hp)) (by repeat' (first | exact trivial | (refine And.intro ?_ ?_) | rfl)) ⟨.nil, .nil, by have := htn; unfold trailT; rw [if_neg (by omega)]⟩ (fun i c _ => LB.cls hco c) ?turn ?done
  case done =>
    intro c u h tk hp F N
    dsimp only [psL, kstB] at F
    refine next c.lt c.lw c.vt c.vw c.nt c.nw c.t5 _ h tk hp.1 hp.2.1 (kst_has' F ?_) (fun q hq => N q (List.mem_append_left _ hq))
    have e : c.tr = trailT p 4 := hp.2.2
    rw [← e]
    repeat' (first | exact trivial | (refine And.intro ?_ ?_) | rfl)
  case turn =>
    intro c i v u h tk own hv hp F N
    obtain ⟨hi, tv, rfl⟩ : i < 4 ∧ ∃ tv, v = .int ((3 - i : Nat) : Int) tv := by
      rcases i with _ | _ | _ | _ | i
      · exact ⟨by omega, _, (Option.some.inj hv).symm⟩
      · exact ⟨by omega, _, (Option.some.inj hv).symm⟩
      · exact ⟨by omega, _, (Option.some.inj hv).symm⟩
      · exact ⟨by omega, _, (Option.some.inj hv).symm⟩
      · simp at hv
    have hxl : p.X.length = 7 := hX
    dsimp only [psL, kstB, LB.led] at F N ⊢
    k_steps
    refine cut1 (h₀ := s.heap) (σ := Tok) (fun _ => c.led lx lh us hc ++ own) (fun t => (Str.ofString "octet", .int (octF (gx p.X (3 - i)) : Nat) t) :: psB p lx lh mk t0 t1 t2 t3 t4 (3 - i) tv c) (fun _ => True) ?go1 ?done1
    case go1 =>
      walk1
      k_steps
      · refine PE.mk _ (by assumption) (by assumption) (by intro p hp; first | exact hp | exact List.Mem.tail _ (hp) | exact List.Mem.tail _ (List.Mem.tail _ (hp)) | exact List.Mem.tail _ (List.Mem.tail _ (List.Mem.tail _ (hp))) | exact List.Mem.tail _ (List.Mem.tail _ (List.Mem.tail _ (List.Mem.tail _ (hp)))) | exact List.Mem.tail _ (List.Mem.tail _ (List.Mem.tail _ (List.Mem.tail _ (List.Mem.tail _ (hp))))) | exact List.Mem.tail _ (List.Mem.tail _ (List.Mem.tail _ (List.Mem.tail _ (List.Mem.tail _ (List.Mem.tail _ (hp)))))) | exact List.Mem.tail _ (List.Mem.tail _ (List.Mem.tail _ (List.Mem.tail _ (List.Mem.tail _ (List.Mem.tail _ (List.Mem.tail _ (hp))))))) | exact List.Mem.tail _ (List.Mem.tail _ (List.Mem.tail _ (List.Mem.tail _ (List.Mem.tail _ (List.Mem.tail _ (List.Mem.tail _ (List.Mem.tail _ (hp))))))))) (by refine And.intro (Has.int rfl (oct_ten (.inl (by assumption)))) ?_; repeat' (first | exact trivial | (refine And.intro ?_ ?_) | rfl)) trivial
      · refine PE.mk _ (by assumption) (by assumption) (by intro p hp; first | exact hp | exact List.Mem.tail _ (hp) | exact List.Mem.tail _ (List.Mem.tail _ (hp)) | exact List.Mem.tail _ (List.Mem.tail _ (List.Mem.tail _ (hp))) | exact List.Mem.tail _ (List.Mem.tail _ (List.Mem.tail _ (List.Mem.tail _ (hp)))) | exact List.Mem.tail _ (List.Mem.tail _ (List.Mem.tail _ (List.Mem.tail _ (List.Mem.tail _ (hp))))) | exact List.Mem.tail _ (List.Mem.tail _ (List.Mem.tail _ (List.Mem.tail _ (List.Mem.tail _ (List.Mem.tail _ (hp)))))) | exact List.Mem.tail _ (List.Mem.tail _ (List.Mem.tail _ (List.Mem.tail _ (List.Mem.tail _ (List.Mem.tail _ (List.Mem.tail _ (hp))))))) | exact List.Mem.tail _ (List.Mem.tail _ (List.Mem.tail _ (List.Mem.tail _ (List.Mem.tail _ (List.Mem.tail _ (List.Mem.tail _ (List.Mem.tail _ (hp))))))))) (by refine And.intro (Has.int rfl (oct_ten (.inr (by assumption)))) ?_; repeat' (first | exact trivial | (refine And.intro ?_ ?_) | rfl)) trivial
      · refine PE.mk _ (by assumption) (by assumption) (by intro p hp; first | exact hp | exact List.Mem.tail _ (hp) | exact List.Mem.tail _ (List.Mem.tail _ (hp)) | exact List.Mem.tail _ (List.Mem.tail _ (List.Mem.tail _ (hp))) | exact List.Mem.tail _ (List.Mem.tail _ (List.Mem.tail _ (List.Mem.tail _ (hp)))) | exact List.Mem.tail _ (List.Mem.tail _ (List.Mem.tail _ (List.Mem.tail _ (List.Mem.tail _ (hp))))) | exact List.Mem.tail _ (List.Mem.tail _ (List.Mem.tail _ (List.Mem.tail _ (List.Mem.tail _ (List.Mem.tail _ (hp)))))) | exact List.Mem.tail _ (List.Mem.tail _ (List.Mem.tail _ (List.Mem.tail _ (List.Mem.tail _ (List.Mem.tail _ (List.Mem.tail _ (hp))))))) | exact List.Mem.tail _ (List.Mem.tail _ (List.Mem.tail _ (List.Mem.tail _ (List.Mem.tail _ (List.Mem.tail _ (List.Mem.tail _ (List.Mem.tail _ (hp))))))))) (by refine And.intro (Has.int rfl (oct_not (by assumption) (by assumption))) ?_; repeat' (first | exact trivial | (refine And.intro ?_ ?_) | rfl)) trivial
    case done1 =>
      intro tc u h tk _ F N
      dsimp only [psB, kstB, LB.led] at F N ⊢
      have ho := octF_lt (gx p.X (3 - i))
      k_steps
      refine chr_of_range (by omega) (by omega) ?_
      k_steps
      refine cut1 (h₀ := s.heap) (σ := Tok × Tok) (fun _ => c.led lx lh us hc ++ own) (fun t => (Str.ofString "front", .str (tx (frontF (3 - i) (gx p.X (3 - i)) (nwF (rowsT p i)))) t.1) :: (Str.ofString "back", .str (tx (backF (gx p.X (3 - i)))) t.2) :: psB p lx lh mk t0 t1 t2 t3 t4 (3 - i) tv c) (fun _ => True) ?go2 ?done2
      case go2 =>
        walk1
        k_steps
        refine use_pure (plain_pure w mg mb (octF (gx p.X (3 - i)) : Nat) _) (by assumption) (by rfl) (by rfl) (by assumption) (by assumption) (by assumption) (by assumption) ?_; intro t h tk F N; dsimp only
        rw [plainF_nat]
        k_steps
        · refine cut1 (h₀ := s.heap) (σ := Tok × Tok × Tok) (fun _ => c.led lx lh us hc ++ own) (fun t => (Str.ofString "size", .int (szF (3 - i) (gx p.X (3 - i)) (nwF (rowsT p i)) : Nat) t.2.2) :: (Str.ofString "front", .str (tx [octF (gx p.X (3 - i))]) t.1) :: (Str.ofString "back", .str (tx []) t.2.1) :: psB p lx lh mk t0 t1 t2 t3 t4 (3 - i) tv c) (fun _ => True) ?go4 ?done4
          case go4 =>
            walk1
            k_steps
            · refine PE.mk (_, _, _) (by assumption) (by assumption) (by intro p hp; first | exact hp | exact List.Mem.tail _ (hp) | exact List.Mem.tail _ (List.Mem.tail _ (hp)) | exact List.Mem.tail _ (List.Mem.tail _ (List.Mem.tail _ (hp))) | exact List.Mem.tail _ (List.Mem.tail _ (List.Mem.tail _ (List.Mem.tail _ (hp)))) | exact List.Mem.tail _ (List.Mem.tail _ (List.Mem.tail _ (List.Mem.tail _ (List.Mem.tail _ (hp))))) | exact List.Mem.tail _ (List.Mem.tail _ (List.Mem.tail _ (List.Mem.tail _ (List.Mem.tail _ (List.Mem.tail _ (hp)))))) | exact List.Mem.tail _ (List.Mem.tail _ (List.Mem.tail _ (List.Mem.tail _ (List.Mem.tail _ (List.Mem.tail _ (List.Mem.tail _ (hp))))))) | exact List.Mem.tail _ (List.Mem.tail _ (List.Mem.tail _ (List.Mem.tail _ (List.Mem.tail _ (List.Mem.tail _ (List.Mem.tail _ (List.Mem.tail _ (hp))))))))) (by refine And.intro (Has.int rfl (sz_three (by omega))) ?_; repeat' (first | exact trivial | (refine And.intro ?_ ?_) | rfl)) trivial
            · obtain ⟨y, ys, ty, vw', hvw, hr⟩ := LB.first (i := i) hp (by omega)
              obtain ⟨cvt, cvw, clt, clw, cnt, cnw, ctr, ct5⟩ := c
              dsimp only at hvw
              subst hvw
              have hy0 : 0 < (tx (showT fgU y)).length := by rw [tx_len]; exact List.length_pos_iff.mpr (showT_ne (rows_ne hr))
              walk1
              k_steps
              · refine PE.mk (_, _, _) (by assumption) (by assumption) (by intro p hp; first | exact hp | exact List.Mem.tail _ (hp) | exact List.Mem.tail _ (List.Mem.tail _ (hp)) | exact List.Mem.tail _ (List.Mem.tail _ (List.Mem.tail _ (hp))) | exact List.Mem.tail _ (List.Mem.tail _ (List.Mem.tail _ (List.Mem.tail _ (hp)))) | exact List.Mem.tail _ (List.Mem.tail _ (List.Mem.tail _ (List.Mem.tail _ (List.Mem.tail _ (hp))))) | exact List.Mem.tail _ (List.Mem.tail _ (List.Mem.tail _ (List.Mem.tail _ (List.Mem.tail _ (List.Mem.tail _ (hp)))))) | exact List.Mem.tail _ (List.Mem.tail _ (List.Mem.tail _ (List.Mem.tail _ (List.Mem.tail _ (List.Mem.tail _ (List.Mem.tail _ (hp))))))) | exact List.Mem.tail _ (List.Mem.tail _ (List.Mem.tail _ (List.Mem.tail _ (List.Mem.tail _ (List.Mem.tail _ (List.Mem.tail _ (List.Mem.tail _ (hp))))))))) (by refine And.intro (Has.int rfl (sz_eq hr (showT_ne (rows_ne hr)) (by omega) (by assumption))) ?_; repeat' (first | exact trivial | (refine And.intro ?_ ?_) | rfl)) trivial
              · refine PE.mk (_, _, _) (by assumption) (by assumption) (by intro p hp; first | exact hp | exact List.Mem.tail _ (hp) | exact List.Mem.tail _ (List.Mem.tail _ (hp)) | exact List.Mem.tail _ (List.Mem.tail _ (List.Mem.tail _ (hp))) | exact List.Mem.tail _ (List.Mem.tail _ (List.Mem.tail _ (List.Mem.tail _ (hp)))) | exact List.Mem.tail _ (List.Mem.tail _ (List.Mem.tail _ (List.Mem.tail _ (List.Mem.tail _ (hp))))) | exact List.Mem.tail _ (List.Mem.tail _ (List.Mem.tail _ (List.Mem.tail _ (List.Mem.tail _ (List.Mem.tail _ (hp)))))) | exact List.Mem.tail _ (List.Mem.tail _ (List.Mem.tail _ (List.Mem.tail _ (List.Mem.tail _ (List.Mem.tail _ (List.Mem.tail _ (hp))))))) | exact List.Mem.tail _ (List.Mem.tail _ (List.Mem.tail _ (List.Mem.tail _ (List.Mem.tail _ (List.Mem.tail _ (List.Mem.tail _ (List.Mem.tail _ (hp))))))))) (by refine And.intro (Has.int rfl (sz_ne hr (showT_ne (rows_ne hr)) (by omega) (by assumption))) ?_; repeat' (first | exact trivial | (refine And.intro ?_ ?_) | rfl)) trivial
          case done4 =>
            intro tf u h tk _ F N
            dsimp only [psB, kstB, LB.led] at F N ⊢
            have hm1 := fm28 ((gx p.X (3 - i)).fdiv 1280)
            have hm2 := fm65 ((gx p.X (3 - i)).fdiv 35840)
            have hm3 : 0 ≤ ((p.X.getD (3 - i) 0).fdiv 1280).fmod 28 ∧ ((p.X.getD (3 - i) 0).fdiv 1280).fmod 28 < 28 := hm1
            have hm4 : 0 ≤ ((p.X.getD (3 - i) 0).fdiv 35840).fmod 65 ∧ ((p.X.getD (3 - i) 0).fdiv 35840).fmod 65 < 65 := hm2
            k_steps
            rw [show (p.X.getD ((3 - i : Nat) : Int).toNat 0) = p.X.getD (3 - i) 0 from rfl]
            refine chr_of_range (by omega) (by omega) ?_
            k_steps
            rw [show (p.X.getD ((3 - i : Nat) : Int).toNat 0) = p.X.getD (3 - i) 0 from rfl]
            refine chr_of_range (by omega) (by omega) ?_
            k_steps
            rw [show (p.X.getD (3 - i) 0) = gx p.X (3 - i) from rfl, ex_eq (gx p.X (3 - i)) _ rfl]
            refine mul_two (by rw [tx_len, show (exF (gx p.X (3 - i))).length = 2 from rfl]; decide) (by rw [tx_len, show (exF (gx p.X (3 - i))).length = 2 from rfl]; decide) ?_
            rw [tx_app]
            have hsz := sz_le (3 - i) (gx p.X (3 - i)) (nwF (rowsT p i))
            have hl4 : (tx (exF (gx p.X (3 - i)) ++ exF (gx p.X (3 - i)))).length = 4 := by rw [tx_len]; rfl
            k_steps
            rw [slice_to _ (szF (3 - i) (gx p.X (3 - i)) (nwF (rowsT p i))) _ rfl (by exact hsz)]
            have hl5 : (tx [octF (gx p.X (3 - i))]).length = 1 := rfl
            have hl6 : (tx ((exF (gx p.X (3 - i)) ++ exF (gx p.X (3 - i))).take (szF (3 - i) (gx p.X (3 - i)) (nwF (rowsT p i))))).length ≤ 4 := by rw [tx_len, List.length_take]; exact Nat.min_le_right _ _
            k_steps
            refine PE.mk (_, _) (by assumption) (by assumption) (by intro p hp; first | exact hp | exact List.Mem.tail _ (hp) | exact List.Mem.tail _ (List.Mem.tail _ (hp)) | exact List.Mem.tail _ (List.Mem.tail _ (List.Mem.tail _ (hp))) | exact List.Mem.tail _ (List.Mem.tail _ (List.Mem.tail _ (List.Mem.tail _ (hp)))) | exact List.Mem.tail _ (List.Mem.tail _ (List.Mem.tail _ (List.Mem.tail _ (List.Mem.tail _ (hp))))) | exact List.Mem.tail _ (List.Mem.tail _ (List.Mem.tail _ (List.Mem.tail _ (List.Mem.tail _ (List.Mem.tail _ (hp)))))) | exact List.Mem.tail _ (List.Mem.tail _ (List.Mem.tail _ (List.Mem.tail _ (List.Mem.tail _ (List.Mem.tail _ (List.Mem.tail _ (hp))))))) | exact List.Mem.tail _ (List.Mem.tail _ (List.Mem.tail _ (List.Mem.tail _ (List.Mem.tail _ (List.Mem.tail _ (List.Mem.tail _ (List.Mem.tail _ (hp))))))))) (by refine And.intro (Has.str rfl (front_plain (by assumption))) (And.intro (Has.str rfl (back_plain (by assumption))) ?_); repeat' (first | exact trivial | (refine And.intro ?_ ?_) | rfl)) trivial
        · walk1
          k_steps
          · refine chr_of_range (by omega) (by omega) ?_
            k_steps
            refine PE.mk (_, _) (by assumption) (by assumption) (by intro p hp; first | exact hp | exact List.Mem.tail _ (hp) | exact List.Mem.tail _ (List.Mem.tail _ (hp)) | exact List.Mem.tail _ (List.Mem.tail _ (List.Mem.tail _ (hp))) | exact List.Mem.tail _ (List.Mem.tail _ (List.Mem.tail _ (List.Mem.tail _ (hp)))) | exact List.Mem.tail _ (List.Mem.tail _ (List.Mem.tail _ (List.Mem.tail _ (List.Mem.tail _ (hp))))) | exact List.Mem.tail _ (List.Mem.tail _ (List.Mem.tail _ (List.Mem.tail _ (List.Mem.tail _ (List.Mem.tail _ (hp)))))) | exact List.Mem.tail _ (List.Mem.tail _ (List.Mem.tail _ (List.Mem.tail _ (List.Mem.tail _ (List.Mem.tail _ (List.Mem.tail _ (hp))))))) | exact List.Mem.tail _ (List.Mem.tail _ (List.Mem.tail _ (List.Mem.tail _ (List.Mem.tail _ (List.Mem.tail _ (List.Mem.tail _ (List.Mem.tail _ (hp))))))))) (by refine And.intro (Has.str rfl (front_odd (by assumption) (by assumption))) (And.intro (Has.str rfl (back_odd (by assumption) (by assumption))) ?_); repeat' (first | exact trivial | (refine And.intro ?_ ?_) | rfl)) trivial
          · refine PE.mk (_, _) (by assumption) (by assumption) (by intro p hp; first | exact hp | exact List.Mem.tail _ (hp) | exact List.Mem.tail _ (List.Mem.tail _ (hp)) | exact List.Mem.tail _ (List.Mem.tail _ (List.Mem.tail _ (hp))) | exact List.Mem.tail _ (List.Mem.tail _ (List.Mem.tail _ (List.Mem.tail _ (hp)))) | exact List.Mem.tail _ (List.Mem.tail _ (List.Mem.tail _ (List.Mem.tail _ (List.Mem.tail _ (hp))))) | exact List.Mem.tail _ (List.Mem.tail _ (List.Mem.tail _ (List.Mem.tail _ (List.Mem.tail _ (List.Mem.tail _ (hp)))))) | exact List.Mem.tail _ (List.Mem.tail _ (List.Mem.tail _ (List.Mem.tail _ (List.Mem.tail _ (List.Mem.tail _ (List.Mem.tail _ (hp))))))) | exact List.Mem.tail _ (List.Mem.tail _ (List.Mem.tail _ (List.Mem.tail _ (List.Mem.tail _ (List.Mem.tail _ (List.Mem.tail _ (List.Mem.tail _ (hp))))))))) (by refine And.intro (Has.str rfl (front_even (by assumption) (by assumption))) (And.intro (Has.str rfl (back_even (by assumption) (by assumption))) ?_); repeat' (first | exact trivial | (refine And.intro ?_ ?_) | rfl)) trivial
      case done2 =>
        intro tc u h tk _ F N
        dsimp only [psB, kstB, LB.led] at F N ⊢
        k_steps
        refine cut1 (h₀ := s.heap) (σ := Tok) (fun _ => c.led lx lh us hc ++ own) (fun t => (Str.ofString "state", .int (stF p (3 - i) : Nat) t) :: (Str.ofString "front", .str (tx (frontF (3 - i) (gx p.X (3 - i)) (nwF (rowsT p i)))) tc.1) :: (Str.ofString "back", .str (tx (backF (gx p.X (3 - i)))) tc.2) :: psB p lx lh mk t0 t1 t2 t3 t4 (3 - i) tv c) (fun _ => True) ?go3 ?done3
        case go3 =>
          walk1
          k_steps
          · refine PE.mk _ (by assumption) (by assumption) (by intro p hp; first | exact hp | exact List.Mem.tail _ (hp) | exact List.Mem.tail _ (List.Mem.tail _ (hp)) | exact List.Mem.tail _ (List.Mem.tail _ (List.Mem.tail _ (hp))) | exact List.Mem.tail _ (List.Mem.tail _ (List.Mem.tail _ (List.Mem.tail _ (hp)))) | exact List.Mem.tail _ (List.Mem.tail _ (List.Mem.tail _ (List.Mem.tail _ (List.Mem.tail _ (hp))))) | exact List.Mem.tail _ (List.Mem.tail _ (List.Mem.tail _ (List.Mem.tail _ (List.Mem.tail _ (List.Mem.tail _ (hp)))))) | exact List.Mem.tail _ (List.Mem.tail _ (List.Mem.tail _ (List.Mem.tail _ (List.Mem.tail _ (List.Mem.tail _ (List.Mem.tail _ (hp))))))) | exact List.Mem.tail _ (List.Mem.tail _ (List.Mem.tail _ (List.Mem.tail _ (List.Mem.tail _ (List.Mem.tail _ (List.Mem.tail _ (List.Mem.tail _ (hp))))))))) (by refine And.intro (Has.int rfl (st_zero (by omega))) ?_; repeat' (first | exact trivial | (refine And.intro ?_ ?_) | rfl)) trivial
          · refine PE.mk _ (by assumption) (by assumption) (by intro p hp; first | exact hp | exact List.Mem.tail _ (hp) | exact List.Mem.tail _ (List.Mem.tail _ (hp)) | exact List.Mem.tail _ (List.Mem.tail _ (List.Mem.tail _ (hp))) | exact List.Mem.tail _ (List.Mem.tail _ (List.Mem.tail _ (List.Mem.tail _ (hp)))) | exact List.Mem.tail _ (List.Mem.tail _ (List.Mem.tail _ (List.Mem.tail _ (List.Mem.tail _ (hp))))) | exact List.Mem.tail _ (List.Mem.tail _ (List.Mem.tail _ (List.Mem.tail _ (List.Mem.tail _ (List.Mem.tail _ (hp)))))) | exact List.Mem.tail _ (List.Mem.tail _ (List.Mem.tail _ (List.Mem.tail _ (List.Mem.tail _ (List.Mem.tail _ (List.Mem.tail _ (hp))))))) | exact List.Mem.tail _ (List.Mem.tail _ (List.Mem.tail _ (List.Mem.tail _ (List.Mem.tail _ (List.Mem.tail _ (List.Mem.tail _ (List.Mem.tail _ (hp))))))))) (by refine And.intro (Has.int rfl (st_not (by omega))) ?_; repeat' (first | exact trivial | (refine And.intro ?_ ?_) | rfl)) trivial
        case done3 =>
          intro ts u h tk _ F N
          dsimp only [psB, kstB, LB.led] at F N ⊢
          k_steps
          refine use_pureP (bridge_pure w mg mb lh (stF p (3 - i)) p.U (frontF (3 - i) (gx p.X (3 - i)) (nwF (rowsT p i))) (backF (gx p.X (3 - i))) _ _ _ _ (st_lt hU) hU (front_len _ _ _) (back_len _)) (HS.holds hco (fun q hq => N q (List.mem_append_left _ (List.mem_append_right _ hq)))) (by assumption) (by rfl) (by rfl) (by assumption) (by assumption) (by assumption) (by assumption) ?_
          rintro v h tk F N ⟨tb, rfl⟩
          dsimp only
          have hb7 : (tx (bridgeF (stF p (3 - i)) p.U (frontF (3 - i) (gx p.X (3 - i)) (nwF (rowsT p i))) (backF (gx p.X (3 - i))))).length = 7 := by rw [tx_len, bridgeF_length]
          k_steps
          refine cut1 (h₀ := s.heap) (σ := Tok × Tok) (fun _ => c.led lx lh us hc ++ own) (fun t => (Str.ofString "bridge", .str (tx (brT p (3 - i) (nwF (rowsT p i)))) t.1) :: (Str.ofString "front", .str (tx (frontF (3 - i) (gx p.X (3 - i)) (nwF (rowsT p i)))) tc.1) :: (Str.ofString "back", .str (tx (backF (gx p.X (3 - i)))) tc.2) :: psB p lx lh mk t0 t1 t2 t3 t4 (3 - i) tv { c with tr := trailT p (i + 1), t5 := t.2 }) (fun _ => True) ?go5 ?done5
          case go5 =>
            walk1
            k_steps
            · have hbr := bridgeF_range (stF p (3 - i)) p.U (frontF (3 - i) (gx p.X (3 - i)) (nwF (rowsT p i))) (backF (gx p.X (3 - i)))
              have hbl := bridgeF_length (stF p (3 - i)) p.U (frontF (3 - i) (gx p.X (3 - i)) (nwF (rowsT p i))) (backF (gx p.X (3 - i)))
              rw [turn_chr hbr hbl hpl]
              have hx := turn_lt hbr hbl hpl hch
              refine chr_of_range (by omega) (by omega) ?_
              have hlb : (tx (backF (gx p.X (3 - i)))).length ≤ 1 := by rw [tx_len]; exact back_len _
              k_steps
              refine PE.mk (_, _) (by assumption) (by assumption) (by intro p hp; first | exact hp | exact List.Mem.tail _ (hp) | exact List.Mem.tail _ (List.Mem.tail _ (hp)) | exact List.Mem.tail _ (List.Mem.tail _ (List.Mem.tail _ (hp))) | exact List.Mem.tail _ (List.Mem.tail _ (List.Mem.tail _ (List.Mem.tail _ (hp)))) | exact List.Mem.tail _ (List.Mem.tail _ (List.Mem.tail _ (List.Mem.tail _ (List.Mem.tail _ (hp))))) | exact List.Mem.tail _ (List.Mem.tail _ (List.Mem.tail _ (List.Mem.tail _ (List.Mem.tail _ (List.Mem.tail _ (hp)))))) | exact List.Mem.tail _ (List.Mem.tail _ (List.Mem.tail _ (List.Mem.tail _ (List.Mem.tail _ (List.Mem.tail _ (List.Mem.tail _ (hp))))))) | exact List.Mem.tail _ (List.Mem.tail _ (List.Mem.tail _ (List.Mem.tail _ (List.Mem.tail _ (List.Mem.tail _ (List.Mem.tail _ (List.Mem.tail _ (hp))))))))) (by refine And.intro (Has.str rfl (br_turn hbl hpl (by omega))) ?_; repeat' (first | exact trivial | (refine And.intro ?_ ?_) | rfl | exact tr_turn hi htn (by omega) rfl)) trivial
            · refine PE.mk (_, c.t5) (by assumption) (by assumption) (by intro p hp; first | exact hp | exact List.Mem.tail _ (hp) | exact List.Mem.tail _ (List.Mem.tail _ (hp)) | exact List.Mem.tail _ (List.Mem.tail _ (List.Mem.tail _ (hp))) | exact List.Mem.tail _ (List.Mem.tail _ (List.Mem.tail _ (List.Mem.tail _ (hp)))) | exact List.Mem.tail _ (List.Mem.tail _ (List.Mem.tail _ (List.Mem.tail _ (List.Mem.tail _ (hp))))) | exact List.Mem.tail _ (List.Mem.tail _ (List.Mem.tail _ (List.Mem.tail _ (List.Mem.tail _ (List.Mem.tail _ (hp)))))) | exact List.Mem.tail _ (List.Mem.tail _ (List.Mem.tail _ (List.Mem.tail _ (List.Mem.tail _ (List.Mem.tail _ (List.Mem.tail _ (hp))))))) | exact List.Mem.tail _ (List.Mem.tail _ (List.Mem.tail _ (List.Mem.tail _ (List.Mem.tail _ (List.Mem.tail _ (List.Mem.tail _ (List.Mem.tail _ (hp))))))))) (by refine And.intro (Has.str rfl (br_not (by omega))) ?_; repeat' (first | exact trivial | (refine And.intro ?_ ?_) | rfl | exact tr_not (p := p) (i := i) (c := c) hi hp htn (by omega) rfl)) trivial
          case done5 =>
            intro t6 u h tk _ F N
            dsimp only [psB, kstB, LB.led] at F N ⊢
            have hlf : (tx (frontF (3 - i) (gx p.X (3 - i)) (nwF (rowsT p i)))).length ≤ 5 := by rw [tx_len]; exact front_len _ _ _
            have hlb : (tx (backF (gx p.X (3 - i)))).length ≤ 1 := by rw [tx_len]; exact back_len _
            have hlr : (tx (brT p (3 - i) (nwF (rowsT p i)))).length ≤ 8 := by rw [tx_len]; exact brT_len _ _ _
            k_steps
            rename_i l9 h9 F9 N9 lt9
            refine kmk_add_lit (s := ⟨h9, s.gens, s.drawn, _, s.os⟩) F9 N9 (News.isList N9 (.head _)) (News.isList N9 (.tail _ (List.mem_append_left _ (List.mem_append_left _ (.tail _ (.head _)))))) rfl ?_ ?_
            · intro D h' F N l8
              rw [tx_app, tx_app] at N
              k_steps
              refine use_pure (shown_pure w mg mb (tx (frontF (3 - i) (gx p.X (3 - i)) (nwF (rowsT p i)) ++ brT p (3 - i) (nwF (rowsT p i)) ++ backF (gx p.X (3 - i)))) (Str.ofString "0123456789ABCDEF") _ _ (by rw [tx_len]; exact row_len _ _ _) (by rw [cs_tx]; exact row_lt _ _ _ hpl hch) (by decide)) (by assumption) (by rfl) (by rfl) (by assumption) (by assumption) (by assumption) (by assumption) ?_; intro t h tk F N; dsimp only
              rw [fgU_cs, cs_tx]
              k_steps
              rename_i l7 h7 F7 N7 lt7
              refine kmk_add_lit (s := ⟨h7, s.gens, s.drawn, _, s.os⟩) F7 N7 (News.isList N7 (.head _)) (News.isList N7 (.tail _ (.tail _ (.tail _ (List.mem_append_left _ (List.mem_append_left _ (.tail _ (.tail _ (.head _))))))))) rfl ?_ ?_
              · intro D2 h' F N l6
                k_steps
                rename News s.heap L _ ((D2, _) :: _) => N5
                refine TP.mk (news' := own ++ LB.led lx lh us hc ⟨_ :: c.vt, _ :: c.vw, D, D2, 0, 0, trailT p (i + 1), t6.2⟩) ⟨_ :: c.vt, _ :: c.vw, D, D2, 0, 0, trailT p (i + 1), t6.2⟩ (by simp) (by assumption) (LB.te N5) (fun _ h => h) (by repeat' (first | exact trivial | (refine And.intro ?_ ?_) | rfl)) ⟨.cons _ _ hp.1, .cons _ _ hp.2.1, rfl⟩
              · have := strs_length hp.2.1
                have h2 := rowsT_len p i
                simp only [List.length_map, sizeLine_eq, List.length_cons, List.length_nil] at this ⊢
                omega
            · have := strs_length hp.1
              have h2 := rowsT_len p i
              simp only [List.length_map, sizeLine_eq, List.length_cons, List.length_nil] at this ⊢
              omega
end
end Mine
end
section
open PySem PySem.W PyProof.Rows PySem.Calls
set_option maxRecDepth 100000
set_option maxHeartbeats 4000000
set_option linter.all false
namespace Mine
local macro_rules | `(tactic| k_steps) => `(tactic| repeat' (first
  | (k_unfold; (try dsimp only))
  | ((fail_if_success (with_reducible first | show wpAny _ _ (exec (.For _ _ _ _ _) _) _ _ _ | show wpAny _ _ (exec (.While _ _ _ _) _) _ _ _ | show wpAny _ _ (pyIter _) _ _ _ | show wpAny _ _ (exec (.If _ _ _ _) _) _ _ _ | show wpAny _ _ (exec (.Assign [Expr.Name (Str.ofString "end") _] _ _) _) _ _ _ | show wpAny _ _ (call (Value.builtin "str.join") _) _ _ _ | show wpAny _ _ (execs (Stmt.Assign [Expr.Name (Str.ofString "others") _] _ _ :: _) _) _ _ _ | show wpAny _ _ (call (Value.ref _) _) _ _ _ | show wpAny _ _ (call (Value.builtin "chr") _) _ _ _ | show wpAny _ _ (call (Value.type "int") _) _ _ _ | show wpAny _ _ (call (Value.builtin "str.translate") _) _ _ _)); walk1; (try (all_goals dsimp only)))
  | ((fail_if_success (with_reducible first | show wpAny _ _ (exec (.If _ _ _ _) _) _ _ _ | show wpAny _ _ (exec (.Assign [Expr.Name (Str.ofString "end") _] _ _) _) _ _ _ | show wpAny _ _ (call (Value.builtin "str.join") _) _ _ _ | show wpAny _ _ (execs (Stmt.Assign [Expr.Name (Str.ofString "others") _] _ _ :: _) _) _ _ _ | show wpAny _ _ (call (Value.ref _) _) _ _ _ | show wpAny _ _ (call (Value.builtin "chr") _) _ _ _ | show wpAny _ _ (call (Value.type "int") _) _ _ _ | show wpAny _ _ (call (Value.builtin "str.translate") _) _ _ _)); dsimp only; walk1) | fail "no step"))
/-- what body_encode asks of the rows -/
structure EncOk (ts : List (List Nat)) : Prop where
  four : ts.length = 4
  ne : ts.flatten ≠ []
  len : ts.flatten.length ≤ 100
  cc : ∀ c ∈ ts.flatten, c < 256 ∧ c ≠ 10 ∧ c ≠ 13
  rows : showT fgU ts.flatten = (splitW (ts.map (showT fgU))).flatten
  fit : Fits (splitW (ts.map (showT fgU)))
  lines : Txt.lines (tx (showT fgU ts.flatten)) = [tx (showT fgU ts.flatten)]
  ws : wsOcc (Txt.item (tx (showT fgU ts.flatten)) (-1)) = true
  cr : crOcc (Txt.item (tx (showT fgU ts.flatten)) (-1)) = true
noncomputable def psC (p : LawP) (lx : Addr) (mk : List Nat) (t0 t1 t2 t3 t4 t5 : Tok) (lt : Addr) : List (Str × Value) :=
  [(Str.ofString "x", .ref lx), (Str.ofString "mark", .str (tx mk) t0), (Str.ofString "unmoved", .int (p.U : Nat) t1), (Str.ofString "turned", .int (p.tn : Nat) t2), (Str.ofString "place", .int (p.pl : Nat) t3), (Str.ofString "change", .int (p.ch : Nat) t4), (Str.ofString "trail", .int (trailT p 4 : Nat) t5), (Str.ofString "texts", .ref lt)]
theorem split_not {a b c d : List Nat} (h : ¬ (showT fgU d).length = 12) : splitW ([a, b, c, d].map (showT fgU)) = [a, b, c, d].map (showT fgU) := by
  exact if_neg h
theorem split_at {a b c d : List Nat} (h : (showT fgU d).length = 12) : splitW ([a, b, c, d].map (showT fgU)) = [showT fgU a, showT fgU b, showT fgU c, (showT fgU d).take 10, (showT fgU d).drop 10] := by
  exact if_pos h
theorem LC.te {h₀ h' : Heap} {L D : Addr} {v0 v1 v2 v3 v4 : Value} {x1 x2 a b : Addr × Obj} {r : List (Addr × Obj)} (N : News h₀ L h' ((D, W.listOf #[v0, v1, v2, v3, v4] 0) :: x1 :: x2 :: a :: b :: r)) : News h₀ L h' [a, b, (D, W.listOf [v0, v1, v2, v3, v4].toArray 0)] := by
  intro q hq
  refine N q ?_
  simp only [List.mem_cons, List.not_mem_nil, or_false] at hq ⊢
  rcases hq with h | h | h <;> simp [h]
theorem LC.strs {x0 x1 x2 x3 x4 : Str} {a0 a1 a2 a3 a4 : Tok} {l : List Str} (h : [x0, x1, x2, x3, x4] = l) : StrsAre [.str x0 a0, .str x1 a1, .str x2 a2, .str x3 a3, .str x4 a4] l := by
  subst h; exact .cons _ _ (.cons _ _ (.cons _ _ (.cons _ _ (.cons _ _ .nil))))
theorem LC.eq {a b c d : List Nat} (h : (showT fgU d).length = 12) : [tx (showT fgU a), tx (showT fgU b), tx (showT fgU c), Txt.slice (tx (showT fgU d)) none (some 10), Txt.slice (tx (showT fgU d)) (some 10) none] = (splitW ([a, b, c, d].map (showT fgU))).map tx := by
  rw [split_at h, slice_to (showT fgU d) 10 10 rfl (by omega), slice_from (showT fgU d) 10 10 rfl (by omega)]; rfl
theorem end_fm {X : List Int} {n : Nat} (h : ((gx X 5).fdiv 48).fmod 3 = (n : Nat)) : fm ((gx X 5).fdiv 48) 3 = n := by unfold fm; show (((gx X 5).fdiv 48).fmod 3).toNat = n; rw [h]; rfl
theorem end_0 {X : List Int} (h : ((gx X 5).fdiv 48).fmod 3 = 0) : Str.ofString "\n" = tx (endF X) := by
  unfold endF; rw [end_fm (n := 0) h]; rfl
theorem end_1 {X : List Int} (h : ((gx X 5).fdiv 48).fmod 3 = 1) : Str.ofString "\r\n" = tx (endF X) := by
  unfold endF; rw [end_fm (n := 1) h]; rfl
theorem end_2 {X : List Int} (h : ((gx X 5).fdiv 48).fmod 3 = 2) : Str.ofString "\r" = tx (endF X) := by
  unfold endF; rw [end_fm (n := 2) h]; rfl
theorem end_len (X : List Int) : (endF X).length ≤ 2 := by
  have h := fm_lt ((gx X 5).fdiv 48) (m := 3) (by decide)
  unfold endF
  generalize fm ((gx X 5).fdiv 48) 3 = n at h
  rcases n with _ | _ | _ | n
  · decide
  · decide
  · decide
  · omega
theorem joinL_nil : ∀ l : List (List Nat), joinL [] l = l.flatten
  | [] => rfl
  | [r] => by simp [joinL]
  | r :: r' :: rs => by
    have h := joinL_nil (r' :: rs)
    show r ++ [] ++ joinL [] (r' :: rs) = _
    rw [h]; simp
theorem flat_weight {ts : List (List Nat)} (ok : EncOk ts) : ((ts.map tx).map (·.length)).sum + (ts.map tx).length ≤ 1048576 := by
  have h1 := ok.len
  have h2 := ok.four
  have h3 : ((ts.map tx).map (·.length)).sum = ts.flatten.length := by
    rw [List.length_flatten, List.map_map]
    exact congrArg List.sum (List.map_congr_left fun a _ => tx_len a)
  rw [h3, List.length_map]; omega
theorem split_len {ts : List (List Nat)} (h : ts.length = 4) : (splitW (ts.map (showT fgU))).length ≤ 100 := by
  unfold splitW
  split
  · simp [List.length_take]; omega
  · simp [h]
theorem row_weight {ts : List (List Nat)} (ok : EncOk ts) : (((splitW (ts.map (showT fgU))).map tx).map (·.length)).sum + ((splitW (ts.map (showT fgU))).map tx).length ≤ 1048576 := by
  have h1 := ok.len
  have h0 := showT_len fgU ts.flatten
  rw [ok.rows] at h0
  have h3 : (((splitW (ts.map (showT fgU))).map tx).map (·.length)).sum = (splitW (ts.map (showT fgU))).flatten.length := by
    rw [List.length_flatten, List.map_map]
    exact congrArg List.sum (List.map_congr_left fun a _ => tx_len a)
  have h4 := split_len ok.four
  rw [h3, List.length_map]; omega
section
variable {w : World} {mg mb : Str → Option Value} {A : Around} {s : Shared} {L : Addr} {h : Heap} {tk : Nat} {Q : Flow → Shared → Prop} {cd : Value}
theorem law_C (r : Room A 2 6) (KX : (KK w.params).In s.heap) (T : TopRead qv loose mg mb s.heap) (p : LawP) (hX : p.X.length = 7)
    (ts : List (List Nat)) (ok : EncOk ts) (lx lt lw : Addr) (us vt vw : List Value) (nt nw : Nat) (hus : IntsAre us p.X) (hvt : StrsAre vt (ts.map tx)) (hvw : StrsAre vw ((ts.map (showT fgU)).map tx)) (u : Str → Option Value) (t0 t1 t2 t3 t4 t5 : Tok) (mk : List Nat)
    (F : Fr s.heap L h (kstB u ((Str.ofString "written", .ref lw) :: psC p lx mk t0 t1 t2 t3 t4 t5 lt)))
    (N : News s.heap L h [(lx, W.listOf us.toArray 0), (lt, W.listOf vt.toArray nt), (lw, W.listOf vw.toArray nw)])
    (next : ∀ (t6 : Tok) (u : Str → Option Value) (h : Heap) (tk : Nat),
      Fr s.heap L h (kstB u ((Str.ofString "end", .str (tx (endF p.X)) t6) :: psC p lx mk t0 t1 t2 t3 t4 t5 lt)) →
      News s.heap L h [(lx, W.listOf us.toArray 0), (lt, W.listOf vt.toArray nt)] →
      wpAny (model pw w) A (execs (List.drop 16 (fnB 33)) (envOf (Str.ofString "law") (fnS 33) L 142 cd)) Q (fun _ _ => False) { s with heap := h, toks := tk }) :
    wpAny (model pw w) A (execs (List.drop 13 (fnB 33)) (envOf (Str.ofString "law") (fnS 33) L 142 cd)) Q (fun _ _ => False) { s with heap := h, toks := tk } := by
  have hh := r.handled
  obtain ⟨a, b, c, d, rfl⟩ : ∃ a b c d, ts = [a, b, c, d] := by
    have := ok.four
    match ts, this with
    | [a, b, c, d], _ => exact ⟨a, b, c, d, rfl⟩
  obtain ⟨ta, tb, tc, td, rfl⟩ : ∃ ta tb tc td, vw = [.str (tx (showT fgU a)) ta, .str (tx (showT fgU b)) tb, .str (tx (showT fgU c)) tc, .str (tx (showT fgU d)) td] := by
    cases hvw with | cons _ ta h => cases h with | cons _ tb h => cases h with | cons _ tc h => cases h with | cons _ td h => cases h with | nil => exact ⟨ta, tb, tc, td, rfl⟩
  have hld : (tx (showT fgU d)).length ≤ 300 := by
    have h1 := showT_len fgU d
    have h2 := ok.len
    simp only [List.flatten_cons, List.length_append] at h2
    rw [tx_len]; omega
  conv in (occs := *) (fnS 33) => all_goals whnf
  conv in (List.drop 13 (fnB 33)) => whnf
  dsimp only [kstB, psC] at F
  k_steps
  refine cut1 (h₀ := s.heap) (σ := Addr × List Value × Nat) (fun q => [(lx, W.listOf us.toArray 0), (lt, W.listOf vt.toArray nt), (q.1, W.listOf q.2.1.toArray q.2.2)]) (fun q => (Str.ofString "written", .ref q.1) :: psC p lx mk t0 t1 t2 t3 t4 t5 lt) (fun q => StrsAre q.2.1 ((splitW ([a, b, c, d].map (showT fgU))).map tx)) ?go1 ?done1
  case go1 =>
    walk1
    k_steps
    · refine' kms_slice_lit (s := ⟨_, s.gens, s.drawn, _, s.os⟩) (zs := [.str (tx (showT fgU a)) ta, .str (tx (showT fgU b)) tb, .str (tx (showT fgU c)) tc]) ?kF ?kN ?kl ?kp ?kq ?ke ?_ ?ks ?kt ?kz
      case kF => assumption
      case kN => exact N
      case kl => exact News.isList N (.tail _ (.tail _ (.head _)))
      case kp => kmk_part
      case kq => kmk_part
      case ke => rfl
      case ks => with_unfolding_all rfl
      case kt => kmk_pure
      case kz => simp [sizeLine_eq]
      intro D h' F N l1
      k_steps
      rename News s.heap L _ ((_, W.listOf #[_, _, _, _, _] _) :: _) => N2
      refine PE.mk (_, _, _) (by assumption) (LC.te N2) (fun _ h => h) (by repeat' (first | exact trivial | (refine And.intro ?_ ?_) | rfl)) (LC.strs (LC.eq (by rw [tx_len] at *; omega)))
    · refine PE.mk (lw, _, nw) (by assumption) N (by intro p hp; first | exact hp | exact List.Mem.tail _ (hp) | exact List.Mem.tail _ (List.Mem.tail _ (hp)) | exact List.Mem.tail _ (List.Mem.tail _ (List.Mem.tail _ (hp))) | exact List.Mem.tail _ (List.Mem.tail _ (List.Mem.tail _ (List.Mem.tail _ (hp)))) | exact List.Mem.tail _ (List.Mem.tail _ (List.Mem.tail _ (List.Mem.tail _ (List.Mem.tail _ (hp))))) | exact List.Mem.tail _ (List.Mem.tail _ (List.Mem.tail _ (List.Mem.tail _ (List.Mem.tail _ (List.Mem.tail _ (hp)))))) | exact List.Mem.tail _ (List.Mem.tail _ (List.Mem.tail _ (List.Mem.tail _ (List.Mem.tail _ (List.Mem.tail _ (List.Mem.tail _ (hp))))))) | exact List.Mem.tail _ (List.Mem.tail _ (List.Mem.tail _ (List.Mem.tail _ (List.Mem.tail _ (List.Mem.tail _ (List.Mem.tail _ (List.Mem.tail _ (hp))))))))) (by repeat' (first | exact trivial | (refine And.intro ?_ ?_) | rfl)) ?_
      rw [split_not (by rw [tx_len] at *; omega)]
      exact hvw
  case done1 =>
    rintro ⟨lw, vw, nw⟩ u h tk hvw F N
    dsimp only [kstB, psC] at F N hvw ⊢
    k_steps
    refine cut1 (h₀ := s.heap) (σ := Tok) (fun q => [(lx, W.listOf us.toArray 0), (lt, W.listOf vt.toArray nt), (lw, W.listOf vw.toArray nw)]) (fun t6 => (Str.ofString "end", .str (tx (endF p.X)) t6) :: (Str.ofString "written", .ref lw) :: psC p lx mk t0 t1 t2 t3 t4 t5 lt) (fun _ => True) ?go2 ?done2
    case go2 =>
      walk1
      k_steps
      · refine PE.mk _ (by assumption) (by assumption) (by intro p hp; first | exact hp | exact List.Mem.tail _ (hp) | exact List.Mem.tail _ (List.Mem.tail _ (hp)) | exact List.Mem.tail _ (List.Mem.tail _ (List.Mem.tail _ (hp))) | exact List.Mem.tail _ (List.Mem.tail _ (List.Mem.tail _ (List.Mem.tail _ (hp)))) | exact List.Mem.tail _ (List.Mem.tail _ (List.Mem.tail _ (List.Mem.tail _ (List.Mem.tail _ (hp))))) | exact List.Mem.tail _ (List.Mem.tail _ (List.Mem.tail _ (List.Mem.tail _ (List.Mem.tail _ (List.Mem.tail _ (hp)))))) | exact List.Mem.tail _ (List.Mem.tail _ (List.Mem.tail _ (List.Mem.tail _ (List.Mem.tail _ (List.Mem.tail _ (List.Mem.tail _ (hp))))))) | exact List.Mem.tail _ (List.Mem.tail _ (List.Mem.tail _ (List.Mem.tail _ (List.Mem.tail _ (List.Mem.tail _ (List.Mem.tail _ (List.Mem.tail _ (hp))))))))) (by refine And.intro (Has.str rfl (end_0 (by assumption))) ?_; repeat' (first | exact trivial | (refine And.intro ?_ ?_) | rfl)) trivial
      · refine PE.mk _ (by assumption) (by assumption) (by intro p hp; first | exact hp | exact List.Mem.tail _ (hp) | exact List.Mem.tail _ (List.Mem.tail _ (hp)) | exact List.Mem.tail _ (List.Mem.tail _ (List.Mem.tail _ (hp))) | exact List.Mem.tail _ (List.Mem.tail _ (List.Mem.tail _ (List.Mem.tail _ (hp)))) | exact List.Mem.tail _ (List.Mem.tail _ (List.Mem.tail _ (List.Mem.tail _ (List.Mem.tail _ (hp))))) | exact List.Mem.tail _ (List.Mem.tail _ (List.Mem.tail _ (List.Mem.tail _ (List.Mem.tail _ (List.Mem.tail _ (hp)))))) | exact List.Mem.tail _ (List.Mem.tail _ (List.Mem.tail _ (List.Mem.tail _ (List.Mem.tail _ (List.Mem.tail _ (List.Mem.tail _ (hp))))))) | exact List.Mem.tail _ (List.Mem.tail _ (List.Mem.tail _ (List.Mem.tail _ (List.Mem.tail _ (List.Mem.tail _ (List.Mem.tail _ (List.Mem.tail _ (hp))))))))) (by refine And.intro (Has.str rfl (end_1 (by assumption))) ?_; repeat' (first | exact trivial | (refine And.intro ?_ ?_) | rfl)) trivial
      · refine PE.mk _ (by assumption) (by assumption) (by intro p hp; first | exact hp | exact List.Mem.tail _ (hp) | exact List.Mem.tail _ (List.Mem.tail _ (hp)) | exact List.Mem.tail _ (List.Mem.tail _ (List.Mem.tail _ (hp))) | exact List.Mem.tail _ (List.Mem.tail _ (List.Mem.tail _ (List.Mem.tail _ (hp)))) | exact List.Mem.tail _ (List.Mem.tail _ (List.Mem.tail _ (List.Mem.tail _ (List.Mem.tail _ (hp))))) | exact List.Mem.tail _ (List.Mem.tail _ (List.Mem.tail _ (List.Mem.tail _ (List.Mem.tail _ (List.Mem.tail _ (hp)))))) | exact List.Mem.tail _ (List.Mem.tail _ (List.Mem.tail _ (List.Mem.tail _ (List.Mem.tail _ (List.Mem.tail _ (List.Mem.tail _ (hp))))))) | exact List.Mem.tail _ (List.Mem.tail _ (List.Mem.tail _ (List.Mem.tail _ (List.Mem.tail _ (List.Mem.tail _ (List.Mem.tail _ (List.Mem.tail _ (hp))))))))) (by refine And.intro (Has.str rfl (end_2 (by assumption))) ?_; repeat' (first | exact trivial | (refine And.intro ?_ ?_) | rfl)) trivial
    case done2 =>
      intro t6 u h tk _ F N
      dsimp only [kstB, psC] at F N ⊢
      k_steps
      walk1
      k_steps
      refine join_listW (News.isList N (.tail _ (.head _))) hvt (by decide) (by exact flat_weight ok) ?_
      intro t7 k7
      rw [show Str.ofString "" = tx [] from rfl, tjoin_tx, joinL_nil]
      k_steps
      have hel : (endF p.X).length ≤ 2 := end_len p.X
      refine use_pure (encode_pure w mg mb [a, b, c, d].flatten (endF p.X) (splitW ([a, b, c, d].map (showT fgU))) _ _ _ ok.ne (by have := ok.len; omega) hel ok.cc ok.rows ok.fit (by exact split_len ok.four) ok.lines ok.ws ok.cr) (by assumption) (by rfl) (by rfl) (by assumption) (by assumption) (by assumption) (by assumption) ?_; intro t h tk F N; dsimp only
      rw [joinL_written _ _ ok.fit.ne]
      have hle : (tx (endF p.X)).length ≤ 2 := by rw [tx_len]; exact hel
      k_steps
      have e8 : Str.ofString "=" ++ tx (endF p.X) = tx (61 :: endF p.X) := by rw [eqs, tx_app]; rfl
      rw [e8]
      refine join_listW (News.isList (by assumption) (.tail _ (.tail _ (.head _)))) hvw (by rw [tx_len, List.length_cons]; omega) (by exact row_weight ok) ?_
      intro t8 k8
      rw [tjoin_tx]
      k_steps
      · rename (_ != _) = true => hb
        simp at hb
      · refine next _ _ _ _ (kst_has' (by assumption) (by repeat' (first | exact trivial | (refine And.intro ?_ ?_) | rfl))) (fun q hq => ?_)
        refine N q ?_
        simp only [List.mem_cons, List.not_mem_nil, or_false] at hq ⊢
        rcases hq with h | h <;> simp [h]
end
end Mine
end
section
open PySem PySem.W PyProof.Rows PySem.Calls
set_option maxRecDepth 100000
set_option maxHeartbeats 4000000
set_option linter.all false
namespace Mine
local macro_rules | `(tactic| k_steps) => `(tactic| repeat' (first
  | (k_unfold; (try dsimp only))
  | ((fail_if_success (with_reducible first | show wpAny _ _ (exec (.For _ _ _ _ _) _) _ _ _ | show wpAny _ _ (exec (.While _ _ _ _) _) _ _ _ | show wpAny _ _ (pyIter _) _ _ _ | show wpAny _ _ (exec (.If _ _ _ _) _) _ _ _ | show wpAny _ _ (call (Value.builtin "str.join") _) _ _ _ | show wpAny _ _ (execs (Stmt.Assign [Expr.Name (Str.ofString "figures") _] _ _ :: _) _) _ _ _ | show wpAny _ _ (call (Value.ref _) _) _ _ _ | show wpAny _ _ (call (Value.builtin "chr") _) _ _ _ | show wpAny _ _ (call (Value.type "int") _) _ _ _ | show wpAny _ _ (call (Value.builtin "str.translate") _) _ _ _)); walk1; (try (all_goals dsimp only)))
  | ((fail_if_success (with_reducible first | show wpAny _ _ (exec (.If _ _ _ _) _) _ _ _ | show wpAny _ _ (call (Value.builtin "str.join") _) _ _ _ | show wpAny _ _ (execs (Stmt.Assign [Expr.Name (Str.ofString "figures") _] _ _ :: _) _) _ _ _ | show wpAny _ _ (call (Value.ref _) _) _ _ _ | show wpAny _ _ (call (Value.builtin "chr") _) _ _ _ | show wpAny _ _ (call (Value.type "int") _) _ _ _ | show wpAny _ _ (call (Value.builtin "str.translate") _) _ _ _)); dsimp only; walk1) | fail "no step"))
theorem fm3 (z : Int) : z.fmod 3 = 0 ∨ z.fmod 3 = 1 ∨ z.fmod 3 = 2 := by
  have h1 := Int.fmod_nonneg_of_pos z (show (0 : Int) < 3 by decide)
  have h2 := Int.fmod_lt_of_pos z (show (0 : Int) < 3 by decide)
  omega
theorem fm2 (z : Int) : z.fmod 2 = 0 ∨ z.fmod 2 = 1 := by
  have h1 := Int.fmod_nonneg_of_pos z (show (0 : Int) < 2 by decide)
  have h2 := Int.fmod_lt_of_pos z (show (0 : Int) < 2 by decide)
  omega
theorem ord_of {X : List Int} {i j : Nat} (h1 : (gx X 5).fmod 3 = (i : Nat)) (h2 : ((gx X 5).fdiv 3).fmod 2 = (j : Nat)) : ordF X = [[0, 1, 2, 3], [0, 2, 1, 3], [0, 3, 1, 2], [0, 1, 3, 2], [0, 2, 3, 1], [0, 3, 2, 1]].getD (i + 3 * j) [] := by
  have e1 : fm (gx X 5) 3 = i := by show ((gx X 5).fmod 3).toNat = i; rw [h1]; rfl
  have e2 : fm ((gx X 5).fdiv 3) 2 = j := by show (((gx X 5).fdiv 3).fmod 2).toNat = j; rw [h2]; rfl
  unfold ordF; rw [e1, e2]
theorem LD.te {h₀ h' : Heap} {L D : Addr} {v0 v1 v2 v3 : Value} {x1 a b : Addr × Obj} {r : List (Addr × Obj)} {nn : Nat} (N : News h₀ L h' ((D, W.listOf ((#[v0, v1].push v2).push v3) nn) :: x1 :: a :: b :: r)) : News h₀ L h' [a, b, (D, W.listOf [v0, v1, v2, v3].toArray nn)] := by
  intro q hq
  refine N q ?_
  simp only [List.mem_cons, List.not_mem_nil, or_false] at hq ⊢
  rcases hq with h | h | h <;> simp [h]
section
variable {w : World} {mg mb : Str → Option Value} {A : Around} {s : Shared} {L : Addr} {h : Heap} {tk : Nat} {Q : Flow → Shared → Prop} {cd : Value}
theorem law_D (r : Room A 2 6) (KX : (KK w.params).In s.heap) (T : TopRead qv loose mg mb s.heap) (p : LawP) (hX : p.X.length = 7)
    (lx lt : Addr) (us vt : List Value) (nt : Nat) (hus : IntsAre us p.X) (u : Str → Option Value) (t0 t1 t2 t3 t4 t5 t6 : Tok) (mk : List Nat)
    (F : Fr s.heap L h (kstB u ((Str.ofString "end", .str (tx (endF p.X)) t6) :: psC p lx mk t0 t1 t2 t3 t4 t5 lt)))
    (N : News s.heap L h [(lx, W.listOf us.toArray 0), (lt, W.listOf vt.toArray nt)])
    (next : ∀ (lo : Addr) (vo : List Value) (no : Nat) (u : Str → Option Value) (h : Heap) (tk : Nat), IntsAre vo ((ordF p.X).map Int.ofNat) →
      Fr s.heap L h (kstB u ((Str.ofString "order", .ref lo) :: (Str.ofString "end", .str (tx (endF p.X)) t6) :: psC p lx mk t0 t1 t2 t3 t4 t5 lt)) →
      News s.heap L h [(lx, W.listOf us.toArray 0), (lt, W.listOf vt.toArray nt), (lo, W.listOf vo.toArray no)] →
      wpAny (model pw w) A (execs (List.drop 20 (fnB 33)) (envOf (Str.ofString "law") (fnS 33) L 142 cd)) Q (fun _ _ => False) { s with heap := h, toks := tk }) :
    wpAny (model pw w) A (execs (List.drop 16 (fnB 33)) (envOf (Str.ofString "law") (fnS 33) L 142 cd)) Q (fun _ _ => False) { s with heap := h, toks := tk } := by
  have hh := r.handled
  conv in (occs := *) (fnS 33) => all_goals whnf
  conv in (List.drop 16 (fnB 33)) => whnf
  dsimp only [kstB, psC] at F
  k_steps
  have hA : (p.X.getD (Int.toNat 5) 0).fmod 3 = 0 ∨ (p.X.getD (Int.toNat 5) 0).fmod 3 = 1 ∨ (p.X.getD (Int.toNat 5) 0).fmod 3 = 2 := fm3 _
  have hB : ((p.X.getD (Int.toNat 5) 0).fdiv 3).fmod 2 = 0 ∨ ((p.X.getD (Int.toNat 5) 0).fdiv 3).fmod 2 = 1 := fm2 _
  rcases hA with hA | hA | hA
  all_goals rw [hA]; k_steps
  all_goals rcases hB with hB | hB
  all_goals rw [hB]; k_steps
  · refine next _ [_, _, _, _] _ _ _ _ ?_ (kst_has' (by assumption) (by repeat' (first | exact trivial | (refine And.intro ?_ ?_) | rfl))) (LD.te (by assumption))
    rw [ord_of (i := 0) (j := 0) hA hB]; repeat constructor
  · refine next _ [_, _, _, _] _ _ _ _ ?_ (kst_has' (by assumption) (by repeat' (first | exact trivial | (refine And.intro ?_ ?_) | rfl))) (LD.te (by assumption))
    rw [ord_of (i := 0) (j := 1) hA hB]; repeat constructor
  · refine next _ [_, _, _, _] _ _ _ _ ?_ (kst_has' (by assumption) (by repeat' (first | exact trivial | (refine And.intro ?_ ?_) | rfl))) (LD.te (by assumption))
    rw [ord_of (i := 1) (j := 0) hA hB]; repeat constructor
  · refine next _ [_, _, _, _] _ _ _ _ ?_ (kst_has' (by assumption) (by repeat' (first | exact trivial | (refine And.intro ?_ ?_) | rfl))) (LD.te (by assumption))
    rw [ord_of (i := 1) (j := 1) hA hB]; repeat constructor
  · refine next _ [_, _, _, _] _ _ _ _ ?_ (kst_has' (by assumption) (by repeat' (first | exact trivial | (refine And.intro ?_ ?_) | rfl))) (LD.te (by assumption))
    rw [ord_of (i := 2) (j := 0) hA hB]; repeat constructor
  · refine next _ [_, _, _, _] _ _ _ _ ?_ (kst_has' (by assumption) (by repeat' (first | exact trivial | (refine And.intro ?_ ?_) | rfl))) (LD.te (by assumption))
    rw [ord_of (i := 2) (j := 1) hA hB]; repeat constructor
end
end Mine
end
section
open PySem PySem.W PyProof.Rows PySem.Calls
set_option maxRecDepth 100000
set_option maxHeartbeats 4000000
set_option linter.all false
namespace Mine
local macro_rules | `(tactic| k_steps) => `(tactic| repeat' (first
  | (k_unfold; (try dsimp only))
  | ((fail_if_success (with_reducible first | show wpAny _ _ (exec (.For _ _ _ _ _) _) _ _ _ | show wpAny _ _ (exec (.While _ _ _ _) _) _ _ _ | show wpAny _ _ (pyIter _) _ _ _ | show wpAny _ _ (exec (.If _ _ _ _) _) _ _ _ | show wpAny _ _ (call (Value.builtin "str.join") _) _ _ _ | show wpAny _ _ (execs (Stmt.Assign [Expr.Name (Str.ofString "told") _] _ _ :: _) _) _ _ _ | show wpAny _ _ (call (Value.ref _) _) _ _ _ | show wpAny _ _ (call (Value.builtin "chr") _) _ _ _ | show wpAny _ _ (call (Value.type "int") _) _ _ _ | show wpAny _ _ (call (Value.builtin "str.translate") _) _ _ _)); walk1; (try (all_goals dsimp only)))
  | ((fail_if_success (with_reducible first | show wpAny _ _ (exec (.If _ _ _ _) _) _ _ _ | show wpAny _ _ (call (Value.builtin "str.join") _) _ _ _ | show wpAny _ _ (execs (Stmt.Assign [Expr.Name (Str.ofString "told") _] _ _ :: _) _) _ _ _ | show wpAny _ _ (call (Value.ref _) _) _ _ _ | show wpAny _ _ (call (Value.builtin "chr") _) _ _ _ | show wpAny _ _ (call (Value.type "int") _) _ _ _ | show wpAny _ _ (call (Value.builtin "str.translate") _) _ _ _)); dsimp only; walk1) | fail "no step"))
/-- the state of the loop that sends -/
structure SE where
  d : SD
  a : Tok
  b : Tok
  c : Tok
noncomputable def psE (p : LawP) (lx lo lt : Addr) (mk : List Nat) (t0 t1 t2 t3 t4 t5 t6 t7 : Tok) (c : SE) : List (Str × Value) :=
  (Str.ofString "sent", .str (tx c.d.sent) c.a) :: (Str.ofString "due", .str (tx c.d.due) c.b) :: (Str.ofString "behind", .int (c.d.behind : Nat) c.c) :: (Str.ofString "figures", .str (tx (figF p.X)) t7) :: (Str.ofString "order", .ref lo) :: (Str.ofString "end", .str (tx (endF p.X)) t6) :: psC p lx mk t0 t1 t2 t3 t4 t5 lt
theorem fig_1 {X : List Int} (h : ((gx X 5).fdiv 864).fmod 2 = 1) : Str.ofString "0123456789abcdef" = tx (figF X) := by
  have e : fm ((gx X 5).fdiv 864) 2 = 1 := by show (((gx X 5).fdiv 864).fmod 2).toNat = 1; rw [h]; rfl
  unfold figF; rw [if_pos e]; decide +kernel
theorem fig_0 {X : List Int} (h : ((gx X 5).fdiv 864).fmod 2 ≠ 1) : Str.ofString "0123456789ABCDEF" = tx (figF X) := by
  have e : fm ((gx X 5).fdiv 864) 2 ≠ 1 := by
    have e2 : ((gx X 5).fdiv 864).fmod 2 = (fm ((gx X 5).fdiv 864) 2 : Int) := fm_eq _ (m := 2) (by decide)
    rw [e2] at h; omega
  unfold figF; rw [if_neg e]; decide +kernel
theorem ord_all : ∀ a, a < 6 → (([[0, 1, 2, 3], [0, 2, 1, 3], [0, 3, 1, 2], [0, 1, 3, 2], [0, 2, 3, 1], [0, 3, 2, 1]] : List (List Nat)).getD a []).length = 4 ∧ ∀ i, i < 4 → ([[0, 1, 2, 3], [0, 2, 1, 3], [0, 3, 1, 2], [0, 1, 3, 2], [0, 2, 3, 1], [0, 3, 2, 1]].getD a []).getD i 0 < 4 := by decide +kernel
theorem ord_idx (X : List Int) : fm (gx X 5) 3 + 3 * fm ((gx X 5).fdiv 3) 2 < 6 := by
  have h1 := fm_lt (gx X 5) (m := 3) (by decide)
  have h2 := fm_lt ((gx X 5).fdiv 3) (m := 2) (by decide)
  omega
theorem ord_len (X : List Int) : (ordF X).length = 4 := (ord_all _ (ord_idx X)).1
theorem ord_lt (X : List Int) {i : Nat} (h : i < 4) : (ordF X).getD i 0 < 4 := (ord_all _ (ord_idx X)).2 i h
theorem fig_len (X : List Int) : (tx (figF X)).length = 16 := by
  unfold figF; split <;> rfl
theorem ord_z (X : List Int) {i : Nat} (hi : i < 4) : (List.map Int.ofNat (ordF X)).getD ((0 : Int) + (i : Nat) * 1).toNat 0 = ((ordF X).getD i 0 : Nat) := by
  have hl := ord_len X
  rw [show ((0 : Int) + (i : Nat) * 1).toNat = i by omega, List.getD_eq_getElem?_getD, List.getD_eq_getElem?_getD, List.getElem?_map, List.getElem?_eq_getElem (by omega)]
  rfl
theorem item_txt {w : World} {A : Around} {E : Value → Shared → Prop} {s : Shared} {Q : Value → Shared → Prop} {h₀ : Heap} {L lt : Addr} {news : List (Addr × Obj)} {p : LawP} {ts : List (List Nat)} {vt : List Value} {nt i : Nat} {z : Int} {u : Tok} {value slice : Expr}
    (N : News h₀ L s.heap news) (hm : (lt, W.listOf vt.toArray nt) ∈ news) (hvt : StrsAre vt (ts.map tx)) (hts : ts.length = 4) (hi : i < 4) (hz : z = (List.map Int.ofNat (ordF p.X)).getD ((0 : Int) + (i : Nat) * 1).toNat 0) (h : ∀ t, Q (.str (tx (txt p ts i)) t) s)
    (hs : subscripted slice false (.ref lt) (.int z u) = operate [.ref lt, .int z u] (getItem (.ref lt) (.int z u))) :
    wpAny (model pw w) A (subscriptTail value slice (.ref lt) (.int z u)) Q E s := by
  have ho := ord_lt p.X hi
  have e : z = ((ordF p.X).getD i 0 : Nat) := hz.trans (ord_z p.X hi)
  have et : tx (txt p ts i) = (ts.map tx).getD ((ordF p.X).getD i 0) Str.empty := by
    have hl := ord_len p.X
    show tx (ts.getD ((ordF p.X).getD i 0) []) = _
    generalize (ordF p.X).getD i 0 = k at ho
    rw [List.getD_eq_getElem?_getD, List.getD_eq_getElem?_getD, List.getElem?_map, List.getElem?_eq_getElem (by omega)]
    rfl
  rw [et] at h
  generalize (ordF p.X).getD i 0 = k at ho e h
  subst e
  exact item_strsR (News.isList N hm) hvt (by omega) (by rw [List.length_map, hts]; omega) (by omega) h hs
theorem torn_1 {X : List Int} {i : Nat} (h : (((gx X 5).fdiv 6).fdiv (2 ^ ((i : Nat) : Int).toNat)).fmod 2 = 1) : tornF X i = true := by
  have e : fm (((gx X 5).fdiv 6).fdiv ((2 : Int) ^ i)) 2 = 1 := by show ((((gx X 5).fdiv 6).fdiv ((2 : Int) ^ i)).fmod 2).toNat = 1; rw [show (((gx X 5).fdiv 6).fdiv ((2 : Int) ^ i)).fmod 2 = 1 from h]; rfl
  unfold tornF; rw [e]; rfl
theorem torn_0 {X : List Int} {i : Nat} (h : (((gx X 5).fdiv 6).fdiv (2 ^ ((i : Nat) : Int).toNat)).fmod 2 ≠ 1) : tornF X i = false := by
  have e2 : (((gx X 5).fdiv 6).fdiv ((2 : Int) ^ i)).fmod 2 = (fm (((gx X 5).fdiv 6).fdiv ((2 : Int) ^ i)) 2 : Int) := fm_eq _ (m := 2) (by decide)
  have h' : (((gx X 5).fdiv 6).fdiv ((2 : Int) ^ i)).fmod 2 ≠ 1 := h
  rw [e2] at h'
  unfold tornF; rw [beq_eq_false_iff_ne]; omega
theorem blank_1 {X : List Int} (h : ((gx X 5).fdiv 144).fmod 2 = 1) : blankF X = true := by
  have e : fm ((gx X 5).fdiv 144) 2 = 1 := by show (((gx X 5).fdiv 144).fmod 2).toNat = 1; rw [h]; rfl
  unfold blankF; rw [e]; rfl
theorem blank_0 {X : List Int} (h : ((gx X 5).fdiv 144).fmod 2 ≠ 1) : blankF X = false := by
  have e2 : ((gx X 5).fdiv 144).fmod 2 = (fm ((gx X 5).fdiv 144) 2 : Int) := fm_eq _ (m := 2) (by decide)
  rw [e2] at h
  unfold blankF; rw [beq_eq_false_iff_ne]; omega
theorem ebl : Str.ofString " \t" = tx [32, 9] := by decide +kernel
section
variable {p : LawP} {ts : List (List Nat)} {mk : List Nat} {tr i : Nat} {d : SD}
theorem sent_11 (hi : i < 3) (ht : tornF p.X i = true) (hb : blankF p.X = true) : tx (d.sent ++ showT (figF p.X) (txt p ts i)) ++ Str.ofString " \t" ++ tx (endF p.X) = tx (sendF p ts mk tr i d).sent := by
  rw [ebl, tx_app, tx_app]; simp [sendF, hi, ht, hb]
theorem sent_10 (hi : i < 3) (ht : tornF p.X i = true) (hb : blankF p.X = false) : tx (d.sent ++ showT (figF p.X) (txt p ts i)) ++ tx (endF p.X) = tx (sendF p ts mk tr i d).sent := by
  rw [tx_app]; simp [sendF, hi, ht, hb]
theorem sent_01 (hi : i < 3) (ht : tornF p.X i = false) (hb : blankF p.X = true) : tx (d.sent ++ showT (figF p.X) (txt p ts i)) ++ Str.ofString "=" ++ Str.ofString " \t" ++ tx (endF p.X) = tx (sendF p ts mk tr i d).sent := by
  rw [ebl, eqs, tx_app, tx_app, tx_app]; simp [sendF, hi, ht, hb]
theorem sent_00 (hi : i < 3) (ht : tornF p.X i = false) (hb : blankF p.X = false) : tx (d.sent ++ showT (figF p.X) (txt p ts i)) ++ Str.ofString "=" ++ tx (endF p.X) = tx (sendF p ts mk tr i d).sent := by
  rw [eqs, tx_app, tx_app]; simp [sendF, hi, ht, hb]
theorem sent_x (hi : ¬ i < 3) : tx (d.sent ++ showT (figF p.X) (txt p ts i)) = tx (sendF p ts mk tr i d).sent := by
  simp [sendF, hi]
theorem due_1 (hi : i < 3) (ht : tornF p.X i = true) : tx (d.due ++ txt p ts i) ++ tx mk = tx (sendF p ts mk tr i d).due := by
  rw [tx_app]; simp [sendF, hi, ht]
theorem due_0 (ht : tornF p.X i = false) : tx (d.due ++ txt p ts i) = tx (sendF p ts mk tr i d).due := by
  simp [sendF, ht]
theorem due_x (hi : ¬ i < 3) : tx (d.due ++ txt p ts i) = tx (sendF p ts mk tr i d).due := by
  simp [sendF, hi]
theorem beh_1 (hi : i < 3) (ht : tornF p.X i = true) : ((if (ordF p.X).getD i 0 = p.tn then tr else d.behind + (txt p ts i).length : Nat) : Int) + ((tx mk).length : Nat) = ((sendF p ts mk tr i d).behind : Nat) := by
  rw [tx_len]; simp [sendF, hi, ht]
theorem beh_0 (ht : tornF p.X i = false) : ((if (ordF p.X).getD i 0 = p.tn then tr else d.behind + (txt p ts i).length : Nat) : Int) = ((sendF p ts mk tr i d).behind : Nat) := by
  simp [sendF, ht]
theorem beh_x (hi : ¬ i < 3) : ((if (ordF p.X).getD i 0 = p.tn then tr else d.behind + (txt p ts i).length : Nat) : Int) = ((sendF p ts mk tr i d).behind : Nat) := by
  simp [sendF, hi]
end
theorem more_len (X : List Int) (mk : List Nat) (d : SD) (hmk : mk.length ≤ 2) : ∀ j, (moreN X mk d j).sent.length ≤ d.sent.length + 2 * j ∧ (moreN X mk d j).due.length ≤ d.due.length + 2 * j
  | 0 => ⟨Nat.le_refl _, Nat.le_refl _⟩
  | j + 1 => by
    have h := more_len X mk d hmk j
    have h3 := end_len X
    show ((moreN X mk d j).sent ++ _).length ≤ _ ∧ ((moreN X mk d j).due ++ _).length ≤ _
    rw [List.length_append, List.length_append]; omega
theorem txt_ok {p : LawP} {ts : List (List Nat)} (htl : ∀ t ∈ ts, t.length ≤ 100 ∧ ∀ c ∈ t, c < 256) (k : Nat) : (txt p ts k).length ≤ 100 ∧ ∀ c ∈ txt p ts k, c < 256 := by
  unfold txt
  rw [List.getD_eq_getElem?_getD]
  cases h : ts[(ordF p.X).getD k 0]? with
  | none => simp
  | some t => exact htl t (List.mem_of_getElem? h)
theorem send_len {p : LawP} {ts : List (List Nat)} {mk : List Nat} {tr : Nat} (htl : ∀ t ∈ ts, t.length ≤ 100 ∧ ∀ c ∈ t, c < 256) (hmk : mk.length ≤ 2) : ∀ i, (sendN p ts mk tr i).sent.length ≤ 305 * i ∧ (sendN p ts mk tr i).due.length ≤ 102 * i
  | 0 => ⟨Nat.zero_le _, Nat.zero_le _⟩
  | i + 1 => by
    have h := send_len (p := p) (tr := tr) htl hmk i
    have h1 := (txt_ok (p := p) htl i).1
    have h2 := showT_len (figF p.X) (txt p ts i)
    have h3 := end_len p.X
    have h4 : (if i < 3 then (if tornF p.X i then [] else [61]) ++ (if blankF p.X then [32, 9] else []) ++ endF p.X else []).length ≤ 5 := by
      split
      · simp only [List.length_append]
        have : (if tornF p.X i then ([] : List Nat) else [61]).length ≤ 1 := by split <;> simp
        have : (if blankF p.X then ([32, 9] : List Nat) else []).length ≤ 2 := by split <;> simp
        omega
      · simp
    have h5 : (if i < 3 ∧ tornF p.X i = true then mk else []).length ≤ 2 := by split <;> simp [hmk]
    show (((sendN p ts mk tr i).sent ++ _ ++ _).length ≤ _) ∧ (((sendN p ts mk tr i).due ++ _ ++ _).length ≤ _)
    rw [List.length_append, List.length_append, List.length_append, List.length_append]
    omega
section
variable {w : World} {mg mb : Str → Option Value} {A : Around} {s : Shared} {L : Addr} {h : Heap} {tk : Nat} {Q : Flow → Shared → Prop} {cd : Value}
theorem law_E (r : Room A 2 6) (KX : (KK w.params).In s.heap) (T : TopRead qv loose mg mb s.heap) (p : LawP) (hX : p.X.length = 7)
    (ts : List (List Nat)) (hts : ts.length = 4) (htl : ∀ t ∈ ts, t.length ≤ 100 ∧ ∀ c ∈ t, c < 256) (mk : List Nat) (hmk : mk.length ≤ 2) (lx lt lo : Addr) (us vt vo : List Value) (nt no : Nat) (hus : IntsAre us p.X) (hvt : StrsAre vt (ts.map tx)) (hvo : IntsAre vo ((ordF p.X).map Int.ofNat)) (u : Str → Option Value) (t0 t1 t2 t3 t4 t5 t6 : Tok)
    (F : Fr s.heap L h (kstB u ((Str.ofString "order", .ref lo) :: (Str.ofString "end", .str (tx (endF p.X)) t6) :: psC p lx mk t0 t1 t2 t3 t4 t5 lt)))
    (N : News s.heap L h [(lx, W.listOf us.toArray 0), (lt, W.listOf vt.toArray nt), (lo, W.listOf vo.toArray no)])
    (next : ∀ (d : SD) (ta tb tc : Tok) (u : Str → Option Value) (h : Heap) (tk : Nat), d = moreN p.X mk (sendN p ts mk (trailT p 4) 4) (moreF p.X) →
      Fr s.heap L h (kstB u [(Str.ofString "sent", .str (tx d.sent) ta), (Str.ofString "due", .str (tx d.due) tb), (Str.ofString "behind", .int (d.behind : Nat) tc), (Str.ofString "mark", .str (tx mk) t0), (Str.ofString "unmoved", .int (p.U : Nat) t1), (Str.ofString "place", .int (p.pl : Nat) t3), (Str.ofString "change", .int (p.ch : Nat) t4)]) →
      News s.heap L h [] →
      wpAny (model pw w) A (execs (List.drop 27 (fnB 33)) (envOf (Str.ofString "law") (fnS 33) L 142 cd)) Q (fun _ _ => False) { s with heap := h, toks := tk }) :
    wpAny (model pw w) A (execs (List.drop 20 (fnB 33)) (envOf (Str.ofString "law") (fnS 33) L 142 cd)) Q (fun _ _ => False) { s with heap := h, toks := tk } := by
  have hh := r.handled
  conv in (occs := *) (fnS 33) => all_goals whnf
  conv in (List.drop 20 (fnB 33)) => whnf
  dsimp only [kstB, psC] at F
  k_steps
  refine cut1 (h₀ := s.heap) (σ := Tok) (fun _ => [(lx, W.listOf us.toArray 0), (lt, W.listOf vt.toArray nt), (lo, W.listOf vo.toArray no)]) (fun t7 => (Str.ofString "figures", .str (tx (figF p.X)) t7) :: (Str.ofString "order", .ref lo) :: (Str.ofString "end", .str (tx (endF p.X)) t6) :: psC p lx mk t0 t1 t2 t3 t4 t5 lt) (fun _ => True) ?go1 ?done1
  case go1 =>
    walk1
    k_steps
    · refine PE.mk _ (by assumption) (by assumption) (by intro p hp; first | exact hp | exact List.Mem.tail _ (hp) | exact List.Mem.tail _ (List.Mem.tail _ (hp)) | exact List.Mem.tail _ (List.Mem.tail _ (List.Mem.tail _ (hp))) | exact List.Mem.tail _ (List.Mem.tail _ (List.Mem.tail _ (List.Mem.tail _ (hp)))) | exact List.Mem.tail _ (List.Mem.tail _ (List.Mem.tail _ (List.Mem.tail _ (List.Mem.tail _ (hp))))) | exact List.Mem.tail _ (List.Mem.tail _ (List.Mem.tail _ (List.Mem.tail _ (List.Mem.tail _ (List.Mem.tail _ (hp)))))) | exact List.Mem.tail _ (List.Mem.tail _ (List.Mem.tail _ (List.Mem.tail _ (List.Mem.tail _ (List.Mem.tail _ (List.Mem.tail _ (hp))))))) | exact List.Mem.tail _ (List.Mem.tail _ (List.Mem.tail _ (List.Mem.tail _ (List.Mem.tail _ (List.Mem.tail _ (List.Mem.tail _ (List.Mem.tail _ (hp))))))))) (by refine And.intro (Has.str rfl (fig_1 (by assumption))) ?_; repeat' (first | exact trivial | (refine And.intro ?_ ?_) | rfl)) trivial
    · refine PE.mk _ (by assumption) (by assumption) (by intro p hp; first | exact hp | exact List.Mem.tail _ (hp) | exact List.Mem.tail _ (List.Mem.tail _ (hp)) | exact List.Mem.tail _ (List.Mem.tail _ (List.Mem.tail _ (hp))) | exact List.Mem.tail _ (List.Mem.tail _ (List.Mem.tail _ (List.Mem.tail _ (hp)))) | exact List.Mem.tail _ (List.Mem.tail _ (List.Mem.tail _ (List.Mem.tail _ (List.Mem.tail _ (hp))))) | exact List.Mem.tail _ (List.Mem.tail _ (List.Mem.tail _ (List.Mem.tail _ (List.Mem.tail _ (List.Mem.tail _ (hp)))))) | exact List.Mem.tail _ (List.Mem.tail _ (List.Mem.tail _ (List.Mem.tail _ (List.Mem.tail _ (List.Mem.tail _ (List.Mem.tail _ (hp))))))) | exact List.Mem.tail _ (List.Mem.tail _ (List.Mem.tail _ (List.Mem.tail _ (List.Mem.tail _ (List.Mem.tail _ (List.Mem.tail _ (List.Mem.tail _ (hp))))))))) (by refine And.intro (Has.str rfl (fig_0 (by assumption))) ?_; repeat' (first | exact trivial | (refine And.intro ?_ ?_) | rfl)) trivial
  case done1 =>
    intro t7 u h tk _ F N
    dsimp only [kstB, psC] at F N ⊢
    k_steps
    with_unfolding_all refine' For_invVF (by assumption) ?k1 ?k2 ?_
    case k1 => exact rfl
    case k2 => exact rfl
    k_steps
    refine lpRangeP (n := 4) (σ := SE) (fun _ => [(lx, W.listOf us.toArray 0), (lt, W.listOf vt.toArray nt), (lo, W.listOf vo.toArray no)]) (fun c => psE p lx lo lt mk t0 t1 t2 t3 t4 t5 t6 t7 c) (fun i c => c.d = sendN p ts mk (trailT p 4) i) ⟨⟨[], [], 0⟩, _, _, _⟩ hh (by assumption) (by decide) (by rfl) (by assumption) (by assumption) (by repeat' (first | exact trivial | (refine And.intro ?_ ?_) | rfl)) (by rfl) (by intro _ _ _ q hq; simp only [List.mem_cons, List.not_mem_nil, or_false] at hq; rcases hq with rfl | rfl | rfl <;> simp [W.listOf]) ?turn ?done
    case turn =>
      intro c i tK u h tk own hi hp F N
      dsimp only [psE, psC, kstB] at F N ⊢
      have hol := ord_len p.X
      have hoi := ord_lt p.X hi
      have hb := send_len (p := p) (tr := trailT p 4) htl hmk i
      rw [← hp] at hb
      have hs1 : (tx c.d.sent).length ≤ 305 * i := by rw [tx_len]; exact hb.1
      have hs2 : (tx c.d.due).length ≤ 102 * i := by rw [tx_len]; exact hb.2
      have hs3 : (tx (txt p ts i)).length ≤ 100 := by rw [tx_len]; exact (txt_ok htl i).1
      have hs4 : (tx (showT (figF p.X) (txt p ts i))).length ≤ 300 := by rw [tx_len]; have := showT_len (figF p.X) (txt p ts i); have := (txt_ok (p := p) htl i).1; omega
      k_steps
      refine item_txt (p := p) N (.tail _ (.head _)) hvt hts hi rfl ?_ (by with_unfolding_all rfl)
      intro t9
      k_steps
      refine use_pure (shown_pure w mg mb (tx (txt p ts i)) (tx (figF p.X)) _ _ (by omega) (by rw [cs_tx]; exact (txt_ok htl i).2) (fig_len p.X)) (by assumption) (by rfl) (by rfl) (by assumption) (by assumption) (by assumption) (by assumption) ?_; intro t h tk F N; dsimp only
      rw [cs_tx, cs_tx]
      k_steps
      refine item_txt (p := p) (by assumption) (.tail _ (.head _)) hvt hts hi rfl ?_ (by with_unfolding_all rfl)
      intro t10
      k_steps
      refine item_txt (p := p) (by assumption) (.tail _ (.head _)) hvt hts hi rfl ?_ (by with_unfolding_all rfl)
      intro t11
      k_steps
      refine cut1 (h₀ := s.heap) (σ := Tok × Tok × Tok) (fun _ => [(lx, W.listOf us.toArray 0), (lt, W.listOf vt.toArray nt), (lo, W.listOf vo.toArray no)] ++ own) (fun q => (Str.ofString "k", .int (i : Nat) tK) :: psE p lx lo lt mk t0 t1 t2 t3 t4 t5 t6 t7 ⟨⟨c.d.sent ++ showT (figF p.X) (txt p ts i), c.d.due ++ txt p ts i, if (ordF p.X).getD i 0 = p.tn then trailT p 4 else c.d.behind + (txt p ts i).length⟩, q.1, q.2.1, q.2.2⟩) (fun _ => True) ?go2 ?done2
      case go2 =>
        walk1
        k_steps
        · rename _ = (p.tn : Int) => hq
          have hq2 : (ordF p.X).getD i 0 = p.tn := by rw [ord_z p.X hi] at hq; exact Int.ofNat_inj.mp hq
          refine PE.mk (_, _, _) (by assumption) (by assumption) (by intro p hp; first | exact hp | exact List.Mem.tail _ (hp) | exact List.Mem.tail _ (List.Mem.tail _ (hp)) | exact List.Mem.tail _ (List.Mem.tail _ (List.Mem.tail _ (hp))) | exact List.Mem.tail _ (List.Mem.tail _ (List.Mem.tail _ (List.Mem.tail _ (hp)))) | exact List.Mem.tail _ (List.Mem.tail _ (List.Mem.tail _ (List.Mem.tail _ (List.Mem.tail _ (hp))))) | exact List.Mem.tail _ (List.Mem.tail _ (List.Mem.tail _ (List.Mem.tail _ (List.Mem.tail _ (List.Mem.tail _ (hp)))))) | exact List.Mem.tail _ (List.Mem.tail _ (List.Mem.tail _ (List.Mem.tail _ (List.Mem.tail _ (List.Mem.tail _ (List.Mem.tail _ (hp))))))) | exact List.Mem.tail _ (List.Mem.tail _ (List.Mem.tail _ (List.Mem.tail _ (List.Mem.tail _ (List.Mem.tail _ (List.Mem.tail _ (List.Mem.tail _ (hp))))))))) (by refine ⟨?_, ?_, ?_, ?_, ?_⟩; exact Has.int (a := (0 : Int) + (i : Int) * 1) rfl (by omega); exact Has.str rfl (tx_app _ _); exact Has.str rfl (tx_app _ _); exact Has.int (a := ((trailT p 4 : Nat) : Int)) rfl (by rw [if_pos hq2]); repeat' (first | exact trivial | (refine And.intro ?_ ?_) | rfl)) trivial
        · rename _ ≠ (p.tn : Int) => hq
          have hq2 : ¬ (ordF p.X).getD i 0 = p.tn := by rw [ord_z p.X hi] at hq; exact fun e => hq (congrArg _ e)
          refine PE.mk (_, _, _) (by assumption) (by assumption) (by intro p hp; first | exact hp | exact List.Mem.tail _ (hp) | exact List.Mem.tail _ (List.Mem.tail _ (hp)) | exact List.Mem.tail _ (List.Mem.tail _ (List.Mem.tail _ (hp))) | exact List.Mem.tail _ (List.Mem.tail _ (List.Mem.tail _ (List.Mem.tail _ (hp)))) | exact List.Mem.tail _ (List.Mem.tail _ (List.Mem.tail _ (List.Mem.tail _ (List.Mem.tail _ (hp))))) | exact List.Mem.tail _ (List.Mem.tail _ (List.Mem.tail _ (List.Mem.tail _ (List.Mem.tail _ (List.Mem.tail _ (hp)))))) | exact List.Mem.tail _ (List.Mem.tail _ (List.Mem.tail _ (List.Mem.tail _ (List.Mem.tail _ (List.Mem.tail _ (List.Mem.tail _ (hp))))))) | exact List.Mem.tail _ (List.Mem.tail _ (List.Mem.tail _ (List.Mem.tail _ (List.Mem.tail _ (List.Mem.tail _ (List.Mem.tail _ (List.Mem.tail _ (hp))))))))) (by refine ⟨?_, ?_, ?_, ?_, ?_⟩; exact Has.int (a := (0 : Int) + (i : Int) * 1) rfl (by omega); exact Has.str rfl (tx_app _ _); exact Has.str rfl (tx_app _ _); exact Has.int (a := (c.d.behind : Int) + ((tx (txt p ts i)).length : Int)) rfl (by rw [tx_len]; show _ = ((if (ordF p.X).getD i 0 = p.tn then trailT p 4 else c.d.behind + (txt p ts i).length : Nat) : Int); rw [if_neg hq2]; omega); repeat' (first | exact trivial | (refine And.intro ?_ ?_) | rfl)) trivial
      case done2 =>
        rintro ⟨ta, tb, tc⟩ u h tk _ F N
        dsimp only [psE, psC, kstB] at F N ⊢
        have hs5 : (tx (c.d.sent ++ showT (figF p.X) (txt p ts i))).length ≤ 2000 := by rw [← tx_app, Str.length_append]; omega
        have hs6 : (tx (c.d.due ++ txt p ts i)).length ≤ 2000 := by rw [← tx_app, Str.length_append]; omega
        have hs7 : (tx (endF p.X)).length ≤ 2 := by rw [tx_len]; exact end_len p.X
        have hs8 : (tx mk).length ≤ 2 := by rw [tx_len]; exact hmk
        k_steps
        walk1
        k_steps
        · walk1
          k_steps
          · walk1
            k_steps
            · refine TP.mk ⟨sendF p ts mk (trailT p 4) i c.d, _, _, _⟩ (by simp) (by assumption) (by assumption) (by intro p hp; simp only [List.mem_append, List.mem_cons, List.not_mem_nil, or_false, false_or] at hp ⊢; first | assumption | (rcases hp with h | h <;> simp [h]) | (rcases hp with h | h | h <;> simp [h]) | (rcases hp with h | h | h | h <;> simp [h])) (by refine And.intro (Has.str rfl (sent_11 (by omega) (torn_1 (by assumption)) (blank_1 (by assumption)))) (And.intro (Has.str rfl (due_1 (by omega) (torn_1 (by assumption)))) (And.intro (Has.int rfl (beh_1 (by omega) (torn_1 (by assumption)))) ?_)); repeat' (first | exact trivial | (refine And.intro ?_ ?_) | rfl)) (by show _ = _; rw [hp]; rfl)
            · refine TP.mk ⟨sendF p ts mk (trailT p 4) i c.d, _, _, _⟩ (by simp) (by assumption) (by assumption) (by intro p hp; simp only [List.mem_append, List.mem_cons, List.not_mem_nil, or_false, false_or] at hp ⊢; first | assumption | (rcases hp with h | h <;> simp [h]) | (rcases hp with h | h | h <;> simp [h]) | (rcases hp with h | h | h | h <;> simp [h])) (by refine And.intro (Has.str rfl (sent_10 (by omega) (torn_1 (by assumption)) (blank_0 (by assumption)))) (And.intro (Has.str rfl (due_1 (by omega) (torn_1 (by assumption)))) (And.intro (Has.int rfl (beh_1 (by omega) (torn_1 (by assumption)))) ?_)); repeat' (first | exact trivial | (refine And.intro ?_ ?_) | rfl)) (by show _ = _; rw [hp]; rfl)
          · walk1
            k_steps
            · refine TP.mk ⟨sendF p ts mk (trailT p 4) i c.d, _, _, _⟩ (by simp) (by assumption) (by assumption) (by intro p hp; simp only [List.mem_append, List.mem_cons, List.not_mem_nil, or_false, false_or] at hp ⊢; first | assumption | (rcases hp with h | h <;> simp [h]) | (rcases hp with h | h | h <;> simp [h]) | (rcases hp with h | h | h | h <;> simp [h])) (by refine And.intro (Has.str rfl (sent_01 (by omega) (torn_0 (by assumption)) (blank_1 (by assumption)))) (And.intro (Has.str rfl (due_0 (torn_0 (by assumption)))) (And.intro (Has.int rfl (beh_0 (torn_0 (by assumption)))) ?_)); repeat' (first | exact trivial | (refine And.intro ?_ ?_) | rfl)) (by show _ = _; rw [hp]; rfl)
            · refine TP.mk ⟨sendF p ts mk (trailT p 4) i c.d, _, _, _⟩ (by simp) (by assumption) (by assumption) (by intro p hp; simp only [List.mem_append, List.mem_cons, List.not_mem_nil, or_false, false_or] at hp ⊢; first | assumption | (rcases hp with h | h <;> simp [h]) | (rcases hp with h | h | h <;> simp [h]) | (rcases hp with h | h | h | h <;> simp [h])) (by refine And.intro (Has.str rfl (sent_00 (by omega) (torn_0 (by assumption)) (blank_0 (by assumption)))) (And.intro (Has.str rfl (due_0 (torn_0 (by assumption)))) (And.intro (Has.int rfl (beh_0 (torn_0 (by assumption)))) ?_)); repeat' (first | exact trivial | (refine And.intro ?_ ?_) | rfl)) (by show _ = _; rw [hp]; rfl)
        · refine TP.mk ⟨sendF p ts mk (trailT p 4) i c.d, _, _, _⟩ (by simp) (by assumption) (by assumption) (by intro p hp; simp only [List.mem_append, List.mem_cons, List.not_mem_nil, or_false, false_or] at hp ⊢; first | assumption | (rcases hp with h | h <;> simp [h]) | (rcases hp with h | h | h <;> simp [h]) | (rcases hp with h | h | h | h <;> simp [h])) (by refine And.intro (Has.str rfl (sent_x (by omega))) (And.intro (Has.str rfl (due_x (by omega))) (And.intro (Has.int rfl (beh_x (by omega))) ?_)); repeat' (first | exact trivial | (refine And.intro ?_ ?_) | rfl)) (by show _ = _; rw [hp]; rfl)
    case done =>
      intro c u h tk hp F N
      dsimp only [psE, psC, kstB] at F N ⊢
      k_steps
      with_unfolding_all refine' For_invVF (by assumption) ?k1 ?k2 ?_
      case k1 => exact rfl
      case k2 => exact rfl
      k_steps
      have hm1 := fm_lt ((gx p.X 5).fdiv 288) (m := 3) (by decide)
      have hm2 : ((p.X.getD (Int.toNat 5) 0).fdiv 288).fmod 3 = (moreF p.X : Int) := fm_eq ((gx p.X 5).fdiv 288) (m := 3) (by decide)
      have hm3 : moreF p.X < 3 := hm1
      have hb := send_len (p := p) (tr := trailT p 4) htl hmk 4
      rw [← hp] at hb
      rename IsRange _ _ _ _ _ _ _ _ => hR
      rw [hm2] at hR
      refine lpRangeP (n := moreF p.X) (σ := SE) (fun _ => [(lx, W.listOf us.toArray 0), (lt, W.listOf vt.toArray nt), (lo, W.listOf vo.toArray no)]) (fun c => psE p lx lo lt mk t0 t1 t2 t3 t4 t5 t6 t7 c) (fun i c => c.d = moreN p.X mk (sendN p ts mk (trailT p 4) 4) i) ⟨c.d, _, _, _⟩ hh hR (by exact small_one (by omega) (by omega) (by omega) (by omega)) (by rw [rangeSize_nat]; omega) (by assumption) (by assumption) (by repeat' (first | exact trivial | (refine And.intro ?_ ?_) | rfl)) (by exact hp) (by intro _ _ _ q hq; simp only [List.mem_cons, List.not_mem_nil, or_false] at hq; rcases hq with rfl | rfl | rfl <;> simp [W.listOf]) ?turn3 ?done3
      case turn3 =>
        intro c' j t u h tk own hj hp' F N
        dsimp only [psE, psC, kstB] at F N ⊢
        have hm := more_len p.X mk (sendN p ts mk (trailT p 4) 4) hmk j
        rw [← hp', ← hp] at hm
        have hs1 : (tx c'.d.sent).length ≤ 2000 := by rw [tx_len]; omega
        have hs2 : (tx c'.d.due).length ≤ 2000 := by rw [tx_len]; omega
        have hs7 : (tx (endF p.X)).length ≤ 2 := by rw [tx_len]; exact end_len p.X
        have hs8 : (tx mk).length ≤ 2 := by rw [tx_len]; exact hmk
        k_steps
        refine TP.mk ⟨⟨c'.d.sent ++ endF p.X, c'.d.due ++ mk, c'.d.behind + mk.length⟩, _, _, _⟩ (by simp) (by assumption) (by assumption) (by intro p hp; simp only [List.mem_append, List.mem_cons, List.not_mem_nil, or_false, false_or] at hp ⊢; first | assumption | (rcases hp with h | h <;> simp [h]) | (rcases hp with h | h | h <;> simp [h]) | (rcases hp with h | h | h | h <;> simp [h])) (by refine ⟨?_, ?_, ?_, ?_⟩; exact Has.str rfl (tx_app _ _); exact Has.str rfl (tx_app _ _); exact Has.int (a := (c'.d.behind : Int) + ((tx mk).length : Int)) rfl (by rw [tx_len]; show (c'.d.behind : Int) + (mk.length : Int) = ((c'.d.behind + mk.length : Nat) : Int); omega); repeat' (first | exact trivial | (refine And.intro ?_ ?_) | rfl)) (by show _ = _; rw [hp']; rfl)
      case done3 =>
        intro c' u h tk hp' F N
        dsimp only [psE, psC, kstB] at F
        refine next c'.d c'.a c'.b c'.c _ _ _ hp' (kst_has' F (by repeat' (first | exact trivial | (refine And.intro ?_ ?_) | rfl))) (fun q hq => by cases hq)
end
end Mine
end
section
open PySem PySem.W PyProof.Rows PySem.Calls
set_option maxRecDepth 100000
set_option maxHeartbeats 4000000
set_option linter.all false
namespace Mine
local macro_rules | `(tactic| k_steps) => `(tactic| repeat' (first
  | (k_unfold; (try dsimp only))
  | ((fail_if_success (with_reducible first | show wpAny _ _ (exec (.For _ _ _ _ _) _) _ _ _ | show wpAny _ _ (exec (.While _ _ _ _) _) _ _ _ | show wpAny _ _ (pyIter _) _ _ _ | show wpAny _ _ (exec (.If _ _ _ _) _) _ _ _ | show wpAny _ _ (call (Value.ref _) _) _ _ _ | show wpAny _ _ (call (Value.builtin "chr") _) _ _ _ | show wpAny _ _ (call (Value.type "int") _) _ _ _ | show wpAny _ _ (call (Value.builtin "str.translate") _) _ _ _)); walk1; (try (all_goals dsimp only)))
  | ((fail_if_success (with_reducible first | show wpAny _ _ (exec (.If _ _ _ _) _) _ _ _ | show wpAny _ _ (call (Value.ref _) _) _ _ _ | show wpAny _ _ (call (Value.builtin "chr") _) _ _ _ | show wpAny _ _ (call (Value.type "int") _) _ _ _ | show wpAny _ _ (call (Value.builtin "str.translate") _) _ _ _)); dsimp only; walk1) | fail "no step"))
local macro_rules | `(tactic| walk_at "binaryOp LShift int int") => `(tactic| refine lshift_int (by omega) (by omega) ?_)
/-- what decode asks of the text that is sent -/
structure DecOk (mk : List Nat) (sent due : List Nat) : Prop where
  ne : sent ≠ []
  len : sent.length ≤ 1000
  cc : ∀ c ∈ due, c < 256
  lines : ∃ lines : List (List Nat × List Nat), Txt.lines (tx sent) = lines.map (fun p => tx p.1) ∧ (∀ p ∈ lines, Txt.rstrip (tx p.1) = tx p.2) ∧ (∀ p ∈ lines, p.1.length ≤ 1000 ∧ p.2.length ≤ 1000) ∧ (∀ p ∈ lines, ∀ c ∈ p.2, c < 256) ∧ (∀ i, (decD mk (lines.take i)).length ≤ 3000) ∧
    ((crOcc (Txt.item (tx sent) (-1)) = false ∧ due = decD mk lines) ∨ (crOcc (Txt.item (tx sent) (-1)) = true ∧ decD mk lines = due ++ mk ∧ mk ≠ []))
theorem off_lt (ch : Nat) {pl b : Nat} (hpl : pl < 7) : bitsT [ch] <<< (80 - 8 * pl + 8 * b) < 2 ^ (88 + 8 * b + 1) := by
  have h := bitsT_lt [ch]
  rw [Nat.shiftLeft_eq]
  refine Nat.lt_of_lt_of_le (Nat.mul_lt_mul_of_pos_right h (Nat.two_pow_pos _)) ?_
  rw [← Nat.pow_add]
  exact Nat.pow_le_pow_right (by decide) (by simp only [List.length_cons, List.length_nil]; omega)
section
variable {w : World} {mg mb : Str → Option Value} {A : Around} {s : Shared} {L : Addr} {h : Heap} {tk : Nat} {Q : Flow → Shared → Prop} {cd : Value}
theorem law_F (r : Room A 2 6) (KX : (KK w.params).In s.heap) (T : TopRead qv loose mg mb s.heap) (p : LawP) (hU : p.U < 2 ^ 32) (hpl : p.pl < 7) (hch : p.ch < 32) (mk : List Nat) (hmk : mk.length ≤ 2) (d : SD) (ok : DecOk mk d.sent d.due) (hbh : d.behind ≤ 100)
    (hfin : regText 4294967295 d.due = rev32 (p.U ^^^ red (bitsT [p.ch] <<< (80 - 8 * p.pl + 8 * d.behind))))
    (u : Str → Option Value) (t0 t1 t3 t4 ta tb tc : Tok)
    (F : Fr s.heap L h (kstB u [(Str.ofString "sent", .str (tx d.sent) ta), (Str.ofString "due", .str (tx d.due) tb), (Str.ofString "behind", .int (d.behind : Nat) tc), (Str.ofString "mark", .str (tx mk) t0), (Str.ofString "unmoved", .int (p.U : Nat) t1), (Str.ofString "place", .int (p.pl : Nat) t3), (Str.ofString "change", .int (p.ch : Nat) t4)]))
    (N : News s.heap L h [])
    (hQ : ∀ h' tk', s.heap.StaysIn h' → Q (.ret (.bool true)) { s with heap := h', toks := tk' }) :
    wpAny (model pw w) A (execs (List.drop 27 (fnB 33)) (envOf (Str.ofString "law") (fnS 33) L 142 cd)) Q (fun _ _ => False) { s with heap := h, toks := tk } := by
  have hh := r.handled
  obtain ⟨lines, hl1, hl2, hl3, hl4, hl5, hl6⟩ := ok.lines
  conv in (occs := *) (fnS 33) => all_goals whnf
  conv in (List.drop 27 (fnB 33)) => whnf
  dsimp only [kstB] at F
  k_steps
  refine use_pure (decode_pure w mg mb d.sent mk lines d.due _ _ ok.ne ok.len hmk hl1 hl2 hl3 hl4 hl5 hl6) (by assumption) (by rfl) (by rfl) (by assumption) (by assumption) (by assumption) (by assumption) ?_; intro t h tk F N; dsimp only
  k_steps
  walk1
  k_steps
  · rename (_ != _) = true => hb
    simp at hb
  with_unfolding_all refine' For_invVF (by assumption) ?k1 ?k2 ?_
  case k1 => exact rfl
  case k2 => exact rfl
  k_steps
  refine lpText (σ := Nat × Tok) [] (fun c => [(Str.ofString "register", .int (c.1 : Nat) c.2)]) [Str.ofString "register", Str.ofString "sign"] (fun pre c => c.1 = regText 4294967295 pre) (4294967295, _) hh (by assumption) (by assumption) (by repeat' (first | exact trivial | (refine And.intro ?_ ?_) | rfl)) (by rfl) (by rfl) ?turn ?done
  case turn =>
    intro c pre post n t u h tk own e hp F N
    have hn : n < 256 := ok.cc n (by rw [show d.due = pre ++ n :: post from e]; simp)
    dsimp only [lm, kstB] at F ⊢
    k_steps
    rw [bxor_nat]
    refine use_pure (crc_pure w mg mb (c.1 ^^^ n) _) (by assumption) (by rfl) (by rfl) (by assumption) (by assumption) (by assumption) (by assumption) ?_; intro t h tk F N; dsimp only
    k_steps
    refine TE.mk (genCrc (c.1 ^^^ n), _) (by simp) (by assumption) (by assumption) (by intro p hp; simp only [List.mem_append, List.mem_cons, List.not_mem_nil, or_false, false_or] at hp ⊢; first | assumption | (rcases hp with h | h <;> simp [h]) | (rcases hp with h | h | h <;> simp [h]) | (rcases hp with h | h | h | h <;> simp [h])) (by exact ⟨rfl, trivial⟩) (by ksw_same) (by show _ = _; rw [hp]; simp [regText])
  case done =>
    intro c u h tk hp F N
    dsimp only [lm, kstB] at F ⊢
    have hzb : (Builtin.Int.intBits ((bitsT [p.ch] : Nat) : Int) : Int) ≤ 8 := bits_le _ 8 (bitsT_lt [p.ch])
    k_steps
    refine chr_of_range (by omega) (by omega) ?_
    k_steps
    refine use_pure (bits_pure w mg mb ⟨#[((p.ch : Nat) : Int).toNat]⟩ _) (by assumption) (by rfl) (by rfl) (by assumption) (by assumption) (by assumption) (by assumption) ?_; intro t h tk F N; dsimp only
    rw [show bitsT (cs ⟨#[((p.ch : Nat) : Int).toNat]⟩) = bitsT [p.ch] from rfl]
    k_steps
    have e1 : ((bitsT [p.ch] : Nat) : Int) * 2 ^ ((80 : Int) - 8 * (p.pl : Int) + 8 * (d.behind : Int)).toNat = ((bitsT [p.ch] <<< (80 - 8 * p.pl + 8 * d.behind) : Nat) : Int) := by
      rw [show ((80 : Int) - 8 * (p.pl : Int) + 8 * (d.behind : Int)).toNat = 80 - 8 * p.pl + 8 * d.behind by omega]; exact shl_nat _ _
    have e2 : (88 : Int) + 8 * (d.behind : Int) = ((88 + 8 * d.behind : Nat) : Int) := by omega
    rw [e1, e2]
    refine use_pure (rest_pure w mg mb (bitsT [p.ch] <<< (80 - 8 * p.pl + 8 * d.behind)) (88 + 8 * d.behind) _ _ (off_lt _ hpl) (by omega) (by omega)) (by assumption) (by rfl) (by rfl) (by assumption) (by assumption) (by assumption) (by assumption) ?_; intro t h tk F N; dsimp only
    k_steps
    rw [bxor_nat]
    refine use_pure (register_pure w mg mb (p.U ^^^ red (bitsT [p.ch] <<< (80 - 8 * p.pl + 8 * d.behind))) _) (by assumption) (by rfl) (by rfl) (by assumption) (by assumption) (by assumption) (by assumption) ?_; intro t h tk F N; dsimp only
    have hr : c.1 = rev32 (p.U ^^^ red (bitsT [p.ch] <<< (80 - 8 * p.pl + 8 * d.behind))) := hp.trans hfin
    rw [← hr]
    k_steps
    rw [show ((c.1 : Int) == (c.1 : Int)) = true by simp]
    exact hQ _ _ (Fr.keep (by assumption))
end
end Mine
end
section
open PySem PySem.W PyProof.Rows PySem.Calls
set_option maxRecDepth 100000
set_option maxHeartbeats 4000000
set_option linter.all false
namespace Mine
local macro_rules | `(tactic| k_steps) => `(tactic| repeat' (first
  | (k_unfold; (try dsimp only))
  | ((fail_if_success (with_reducible first | show wpAny _ _ (exec (.For _ _ _ _ _) _) _ _ _ | show wpAny _ _ (exec (.While _ _ _ _) _) _ _ _ | show wpAny _ _ (pyIter _) _ _ _ | show wpAny _ _ (exec (.If _ _ _ _) _) _ _ _ | show wpAny _ _ (execs (Stmt.For _ _ _ _ _ :: _) _) _ _ _ | show wpAny _ _ (call (Value.ref _) _) _ _ _ | show wpAny _ _ (call (Value.builtin "chr") _) _ _ _ | show wpAny _ _ (call (Value.type "int") _) _ _ _ | show wpAny _ _ (call (Value.builtin "str.translate") _) _ _ _)); walk1; (try (all_goals dsimp only)))
  | ((fail_if_success (with_reducible first | show wpAny _ _ (exec (.If _ _ _ _) _) _ _ _ | show wpAny _ _ (execs (Stmt.For _ _ _ _ _ :: _) _) _ _ _ | show wpAny _ _ (call (Value.ref _) _) _ _ _ | show wpAny _ _ (call (Value.builtin "chr") _) _ _ _ | show wpAny _ _ (call (Value.type "int") _) _ _ _ | show wpAny _ _ (call (Value.builtin "str.translate") _) _ _ _)); dsimp only; walk1) | fail "no step"))
theorem mark_len (X : List Int) : (markL X).length ≤ 2 := by
  unfold markL; split <;> simp
theorem mark_1 {X : List Int} (h : ((gx X 4).fdiv 256).fmod 2 = 1) : (⟨#[((gx X 4).fmod 256).toNat]⟩ : Str) ++ (⟨#[(((gx X 4).fdiv 512).fmod 256).toNat]⟩ : Str) = tx (markL X) := by
  have e : fm ((gx X 4).fdiv 256) 2 = 1 := by show (((gx X 4).fdiv 256).fmod 2).toNat = 1; rw [h]; rfl
  unfold markL; rw [if_pos e]; exact tx_app _ _
theorem mark_0 {X : List Int} (h : ¬ ((gx X 4).fdiv 256).fmod 2 = 1) : (⟨#[((gx X 4).fmod 256).toNat]⟩ : Str) = tx (markL X) := by
  have e2 : ((gx X 4).fdiv 256).fmod 2 = (fm ((gx X 4).fdiv 256) 2 : Int) := fm_eq _ (m := 2) (by decide)
  rw [e2] at h
  have e : ¬ fm ((gx X 4).fdiv 256) 2 = 1 := by omega
  unfold markL; rw [if_neg e]; rfl
theorem fm256 (z : Int) : 0 ≤ z.fmod 256 ∧ z.fmod 256 < 256 := ⟨Int.fmod_nonneg_of_pos z (by decide), Int.fmod_lt_of_pos z (by decide)⟩
theorem new_led {h₀ H h : Heap} {L : Addr} {m : Str → Option Value} {l : List (Addr × Obj)} (F : Fr h₀ L H m) (hn : ∀ p ∈ l, h.get? p.1 = some p.2 ∧ H.get? p.1 = none) : News h₀ L h l := by
  intro p hp
  obtain ⟨h1, h2⟩ := hn p hp
  refine ⟨h1, fun e => ?_, ?_⟩
  · obtain ⟨o, _, _, ho, _⟩ := F.ns
    rw [e, ho] at h2; cases h2
  · cases h3 : h₀.get? p.1 with
    | none => rfl
    | some o => rw [F.keep _ _ h3] at h2; cases h2
theorem tn_eq (X : List Int) : (1 : Int) + (gx X 6).fmod 3 = ((lawP X).tn : Nat) := by
  have e : (gx X 6).fmod 3 = (fm (gx X 6) 3 : Int) := fm_eq _ (m := 3) (by decide)
  rw [e]; show _ = ((1 + fm (gx X 6) 3 : Nat) : Int); omega
theorem pl_eq (X : List Int) : ((gx X 6).fdiv 3).fmod 7 = ((lawP X).pl : Nat) := fm_eq _ (m := 7) (by decide)
theorem ch_eq (X : List Int) : ((gx X 6).fdiv 21).fmod 32 = ((lawP X).ch : Nat) := fm_eq _ (m := 32) (by decide)
theorem LA.te {h₀ h' : Heap} {L : Addr} {a b c d : Addr × Obj} {r : List (Addr × Obj)} (N : News h₀ L h' (a :: b :: ([c] ++ d :: r))) : News h₀ L h' ([c, b, a] ++ d :: r) := by
  intro q hq
  refine N q ?_
  simp only [List.mem_append, List.mem_cons, List.not_mem_nil, or_false] at hq ⊢
  rcases hq with (h | h | h) | h | h <;> simp [h]
section
variable {w : World} {mg mb : Str → Option Value} {A : Around} {s : Shared} {L : Addr} {h : Heap} {tk : Nat} {Q : Flow → Shared → Prop} {cd : Value}
theorem law_A (r : Room A 2 6) (KX : (KK w.params).In s.heap) (T : TopRead qv loose mg mb s.heap) (X : List Int) (hX : X.length = 7)
    (lx : Addr) (us : List Value) (hus : IntsAre us X) (u : Str → Option Value)
    (F : Fr s.heap L h (kstB u [(Str.ofString "x", .ref lx)])) (N : News s.heap L h [(lx, W.listOf us.toArray 0)])
    (next : ∀ (lh lt lw : Addr) (hc : HS) (u : Str → Option Value) (h : Heap) (tk : Nat) (t0 t1 t2 t3 t4 t5 : Tok), hc.ok heldL →
      Fr s.heap L h (kstB u [(Str.ofString "x", .ref lx), (Str.ofString "mark", .str (tx (markL X)) t0), (Str.ofString "unmoved", .int ((lawP X).U : Nat) t1), (Str.ofString "held", .ref lh), (Str.ofString "turned", .int ((lawP X).tn : Nat) t2), (Str.ofString "place", .int ((lawP X).pl : Nat) t3), (Str.ofString "change", .int ((lawP X).ch : Nat) t4), (Str.ofString "trail", .int 0 t5), (Str.ofString "texts", .ref lt), (Str.ofString "written", .ref lw)]) →
      News s.heap L h ([(lx, W.listOf us.toArray 0), (lt, W.listOf #[] 0), (lw, W.listOf #[] 0)] ++ (lh, W.listOf hc.vs.toArray hc.nn) :: hc.tups) →
      wpAny (model pw w) A (execs (List.drop 12 (fnB 33)) (envOf (Str.ofString "law") (fnS 33) L 142 cd)) Q (fun _ _ => False) { s with heap := h, toks := tk }) :
    wpAny (model pw w) A (execs (List.drop 2 (fnB 33)) (envOf (Str.ofString "law") (fnS 33) L 142 cd)) Q (fun _ _ => False) { s with heap := h, toks := tk } := by
  have hh := r.handled
  conv in (occs := *) (fnS 33) => all_goals whnf
  conv in (List.drop 2 (fnB 33)) => whnf
  dsimp only [kstB] at F
  have hm1 := fm256 (X.getD (Int.toNat 4) 0)
  have hm2 := fm256 ((X.getD (Int.toNat 4) 0).fdiv 512)
  k_steps
  refine chr_of_range (by omega) (by omega) ?_
  k_steps
  refine cut1 (h₀ := s.heap) (σ := Tok) (fun _ => [(lx, W.listOf us.toArray 0)]) (fun t => [(Str.ofString "mark", .str (tx (markL X)) t), (Str.ofString "x", .ref lx)]) (fun _ => True) ?go1 ?done1
  case go1 =>
    walk1
    k_steps
    · refine chr_of_range (by omega) (by omega) ?_
      k_steps
      refine PE.mk _ (by assumption) (by assumption) (by intro p hp; first | exact hp | exact List.Mem.tail _ (hp) | exact List.Mem.tail _ (List.Mem.tail _ (hp)) | exact List.Mem.tail _ (List.Mem.tail _ (List.Mem.tail _ (hp))) | exact List.Mem.tail _ (List.Mem.tail _ (List.Mem.tail _ (List.Mem.tail _ (hp)))) | exact List.Mem.tail _ (List.Mem.tail _ (List.Mem.tail _ (List.Mem.tail _ (List.Mem.tail _ (hp))))) | exact List.Mem.tail _ (List.Mem.tail _ (List.Mem.tail _ (List.Mem.tail _ (List.Mem.tail _ (List.Mem.tail _ (hp)))))) | exact List.Mem.tail _ (List.Mem.tail _ (List.Mem.tail _ (List.Mem.tail _ (List.Mem.tail _ (List.Mem.tail _ (List.Mem.tail _ (hp))))))) | exact List.Mem.tail _ (List.Mem.tail _ (List.Mem.tail _ (List.Mem.tail _ (List.Mem.tail _ (List.Mem.tail _ (List.Mem.tail _ (List.Mem.tail _ (hp))))))))) (by refine ⟨Has.str rfl (mark_1 (by assumption)), rfl, trivial⟩) trivial
    · refine PE.mk _ (by assumption) (by assumption) (by intro p hp; first | exact hp | exact List.Mem.tail _ (hp) | exact List.Mem.tail _ (List.Mem.tail _ (hp)) | exact List.Mem.tail _ (List.Mem.tail _ (List.Mem.tail _ (hp))) | exact List.Mem.tail _ (List.Mem.tail _ (List.Mem.tail _ (List.Mem.tail _ (hp)))) | exact List.Mem.tail _ (List.Mem.tail _ (List.Mem.tail _ (List.Mem.tail _ (List.Mem.tail _ (hp))))) | exact List.Mem.tail _ (List.Mem.tail _ (List.Mem.tail _ (List.Mem.tail _ (List.Mem.tail _ (List.Mem.tail _ (hp)))))) | exact List.Mem.tail _ (List.Mem.tail _ (List.Mem.tail _ (List.Mem.tail _ (List.Mem.tail _ (List.Mem.tail _ (List.Mem.tail _ (hp))))))) | exact List.Mem.tail _ (List.Mem.tail _ (List.Mem.tail _ (List.Mem.tail _ (List.Mem.tail _ (List.Mem.tail _ (List.Mem.tail _ (List.Mem.tail _ (hp))))))))) (by refine ⟨Has.str rfl (mark_0 (by assumption)), rfl, trivial⟩) trivial
  case done1 =>
    intro t0 u h tk _ F N
    dsimp only [kstB] at F N ⊢
    k_steps
    refine use_pure (unmoved_pure w mg mb (tx (markL X)) _ (by rw [cs_tx]; exact mark_len X)) (by assumption) (by rfl) (by rfl) (by assumption) (by assumption) (by assumption) (by assumption) ?_; intro t h tk F N; dsimp only
    rw [cs_tx]
    k_steps
    rename Fr s.heap L _ _ => F0
    refine use_pureP (held_pure w mg mb _) rfl (by assumption) (by rfl) (by rfl) (by assumption) (by assumption) F0 (by assumption) ?_
    rintro v h tk F N ⟨lh, hc, rfl, hco, hnew⟩
    have N1 := new_led F0 hnew
    have N2 : News s.heap L h ([(lx, W.listOf us.toArray 0)] ++ (lh, W.listOf hc.vs.toArray hc.nn) :: hc.tups) := fun q hq => (List.mem_append.mp hq).elim (N q) (N1 q)
    clear N N1
    dsimp only
    k_steps
    rename News s.heap L _ ((_, W.listOf _ _) :: (_, W.listOf _ _) :: _) => N3
    refine next lh _ _ hc _ _ _ _ _ _ _ _ _ hco (kst_has' (by assumption) (by refine ⟨rfl, rfl, rfl, rfl, ?_, ?_, ?_, rfl, rfl, rfl, trivial⟩; exact Has.int rfl (tn_eq X); exact Has.int rfl (pl_eq X); exact Has.int rfl (ch_eq X))) (LA.te N3)
end
end Mine
end
section
open PySem PySem.W PyProof.Rows PySem.Calls
set_option maxRecDepth 100000
set_option maxHeartbeats 4000000
set_option linter.all false
namespace Mine
open PySem.StrLaws
/-! the lines of a text -/
theorem strSub_tx (l : List Nat) (i j : Nat) : Builtin.Str.strSub (tx l) i j = tx ((l.drop i).take (j - i)) := by
  show (⟨l.toArray.extract i j⟩ : Str) = ⟨((l.drop i).take (j - i)).toArray⟩
  simp [List.extract_toArray, List.extract]
noncomputable def lsRun (s : Str) (cur m : Nat) (st : LsSt) : LsSt := Id.run (forIn (m := Id) (List.range' cur m) st (lsBody s))
theorem lsRun_zero (s : Str) (cur : Nat) (st : LsSt) : lsRun s cur 0 st = st := rfl
theorem lsRun_pass (s : Str) (cur m : Nat) (st : LsSt) (h : (decide (st.snd ≤ cur) && Unicode.isLineBreak (s.cps.getD cur 0)) = false) : lsRun s cur (m + 1) st = lsRun s (cur + 1) m st := by
  unfold lsRun
  rw [List.range'_succ, List.forIn_cons]
  show Id.run (lsBody s cur st >>= _) = _
  unfold lsBody
  rw [h]
  rfl
theorem lsRun_cut (s : Str) (cur m : Nat) (st : LsSt) (h : (decide (st.snd ≤ cur) && Unicode.isLineBreak (s.cps.getD cur 0)) = true) : lsRun s cur (m + 1) st = lsRun s (cur + 1) m (st.fst.push (st.snd, cur, lsNext s cur), lsNext s cur) := by
  unfold lsRun
  rw [List.range'_succ, List.forIn_cons]
  show Id.run (lsBody s cur st >>= _) = _
  unfold lsBody
  rw [if_pos h]
  rfl
noncomputable def brk (c : Nat) : Bool := Unicode.isLineBreak c
theorem lsRun_plain (s : Str) : ∀ (a cur m : Nat) (st : LsSt), (∀ i, cur ≤ i → i < cur + a → brk (s.cps.getD i 0) = false) → lsRun s cur (a + m) st = lsRun s (cur + a) m st
  | 0, cur, m, st, _ => by rw [Nat.zero_add]; rfl
  | a + 1, cur, m, st, h => by
    rw [show a + 1 + m = (a + m) + 1 by omega, lsRun_pass s cur (a + m) st (by
      have := h cur (Nat.le_refl _) (by omega)
      unfold brk at this
      rw [this, Bool.and_false]), lsRun_plain s a (cur + 1) m st fun i h1 h2 => h i (by omega) (by omega)]
    rw [show cur + 1 + a = cur + (a + 1) by omega]
noncomputable def lnT (s : Str) (st : LsSt) : List Str := st.1.toList.map fun p => Builtin.Str.strSub s p.1 p.2.1
theorem getD_mid (P L R : List Nat) (i : Nat) (h : i < L.length) : (P ++ L ++ R).toArray.getD (P.length + i) 0 = L.getD i 0 := by
  have e : (P ++ L ++ R).toArray.getD (P.length + i) 0 = (P ++ L ++ R).getD (P.length + i) 0 := by
    simp [Array.getD_eq_getD_getElem?, List.getD_eq_getElem?_getD]
  rw [e, List.getD_eq_getElem?_getD, List.getD_eq_getElem?_getD, List.append_assoc, List.getElem?_append_right (by omega), Nat.add_sub_cancel_left, List.getElem?_append_left h]
theorem getD_at (P R : List Nat) (c : Nat) : (P ++ c :: R).toArray.getD P.length 0 = c := by
  have := getD_mid P [c] R 0 (by simp)
  rw [List.append_assoc, Nat.add_zero] at this
  exact this
theorem get_next (P R : List Nat) (c : Nat) : (P ++ c :: R).toArray[P.length + 1]? = R.head? := by
  rw [List.getElem?_toArray, List.getElem?_append_right (by omega), Nat.add_sub_cancel_left, List.getElem?_cons_succ]
  cases R <;> rfl
theorem b10 : brk 10 = true := by decide +kernel
theorem b13 : brk 13 = true := by decide +kernel
noncomputable def IsEnd (e : List Nat) : Prop := e = [10] ∨ e = [13, 10] ∨ e = [13]
/-- a line and its end -/
theorem ls_line' (P L e R : List Nat) (hL : ∀ c ∈ L, brk c = false) (he : IsEnd e) (hR : e ≠ [10] → R.head? ≠ some 10) {m : Nat} {A : Array (Nat × Nat × Nat)} :
    lsRun (tx (P ++ L ++ e ++ R)) P.length ((L.length + e.length) + m) (A, P.length) = lsRun (tx (P ++ L ++ e ++ R)) (P.length + L.length + e.length) m (A.push (P.length, P.length + L.length, P.length + L.length + e.length), P.length + L.length + e.length) := by
  have h1 : lsRun (tx (P ++ L ++ e ++ R)) P.length (L.length + (e.length + m)) (A, P.length) = lsRun (tx (P ++ L ++ e ++ R)) (P.length + L.length) (e.length + m) (A, P.length) := by
    refine lsRun_plain _ L.length P.length _ _ fun i h1 h2 => ?_
    have := getD_mid P L (e ++ R) (i - P.length) (by omega)
    rw [show P.length + (i - P.length) = i by omega, ← List.append_assoc] at this
    show brk ((P ++ L ++ e ++ R).toArray.getD i 0) = false
    rw [this, List.getD_eq_getElem?_getD, List.getElem?_eq_getElem (by omega)]
    exact hL _ (List.getElem_mem _)
  rw [Nat.add_assoc, h1]
  have hlen : (P ++ L).length = P.length + L.length := List.length_append
  rcases he with rfl | rfl | rfl
  · have g := getD_at (P ++ L) R 10
    rw [hlen] at g
    have e0 : P ++ L ++ [10] ++ R = P ++ L ++ 10 :: R := by simp
    rw [e0]
    have hn : lsNext (tx (P ++ L ++ 10 :: R)) (P.length + L.length) = P.length + L.length + 1 := by
      unfold lsNext
      rw [show (tx (P ++ L ++ 10 :: R)).cps.getD (P.length + L.length) 0 = 10 from g]; rfl
    show lsRun _ _ (1 + m) _ = _
    rw [Nat.add_comm 1 m, lsRun_cut _ _ _ _ (by
      rw [show (tx (P ++ L ++ 10 :: R)).cps.getD (P.length + L.length) 0 = 10 from g, show Unicode.isLineBreak 10 = true from b10, Bool.and_true, decide_eq_true_eq]
      show P.length ≤ _; omega), hn]
    rfl
  · have g := getD_at (P ++ L) (10 :: R) 13
    have g2 := get_next (P ++ L) (10 :: R) 13
    rw [hlen] at g g2
    have e0 : P ++ L ++ [13, 10] ++ R = P ++ L ++ 13 :: 10 :: R := by simp
    rw [e0]
    have hn : lsNext (tx (P ++ L ++ 13 :: 10 :: R)) (P.length + L.length) = P.length + L.length + 2 := by
      unfold lsNext
      rw [show (tx (P ++ L ++ 13 :: 10 :: R)).cps.getD (P.length + L.length) 0 = 13 from g, show (tx (P ++ L ++ 13 :: 10 :: R)).cps[P.length + L.length + 1]? = some 10 from g2]; rfl
    show lsRun _ _ (2 + m) _ = _
    rw [show 2 + m = (m + 1) + 1 by omega, lsRun_cut _ _ _ _ (by
      rw [show (tx (P ++ L ++ 13 :: 10 :: R)).cps.getD (P.length + L.length) 0 = 13 from g, show Unicode.isLineBreak 13 = true from b13, Bool.and_true, decide_eq_true_eq]
      show P.length ≤ _; omega), hn, lsRun_pass _ _ _ _ (by
      rw [show decide (P.length + L.length + 2 ≤ P.length + L.length + 1) = false by rw [decide_eq_false_iff_not]; omega, Bool.false_and])]
    rfl
  · have g := getD_at (P ++ L) R 13
    have g2 := get_next (P ++ L) R 13
    rw [hlen] at g g2
    have e0 : P ++ L ++ [13] ++ R = P ++ L ++ 13 :: R := by simp
    rw [e0]
    have hn : lsNext (tx (P ++ L ++ 13 :: R)) (P.length + L.length) = P.length + L.length + 1 := by
      unfold lsNext
      rw [show (tx (P ++ L ++ 13 :: R)).cps.getD (P.length + L.length) 0 = 13 from g, show (tx (P ++ L ++ 13 :: R)).cps[P.length + L.length + 1]? = R.head? from g2]
      rw [if_neg]
      intro hc
      rw [Bool.and_eq_true, beq_iff_eq, beq_iff_eq] at hc
      exact hR (by decide) hc.2
    show lsRun _ _ (1 + m) _ = _
    rw [Nat.add_comm 1 m, lsRun_cut _ _ _ _ (by
      rw [show (tx (P ++ L ++ 13 :: R)).cps.getD (P.length + L.length) 0 = 13 from g, show Unicode.isLineBreak 13 = true from b13, Bool.and_true, decide_eq_true_eq]
      show P.length ≤ _; omega), hn]
    rfl
theorem head_ok {e tail : List Nat} (he : IsEnd e) (ht : ∀ c ∈ tail, brk c = false) : ∀ segs : List (List Nat), (∀ L ∈ segs, ∀ c ∈ L, brk c = false) → e ≠ [10] → ((segs.flatMap (· ++ e)) ++ tail).head? ≠ some 10
  | [], _, _ => by
    cases tail with
    | nil => simp
    | cons c r =>
      intro h
      have := ht c (.head _)
      have hc : c = 10 := by simpa using h
      subst hc
      rw [b10] at this; cases this
  | L :: segs, hs, hne => by
    cases L with
    | nil =>
      rcases he with rfl | rfl | rfl
      · exact absurd rfl hne
      · simp
      · simp
    | cons c r =>
      intro h
      have := hs _ (.head _) c (.head _)
      have hc : c = 10 := by simpa using h
      subst hc
      rw [b10] at this; cases this
/-- all the lines -/
theorem ls_all {e tail : List Nat} (he : IsEnd e) (ht : ∀ c ∈ tail, brk c = false) : ∀ (segs : List (List Nat)) (P : List Nat) (A : Array (Nat × Nat × Nat)), (∀ L ∈ segs, ∀ c ∈ L, brk c = false) →
    ∃ A', lsRun (tx (P ++ (segs.flatMap (· ++ e) ++ tail))) P.length (segs.flatMap (· ++ e) ++ tail).length (A, P.length) = (A', P.length + (segs.flatMap (· ++ e)).length) ∧
      A'.toList.map (fun p => Builtin.Str.strSub (tx (P ++ (segs.flatMap (· ++ e) ++ tail))) p.1 p.2.1) = A.toList.map (fun p => Builtin.Str.strSub (tx (P ++ (segs.flatMap (· ++ e) ++ tail))) p.1 p.2.1) ++ segs.map tx
  | [], P, A, _ => by
    refine ⟨A, ?_, by simp⟩
    show lsRun (tx (P ++ tail)) P.length tail.length (A, P.length) = (A, P.length)
    have := lsRun_plain (tx (P ++ tail)) tail.length P.length 0 (A, P.length) fun i h1 h2 => by
      have := getD_mid P tail [] (i - P.length) (by omega)
      rw [show P.length + (i - P.length) = i by omega, List.append_nil] at this
      show brk ((P ++ tail).toArray.getD i 0) = false
      rw [this, List.getD_eq_getElem?_getD, List.getElem?_eq_getElem (by omega)]
      exact ht _ (List.getElem_mem _)
    exact this
  | L :: segs, P, A, hs => by
    have hR : e ≠ [10] → ((segs.flatMap (· ++ e)) ++ tail).head? ≠ some 10 := head_ok he ht segs fun L h => hs L (.tail _ h)
    obtain ⟨A', h1, h2⟩ := ls_all he ht segs (P ++ L ++ e) (A.push (P.length, P.length + L.length, P.length + L.length + e.length)) fun L h => hs L (.tail _ h)
    have eq : P ++ ((L :: segs).flatMap (· ++ e) ++ tail) = P ++ L ++ e ++ (segs.flatMap (· ++ e) ++ tail) := by simp
    have el : ((L :: segs).flatMap (· ++ e) ++ tail).length = (L.length + e.length) + (segs.flatMap (· ++ e) ++ tail).length := by simp only [List.flatMap_cons, List.length_append]; omega
    have ep : (P ++ L ++ e).length = P.length + L.length + e.length := by simp only [List.length_append]
    rw [eq, el]
    refine ⟨A', ?_, ?_⟩
    · rw [ls_line' P L e _ (hs L (.head _)) he hR]
      rw [ep] at h1
      rw [h1]
      simp only [List.flatMap_cons, List.length_append, Prod.mk.injEq, true_and]; omega
    · rw [h2, Array.toList_push, List.map_append]
      have es : Builtin.Str.strSub (tx (P ++ L ++ e ++ (segs.flatMap (· ++ e) ++ tail))) P.length (P.length + L.length) = tx L := by
        rw [strSub_tx, show P.length + L.length - P.length = L.length by omega, List.append_assoc, List.append_assoc, List.drop_left, List.take_left]
      show _ ++ [Builtin.Str.strSub _ P.length (P.length + L.length)] ++ _ = _
      rw [es, List.append_assoc]; rfl
theorem lines_eq (x : Str) : Txt.lines x = (Builtin.Str.lineSpans x).map fun (p : Nat × Nat × Nat) => Builtin.Str.strSub x p.1 p.2.1 := by
  have e : PySem.linesOf x = (Builtin.Str.lineSpans x).map fun (p : Nat × Nat × Nat) => Builtin.Str.strSub x p.1 p.2.1 := by
    unfold PySem.linesOf PySem.lineCuts
    rw [List.map_map]
    apply List.map_congr_left
    intro ⟨i, j, k⟩ _
    rfl
  unfold Txt.lines
  split
  · rename_i h
    rw [← e]
    unfold PySem.linesOf
    have h' : PySem.lineCuts x = [(0, x.length)] := by simpa using h
    rw [h']
    show [x] = [Builtin.Str.strSub x 0 x.length]
    have : Builtin.Str.strSub x 0 x.length = x := by
      have := strSub_tx (cs x) 0 x.length
      rw [tx_cs] at this
      rw [this, List.drop_zero, Nat.sub_zero, cs_len, List.take_length, tx_cs]
    rw [this]
  · exact e
theorem lines_tx {e tail : List Nat} (he : IsEnd e) (ht : ∀ c ∈ tail, brk c = false) (segs : List (List Nat)) (hs : ∀ L ∈ segs, ∀ c ∈ L, brk c = false) :
    Txt.lines (tx (segs.flatMap (· ++ e) ++ tail)) = (segs ++ if tail = [] then [] else [tail]).map tx := by
  obtain ⟨A', h1, h2⟩ := ls_all he ht segs [] #[] hs
  rw [List.nil_append] at h1 h2
  rw [lines_eq, ls_eq]
  have h3 : Id.run (forIn (m := Id) (List.range' 0 (tx (segs.flatMap (· ++ e) ++ tail)).length) ((#[], 0) : LsSt) (lsBody (tx (segs.flatMap (· ++ e) ++ tail)))) = (A', (segs.flatMap (· ++ e)).length) := by
    rw [tx_len]
    have := h1
    rw [show ([] : List Nat).length = 0 from rfl, Nat.zero_add] at this
    exact this
  rw [h3]
  unfold lsEnd
  by_cases ht0 : tail = []
  · subst ht0
    rw [if_neg (by rw [tx_len, List.append_nil]; exact Nat.lt_irrefl _), if_pos rfl, h2]
    simp
  · have hl : 0 < tail.length := List.length_pos_iff.mpr ht0
    rw [if_pos (by rw [tx_len, List.length_append]; show (segs.flatMap (· ++ e)).length < _; omega), if_neg ht0, Array.toList_push, List.map_append, h2, List.map_append]
    have es : Builtin.Str.strSub (tx (segs.flatMap (· ++ e) ++ tail)) (segs.flatMap (· ++ e)).length (tx (segs.flatMap (· ++ e) ++ tail)).length = tx tail := by
      rw [strSub_tx, tx_len, List.drop_left, List.length_append, Nat.add_sub_cancel_left, List.take_length]
    show _ ++ [Builtin.Str.strSub _ _ _] = _
    rw [es]; rfl
/-! rstrip -/
noncomputable def spc (c : Nat) : Bool := Unicode.isSpace c
theorem takeWhile_rev (m ws : List Nat) (hw : ∀ c ∈ ws, spc c = true) (hm : m = [] ∨ ∃ m' c, m = m' ++ [c] ∧ spc c = false) : ((m ++ ws).reverse.takeWhile Unicode.isSpace).length = ws.length := by
  have h1 : (m ++ ws).reverse.takeWhile Unicode.isSpace = ws.reverse := by
    rw [List.reverse_append]
    have h2 : m.reverse.takeWhile Unicode.isSpace = [] := by
      rcases hm with rfl | ⟨m', c, rfl, hc⟩
      · rfl
      · rw [List.reverse_append]
        show ([c] ++ m'.reverse).takeWhile Unicode.isSpace = []
        rw [List.singleton_append, List.takeWhile_cons, show Unicode.isSpace c = false from hc]; rfl
    rw [List.takeWhile_append_of_pos (p := Unicode.isSpace) (fun c hc => hw c (List.mem_reverse.mp hc)), h2, List.append_nil]
  rw [h1, List.length_reverse]
theorem rstrip_tx (m ws : List Nat) (hw : ∀ c ∈ ws, spc c = true) (hm : m = [] ∨ ∃ m' c, m = m' ++ [c] ∧ spc c = false) : Txt.rstrip (tx (m ++ ws)) = tx m := by
  have hk := takeWhile_rev m ws hw hm
  have h1 : stripLo Unicode.isSpace false (tx (m ++ ws)) = 0 := rfl
  have h2 : stripHi Unicode.isSpace true (tx (m ++ ws)) 0 = m.length := by
    unfold stripHi
    rw [if_pos rfl, tx_len]
    have : ((tx (m ++ ws)).cps.toList.drop 0) = m ++ ws := rfl
    rw [this, hk, List.length_append]; omega
  have h3 : PySem.stripped Unicode.isSpace false true (tx (m ++ ws)) = tx m := by
    unfold PySem.stripped
    rw [h1, h2, strSub_tx, List.drop_zero, Nat.sub_zero, List.take_left]
  unfold Txt.rstrip Txt.stripBy
  split
  · rename_i hs
    unfold stripSame at hs
    rw [h1, h2, Bool.and_eq_true, beq_iff_eq, beq_iff_eq, tx_len, List.length_append] at hs
    have : ws = [] := List.eq_nil_of_length_eq_zero (by omega)
    rw [this, List.append_nil]
  · exact h3
end Mine
end
section
open PySem PySem.W PyProof.Rows PySem.Calls
set_option maxRecDepth 100000
set_option maxHeartbeats 4000000
set_option linter.all false
namespace Mine
theorem showT_app (fg a b : List Nat) : showT fg (a ++ b) = showT fg a ++ showT fg b := by simp [showT]
noncomputable def Fig (fg : List Nat) : Prop := fg = fgU ∨ fg = fgL
theorem figF_fig (X : List Int) : Fig (figF X) := by
  unfold figF; split
  · exact .inr rfl
  · exact .inl rfl
noncomputable def escOk (fg : List Nat) (c : Nat) : Bool := (showC fg c).all (fun x => !brk x && decide (x < 256)) && (if plainN c then c != 61 else isHex (fg.getD (c / 16) 0) && isHex (fg.getD (c % 16) 0) && (16 * hexv (fg.getD (c / 16) 0) + hexv (fg.getD (c % 16) 0) == c) && fg.getD (c / 16) 0 != 61 && fg.getD (c % 16) 0 != 61 && ((48 ≤ fg.getD (c % 16) 0 && fg.getD (c % 16) 0 < 58) || (64 ≤ fg.getD (c % 16) 0 && fg.getD (c % 16) 0 < 103)))
theorem escU : ∀ c, c < 256 → escOk fgU c = true := by decide +kernel
theorem escL : ∀ c, c < 256 → escOk fgL c = true := by decide +kernel
theorem esc_ok {fg : List Nat} (h : Fig fg) {c : Nat} (hc : c < 256) : escOk fg c = true := by
  rcases h with rfl | rfl
  · exact escU c hc
  · exact escL c hc
theorem showC_ok {fg : List Nat} (h : Fig fg) {c : Nat} (hc : c < 256) : ∀ x ∈ showC fg c, brk x = false ∧ x < 256 := by
  intro x hx
  have h1 := esc_ok h hc
  unfold escOk at h1
  rw [Bool.and_eq_true] at h1
  have h2 := List.all_eq_true.mp h1.1 x hx
  simp only [Bool.and_eq_true, Bool.not_eq_true', decide_eq_true_eq] at h2
  exact h2
theorem showT_ok {fg : List Nat} (h : Fig fg) {l : List Nat} (hl : ∀ c ∈ l, c < 256) : ∀ x ∈ showT fg l, brk x = false ∧ x < 256 := by
  intro x hx
  obtain ⟨c, hc, hx⟩ := List.mem_flatMap.mp hx
  exact showC_ok h (hl c hc) x hx
theorem plain_ne {c : Nat} (h : plainN c = true) : c ≠ 61 := by
  intro e; subst e; exact absurd h (by decide)
theorem esc_np {fg : List Nat} (h : Fig fg) {c : Nat} (hc : c < 256) (hp : plainN c = false) : (isHex (fg.getD (c / 16) 0) && isHex (fg.getD (c % 16) 0)) = true ∧ 16 * hexv (fg.getD (c / 16) 0) + hexv (fg.getD (c % 16) 0) = c ∧ fg.getD (c / 16) 0 ≠ 61 ∧ fg.getD (c % 16) 0 ≠ 61 ∧ ((48 ≤ fg.getD (c % 16) 0 ∧ fg.getD (c % 16) 0 < 58) ∨ (64 ≤ fg.getD (c % 16) 0 ∧ fg.getD (c % 16) 0 < 103)) := by
  have h1 := esc_ok h hc
  unfold escOk at h1
  rw [hp, Bool.and_eq_true] at h1
  have h2 := h1.2
  simp only [Bool.false_eq_true, if_false, Bool.and_eq_true, Bool.or_eq_true, bne_iff_ne, beq_iff_eq, decide_eq_true_eq] at h2
  obtain ⟨⟨⟨⟨h3, h4⟩, h5⟩, h6⟩, h7⟩ := h2
  exact ⟨by rw [h3.1, h3.2]; rfl, h4, h5, h6, h7⟩
theorem showC_plain {fg : List Nat} {c : Nat} (h : plainN c = true) : showC fg c = [c] := by unfold showC; rw [if_pos h]
theorem showC_not {fg : List Nat} {c : Nat} (h : plainN c = false) : showC fg c = [61, fg.getD (c / 16) 0, fg.getD (c % 16) 0] := by unfold showC; rw [h]; rfl
theorem showT_plain {fg : List Nat} : ∀ {l : List Nat}, (∀ c ∈ l, plainN c = true) → showT fg l = l
  | [], _ => rfl
  | c :: l, h => by
    have ih := showT_plain (fg := fg) (l := l) fun c hc => h c (.tail _ hc)
    show showC fg c ++ showT fg l = _
    rw [showC_plain (h c (.head _)), ih]; rfl
theorem decL_show {fg : List Nat} (h : Fig fg) (m tail : List Nat) : ∀ {t : List Nat}, (∀ c ∈ t, c < 256) → decL m (showT fg t ++ tail) = t ++ decL m tail
  | [], _ => rfl
  | c :: t, ht => by
    have ih := decL_show h m tail (t := t) fun c hc => ht c (.tail _ hc)
    show decL m (showC fg c ++ showT fg t ++ tail) = _
    cases hp : plainN c with
    | true =>
      rw [showC_plain hp]
      show decL m (c :: (showT fg t ++ tail)) = _
      rw [decL_ne (plain_ne hp), ih]; rfl
    | false =>
      obtain ⟨h1, h2, _⟩ := esc_np h (ht c (.head _)) hp
      rw [showC_not hp]
      show decL m (61 :: fg.getD (c / 16) 0 :: fg.getD (c % 16) 0 :: (showT fg t ++ tail)) = _
      rw [decL_hex h1, h2, ih]; rfl
/-- a sign that no row's end is stripped of -/
noncomputable def Fin' (c : Nat) : Prop := (48 ≤ c ∧ c < 58) ∨ (64 ≤ c ∧ c < 103)
noncomputable def finB (c : Nat) : Bool := !spc c && crOcc (tx [c]) && wsOcc (tx [c])
theorem fin_all : ∀ c, c < 103 → (decide (48 ≤ c ∧ c < 58) || decide (64 ≤ c)) = true → finB c = true := by decide +kernel
theorem fin_ok {c : Nat} (h : Fin' c) : spc c = false ∧ crOcc (tx [c]) = true ∧ wsOcc (tx [c]) = true := by
  have h1 := fin_all c (by unfold Fin' at h; omega) (by unfold Fin' at h; simp only [Bool.or_eq_true, decide_eq_true_eq]; omega)
  unfold finB at h1
  simp only [Bool.and_eq_true, Bool.not_eq_true'] at h1
  exact ⟨h1.1.1, h1.1.2, h1.2⟩
theorem plain_br : ∀ c, c < 96 → 64 ≤ c → plainN c = true := by decide +kernel
theorem brT_ne (p : LawP) (k : Nat) (nw : Bool) : brT p k nw ≠ [] := by
  unfold brT
  split
  · exact turnF_ne
  · intro e
    have := bridgeF_length (stF p k) p.U (frontF k (gx p.X k) nw) (backF (gx p.X k))
    rw [show bridgeF (stF p k) p.U (frontF k (gx p.X k) nw) (backF (gx p.X k)) = [] from e] at this
    exact absurd this (by decide)
theorem back_np {z : Int} : ∀ c ∈ backF z, plainN c = false := by
  intro c hc
  unfold backF at hc
  split at hc
  · cases hc
  · rename_i h
    split at hc
    · rw [List.mem_singleton.mp hc]; simpa using h
    · cases hc
theorem row_cc (p : LawP) (k : Nat) (nw : Bool) (hpl : p.pl < 7) (hch : p.ch < 32) : ∀ c ∈ rowT p k nw, c < 256 := row_lt p k nw hpl hch
theorem snoc_of {l : List Nat} (h : l ≠ []) : ∃ l' c, l = l' ++ [c] := ⟨l.dropLast, l.getLast h, (List.dropLast_concat_getLast h).symm⟩
theorem row_last {fg : List Nat} (hf : Fig fg) (p : LawP) (k : Nat) (nw : Bool) (hpl : p.pl < 7) (hch : p.ch < 32) : ∃ l c, showT fg (rowT p k nw) = l ++ [c] ∧ Fin' c := by
  unfold rowT
  rw [showT_app]
  by_cases hb : backF (gx p.X k) = []
  · rw [hb, showT_app]
    have hbr := brT_range p k nw hpl hch
    rw [showT_plain (l := brT p k nw) fun c hc => plain_br c (hbr c hc).2 (hbr c hc).1]
    obtain ⟨l', o, ho⟩ := snoc_of (brT_ne p k nw)
    have hm := hbr o (by rw [ho]; simp)
    refine ⟨showT fg (frontF k (gx p.X k) nw) ++ l', o, ?_, .inr (by omega)⟩
    rw [ho]
    show _ ++ (l' ++ [o]) ++ ([] : List Nat) = _
    rw [List.append_nil, List.append_assoc]
  · obtain ⟨l', o, ho⟩ := snoc_of hb
    have hm : o ∈ backF (gx p.X k) := by rw [ho]; simp
    have h1 := back_np _ hm
    have h2 := back_lt _ _ hm
    obtain ⟨_, _, _, _, h5⟩ := esc_np hf h2 h1
    refine ⟨showT fg (frontF k (gx p.X k) nw ++ brT p k nw) ++ (showT fg l' ++ [61, fg.getD (o / 16) 0]), fg.getD (o % 16) 0, ?_, h5⟩
    rw [ho, showT_app fg l']
    have e : showT fg [o] = [61, fg.getD (o / 16) 0] ++ [fg.getD (o % 16) 0] := by
      show showC fg _ ++ [] = _
      rw [showC_not h1]; rfl
    rw [e]
    simp only [List.append_assoc]
theorem item_last (l : List Nat) (c : Nat) : Txt.item (tx (l ++ [c])) (-1) = tx [c] := by
  have h : (tx (l ++ [c])).length = l.length + 1 := by rw [tx_len, List.length_append]; rfl
  unfold Txt.item Txt.charAt
  have e : seqIndex? (-1) (tx (l ++ [c])).length = some l.length := by
    rw [h]
    show (if (decide (0 ≤ (-1 : Int) + ((l.length + 1 : Nat) : Int)) && decide ((-1 : Int) + ((l.length + 1 : Nat) : Int) < ((l.length + 1 : Nat) : Int))) = true then some ((-1 : Int) + ((l.length + 1 : Nat) : Int)).toNat else none) = _
    rw [if_pos (by rw [Bool.and_eq_true, decide_eq_true_eq, decide_eq_true_eq]; omega)]
    congr 1; omega
  rw [e]
  have g : (tx (l ++ [c])).cps[l.length]? = some c := by
    show (l ++ [c]).toArray[l.length]? = some c
    simp
  show (⟨#[((tx (l ++ [c])).cps[l.length]?).getD 0]⟩ : Str) = _
  rw [g]; rfl
end Mine
end
section
open PySem PySem.W PyProof.Rows PySem.Calls
set_option maxRecDepth 100000
set_option maxHeartbeats 4000000
set_option linter.all false
namespace Mine
noncomputable def lnQ (fg t : List Nat) (b : Bool) : List Nat := showT fg t ++ (if b then [] else [61])
noncomputable def mB (mk : List Nat) (b : Bool) : List Nat := if b then mk else []
structure RowOk (fg t : List Nat) : Prop where
  len : t.length ≤ 14
  cc : ∀ c ∈ t, c < 256
  last : ∃ l c, showT fg t = l ++ [c] ∧ Fin' c
theorem spc61 : spc 61 = false := by decide +kernel
theorem spc_ws {ws : List Nat} (h : ws = [] ∨ ws = [32, 9]) : ∀ c ∈ ws, spc c = true := by
  rcases h with rfl | rfl
  · intro c hc; cases hc
  · intro c hc
    simp only [List.mem_cons, List.not_mem_nil, or_false] at hc
    rcases hc with rfl | rfl <;> decide +kernel
theorem brk_ws {ws : List Nat} (h : ws = [] ∨ ws = [32, 9]) : ∀ c ∈ ws, brk c = false := by
  rcases h with rfl | rfl
  · intro c hc; cases hc
  · intro c hc
    simp only [List.mem_cons, List.not_mem_nil, or_false] at hc
    rcases hc with rfl | rfl <;> decide +kernel
theorem brk61 : brk 61 = false := by decide +kernel
theorem lnQ_last {fg t : List Nat} (h : RowOk fg t) (b : Bool) : ∃ m' c, lnQ fg t b = m' ++ [c] ∧ spc c = false := by
  cases b with
  | true =>
    obtain ⟨l, c, e, hc⟩ := h.last
    exact ⟨l, c, by unfold lnQ; rw [if_pos rfl, List.append_nil, e], (fin_ok hc).1⟩
  | false => exact ⟨showT fg t, 61, rfl, spc61⟩
theorem lnQ_strip {fg t ws : List Nat} (h : RowOk fg t) (b : Bool) (hws : ws = [] ∨ ws = [32, 9]) : Txt.rstrip (tx (lnQ fg t b ++ ws)) = tx (lnQ fg t b) :=
  rstrip_tx _ _ (spc_ws hws) (.inr (lnQ_last h b))
theorem lnQ_cc {fg t : List Nat} (hf : Fig fg) (h : RowOk fg t) (b : Bool) : ∀ c ∈ lnQ fg t b, brk c = false ∧ c < 256 := by
  intro c hc
  rcases List.mem_append.mp hc with h1 | h1
  · exact showT_ok hf h.cc c h1
  · cases b with
    | true => cases h1
    | false => rw [List.mem_singleton.mp h1]; exact ⟨brk61, by decide⟩
theorem lnQ_len {fg t : List Nat} (h : RowOk fg t) (b : Bool) : (lnQ fg t b).length ≤ 43 := by
  have h1 := showT_len fg t
  have h2 := h.len
  unfold lnQ
  rw [List.length_append]
  have : (if b then ([] : List Nat) else [61]).length ≤ 1 := by split <;> simp
  omega
theorem lnQ_dec {fg t : List Nat} (hf : Fig fg) (mk : List Nat) (h : RowOk fg t) (b : Bool) : decL mk (lnQ fg t b) = t ++ mB mk b := by
  unfold lnQ
  rw [decL_show hf mk _ h.cc]
  cases b with
  | true => rw [if_pos rfl, decL_nil]; rfl
  | false => rw [if_neg (by decide), decL_soft]; rfl
theorem show_dec {fg t : List Nat} (hf : Fig fg) (mk : List Nat) (h : RowOk fg t) : decL mk (showT fg t) = t ++ mk := by
  have := decL_show hf mk [] h.cc
  rw [List.append_nil, decL_nil] at this
  exact this
theorem decD_take (mk : List Nat) (l : List (List Nat × List Nat)) (i : Nat) : (decD mk (l.take i)).length ≤ (decD mk l).length := by
  have h : decD mk l = decD mk (l.take i) ++ decD mk (l.drop i) := by
    unfold decD
    rw [← List.flatMap_append, List.take_append_drop]
  rw [h, List.length_append]; omega
noncomputable def sentX (fg e ws t0 t1 t2 t3 : List Nat) (b0 b1 b2 : Bool) : Nat → List Nat
  | 0 => [lnQ fg t0 b0 ++ ws, lnQ fg t1 b1 ++ ws, lnQ fg t2 b2 ++ ws].flatMap (· ++ e) ++ showT fg t3
  | n + 1 => sentX fg e ws t0 t1 t2 t3 b0 b1 b2 n ++ e
noncomputable def dueX (mk t0 t1 t2 t3 : List Nat) (b0 b1 b2 : Bool) : Nat → List Nat
  | 0 => (t0 ++ mB mk b0) ++ (t1 ++ mB mk b1) ++ (t2 ++ mB mk b2) ++ t3
  | n + 1 => dueX mk t0 t1 t2 t3 b0 b1 b2 n ++ mk
/-- the pairs of lines -/
noncomputable def linX (fg ws t0 t1 t2 t3 : List Nat) (b0 b1 b2 : Bool) (n : Nat) : List (List Nat × List Nat) :=
  [(lnQ fg t0 b0 ++ ws, lnQ fg t0 b0), (lnQ fg t1 b1 ++ ws, lnQ fg t1 b1), (lnQ fg t2 b2 ++ ws, lnQ fg t2 b2), (showT fg t3, showT fg t3)] ++ List.replicate (n - 1) ([], [])
theorem mB_len {mk : List Nat} (h : mk.length ≤ 2) (b : Bool) : (mB mk b).length ≤ 2 := by unfold mB; split <;> simp [h]
theorem end_last {e : List Nat} (he : IsEnd e) : ∃ l c, e = l ++ [c] ∧ crOcc (tx [c]) = false := by
  rcases he with rfl | rfl | rfl
  · exact ⟨[], 10, rfl, by decide +kernel⟩
  · exact ⟨[13], 10, rfl, by decide +kernel⟩
  · exact ⟨[], 13, rfl, by decide +kernel⟩
section
variable {fg e ws mk t0 t1 t2 t3 : List Nat} {b0 b1 b2 : Bool}
theorem lin_ok (hf : Fig fg) (hmk : mk.length ≤ 2) (hws : ws = [] ∨ ws = [32, 9]) (h0 : RowOk fg t0) (h1 : RowOk fg t1) (h2 : RowOk fg t2) (h3 : RowOk fg t3) (n : Nat) :
    ∀ p ∈ linX fg ws t0 t1 t2 t3 b0 b1 b2 n, Txt.rstrip (tx p.1) = tx p.2 ∧ p.1.length ≤ 1000 ∧ p.2.length ≤ 1000 ∧ (∀ c ∈ p.2, c < 256) ∧ ∀ c ∈ p.1, brk c = false := by
  have hwl : ws.length ≤ 2 := by rcases hws with rfl | rfl <;> simp
  have row : ∀ t b, RowOk fg t → Txt.rstrip (tx (lnQ fg t b ++ ws)) = tx (lnQ fg t b) ∧ (lnQ fg t b ++ ws).length ≤ 1000 ∧ (lnQ fg t b).length ≤ 1000 ∧ (∀ c ∈ lnQ fg t b, c < 256) ∧ ∀ c ∈ lnQ fg t b ++ ws, brk c = false := fun t b ht => by
    have hl := lnQ_len ht b
    refine ⟨lnQ_strip ht b hws, by rw [List.length_append]; omega, by omega, fun c hc => (lnQ_cc hf ht b c hc).2, fun c hc => ?_⟩
    rcases List.mem_append.mp hc with h | h
    · exact (lnQ_cc hf ht b c h).1
    · exact brk_ws hws c h
  intro p hp
  rcases List.mem_append.mp hp with hp | hp
  · simp only [List.mem_cons, List.not_mem_nil, or_false] at hp
    rcases hp with rfl | rfl | rfl | rfl
    · exact row _ _ h0
    · exact row _ _ h1
    · exact row _ _ h2
    · have e3 : lnQ fg t3 true = showT fg t3 := by unfold lnQ; rw [if_pos rfl, List.append_nil]
      have hl := lnQ_len h3 true
      have hs := rstrip_tx (lnQ fg t3 true) [] (fun c hc => by cases hc) (.inr (lnQ_last h3 true))
      rw [List.append_nil] at hs
      rw [e3] at hl hs
      exact ⟨hs, by show (showT fg t3).length ≤ _; omega, by show (showT fg t3).length ≤ _; omega, fun c hc => (showT_ok hf h3.cc c hc).2, fun c hc => (showT_ok hf h3.cc c hc).1⟩
  · rw [(List.mem_replicate.mp hp).2]
    exact ⟨rstrip_tx [] [] (fun c hc => absurd hc (by simp)) (.inl rfl), (by simp), (by simp), (fun c hc => absurd hc (by simp)), (fun c hc => absurd hc (by simp))⟩
theorem decD_rep (mk : List Nat) : ∀ n, decD mk (List.replicate n ([], [])) = (List.replicate n mk).flatten
  | 0 => rfl
  | n + 1 => by
    have := decD_rep mk n
    unfold decD at this ⊢
    rw [List.replicate_succ, List.flatMap_cons, this, List.replicate_succ, List.flatten_cons]
    show decL mk [] ++ _ = _
    rw [decL_nil]
theorem lin_dec (hf : Fig fg) (h0 : RowOk fg t0) (h1 : RowOk fg t1) (h2 : RowOk fg t2) (h3 : RowOk fg t3) (n : Nat) :
    decD mk (linX fg ws t0 t1 t2 t3 b0 b1 b2 n) = dueX mk t0 t1 t2 t3 b0 b1 b2 0 ++ mk ++ (List.replicate (n - 1) mk).flatten := by
  have e : decD mk (linX fg ws t0 t1 t2 t3 b0 b1 b2 n) = (decL mk (lnQ fg t0 b0) ++ (decL mk (lnQ fg t1 b1) ++ (decL mk (lnQ fg t2 b2) ++ (decL mk (showT fg t3) ++ [])))) ++ decD mk (List.replicate (n - 1) ([], [])) := by
    unfold linX decD
    rw [List.flatMap_append]
    rfl
  rw [e, decD_rep, lnQ_dec hf mk h0, lnQ_dec hf mk h1, lnQ_dec hf mk h2, show_dec hf mk h3]
  simp [dueX]
theorem due_len (hmk : mk.length ≤ 2) (h0 : RowOk fg t0) (h1 : RowOk fg t1) (h2 : RowOk fg t2) (h3 : RowOk fg t3) : (dueX mk t0 t1 t2 t3 b0 b1 b2 0).length ≤ 62 := by
  have := h0.len; have := h1.len; have := h2.len; have := h3.len
  have := mB_len hmk b0; have := mB_len hmk b1; have := mB_len hmk b2
  simp only [dueX, List.length_append]; omega
theorem due_cc (hmc : ∀ c ∈ mk, c < 256) (h0 : RowOk fg t0) (h1 : RowOk fg t1) (h2 : RowOk fg t2) (h3 : RowOk fg t3) : ∀ n, ∀ c ∈ dueX mk t0 t1 t2 t3 b0 b1 b2 n, c < 256
  | 0 => by
    have hb : ∀ b, ∀ c ∈ mB mk b, c < 256 := fun b c hc => by
      unfold mB at hc; split at hc
      · exact hmc c hc
      · cases hc
    intro c hc
    simp only [dueX, List.mem_append] at hc
    rcases hc with (((h | h) | (h | h)) | (h | h)) | h
    · exact h0.cc c h
    · exact hb _ c h
    · exact h1.cc c h
    · exact hb _ c h
    · exact h2.cc c h
    · exact hb _ c h
    · exact h3.cc c h
  | n + 1 => by
    intro c hc
    rcases List.mem_append.mp hc with h | h
    · exact due_cc hmc h0 h1 h2 h3 n c h
    · exact hmc c h
theorem sent_seg : ∀ n, sentX fg e ws t0 t1 t2 t3 b0 b1 b2 (n + 1) = (((linX fg ws t0 t1 t2 t3 b0 b1 b2 (n + 1)).map (·.1)).flatMap (· ++ e)) ++ []
  | 0 => by simp [sentX, linX]
  | n + 1 => by
    have h := sent_seg n
    show sentX fg e ws t0 t1 t2 t3 b0 b1 b2 (n + 1) ++ e = _
    rw [h]
    have e1 : linX fg ws t0 t1 t2 t3 b0 b1 b2 (n + 1 + 1) = linX fg ws t0 t1 t2 t3 b0 b1 b2 (n + 1) ++ [([], [])] := by
      unfold linX
      rw [show n + 1 + 1 - 1 = (n + 1 - 1) + 1 by omega, List.replicate_succ', List.append_assoc]
    rw [e1]; simp
theorem due_more : ∀ n, dueX mk t0 t1 t2 t3 b0 b1 b2 n = dueX mk t0 t1 t2 t3 b0 b1 b2 0 ++ (List.replicate n mk).flatten
  | 0 => by simp
  | n + 1 => by
    show dueX mk t0 t1 t2 t3 b0 b1 b2 n ++ mk = _
    rw [due_more n, List.append_assoc]
    congr 1
    rw [List.replicate_succ', List.flatten_append]; simp
theorem sent_len (he : e.length ≤ 2) (hws : ws.length ≤ 2) (h0 : RowOk fg t0) (h1 : RowOk fg t1) (h2 : RowOk fg t2) (h3 : RowOk fg t3) : ∀ n, (sentX fg e ws t0 t1 t2 t3 b0 b1 b2 n).length ≤ 200 + 2 * n
  | 0 => by
    have g0 := lnQ_len h0 b0
    have g1 := lnQ_len h1 b1
    have g2 := lnQ_len h2 b2
    have g3 := showT_len fg t3
    have g4 := h3.len
    simp only [sentX, List.flatMap_cons, List.flatMap_nil, List.length_append, List.length_nil]
    omega
  | n + 1 => by
    have := sent_len he hws h0 h1 h2 h3 n
    show (sentX fg e ws t0 t1 t2 t3 b0 b1 b2 n ++ e).length ≤ _
    rw [List.length_append]; omega
theorem sent_ne (h3 : RowOk fg t3) : ∀ n, sentX fg e ws t0 t1 t2 t3 b0 b1 b2 n ≠ []
  | 0 => by
    obtain ⟨l, c, el, _⟩ := h3.last
    simp [sentX, el]
  | n + 1 => by
    have := sent_ne h3 n
    simp [sentX, this]
theorem dec_core (hf : Fig fg) (he : IsEnd e) (hmk : mk.length ≤ 2) (hm0 : mk ≠ []) (hmc : ∀ c ∈ mk, c < 256) (hws : ws = [] ∨ ws = [32, 9]) (h0 : RowOk fg t0) (h1 : RowOk fg t1) (h2 : RowOk fg t2) (h3 : RowOk fg t3) (n : Nat) (hn : n < 3) :
    DecOk mk (sentX fg e ws t0 t1 t2 t3 b0 b1 b2 n) (dueX mk t0 t1 t2 t3 b0 b1 b2 n) := by
  have hel : e.length ≤ 2 := by rcases he with rfl | rfl | rfl <;> simp
  have hwl : ws.length ≤ 2 := by rcases hws with rfl | rfl <;> simp
  have hlin := lin_ok (b0 := b0) (b1 := b1) (b2 := b2) hf hmk hws h0 h1 h2 h3 n
  have hdec := lin_dec (mk := mk) (ws := ws) (b0 := b0) (b1 := b1) (b2 := b2) hf h0 h1 h2 h3 n
  have hdl := due_len (b0 := b0) (b1 := b1) (b2 := b2) hmk h0 h1 h2 h3
  refine ⟨sent_ne h3 n, by have := sent_len (b0 := b0) (b1 := b1) (b2 := b2) hel hwl h0 h1 h2 h3 n; omega, due_cc hmc h0 h1 h2 h3 n, linX fg ws t0 t1 t2 t3 b0 b1 b2 n, ?_, fun p hp => (hlin p hp).1, fun p hp => ⟨(hlin p hp).2.1, (hlin p hp).2.2.1⟩, fun p hp => (hlin p hp).2.2.2.1, fun i => ?_, ?_⟩
  · cases n with
    | zero =>
      have hb : ∀ L ∈ [lnQ fg t0 b0 ++ ws, lnQ fg t1 b1 ++ ws, lnQ fg t2 b2 ++ ws], ∀ c ∈ L, brk c = false := by
        intro L hL
        simp only [List.mem_cons, List.not_mem_nil, or_false] at hL
        rcases hL with rfl | rfl | rfl
        · exact (hlin _ (.head _)).2.2.2.2
        · exact (hlin _ (.tail _ (.head _))).2.2.2.2
        · exact (hlin _ (.tail _ (.tail _ (.head _)))).2.2.2.2
      have := lines_tx he (hlin _ (.tail _ (.tail _ (.tail _ (.head _))))).2.2.2.2 _ hb
      rw [show sentX fg e ws t0 t1 t2 t3 b0 b1 b2 0 = [lnQ fg t0 b0 ++ ws, lnQ fg t1 b1 ++ ws, lnQ fg t2 b2 ++ ws].flatMap (· ++ e) ++ showT fg t3 from rfl]
      have hne : showT fg t3 ≠ [] := by
        obtain ⟨l, c, el, _⟩ := h3.last
        rw [el]; simp
      rw [if_neg hne] at this
      rw [this]; rfl
    | succ n =>
      rw [sent_seg n]
      have := lines_tx (tail := []) he (fun c hc => by cases hc) ((linX fg ws t0 t1 t2 t3 b0 b1 b2 (n + 1)).map (·.1)) (fun L hL => by
        obtain ⟨p, hp, rfl⟩ := List.mem_map.mp hL
        exact (hlin p hp).2.2.2.2)
      rw [this, if_pos rfl, List.append_nil, List.map_map]; rfl
  · refine Nat.le_trans (decD_take mk _ i) ?_
    rw [hdec, List.length_append, List.length_append]
    have : ((List.replicate (n - 1) mk).flatten).length ≤ 4 := by
      rw [List.length_flatten, List.map_replicate, List.sum_replicate_nat]
      have h1 : n - 1 ≤ 1 := by omega
      calc (n - 1) * mk.length ≤ 1 * 2 := Nat.mul_le_mul h1 hmk
        _ ≤ 4 := by decide
    omega
  · cases n with
    | zero =>
      refine .inr ⟨?_, ?_, hm0⟩
      · obtain ⟨l, c, el, hc⟩ := h3.last
        rw [show sentX fg e ws t0 t1 t2 t3 b0 b1 b2 0 = [lnQ fg t0 b0 ++ ws, lnQ fg t1 b1 ++ ws, lnQ fg t2 b2 ++ ws].flatMap (· ++ e) ++ showT fg t3 from rfl, el, ← List.append_assoc, item_last]
        exact (fin_ok hc).2.1
      · rw [hdec]; simp
    | succ n =>
      refine .inl ⟨?_, ?_⟩
      · obtain ⟨l, c, el, hc⟩ := end_last he
        rw [show sentX fg e ws t0 t1 t2 t3 b0 b1 b2 (n + 1) = sentX fg e ws t0 t1 t2 t3 b0 b1 b2 n ++ e from rfl, el, ← List.append_assoc, item_last]
        exact hc
      · rw [hdec, due_more, List.append_assoc]
        congr 1
end
end Mine
end
section
open PySem PySem.W PyProof.Rows PySem.Calls
set_option maxRecDepth 100000
set_option maxHeartbeats 4000000
set_option linter.all false
namespace Mine
noncomputable def dF (X : List Int) : SD := moreN X (markL X) (sendN (lawP X) (rowsT (lawP X) 4) (markL X) (trailT (lawP X) 4) 4) (moreF X)
theorem lawP_U (X : List Int) : (lawP X).U < 2 ^ 32 := unmoved_lt _
theorem lawP_tn (X : List Int) : 1 ≤ (lawP X).tn ∧ (lawP X).tn ≤ 3 := by
  have := fm_lt (gx X 6) (m := 3) (by decide)
  show 1 ≤ 1 + fm (gx X 6) 3 ∧ 1 + fm (gx X 6) 3 ≤ 3
  omega
theorem lawP_pl (X : List Int) : (lawP X).pl < 7 := fm_lt _ (by decide)
theorem lawP_ch (X : List Int) : (lawP X).ch < 32 := fm_lt _ (by decide)
theorem turnF_len7 {pl ch : Nat} {br : List Nat} (h : br.length = 7) (hp : pl < 7) : (turnF pl ch br).length = 7 := by
  simp only [turnF, List.length_append, List.length_take, List.length_drop, List.length_cons, List.length_nil]; omega
theorem brT_len7 (p : LawP) (k : Nat) (nw : Bool) (hp : p.pl < 7) : (brT p k nw).length = 7 := by
  unfold brT
  split
  · exact turnF_len7 (bridgeF_length _ _ _ _) hp
  · exact bridgeF_length _ _ _ _
theorem row_len14 (p : LawP) (k : Nat) (nw : Bool) (hp : p.pl < 7) : (rowT p k nw).length ≤ 14 := by
  have h1 := front_len k (gx p.X k) nw
  have h2 := brT_len7 p k nw hp
  have h3 := back_len (gx p.X k)
  simp only [rowT, List.length_append]; omega
theorem row_ok {fg : List Nat} (hf : Fig fg) (p : LawP) (k : Nat) (nw : Bool) (hpl : p.pl < 7) (hch : p.ch < 32) : RowOk fg (rowT p k nw) :=
  ⟨row_len14 p k nw hpl, row_cc p k nw hpl hch, row_last hf p k nw hpl hch⟩
theorem rows_mem (p : LawP) : ∀ i, ∀ t ∈ rowsT p i, ∃ k nw, t = rowT p k nw
  | 0, _, h => by cases h
  | i + 1, t, h => by
    rcases List.mem_cons.mp h with rfl | h
    · exact ⟨_, _, rfl⟩
    · exact rows_mem p i t h
theorem plain_rows (X : List Int) : ∀ t ∈ rowsT (lawP X) 4, t.length ≤ 100 ∧ ∀ c ∈ t, c < 256 := by
  intro t ht
  obtain ⟨k, nw, rfl⟩ := rows_mem _ _ t ht
  have := row_len14 (lawP X) k nw (lawP_pl X)
  exact ⟨by omega, row_cc _ _ _ (lawP_pl X) (lawP_ch X)⟩
theorem rows_at (p : LawP) {j : Nat} (h : j < 4) : (rowsT p 4).getD j [] = rowT p j (nwF (rowsT p (3 - j))) := by
  rcases j with _ | _ | _ | _ | j
  · rfl
  · rfl
  · rfl
  · rfl
  · omega
theorem txt_at (p : LawP) {k : Nat} (h : k < 4) : txt p (rowsT p 4) k = rowT p ((ordF p.X).getD k 0) (nwF (rowsT p (3 - (ordF p.X).getD k 0))) := rows_at p (ord_lt p.X h)
theorem txt_row {fg : List Nat} (hf : Fig fg) (p : LawP) (hpl : p.pl < 7) (hch : p.ch < 32) {k : Nat} (h : k < 4) : RowOk fg (txt p (rowsT p 4) k) := by
  rw [txt_at p h]; exact row_ok hf p _ _ hpl hch
theorem end_is (X : List Int) : IsEnd (endF X) := by
  have h := fm_lt ((gx X 5).fdiv 48) (m := 3) (by decide)
  unfold endF
  generalize fm ((gx X 5).fdiv 48) 3 = n at h
  rcases n with _ | _ | _ | n
  · exact .inl rfl
  · exact .inr (.inl rfl)
  · exact .inr (.inr rfl)
  · omega
noncomputable def blk (X : List Int) : List Nat := if blankF X then [32, 9] else []
theorem sent_base (X : List Int) (p : LawP) (hp : p.X = X) (ts : List (List Nat)) (mk : List Nat) (tr : Nat) : (sendN p ts mk tr 4).sent = sentX (figF X) (endF X) (blk X) (txt p ts 0) (txt p ts 1) (txt p ts 2) (txt p ts 3) (tornF X 0) (tornF X 1) (tornF X 2) 0 := by
  subst hp
  simp [sendN, sendF, sentX, lnQ, blk]
theorem due_base (X : List Int) (p : LawP) (hp : p.X = X) (ts : List (List Nat)) (mk : List Nat) (tr : Nat) : (sendN p ts mk tr 4).due = dueX mk (txt p ts 0) (txt p ts 1) (txt p ts 2) (txt p ts 3) (tornF X 0) (tornF X 1) (tornF X 2) 0 := by
  subst hp
  simp [sendN, sendF, dueX, mB]
theorem sent_all (X : List Int) (p : LawP) (hp : p.X = X) (ts : List (List Nat)) (mk : List Nat) (tr : Nat) : ∀ n, (moreN X mk (sendN p ts mk tr 4) n).sent = sentX (figF X) (endF X) (blk X) (txt p ts 0) (txt p ts 1) (txt p ts 2) (txt p ts 3) (tornF X 0) (tornF X 1) (tornF X 2) n
  | 0 => sent_base X p hp ts mk tr
  | n + 1 => by
    show (moreN X mk (sendN p ts mk tr 4) n).sent ++ endF X = _
    rw [sent_all X p hp ts mk tr n]; rfl
theorem due_all (X : List Int) (p : LawP) (hp : p.X = X) (ts : List (List Nat)) (mk : List Nat) (tr : Nat) : ∀ n, (moreN X mk (sendN p ts mk tr 4) n).due = dueX mk (txt p ts 0) (txt p ts 1) (txt p ts 2) (txt p ts 3) (tornF X 0) (tornF X 1) (tornF X 2) n
  | 0 => due_base X p hp ts mk tr
  | n + 1 => by
    show (moreN X mk (sendN p ts mk tr 4) n).due ++ mk = _
    rw [due_all X p hp ts mk tr n]; rfl
theorem mark_cc (X : List Int) : ∀ c ∈ markL X, c < 256 := by
  intro c hc
  have h1 := fm_lt (gx X 4) (m := 256) (by decide)
  have h2 := fm_lt ((gx X 4).fdiv 512) (m := 256) (by decide)
  unfold markL at hc
  split at hc
  · simp only [List.mem_cons, List.not_mem_nil, or_false] at hc
    rcases hc with rfl | rfl
    · exact h1
    · exact h2
  · rw [List.mem_singleton.mp hc]; exact h1
theorem mark_one (X : List Int) : (markL X).length = 1 ∨ (markL X).length = 2 := by
  unfold markL; split <;> simp
theorem plain_dec (X : List Int) : DecOk (markL X) (dF X).sent (dF X).due := by
  have hr := fun k (h : k < 4) => txt_row (figF_fig X) (lawP X) (lawP_pl X) (lawP_ch X) h
  unfold dF
  rw [sent_all X (lawP X) rfl, due_all X (lawP X) rfl]
  exact dec_core (figF_fig X) (end_is X) (mark_len X) (by unfold markL; simp) (mark_cc X) (by unfold blk; split <;> simp) (hr 0 (by decide)) (hr 1 (by decide)) (hr 2 (by decide)) (hr 3 (by decide)) _ (fm_lt _ (by decide))
theorem send_behind {p : LawP} {ts : List (List Nat)} {mk : List Nat} {tr : Nat} (htr : tr ≤ 1) (htl : ∀ k, (txt p ts k).length ≤ 14) (hmk : mk.length ≤ 2) : ∀ i, (sendN p ts mk tr i).behind ≤ 16 * i
  | 0 => Nat.zero_le _
  | i + 1 => by
    have h := send_behind (p := p) htr htl hmk i
    have h1 := htl i
    show (if _ then tr else (sendN p ts mk tr i).behind + (txt p ts i).length) + _ ≤ _
    have h2 : (if i < 3 ∧ tornF p.X i = true then mk.length else 0) ≤ 2 := by split <;> omega
    have h3 : (if (ordF p.X).getD i 0 = p.tn then tr else (sendN p ts mk tr i).behind + (txt p ts i).length) ≤ 16 * i + 14 := by split <;> omega
    omega
theorem more_behind (X : List Int) {mk : List Nat} (d : SD) (hmk : mk.length ≤ 2) : ∀ n, (moreN X mk d n).behind ≤ d.behind + 2 * n
  | 0 => Nat.le_refl _
  | n + 1 => by
    have := more_behind X d hmk n
    show (moreN X mk d n).behind + mk.length ≤ _
    omega
theorem plain_behind (X : List Int) : (dF X).behind ≤ 100 := by
  have h1 := send_behind (p := lawP X) (ts := rowsT (lawP X) 4) (mk := markL X) (tr := trailT (lawP X) 4) (by unfold trailT; split; exact back_len _; omega) (fun k => by
    unfold txt
    rw [List.getD_eq_getElem?_getD]
    cases h : (rowsT (lawP X) 4)[(ordF (lawP X).X).getD k 0]? with
    | none => simp
    | some t =>
      obtain ⟨k', nw, e⟩ := rows_mem _ _ t (List.mem_of_getElem? h)
      show t.length ≤ 14
      rw [e]; exact row_len14 _ _ _ (lawP_pl X)) (mark_len X) 4
  have h2 := more_behind X (sendN (lawP X) (rowsT (lawP X) 4) (markL X) (trailT (lawP X) 4) 4) (mark_len X) (moreF X)
  have h3 : moreF X < 3 := fm_lt _ (by decide)
  unfold dF; omega
/-! the register -/
theorem crc_E (r y : Nat) (T : List Nat) : crc (r ^^^ red y) T = crc r T ^^^ red (y <<< (8 * T.length)) := by
  unfold crc
  rw [Nat.shiftLeft_xor_distrib, show (r <<< (8 * T.length) ^^^ red y <<< (8 * T.length)) ^^^ bitsT T <<< 32 = (r <<< (8 * T.length) ^^^ bitsT T <<< 32) ^^^ red y <<< (8 * T.length) by rw [Nat.xor_assoc, Nat.xor_comm (red y <<< _), ← Nat.xor_assoc], red_lin, red_red_shift]
theorem xl (a p q n b : Nat) : ((a ^^^ (p ^^^ q)) <<< n) ^^^ b = ((a ^^^ p) <<< n ^^^ b) ^^^ q <<< n := by
  rw [← Nat.xor_assoc, Nat.shiftLeft_xor_distrib, Nat.xor_assoc, Nat.xor_comm (q <<< n) b, ← Nat.xor_assoc]
theorem crc_flip (r : Nat) (A : List Nat) (c e : Nat) (B : List Nat) : crc r (A ++ [c ^^^ e] ++ B) = crc r (A ++ [c] ++ B) ^^^ red (bitsT [e] <<< (8 * B.length + 32)) := by
  have hb : bitsT (A ++ [c ^^^ e] ++ B) = bitsT (A ++ [c] ++ B) ^^^ (bitsT [e] <<< (8 * B.length)) := by
    rw [bitsT_append, bitsT_append, bitsT_append (A ++ [c]), bitsT_append A [c], bitsT_one, bitsT_one, bitsT_one, revK_xor]
    exact xl _ _ _ _ _
  unfold crc
  rw [hb, Nat.shiftLeft_xor_distrib, ← Nat.xor_assoc, red_lin, ← Nat.shiftLeft_add]
  simp [List.length_append]
end Mine
end
section
open PySem PySem.W PyProof.Rows PySem.Calls
set_option maxRecDepth 100000
set_option maxHeartbeats 4000000
set_option linter.all false
namespace Mine
theorem row_plain {p : LawP} (hU : p.U < 2 ^ 32) {j : Nat} {nw : Bool} (hj : j ≠ p.tn) : crc (stF p j) (rowT p j nw) = p.U := by
  unfold rowT brT
  rw [if_neg hj]
  exact bridge_spec _ _ _ _ hU
theorem row_turn {p : LawP} (hU : p.U < 2 ^ 32) (hpl : p.pl < 7) {j : Nat} {nw : Bool} (hj : j = p.tn) : crc (stF p j) (rowT p j nw) = p.U ^^^ red (bitsT [p.ch] <<< (80 - 8 * p.pl + 8 * (backF (gx p.X j)).length)) := by
  have hl : (brF p j nw).length = 7 := bridgeF_length _ _ _ _
  have h0 : crc (stF p j) (frontF j (gx p.X j) nw ++ brF p j nw ++ backF (gx p.X j)) = p.U := bridge_spec _ _ _ _ hU
  have hsp : brF p j nw = (brF p j nw).take p.pl ++ [(brF p j nw).getD p.pl 0] ++ (brF p j nw).drop (p.pl + 1) := by
    rw [List.append_assoc, List.singleton_append, ← drop_at (by omega), List.take_append_drop]
  have e1 : frontF j (gx p.X j) nw ++ brF p j nw ++ backF (gx p.X j) = (frontF j (gx p.X j) nw ++ (brF p j nw).take p.pl) ++ [(brF p j nw).getD p.pl 0] ++ ((brF p j nw).drop (p.pl + 1) ++ backF (gx p.X j)) := by
    conv => lhs; rw [hsp]
    simp only [List.append_assoc]
  have e2 : rowT p j nw = (frontF j (gx p.X j) nw ++ (brF p j nw).take p.pl) ++ [(brF p j nw).getD p.pl 0 ^^^ p.ch] ++ ((brF p j nw).drop (p.pl + 1) ++ backF (gx p.X j)) := by
    unfold rowT brT
    rw [if_pos hj]
    unfold turnF
    simp only [List.append_assoc]
  rw [e2, crc_flip, ← e1, h0]
  congr 3
  rw [List.length_append, List.length_drop]
  omega
noncomputable def Reg (p : LawP) (b : Bool) (due : List Nat) (bh : Nat) : Prop := crc 4294967295 due = if b then p.U ^^^ red (bitsT [p.ch] <<< (80 - 8 * p.pl + 8 * bh)) else p.U
theorem Reg.same {p : LawP} {b : Bool} {due T : List Nat} {bh : Nat} (hpl : p.pl < 7) (h : Reg p b due bh) (hT : crc p.U T = p.U) : Reg p b (due ++ T) (bh + T.length) := by
  unfold Reg at h ⊢
  rw [crc_append, h]
  cases b with
  | false => rw [if_neg (by decide), if_neg (by decide)]; exact hT
  | true =>
    rw [if_pos rfl, if_pos rfl, crc_E, hT, ← Nat.shiftLeft_add]
    congr 3; omega
theorem Reg.turn {p : LawP} {due T : List Nat} {bh tr : Nat} (h : Reg p false due bh) (hT : crc p.U T = p.U ^^^ red (bitsT [p.ch] <<< (80 - 8 * p.pl + 8 * tr))) : Reg p true (due ++ T) tr := by
  unfold Reg at h ⊢
  rw [if_neg (by decide)] at h
  rw [crc_append, h, if_pos rfl]; exact hT
theorem Reg.mark {p : LawP} {b c : Bool} {due mk : List Nat} {bh : Nat} (hpl : p.pl < 7) (h : Reg p b due bh) (hm : crc p.U mk = p.U) : Reg p b (due ++ if c = true then mk else []) (bh + if c = true then mk.length else 0) := by
  cases c with
  | false => simpa using h
  | true => exact h.same hpl hm
theorem send_due (p : LawP) (ts : List (List Nat)) (mk : List Nat) (tr k : Nat) (d : SD) : (sendF p ts mk tr k d).due = (d.due ++ txt p ts k) ++ (if (decide (k < 3) && tornF p.X k) = true then mk else []) := by
  simp [sendF]
theorem send_bh (p : LawP) (ts : List (List Nat)) (mk : List Nat) (tr k : Nat) (d : SD) : (sendF p ts mk tr k d).behind = (if (ordF p.X).getD k 0 = p.tn then tr else d.behind + (txt p ts k).length) + (if (decide (k < 3) && tornF p.X k) = true then mk.length else 0) := by
  simp [sendF]
theorem reg_send {p : LawP} (hU : p.U < 2 ^ 32) (hpl : p.pl < 7) {mk : List Nat} (hm : crc p.U mk = p.U) {k : Nat} (hk : k < 4) (h0 : (ordF p.X).getD k 0 ≠ 0) {b : Bool} (hb : (ordF p.X).getD k 0 = p.tn → b = false) {d : SD} (h : Reg p b d.due d.behind) :
    Reg p (b || (ordF p.X).getD k 0 == p.tn) (sendF p (rowsT p 4) mk (backF (gx p.X p.tn)).length k d).due (sendF p (rowsT p 4) mk (backF (gx p.X p.tn)).length k d).behind := by
  rw [send_due, send_bh]
  refine Reg.mark hpl ?_ hm
  rw [txt_at p hk]
  have hst : stF p ((ordF p.X).getD k 0) = p.U := by unfold stF; rw [if_neg h0]
  by_cases ht : (ordF p.X).getD k 0 = p.tn
  · have := hb ht
    subst this
    rw [if_pos ht, show ((ordF p.X).getD k 0 == p.tn) = true by rw [ht]; exact beq_self_eq_true _, Bool.or_true]
    have := row_turn (nw := nwF (rowsT p (3 - (ordF p.X).getD k 0))) hU hpl ht
    rw [hst] at this
    refine h.turn ?_
    rw [this, ht]
  · rw [if_neg ht, show ((ordF p.X).getD k 0 == p.tn) = false by rw [beq_eq_false_iff_ne]; exact ht, Bool.or_false]
    have := row_plain (nw := nwF (rowsT p (3 - (ordF p.X).getD k 0))) hU ht
    rw [hst] at this
    exact h.same hpl this
theorem reg_first {p : LawP} (hU : p.U < 2 ^ 32) (hpl : p.pl < 7) (htn : 1 ≤ p.tn) {mk : List Nat} (hm : crc p.U mk = p.U) (h0 : (ordF p.X).getD 0 0 = 0) (tr : Nat) :
    Reg p false (sendF p (rowsT p 4) mk tr 0 ⟨[], [], 0⟩).due (sendF p (rowsT p 4) mk tr 0 ⟨[], [], 0⟩).behind := by
  rw [send_due, send_bh]
  refine Reg.mark hpl ?_ hm
  rw [txt_at p (by decide), if_neg (by omega)]
  have := row_plain (j := 0) (nw := nwF (rowsT p 3)) hU (by omega)
  unfold Reg
  rw [h0, if_neg (by decide)]
  exact this
noncomputable def ordT : List (List Nat) := [[0, 1, 2, 3], [0, 2, 1, 3], [0, 3, 1, 2], [0, 1, 3, 2], [0, 2, 3, 1], [0, 3, 2, 1]]
theorem ord_mem (X : List Int) : ordF X ∈ ordT := by
  have h := ord_idx X
  show ordT.getD (fm (gx X 5) 3 + 3 * fm ((gx X 5).fdiv 3) 2) [] ∈ ordT
  rw [List.getD_eq_getElem?_getD, List.getElem?_eq_getElem (show _ < ordT.length from h)]
  exact List.getElem_mem _
theorem ord_facts : ∀ o ∈ ordT, ∀ tn, tn < 4 → 1 ≤ tn →
    (o.getD 0 0 = 0 ∧ o.getD 1 0 ≠ 0 ∧ o.getD 2 0 ≠ 0 ∧ o.getD 3 0 ≠ 0 ∧ (o.getD 2 0 = tn → (false || o.getD 1 0 == tn) = false) ∧ (o.getD 3 0 = tn → ((false || o.getD 1 0 == tn) || o.getD 2 0 == tn) = false) ∧ (((false || o.getD 1 0 == tn) || o.getD 2 0 == tn) || o.getD 3 0 == tn) = true) := by decide +kernel
theorem reg_four {p : LawP} (hU : p.U < 2 ^ 32) (hpl : p.pl < 7) (htn : 1 ≤ p.tn ∧ p.tn ≤ 3) {mk : List Nat} (hm : crc p.U mk = p.U) :
    Reg p true (sendN p (rowsT p 4) mk (trailT p 4) 4).due (sendN p (rowsT p 4) mk (trailT p 4) 4).behind := by
  have htr : trailT p 4 = (backF (gx p.X p.tn)).length := by unfold trailT; rw [if_pos (by omega)]
  rw [htr]
  obtain ⟨f0, f1, f2, f3, f4, f5, f6⟩ := ord_facts _ (ord_mem p.X) p.tn (by omega) htn.1
  have g1 := reg_first hU hpl htn.1 hm f0 (backF (gx p.X p.tn)).length
  have g2 := reg_send (k := 1) hU hpl hm (by decide) f1 (fun _ => rfl) g1
  have g3 := reg_send (k := 2) hU hpl hm (by decide) f2 f4 g2
  have g4 := reg_send (k := 3) hU hpl hm (by decide) f3 f5 g3
  rw [f6] at g4
  exact g4
theorem reg_more {p : LawP} (hpl : p.pl < 7) (X : List Int) {mk : List Nat} (hm : crc p.U mk = p.U) {d : SD} (h : Reg p true d.due d.behind) : ∀ n, Reg p true (moreN X mk d n).due (moreN X mk d n).behind
  | 0 => h
  | n + 1 => (reg_more hpl X hm h n).same hpl hm
theorem plain_fin (X : List Int) : regText 4294967295 (dF X).due = rev32 ((lawP X).U ^^^ red (bitsT [(lawP X).ch] <<< (80 - 8 * (lawP X).pl + 8 * (dF X).behind))) := by
  have hm : crc (lawP X).U (markL X) = (lawP X).U := unmoved_spec _ (mark_one X)
  have h := reg_more (p := lawP X) (lawP_pl X) X hm (reg_four (lawP_U X) (lawP_pl X) (lawP_tn X) hm) (moreF X)
  have h1 := regText_crc (dF X).due 4294967295 (by decide) (plain_dec X).cc
  rw [rev_ones] at h1
  rw [h1]
  congr 1
end Mine
end
section
open PySem PySem.W PyProof.Rows PySem.Calls
set_option maxRecDepth 100000
set_option maxHeartbeats 4000000
set_option linter.all false
namespace Mine
theorem oct_ne (z : Int) : octF z ≠ 10 ∧ octF z ≠ 13 := by
  unfold octF
  split
  · omega
  · omega
theorem front_ne (k : Nat) (z : Int) (nw : Bool) : ∀ c ∈ frontF k z nw, c ≠ 10 ∧ c ≠ 13 := by
  intro c hc
  have ho := oct_ne z
  unfold frontF at hc
  split at hc
  · rcases List.mem_cons.mp hc with rfl | h
    · exact ho
    · have h2 := List.mem_of_mem_take h
      rcases List.mem_append.mp h2 with h3 | h3 <;> · have := exF_lt z c h3; omega
  · split at hc
    · cases hc
    · rw [List.mem_singleton.mp hc]; exact ho
theorem back_ne (z : Int) : ∀ c ∈ backF z, c ≠ 10 ∧ c ≠ 13 := by
  intro c hc
  have ho := oct_ne z
  unfold backF at hc
  split at hc
  · cases hc
  · split at hc
    · rw [List.mem_singleton.mp hc]; exact ho
    · cases hc
theorem row_ne (p : LawP) (k : Nat) (nw : Bool) (hpl : p.pl < 7) (hch : p.ch < 32) : ∀ c ∈ rowT p k nw, c < 256 ∧ c ≠ 10 ∧ c ≠ 13 := by
  intro c hc
  refine ⟨row_cc p k nw hpl hch c hc, ?_⟩
  rcases List.mem_append.mp hc with h | h
  · rcases List.mem_append.mp h with h | h
    · exact front_ne _ _ _ c h
    · have := brT_range p k nw hpl hch c h; omega
  · exact back_ne _ c h
/-- the three shapes of a row -/
inductive Shape (p : LawP) (k : Nat) (nw : Bool) (w : List Nat) : Prop
  | plain (h : List Nat) (e : w = h ++ brT p k nw) (hl : h.length = 1 + szF k (gx p.X k) nw)
  | odd (a b : Nat) (e : w = brT p k nw ++ [61, a, b]) (ha : a ≠ 61) (hb : b ≠ 61)
  | even (a b : Nat) (e : w = [61, a, b] ++ brT p k nw)
theorem plain_ex : ∀ c, c < 127 → 33 ≤ c → c ≠ 61 → plainN c = true := by decide +kernel
theorem shape_of (p : LawP) (k : Nat) (nw : Bool) (hpl : p.pl < 7) (hch : p.ch < 32) : Shape p k nw (showT fgU (rowT p k nw)) := by
  have hbr := brT_range p k nw hpl hch
  have hb := showT_plain (fg := fgU) (l := brT p k nw) fun c hc => plain_br c (hbr c hc).2 (hbr c hc).1
  unfold rowT
  rw [showT_app, showT_app, hb]
  cases hp : plainN (octF (gx p.X k)) with
  | true =>
    have hf : frontF k (gx p.X k) nw = octF (gx p.X k) :: (exF (gx p.X k) ++ exF (gx p.X k)).take (szF k (gx p.X k) nw) := by unfold frontF; rw [if_pos hp]
    have hbk : backF (gx p.X k) = [] := by unfold backF; rw [if_pos hp]
    have hpf : ∀ c ∈ frontF k (gx p.X k) nw, plainN c = true := by
      rw [hf]
      intro c hc
      rcases List.mem_cons.mp hc with rfl | h
      · exact hp
      · have h2 := List.mem_of_mem_take h
        rcases List.mem_append.mp h2 with h3 | h3 <;> · have := exF_lt _ c h3; exact plain_ex c this.2.1 this.1 this.2.2
    rw [showT_plain hpf, hbk]
    refine .plain (frontF k (gx p.X k) nw) (List.append_nil _) ?_
    rw [hf, List.length_cons, List.length_take]
    have h1 := sz_le k (gx p.X k) nw
    have h2 : (exF (gx p.X k) ++ exF (gx p.X k)).length = 4 := rfl
    rw [h2]; omega
  | false =>
    obtain ⟨_, _, ha, hb', _⟩ := esc_np (fg := fgU) (.inl rfl) (octF_lt (gx p.X k)) hp
    have he : showT fgU [octF (gx p.X k)] = [61, fgU.getD (octF (gx p.X k) / 16) 0, fgU.getD (octF (gx p.X k) % 16) 0] := by
      show showC fgU _ ++ [] = _
      rw [showC_not hp]; rfl
    cases ho : oddF (gx p.X k) with
    | true =>
      have hf : frontF k (gx p.X k) nw = [] := by unfold frontF; rw [hp, ho]; rfl
      have hbk : backF (gx p.X k) = [octF (gx p.X k)] := by unfold backF; rw [hp, ho]; rfl
      rw [hf, hbk, he]
      exact .odd _ _ rfl ha hb'
    | false =>
      have hf : frontF k (gx p.X k) nw = [octF (gx p.X k)] := by unfold frontF; rw [hp, ho]; rfl
      have hbk : backF (gx p.X k) = [] := by unfold backF; rw [hp, ho]; rfl
      rw [hf, hbk, he]
      exact .even _ _ (List.append_nil _)
theorem getD_in {h b r : List Nat} {i : Nat} (h1 : h.length ≤ i) (h2 : i < h.length + b.length) : (h ++ b ++ r).getD i 0 ∈ b := by
  rw [List.append_assoc, List.getD_eq_getElem?_getD, List.getElem?_append_right h1, List.getElem?_append_left (by omega), List.getElem?_eq_getElem (by omega)]
  exact List.getElem_mem _
theorem getD_out {w r : List Nat} {i : Nat} (h : i = w.length) : (w ++ r).getD i 0 = r.headD 0 := by
  subst h
  rw [List.getD_eq_getElem?_getD, List.getElem?_append_right (Nat.le_refl _), Nat.sub_self]
  cases r <;> rfl
noncomputable def Cond (w r : List Nat) : Prop := 12 ≤ (w ++ r).length ∧
  ((w.length = 8 ∧ (w ++ r).getD 8 0 = 61) ∨ (w.length = 9 ∧ (w ++ r).getD 8 0 ≠ 61 ∧ (w ++ r).getD 9 0 = 61) ∨ (w.length = 10 ∧ (w ++ r).getD 8 0 ≠ 61 ∧ (w ++ r).getD 9 0 ≠ 61))
theorem sz_true {k : Nat} {z : Int} (h : k ≠ 3) : szF k z true ≤ 2 := by
  have := fm_lt (z.fdiv 256 + 2) (m := 3) (by decide)
  unfold szF; rw [if_neg h, if_pos rfl]; omega
theorem sz_false {k : Nat} {z : Int} (h : k ≠ 3) : szF k z false = 2 := by unfold szF; rw [if_neg h]; rfl
theorem cond_of {p : LawP} {k : Nat} {nw : Bool} {w r : List Nat} (hpl : p.pl < 7) (hch : p.ch < 32) (hs : Shape p k nw w) (hk : k ≠ 3) (hnw : (r.headD 0 == 61) = nw) (hr : 4 ≤ r.length) : Cond w r := by
  have hbl := brT_len7 p k nw hpl
  have hbr := brT_range p k nw hpl hch
  have hin : ∀ {h r' : List Nat} {i : Nat}, h.length ≤ i → i < h.length + 7 → (h ++ brT p k nw ++ r').getD i 0 ≠ 61 := fun {h r' i} h1 h2 e => by
    have := hbr _ (getD_in (h := h) (b := brT p k nw) (r := r') (i := i) h1 (by omega))
    rw [e] at this; omega
  cases hs with
  | plain h e hl =>
    have hwl : w.length = 8 + szF k (gx p.X k) nw := by rw [e, List.length_append, hl, hbl]; omega
    refine ⟨by rw [List.length_append]; omega, ?_⟩
    cases nw with
    | false =>
      have hz := sz_false (z := gx p.X k) hk
      refine .inr (.inr ⟨by omega, ?_, ?_⟩)
      · rw [e]; exact hin (by omega) (by omega)
      · rw [e]; exact hin (by omega) (by omega)
    | true =>
      have hz := sz_true (z := gx p.X k) hk
      have hd : r.headD 0 = 61 := by simpa using hnw
      rcases Nat.lt_or_ge (szF k (gx p.X k) true) 1 with h1 | h1
      · exact .inl ⟨by omega, by rw [getD_out (by omega)]; exact hd⟩
      · rcases Nat.lt_or_ge (szF k (gx p.X k) true) 2 with h2 | h2
        · refine .inr (.inl ⟨by omega, ?_, by rw [getD_out (by omega)]; exact hd⟩)
          rw [e]; exact hin (by omega) (by omega)
        · refine .inr (.inr ⟨by omega, ?_, ?_⟩)
          · rw [e]; exact hin (by omega) (by omega)
          · rw [e]; exact hin (by omega) (by omega)
  | odd a b e ha hb =>
    have hwl : w.length = 10 := by rw [e, List.length_append, hbl]; rfl
    refine ⟨by rw [List.length_append]; omega, .inr (.inr ⟨hwl, ?_, ?_⟩)⟩
    · have : (w ++ r).getD 8 0 = a := by
        rw [e, List.append_assoc, List.getD_eq_getElem?_getD, List.getElem?_append_right (by omega), hbl]; rfl
      rw [this]; exact ha
    · have : (w ++ r).getD 9 0 = b := by
        rw [e, List.append_assoc, List.getD_eq_getElem?_getD, List.getElem?_append_right (by omega), hbl]; rfl
      rw [this]; exact hb
  | even a b e =>
    have hwl : w.length = 10 := by rw [e, List.length_append, hbl]; rfl
    refine ⟨by rw [List.length_append]; omega, .inr (.inr ⟨hwl, ?_, ?_⟩)⟩
    · rw [e]; exact hin (h := [61, a, b]) (by simp) (by simp)
    · rw [e]; exact hin (h := [61, a, b]) (by simp) (by simp)
theorem shape_len {p : LawP} {k : Nat} {nw : Bool} {w : List Nat} (hpl : p.pl < 7) (hs : Shape p k nw w) : 8 ≤ w.length ∧ w.length ≤ 12 := by
  have hbl := brT_len7 p k nw hpl
  have hz := sz_le k (gx p.X k) nw
  cases hs with
  | plain h e hl => rw [e, List.length_append, hl, hbl]; omega
  | odd a b e _ _ => rw [e, List.length_append, hbl]; simp
  | even a b e => rw [e, List.length_append, hbl]; simp
theorem shape_12 {p : LawP} {k : Nat} {nw : Bool} {w : List Nat} (hpl : p.pl < 7) (hch : p.ch < 32) (hs : Shape p k nw w) (h12 : w.length = 12) : w.getD 8 0 ≠ 61 ∧ w.getD 9 0 ≠ 61 := by
  have hbl := brT_len7 p k nw hpl
  have hbr := brT_range p k nw hpl hch
  cases hs with
  | plain h e hl =>
    have h5 : h.length = 5 := by rw [e, List.length_append, hbl] at h12; omega
    have key : ∀ i, 5 ≤ i → i < 12 → w.getD i 0 ≠ 61 := fun i h1 h2 e1 => by
      have := hbr _ (getD_in (h := h) (b := brT p k nw) (r := []) (i := i) (by omega) (by omega))
      rw [List.append_nil, ← e, e1] at this; omega
    exact ⟨key 8 (by decide) (by decide), key 9 (by decide) (by decide)⟩
  | odd a b e _ _ => rw [e, List.length_append, hbl] at h12; simp at h12
  | even a b e => rw [e, List.length_append, hbl] at h12; simp at h12
theorem fits_cons {w : List Nat} {T : List (List Nat)} (hT : Fits T) (hc : Cond w T.flatten) : Fits (w :: T) := by
  cases T with
  | nil => exact absurd hT (fun h => h)
  | cons r rs => exact ⟨hc.1, hc.2, hT⟩
theorem headD_app {a b : List Nat} (h : a ≠ []) : (a ++ b).headD 0 = a.headD 0 := by
  cases a with
  | nil => exact absurd rfl h
  | cons x r => rfl
theorem plain_enc (X : List Int) : EncOk (rowsT (lawP X) 4) := by
  have hpl := lawP_pl X
  have hch := lawP_ch X
  generalize lawP X = p at hpl hch
  obtain ⟨r3, e3⟩ : ∃ r, r = rowT p 3 (nwF (rowsT p 0)) := ⟨_, rfl⟩
  obtain ⟨r2, e2⟩ : ∃ r, r = rowT p 2 (nwF (rowsT p 1)) := ⟨_, rfl⟩
  obtain ⟨r1, e1⟩ : ∃ r, r = rowT p 1 (nwF (rowsT p 2)) := ⟨_, rfl⟩
  obtain ⟨r0, e0⟩ : ∃ r, r = rowT p 0 (nwF (rowsT p 3)) := ⟨_, rfl⟩
  have h1 : rowsT p 1 = [r3] := by rw [e3]; rfl
  have h2 : rowsT p 2 = [r2, r3] := by rw [e2, e3]; rfl
  have h3 : rowsT p 3 = [r1, r2, r3] := by rw [e1, e2, e3]; rfl
  have h4 : rowsT p 4 = [r0, r1, r2, r3] := by rw [e0, e1, e2, e3]; rfl
  have s3 := shape_of p 3 (nwF (rowsT p 0)) hpl hch
  have s2 := shape_of p 2 (nwF (rowsT p 1)) hpl hch
  have s1 := shape_of p 1 (nwF (rowsT p 2)) hpl hch
  have s0 := shape_of p 0 (nwF (rowsT p 3)) hpl hch
  rw [← e3] at s3; rw [← e2] at s2; rw [← e1] at s1; rw [← e0] at s0
  have l3 := shape_len hpl s3
  have l2 := shape_len hpl s2
  have l1 := shape_len hpl s1
  have l0 := shape_len hpl s0
  have ne : ∀ {w : List Nat}, 8 ≤ w.length → w ≠ [] := fun h e => by rw [e] at h; exact absurd h (by decide)
  have k3 : r3.length ≤ 14 := by rw [e3]; exact row_len14 _ _ _ hpl
  have k2 : r2.length ≤ 14 := by rw [e2]; exact row_len14 _ _ _ hpl
  have k1 : r1.length ≤ 14 := by rw [e1]; exact row_len14 _ _ _ hpl
  have k0 : r0.length ≤ 14 := by rw [e0]; exact row_len14 _ _ _ hpl
  have c3 : ∀ c ∈ r3, c < 256 ∧ c ≠ 10 ∧ c ≠ 13 := by rw [e3]; exact row_ne _ _ _ hpl hch
  have c2 : ∀ c ∈ r2, c < 256 ∧ c ≠ 10 ∧ c ≠ 13 := by rw [e2]; exact row_ne _ _ _ hpl hch
  have c1 : ∀ c ∈ r1, c < 256 ∧ c ≠ 10 ∧ c ≠ 13 := by rw [e1]; exact row_ne _ _ _ hpl hch
  have c0 : ∀ c ∈ r0, c < 256 ∧ c ≠ 10 ∧ c ≠ 13 := by rw [e0]; exact row_ne _ _ _ hpl hch
  have hlast : ∃ l c, showT fgU r3 = l ++ [c] ∧ Fin' c := by rw [e3]; exact row_last (.inl rfl) p _ _ hpl hch
  have hflat : [r0, r1, r2, r3].flatten = r0 ++ r1 ++ r2 ++ r3 := by simp
  have hcc : ∀ c ∈ r0 ++ r1 ++ r2 ++ r3, c < 256 ∧ c ≠ 10 ∧ c ≠ 13 := by
    intro c hc
    simp only [List.mem_append] at hc
    rcases hc with ((h | h) | h) | h
    · exact c0 c h
    · exact c1 c h
    · exact c2 c h
    · exact c3 c h
  have hsh : showT fgU (r0 ++ r1 ++ r2 ++ r3) = showT fgU r0 ++ showT fgU r1 ++ showT fgU r2 ++ showT fgU r3 := by rw [showT_app, showT_app, showT_app]
  have hn2 : ((showT fgU r3).headD 0 == 61) = nwF (rowsT p 1) := by rw [h1]; rfl
  have hn1 : ((showT fgU r2).headD 0 == 61) = nwF (rowsT p 2) := by rw [h2]; rfl
  have hn0 : ((showT fgU r1).headD 0 == 61) = nwF (rowsT p 3) := by rw [h3]; rfl
  obtain ⟨T, hTs, hTf, hTF⟩ : ∃ T, splitW ([r0, r1, r2, r3].map (showT fgU)) = showT fgU r0 :: showT fgU r1 :: showT fgU r2 :: T ∧ T.flatten = showT fgU r3 ∧ Fits T := by
    by_cases h12 : (showT fgU r3).length = 12
    · refine ⟨[(showT fgU r3).take 10, (showT fgU r3).drop 10], split_at h12, by simp, ?_⟩
      have hw := shape_12 hpl hch s3 h12
      have ht : (showT fgU r3).take 10 ++ [(showT fgU r3).drop 10].flatten = showT fgU r3 := by simp
      refine ⟨by rw [ht]; omega, .inr (.inr ⟨by rw [List.length_take]; omega, by rw [ht]; exact hw.1, by rw [ht]; exact hw.2⟩), ?_⟩
      show ((showT fgU r3).drop 10).length ≤ 11
      rw [List.length_drop]; omega
    · refine ⟨[showT fgU r3], split_not h12, by simp, ?_⟩
      show (showT fgU r3).length ≤ 11
      omega
  have f2 : Fits (showT fgU r2 :: T) := fits_cons hTF (cond_of hpl hch s2 (by decide) (by rw [hTf]; exact hn2) (by rw [hTf]; omega))
  have g2 : (showT fgU r2 :: T).flatten = showT fgU r2 ++ showT fgU r3 := by rw [List.flatten_cons, hTf]
  have f1 : Fits (showT fgU r1 :: showT fgU r2 :: T) := fits_cons f2 (cond_of hpl hch s1 (by decide) (by rw [g2, headD_app (ne l2.1)]; exact hn1) (by rw [g2, List.length_append]; omega))
  have g1 : (showT fgU r1 :: showT fgU r2 :: T).flatten = showT fgU r1 ++ (showT fgU r2 ++ showT fgU r3) := by rw [List.flatten_cons, g2]
  have f0 : Fits (showT fgU r0 :: showT fgU r1 :: showT fgU r2 :: T) := fits_cons f1 (cond_of hpl hch s0 (by decide) (by rw [g1, headD_app (ne l1.1)]; exact hn0) (by rw [g1, List.length_append]; omega))
  rw [h4]
  have hne : showT fgU (r0 ++ r1 ++ r2 ++ r3) ≠ [] := by rw [hsh]; intro e; exact ne l3.1 (List.append_eq_nil_iff.mp e).2
  obtain ⟨l, c, el, hc⟩ := hlast
  have hit : Txt.item (tx (showT fgU (r0 ++ r1 ++ r2 ++ r3))) (-1) = tx [c] := by rw [hsh, el, ← List.append_assoc, item_last]
  refine ⟨rfl, ?_, ?_, ?_, ?_, ?_, ?_, ?_, ?_⟩
  · rw [hflat]; intro e; rw [e] at hne; exact hne rfl
  · rw [hflat]; simp only [List.length_append]; omega
  · rw [hflat]; exact hcc
  · rw [hflat, hTs, List.flatten_cons, g1, hsh]; simp only [List.append_assoc]
  · rw [hTs]; exact f0
  · rw [hflat]
    have := lines_tx (e := [10]) (tail := showT fgU (r0 ++ r1 ++ r2 ++ r3)) (.inl rfl) (fun c hc => (showT_ok (.inl rfl) (fun c hc => (hcc c hc).1) c hc).1) [] (fun L hL => by cases hL)
    rw [if_neg hne] at this
    exact this
  · rw [hflat, hit]; exact (fin_ok hc).2.2
  · rw [hflat, hit]; exact (fin_ok hc).2.1
end Mine
end
section
open PySem PySem.W PyProof.Rows PySem.Calls
set_option maxRecDepth 100000
set_option maxHeartbeats 4000000
set_option linter.all false
namespace Mine
local macro_rules | `(tactic| k_steps) => `(tactic| repeat' (first
  | (k_unfold; (try dsimp only))
  | ((fail_if_success (with_reducible first | show wpAny _ _ (exec (.For _ _ _ _ _) _) _ _ _ | show wpAny _ _ (exec (.While _ _ _ _) _) _ _ _ | show wpAny _ _ (pyIter _) _ _ _ | show wpAny _ _ (exec (.If _ _ _ _) _) _ _ _ | show wpAny _ _ (execs (Stmt.Assign [Expr.Name (Str.ofString "mark") _] _ _ :: _) _) _ _ _ | show wpAny _ _ (call (Value.ref _) _) _ _ _ | show wpAny _ _ (call (Value.builtin "chr") _) _ _ _ | show wpAny _ _ (call (Value.type "int") _) _ _ _ | show wpAny _ _ (call (Value.builtin "str.translate") _) _ _ _)); walk1; (try (all_goals dsimp only)))
  | ((fail_if_success (with_reducible first | show wpAny _ _ (exec (.If _ _ _ _) _) _ _ _ | show wpAny _ _ (execs (Stmt.Assign [Expr.Name (Str.ofString "mark") _] _ _ :: _) _) _ _ _ | show wpAny _ _ (call (Value.ref _) _) _ _ _ | show wpAny _ _ (call (Value.builtin "chr") _) _ _ _ | show wpAny _ _ (call (Value.type "int") _) _ _ _ | show wpAny _ _ (call (Value.builtin "str.translate") _) _ _ _)); dsimp only; walk1) | fail "no step"))
theorem law_pure (w : World) (mg mb : Str → Option Value) (l : Addr) (vs : List Value) (xs : List Int) (hI : IntsAre vs xs) (hn : xs.length ≤ 63) :
    PureP w mg mb 142 3 9 [.ref l] (fun h => h.IsList l vs.toArray) (fun v _ => v = .bool true) := by
  refine' pureP_fn (d := 2) (u := 6) [("script", .ref l)] ?ho ?hc ?hb ?h1 ?h2 ?h ?c1 ?c2 ?c3
  case ho => k_is
  case hc => k_is
  case hb => intro s X; exact BindsTo.of_eq rfl
  case h1 => kernel_rfl!
  case h2 => kernel_rfl!
  case c1 => rfl
  case c2 => rfl
  case c3 => rfl
  case h =>
    intro A s L h₁ tk r KX T hPre F N
    have hh := r.handled
    conv in (occs := *) (fnS 33) => all_goals whnf
    conv in (fnB 33) => whnf
    simp only [List.reverse_cons, List.reverse_nil, List.nil_append, List.cons_append, bm] at F
    (show wpAny _ _ _ _ _ _); k_fold
    k_steps
    refine' kmk_slice_ints (s := ⟨h₁, s.gens, s.drawn, _, s.os⟩) (vs := vs) ?kF ?kN ?kl ?kp ?kq ?ki ?km ?kc ?_ ?ks ?kt ?kz
    case kF => assumption
    case kN => assumption
    case kl => exact Fr.lst (by assumption) hPre
    case kp => kmk_part
    case kq => kmk_part
    case ki => exact hI
    case km => kmk_nums
    case kc => kmk_len
    case ks => with_unfolding_all rfl
    case kt => kmk_pure
    case kz => rw [List.size_toArray, hI.length]; rw [sizeLine_eq]; omega
    intro D' ws' h' F' N' l1 hI' hC' hL'
    (try simp only [Int.reduceNeg, Int.neg_neg, Int.reduceToNat] at hI' hC' hL')
    try k_lt l1
    try k_sweep
    k_steps
    rename_i hq ll hx FX NX l2
    refine' kmk_slice_ints (s := ⟨hx, s.gens, s.drawn, _, s.os⟩) (vs := [Value.int 61 tk, Value.int 233 (tk + 1), Value.int 46 (tk + 1 + 1), Value.int 9 (tk + 1 + 1 + 1), Value.int 10 (tk + 1 + 1 + 1 + 1), Value.int 35 (tk + 1 + 1 + 1 + 1 + 1), Value.int 115 (tk + 1 + 1 + 1 + 1 + 1 + 1)]) (ns := [61, 233, 46, 9, 10, 35, 115]) FX NX (News.isList NX (.head _)) ?kp ?kq (by repeat constructor) ?km rfl ?_ ?ks ?kt ?kz
    case kp => kmk_part
    case kq => kmk_part
    case km => exact kmk_from (by repeat constructor) (by omega)
    case ks => with_unfolding_all rfl
    case kt => kmk_pure
    case kz => simp [sizeLine_eq]
    intro D2 ws2 h' F' N' l1 hI2 hC2 hL2
    k_steps
    rename IntsAre _ (List.take 7 xs ++ _) => hIX
    have hX7 : (List.take 7 xs ++ List.drop (↑(List.take 7 xs).length : Int).toNat [61, 233, 46, 9, 10, 35, 115]).length = 7 := by
      show (List.take 7 xs ++ List.drop (List.take 7 xs).length [61, 233, 46, 9, 10, 35, 115]).length = 7
      have h7 : ([61, 233, 46, 9, 10, 35, 115] : List Int).length = 7 := rfl
      rw [List.length_append, List.length_drop, List.length_take, h7]; omega
    generalize (List.take 7 xs ++ List.drop (↑(List.take 7 xs).length : Int).toNat [61, 233, 46, 9, 10, 35, 115]) = X at *
    rename Fr s.heap L _ _ => F1
    rename News s.heap L _ _ => N1
    refine law_A (h := _) r KX T X hX7 _ _ hIX _ (kst_has' F1 (by repeat' (first | exact trivial | (refine And.intro ?_ ?_) | rfl))) (fun q hq => N1 q (by rw [List.mem_singleton.mp hq]; exact .head _)) ?_
    intro lh lt lw hc u h tk t0 t1 t2 t3 t4 t5 hco F N
    refine law_B r KX T (lawP X) hX7 (lawP_U X) (lawP_tn X) (lawP_pl X) (lawP_ch X) _ lh lt lw _ hIX hc hco u t0 t1 t2 t3 t4 t5 (markL X) F N ?_
    intro lt lw vt vw nt nw t5 u h tk hvt hvw F N
    refine law_C r KX T (lawP X) hX7 (rowsT (lawP X) 4) (plain_enc X) _ lt lw _ vt vw nt nw hIX hvt hvw _ t0 t1 t2 t3 t4 t5 (markL X) (kst_has' F (by repeat' (first | exact trivial | (refine And.intro ?_ ?_) | rfl))) N ?_
    intro t6 u h tk F N
    refine law_D r KX T (lawP X) hX7 _ lt _ vt nt hIX u t0 t1 t2 t3 t4 t5 t6 (markL X) F N ?_
    intro lo vo no u h tk hvo F N
    refine law_E r KX T (lawP X) hX7 (rowsT (lawP X) 4) (plain_enc X).four (plain_rows X) (markL X) (mark_len X) _ lt lo _ vt vo nt no hIX hvt hvo u t0 t1 t2 t3 t4 t5 t6 F N ?_
    intro d ta tb tc u h tk hd F N
    obtain rfl : d = dF X := hd
    exact law_F r KX T (lawP X) (lawP_U X) (lawP_pl X) (lawP_ch X) (markL X) (mark_len X) (dF X) (plain_dec X) (plain_behind X) (plain_fin X) u t0 t1 t3 t4 ta tb tc F N (fun h' tk' hs => ⟨_, _, _, rfl, rfl, hs, rfl⟩)
end Mine
end
section
open PySem PySem.W PyProof.Rows
set_option maxRecDepth 100000
set_option maxHeartbeats 4000000
namespace Mine
noncomputable def fnQ (i : Nat) : Pos := match sAt i with
  | .FunctionDef _ _ _ _ _ _ _ _ _ q => q
  | _ => default
noncomputable def dL : DefRec := ⟨fnN 33, fnP 33, fnB 33, fnS 33, fnQ 33⟩
theorem law_name (P : Params) : nsIn (KK P) mainGlobals dL.name = some (some (.ref 142)) := by kernel_rfl!
theorem walk_law : WalkO qv loose (XL qv []) (Hook.says HH) PySem.Challenge.rw_tx0023_01.row.toRowW dL [] (fun f vs => PySem.call f vs) := by
  intro w s₀ s₁ mg mb G Y a o pm cd doc dV kV ho hd hcd hD hmg hg args vals as hpre hlay hrd hwl hlo
  have KX := kIn_of Y
  have T := topRead_of G.T
  wrow_args hpre hlay hrd hwl hlo
  rename IntsAre _ _ => hI
  rename Heap.IsList _ _ _ => hL
  rename ¬ _ < _ => hn
  have ha : a = 142 := by
    have h1 : mg dL.name = some (.ref 142) := mg_of KX T.g (law_name _)
    rw [h1] at hmg
    injection hmg with h2
    injection h2 with h3
    exact h3.symm
  subst ha
  refine law_pure w mg mb _ _ _ hI (by omega) callerA s₁ _ _ ⟨rfl, by decide +kernel, by decide +kernel⟩ ⟨KX, T⟩ hL ?_
  rintro v h' tk hs rfl
  refine GoodW.toG ⟨.inl ⟨_, _, _, rfl, fun _ => rfl, .bool true, ?_, unshared_nil⟩, hs, rfl, hg⟩
  first | rfl | kernel_rfl | kernel_rfl!
theorem cw_holds : PySem.Challenge.rw_tx0023_01.Holds := by
  w_on
  o_law
  refine holds_open (d := dL) (kwd := []) (q := qv) (loose := loose) (Xt := Xt) (XP := XL qv []) (Yf := Hook.obs HH) (Ya := Hook.val HH) (YP := Hook.says HH) (N := 36000) (left 36000 (by rfl) (by rfl)) (Hook.of HH) (Hook.keeps HH) (fun s e => xl_of s (Bool.and_eq_true_iff.mp e).1) XL.keeps ?h1 ?h2 ?h3 (fun s e => recFacts_of (Bool.and_eq_true_iff.mp e).2) (by rfl) ?h4 ?h5 ⟨rfl, rfl, rfl, rfl, rfl, ?h6⟩ ?hw ?hc
  case h1 => kernel_rfl!
  case h2 => kernel_rfl!
  case h3 => kernel_rfl!
  case h4 => first | assumption | decide +kernel
  case h5 => decide +kernel
  case h6 => decide +kernel
  case hw => w_witness2
  case hc =>
    exact walk_law
end Mine
end
open PySem PySem.W PyProof.Rows
theorem PySem.Challenge.cw_tx0023_01_holds : PySem.Challenge.rw_tx0023_01.Holds := by
  exact Mine.cw_holds
