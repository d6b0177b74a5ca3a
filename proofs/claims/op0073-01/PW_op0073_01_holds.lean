import PyProof.Rows.All
import Wide.All
import OpenK.AllK
import Wide.FinOn
import Lean
import PySem.Challenge.RW_op0073_01
set_option Elab.async false
set_option maxRecDepth 100000
set_option linter.unusedVariables false
set_option linter.unusedSectionVars false
set_option linter.unusedSimpArgs false
section
open PySem PySem.W PyProof.Rows
set_option maxHeartbeats 0
noncomputable section
namespace Mine
noncomputable abbrev P0 : Program := PySem.Challenge.pw_op0073_01
noncomputable def stAt (i : Nat) : Stmt := P0.main.body.getD i (.Pass ⟨0, 0, 0, 0⟩)
noncomputable def noArgs : Arguments := { posonlyargs := [], args := [], vararg := none, kwonlyargs := [], kw_defaults := [], kwarg := none, defaults := [] }
noncomputable def noScope : Scope := { kind := .function, names := [], isGenerator := false, isCoroutine := false, more := [] }
noncomputable def aArgs : Stmt → Arguments
  | .FunctionDef _ a _ _ _ _ _ _ _ _ => a
  | _ => noArgs
noncomputable def aBody : Stmt → List Stmt
  | .FunctionDef _ _ b _ _ _ _ _ _ _ => b
  | _ => []
noncomputable def aScope : Stmt → Scope
  | .FunctionDef _ _ _ _ _ _ s _ _ _ => s
  | _ => noScope
noncomputable def vS (s : String) (t : Tok) : Value := Value.str (Str.ofString s) t
noncomputable def dF (n : String) (i g : Nat) (d m c : Value) : Data := Data.func { name := (Str.ofString n), qualname := (Str.ofString n), params := aArgs (stAt i), body := .stmts (aBody (stAt i)), scope := aScope (stAt i), globals := g, closure := [], defaults := d, kwdefaults := Value.none, doc := Value.none, pyModule := m, annotations := none, code := c, closureTuple := Value.none, builtins := 0 }
noncomputable def o11a (P : Params) : Obj := ⟨(Value.type "tuple"), none, (Data.seq #[] 0), #[]⟩
noncomputable def o12a (P : Params) : Obj := ⟨Value.none, none, (Data.fields #[]), #[]⟩
noncomputable def o13a (P : Params) : Obj := ⟨(Value.type "code"), none, (Data.fields #[(vS "<module>" 182), (vS "<module>" 183), (vS "/claim/cut.py" 184), (Value.int 1 0), (Value.int 0 0), (Value.int 0 0), (Value.int 0 0), (Value.int 0 0), (Value.ref 11), (Value.bool false), (Value.int 181 0), (Value.ref 12), Value.none, Value.none, Value.none, Value.none, (Value.int 185 0), (Value.int 1 0), (vS "/claim/cut.py" 186)]), #[]⟩
noncomputable def o14a (P : Params) : Obj := ⟨(Value.type "frame"), none, Data.plain, #[(some (Value.ref 13)), (some (Value.ref 3)), (some (Value.ref 3)), none, (some (vS "__main__" 164)), none, (some (Value.ref 0))]⟩
noncomputable def Ta (P : Params) : BT := (.node (boot_o_0 P) (.node (boot_o_1 P) (.node (boot_o_3 P) (.node (boot_o_7 P) .nil .nil) (.node (o11a P) .nil .nil)) (.node (boot_o_5 P) (.node (boot_o_9 P) .nil .nil) (.node (o13a P) .nil .nil))) (.node (boot_o_2 P) (.node (boot_o_4 P) (.node (boot_o_8 P) .nil .nil) (.node (o12a P) .nil .nil)) (.node (boot_o_6 P) (.node (boot_o_10 P) .nil .nil) (.node (o14a P) .nil .nil))))
noncomputable def Tb (P : Params) : BT := (.node (boot_o_0 P) (.node (boot_o_1 P) (.node (boot_o_3 P) (.node (boot_o_7 P) .nil .nil) (.node (o11a P) .nil .nil)) (.node (boot_o_5 P) (.node (boot_o_9 P) .nil .nil) (.node (o13a P) .nil .nil))) (.node (boot_o_2 P) (.node (boot_o_4 P) (.node (boot_o_8 P) .nil .nil) (.node (o12a P) .nil .nil)) (.node (boot_o_6 P) (.node (boot_o_10 P) .nil .nil) (.node (o14a P) .nil .nil))))
noncomputable def o31 (P : Params) : Obj := ⟨(Value.type "dict"), none, (Data.dict #[⟨PyData.keyHash P (Str.ofString "__name__"), (vS "__name__" 165), (vS "cpy313.heapq" 187)⟩, ⟨PyData.keyHash P (Str.ofString "__doc__"), (vS "__doc__" 166), Value.none⟩, ⟨PyData.keyHash P (Str.ofString "__package__"), (vS "__package__" 167), Value.none⟩, ⟨PyData.keyHash P (Str.ofString "__loader__"), (vS "__loader__" 168), (Value.builtin "__main__.__loader__#opaque")⟩, ⟨PyData.keyHash P (Str.ofString "__spec__"), (vS "__spec__" 169), Value.none⟩, ⟨PyData.keyHash P (Str.ofString "__annotations__"), (vS "__annotations__" 170), (Value.ref 6)⟩, ⟨PyData.keyHash P (Str.ofString "__builtins__"), (vS "__builtins__" 171), (Value.ref 4)⟩, ⟨PyData.keyHash P (Str.ofString "__file__"), (vS "__file__" 173), (vS "/claim/cut.py" 172)⟩, ⟨PyData.keyHash P (Str.ofString "__cached__"), (vS "__cached__" 174), Value.none⟩, ⟨PyData.keyHash P (Str.ofString "heappush"), (vS "heappush" 196), (Value.ref 21)⟩, ⟨PyData.keyHash P (Str.ofString "heappop"), (vS "heappop" 205), (Value.ref 28)⟩, ⟨PyData.keyHash P (Str.ofString "heapify"), (vS "heapify" 214), (Value.ref 35)⟩, ⟨PyData.keyHash P (Str.ofString "_siftdown"), (vS "_siftdown" 226), (Value.ref 42)⟩, ⟨PyData.keyHash P (Str.ofString "_siftup"), (vS "_siftup" 239), (Value.ref 49)⟩, ⟨PyData.keyHash P (Str.ofString "NL"), (vS "NL" 241), (Value.str (Str.mk #[10]) 240)⟩] 15), #[]⟩
noncomputable def o121 (P : Params) : Obj := ⟨Value.none, none, (Data.fields #[(Value.int 2 0), (Value.int 0 0), (Value.ref 20), (Value.int 5 0), (Value.int 0 0), (Value.ref 27), (Value.int 13 0), (Value.int 0 0), (Value.ref 34), (Value.int 17 0), (Value.int 0 0), (Value.ref 41), (Value.int 28 0), (Value.int 0 0), (Value.ref 48)]), #[]⟩
noncomputable def o151 (P : Params) : Obj := ⟨(Value.type "tuple"), none, (Data.seq #[] 0), #[]⟩
noncomputable def o161 (P : Params) : Obj := ⟨Value.none, none, (Data.fields #[]), #[]⟩
noncomputable def o171 (P : Params) : Obj := ⟨(Value.type "tuple"), none, (Data.seq #[(vS "heap" 192), (vS "item" 193)] 0), #[]⟩
noncomputable def o181 (P : Params) : Obj := ⟨(Value.type "tuple"), none, (Data.seq #[] 0), #[]⟩
noncomputable def o191 (P : Params) : Obj := ⟨Value.none, none, (dF "heappush" 1 0 Value.none Value.none Value.none), #[]⟩
noncomputable def o201 (P : Params) : Obj := ⟨(Value.type "code"), none, (Data.fields #[(vS "heappush" 189), (vS "heappush" 190), (vS "/claim/cut.py" 191), (Value.int 2 0), (Value.int 2 0), (Value.int 0 0), (Value.int 0 0), (Value.int 3 0), (Value.ref 15), (Value.bool true), (Value.int 181 0), (Value.ref 16), Value.none, (Value.ref 17), (Value.ref 18), (Value.ref 19), (Value.int 194 0), (Value.int 2 0), (vS "/claim/cut.py" 195)]), #[]⟩
noncomputable def o211 (P : Params) : Obj := ⟨(Value.type "function"), none, (dF "heappush" 1 3 Value.none (vS "cpy313.heapq" 187) (Value.ref 20)), #[]⟩
noncomputable def o221 (P : Params) : Obj := ⟨(Value.type "tuple"), none, (Data.seq #[] 0), #[]⟩
noncomputable def o231 (P : Params) : Obj := ⟨Value.none, none, (Data.fields #[]), #[]⟩
noncomputable def o241 (P : Params) : Obj := ⟨(Value.type "tuple"), none, (Data.seq #[(vS "heap" 200), (vS "lastelt" 201), (vS "returnitem" 202)] 0), #[]⟩
noncomputable def o251 (P : Params) : Obj := ⟨(Value.type "tuple"), none, (Data.seq #[] 0), #[]⟩
noncomputable def o261 (P : Params) : Obj := ⟨Value.none, none, (dF "heappop" 2 0 Value.none Value.none Value.none), #[]⟩
noncomputable def o271 (P : Params) : Obj := ⟨(Value.type "code"), none, (Data.fields #[(vS "heappop" 197), (vS "heappop" 198), (vS "/claim/cut.py" 199), (Value.int 5 0), (Value.int 1 0), (Value.int 0 0), (Value.int 0 0), (Value.int 3 0), (Value.ref 22), (Value.bool true), (Value.int 181 0), (Value.ref 23), Value.none, (Value.ref 24), (Value.ref 25), (Value.ref 26), (Value.int 203 0), (Value.int 5 0), (vS "/claim/cut.py" 204)]), #[]⟩
noncomputable def o281 (P : Params) : Obj := ⟨(Value.type "function"), none, (dF "heappop" 2 3 Value.none (vS "cpy313.heapq" 187) (Value.ref 27)), #[]⟩
noncomputable def o291 (P : Params) : Obj := ⟨(Value.type "tuple"), none, (Data.seq #[] 0), #[]⟩
noncomputable def o301 (P : Params) : Obj := ⟨Value.none, none, (Data.fields #[]), #[]⟩
noncomputable def o311 (P : Params) : Obj := ⟨(Value.type "tuple"), none, (Data.seq #[(vS "x" 209), (vS "n" 210), (vS "i" 211)] 0), #[]⟩
noncomputable def o321 (P : Params) : Obj := ⟨(Value.type "tuple"), none, (Data.seq #[] 0), #[]⟩
noncomputable def o331 (P : Params) : Obj := ⟨Value.none, none, (dF "heapify" 3 0 Value.none Value.none Value.none), #[]⟩
noncomputable def o341 (P : Params) : Obj := ⟨(Value.type "code"), none, (Data.fields #[(vS "heapify" 206), (vS "heapify" 207), (vS "/claim/cut.py" 208), (Value.int 13 0), (Value.int 1 0), (Value.int 0 0), (Value.int 0 0), (Value.int 3 0), (Value.ref 29), (Value.bool true), (Value.int 181 0), (Value.ref 30), Value.none, (Value.ref 31), (Value.ref 32), (Value.ref 33), (Value.int 212 0), (Value.int 13 0), (vS "/claim/cut.py" 213)]), #[]⟩
noncomputable def o351 (P : Params) : Obj := ⟨(Value.type "function"), none, (dF "heapify" 3 3 Value.none (vS "cpy313.heapq" 187) (Value.ref 34)), #[]⟩
noncomputable def o361 (P : Params) : Obj := ⟨(Value.type "tuple"), none, (Data.seq #[] 0), #[]⟩
noncomputable def o371 (P : Params) : Obj := ⟨Value.none, none, (Data.fields #[]), #[]⟩
noncomputable def o381 (P : Params) : Obj := ⟨(Value.type "tuple"), none, (Data.seq #[(vS "heap" 218), (vS "startpos" 219), (vS "pos" 220), (vS "newitem" 221), (vS "parentpos" 222), (vS "parent" 223)] 0), #[]⟩
noncomputable def o391 (P : Params) : Obj := ⟨(Value.type "tuple"), none, (Data.seq #[] 0), #[]⟩
noncomputable def o401 (P : Params) : Obj := ⟨Value.none, none, (dF "_siftdown" 4 0 Value.none Value.none Value.none), #[]⟩
noncomputable def o411 (P : Params) : Obj := ⟨(Value.type "code"), none, (Data.fields #[(vS "_siftdown" 215), (vS "_siftdown" 216), (vS "/claim/cut.py" 217), (Value.int 17 0), (Value.int 3 0), (Value.int 0 0), (Value.int 0 0), (Value.int 3 0), (Value.ref 36), (Value.bool true), (Value.int 181 0), (Value.ref 37), Value.none, (Value.ref 38), (Value.ref 39), (Value.ref 40), (Value.int 224 0), (Value.int 17 0), (vS "/claim/cut.py" 225)]), #[]⟩
noncomputable def o421 (P : Params) : Obj := ⟨(Value.type "function"), none, (dF "_siftdown" 4 3 Value.none (vS "cpy313.heapq" 187) (Value.ref 41)), #[]⟩
noncomputable def o431 (P : Params) : Obj := ⟨(Value.type "tuple"), none, (Data.seq #[] 0), #[]⟩
noncomputable def o441 (P : Params) : Obj := ⟨Value.none, none, (Data.fields #[]), #[]⟩
noncomputable def o451 (P : Params) : Obj := ⟨(Value.type "tuple"), none, (Data.seq #[(vS "heap" 230), (vS "pos" 231), (vS "endpos" 232), (vS "startpos" 233), (vS "newitem" 234), (vS "childpos" 235), (vS "rightpos" 236)] 0), #[]⟩
noncomputable def o461 (P : Params) : Obj := ⟨(Value.type "tuple"), none, (Data.seq #[] 0), #[]⟩
noncomputable def o471 (P : Params) : Obj := ⟨Value.none, none, (dF "_siftup" 5 0 Value.none Value.none Value.none), #[]⟩
noncomputable def o481 (P : Params) : Obj := ⟨(Value.type "code"), none, (Data.fields #[(vS "_siftup" 227), (vS "_siftup" 228), (vS "/claim/cut.py" 229), (Value.int 28 0), (Value.int 2 0), (Value.int 0 0), (Value.int 0 0), (Value.int 3 0), (Value.ref 43), (Value.bool true), (Value.int 181 0), (Value.ref 44), Value.none, (Value.ref 45), (Value.ref 46), (Value.ref 47), (Value.int 237 0), (Value.int 28 0), (vS "/claim/cut.py" 238)]), #[]⟩
noncomputable def o491 (P : Params) : Obj := ⟨(Value.type "function"), none, (dF "_siftup" 5 3 Value.none (vS "cpy313.heapq" 187) (Value.ref 48)), #[]⟩
noncomputable def T1 (P : Params) : BT := (.node (boot_o_0 P) (.node (boot_o_1 P) (.node (o31 P) (.node (boot_o_7 P) (.node (o151 P) (.node (o311 P) .nil .nil) (.node (o471 P) .nil .nil)) (.node (o231 P) (.node (o391 P) .nil .nil) .nil)) (.node (o11a P) (.node (o191 P) (.node (o351 P) .nil .nil) .nil) (.node (o271 P) (.node (o431 P) .nil .nil) .nil))) (.node (boot_o_5 P) (.node (boot_o_9 P) (.node (o171 P) (.node (o331 P) .nil .nil) (.node (o491 P) .nil .nil)) (.node (o251 P) (.node (o411 P) .nil .nil) .nil)) (.node (o13a P) (.node (o211 P) (.node (o371 P) .nil .nil) .nil) (.node (o291 P) (.node (o451 P) .nil .nil) .nil)))) (.node (boot_o_2 P) (.node (boot_o_4 P) (.node (boot_o_8 P) (.node (o161 P) (.node (o321 P) .nil .nil) (.node (o481 P) .nil .nil)) (.node (o241 P) (.node (o401 P) .nil .nil) .nil)) (.node (o121 P) (.node (o201 P) (.node (o361 P) .nil .nil) .nil) (.node (o281 P) (.node (o441 P) .nil .nil) .nil))) (.node (boot_o_6 P) (.node (boot_o_10 P) (.node (o181 P) (.node (o341 P) .nil .nil) .nil) (.node (o261 P) (.node (o421 P) .nil .nil) .nil)) (.node (o14a P) (.node (o221 P) (.node (o381 P) .nil .nil) .nil) (.node (o301 P) (.node (o461 P) .nil .nil) .nil)))))
noncomputable def o32 (P : Params) : Obj := ⟨(Value.type "dict"), none, (Data.dict #[⟨PyData.keyHash P (Str.ofString "__name__"), (vS "__name__" 165), (vS "cpy313.heapq" 187)⟩, ⟨PyData.keyHash P (Str.ofString "__doc__"), (vS "__doc__" 166), Value.none⟩, ⟨PyData.keyHash P (Str.ofString "__package__"), (vS "__package__" 167), Value.none⟩, ⟨PyData.keyHash P (Str.ofString "__loader__"), (vS "__loader__" 168), (Value.builtin "__main__.__loader__#opaque")⟩, ⟨PyData.keyHash P (Str.ofString "__spec__"), (vS "__spec__" 169), Value.none⟩, ⟨PyData.keyHash P (Str.ofString "__annotations__"), (vS "__annotations__" 170), (Value.ref 6)⟩, ⟨PyData.keyHash P (Str.ofString "__builtins__"), (vS "__builtins__" 171), (Value.ref 4)⟩, ⟨PyData.keyHash P (Str.ofString "__file__"), (vS "__file__" 173), (vS "/claim/cut.py" 172)⟩, ⟨PyData.keyHash P (Str.ofString "__cached__"), (vS "__cached__" 174), Value.none⟩, ⟨PyData.keyHash P (Str.ofString "heappush"), (vS "heappush" 196), (Value.ref 21)⟩, ⟨PyData.keyHash P (Str.ofString "heappop"), (vS "heappop" 205), (Value.ref 28)⟩, ⟨PyData.keyHash P (Str.ofString "heapify"), (vS "heapify" 214), (Value.ref 35)⟩, ⟨PyData.keyHash P (Str.ofString "_siftdown"), (vS "_siftdown" 226), (Value.ref 42)⟩, ⟨PyData.keyHash P (Str.ofString "_siftup"), (vS "_siftup" 239), (Value.ref 49)⟩, ⟨PyData.keyHash P (Str.ofString "NL"), (vS "NL" 241), (Value.str (Str.mk #[10]) 240)⟩, ⟨PyData.keyHash P (Str.ofString "_QUOPRI_MAP"), (vS "_QUOPRI_MAP" 1269), (Value.ref 52)⟩] 16), #[]⟩
noncomputable def o502 (P : Params) : Obj := ⟨(Value.type "range"), none, (Data.fields #[(Value.int 0 243), (Value.int 256 242), (Value.int 1 244)]), #[]⟩
noncomputable def o512 (P : Params) : Obj := ⟨(Value.type "range_iterator"), none, (Data.fields #[(Value.int 256 0), (Value.int 0 0), (Value.int 1 0)]), #[]⟩
noncomputable def o522 (P : Params) : Obj := ⟨(Value.type "list"), none, (Data.seq #[(vS "=00" 248), (vS "=01" 252), (vS "=02" 256), (vS "=03" 260), (vS "=04" 264), (vS "=05" 268), (vS "=06" 272), (vS "=07" 276), (vS "=08" 280), (vS "=09" 284), (vS "=0A" 288), (vS "=0B" 292), (vS "=0C" 296), (vS "=0D" 300), (vS "=0E" 304), (vS "=0F" 308), (vS "=10" 312), (vS "=11" 316), (vS "=12" 320), (vS "=13" 324), (vS "=14" 328), (vS "=15" 332), (vS "=16" 336), (vS "=17" 340), (vS "=18" 344), (vS "=19" 348), (vS "=1A" 352), (vS "=1B" 356), (vS "=1C" 360), (vS "=1D" 364), (vS "=1E" 368), (vS "=1F" 372), (vS "=20" 376), (vS "=21" 380), (vS "=22" 384), (vS "=23" 388), (vS "=24" 392), (vS "=25" 396), (vS "=26" 400), (vS "=27" 404), (vS "=28" 408), (vS "=29" 412), (vS "=2A" 416), (vS "=2B" 420), (vS "=2C" 424), (vS "=2D" 428), (vS "=2E" 432), (vS "=2F" 436), (vS "=30" 440), (vS "=31" 444), (vS "=32" 448), (vS "=33" 452), (vS "=34" 456), (vS "=35" 460), (vS "=36" 464), (vS "=37" 468), (vS "=38" 472), (vS "=39" 476), (vS "=3A" 480), (vS "=3B" 484), (vS "=3C" 488), (vS "=3D" 492), (vS "=3E" 496), (vS "=3F" 500), (vS "=40" 504), (vS "=41" 508), (vS "=42" 512), (vS "=43" 516), (vS "=44" 520), (vS "=45" 524), (vS "=46" 528), (vS "=47" 532), (vS "=48" 536), (vS "=49" 540), (vS "=4A" 544), (vS "=4B" 548), (vS "=4C" 552), (vS "=4D" 556), (vS "=4E" 560), (vS "=4F" 564), (vS "=50" 568), (vS "=51" 572), (vS "=52" 576), (vS "=53" 580), (vS "=54" 584), (vS "=55" 588), (vS "=56" 592), (vS "=57" 596), (vS "=58" 600), (vS "=59" 604), (vS "=5A" 608), (vS "=5B" 612), (vS "=5C" 616), (vS "=5D" 620), (vS "=5E" 624), (vS "=5F" 628), (vS "=60" 632), (vS "=61" 636), (vS "=62" 640), (vS "=63" 644), (vS "=64" 648), (vS "=65" 652), (vS "=66" 656), (vS "=67" 660), (vS "=68" 664), (vS "=69" 668), (vS "=6A" 672), (vS "=6B" 676), (vS "=6C" 680), (vS "=6D" 684), (vS "=6E" 688), (vS "=6F" 692), (vS "=70" 696), (vS "=71" 700), (vS "=72" 704), (vS "=73" 708), (vS "=74" 712), (vS "=75" 716), (vS "=76" 720), (vS "=77" 724), (vS "=78" 728), (vS "=79" 732), (vS "=7A" 736), (vS "=7B" 740), (vS "=7C" 744), (vS "=7D" 748), (vS "=7E" 752), (vS "=7F" 756), (vS "=80" 760), (vS "=81" 764), (vS "=82" 768), (vS "=83" 772), (vS "=84" 776), (vS "=85" 780), (vS "=86" 784), (vS "=87" 788), (vS "=88" 792), (vS "=89" 796), (vS "=8A" 800), (vS "=8B" 804), (vS "=8C" 808), (vS "=8D" 812), (vS "=8E" 816), (vS "=8F" 820), (vS "=90" 824), (vS "=91" 828), (vS "=92" 832), (vS "=93" 836), (vS "=94" 840), (vS "=95" 844), (vS "=96" 848), (vS "=97" 852), (vS "=98" 856), (vS "=99" 860), (vS "=9A" 864), (vS "=9B" 868), (vS "=9C" 872), (vS "=9D" 876), (vS "=9E" 880), (vS "=9F" 884), (vS "=A0" 888), (vS "=A1" 892), (vS "=A2" 896), (vS "=A3" 900), (vS "=A4" 904), (vS "=A5" 908), (vS "=A6" 912), (vS "=A7" 916), (vS "=A8" 920), (vS "=A9" 924), (vS "=AA" 928), (vS "=AB" 932), (vS "=AC" 936), (vS "=AD" 940), (vS "=AE" 944), (vS "=AF" 948), (vS "=B0" 952), (vS "=B1" 956), (vS "=B2" 960), (vS "=B3" 964), (vS "=B4" 968), (vS "=B5" 972), (vS "=B6" 976), (vS "=B7" 980), (vS "=B8" 984), (vS "=B9" 988), (vS "=BA" 992), (vS "=BB" 996), (vS "=BC" 1000), (vS "=BD" 1004), (vS "=BE" 1008), (vS "=BF" 1012), (vS "=C0" 1016), (vS "=C1" 1020), (vS "=C2" 1024), (vS "=C3" 1028), (vS "=C4" 1032), (vS "=C5" 1036), (vS "=C6" 1040), (vS "=C7" 1044), (vS "=C8" 1048), (vS "=C9" 1052), (vS "=CA" 1056), (vS "=CB" 1060), (vS "=CC" 1064), (vS "=CD" 1068), (vS "=CE" 1072), (vS "=CF" 1076), (vS "=D0" 1080), (vS "=D1" 1084), (vS "=D2" 1088), (vS "=D3" 1092), (vS "=D4" 1096), (vS "=D5" 1100), (vS "=D6" 1104), (vS "=D7" 1108), (vS "=D8" 1112), (vS "=D9" 1116), (vS "=DA" 1120), (vS "=DB" 1124), (vS "=DC" 1128), (vS "=DD" 1132), (vS "=DE" 1136), (vS "=DF" 1140), (vS "=E0" 1144), (vS "=E1" 1148), (vS "=E2" 1152), (vS "=E3" 1156), (vS "=E4" 1160), (vS "=E5" 1164), (vS "=E6" 1168), (vS "=E7" 1172), (vS "=E8" 1176), (vS "=E9" 1180), (vS "=EA" 1184), (vS "=EB" 1188), (vS "=EC" 1192), (vS "=ED" 1196), (vS "=EE" 1200), (vS "=EF" 1204), (vS "=F0" 1208), (vS "=F1" 1212), (vS "=F2" 1216), (vS "=F3" 1220), (vS "=F4" 1224), (vS "=F5" 1228), (vS "=F6" 1232), (vS "=F7" 1236), (vS "=F8" 1240), (vS "=F9" 1244), (vS "=FA" 1248), (vS "=FB" 1252), (vS "=FC" 1256), (vS "=FD" 1260), (vS "=FE" 1264), (vS "=FF" 1268)] 256), #[]⟩
noncomputable def o532 (P : Params) : Obj := ⟨(Value.type "dict"), none, (Data.dict #[] 2), #[]⟩
noncomputable def o542 (P : Params) : Obj := ⟨(Value.type "tuple"), none, (Data.seq #[] 0), #[]⟩
noncomputable def o552 (P : Params) : Obj := ⟨(Value.type "StopIteration"), none, (Data.fields #[(Value.ref 54), Value.none, Value.none, Value.none, (Value.bool false), Value.none]), #[]⟩
noncomputable def T2 (P : Params) : BT := (.node (boot_o_0 P) (.node (boot_o_1 P) (.node (o32 P) (.node (boot_o_7 P) (.node (o151 P) (.node (o311 P) .nil .nil) (.node (o471 P) .nil .nil)) (.node (o231 P) (.node (o391 P) .nil .nil) (.node (o552 P) .nil .nil))) (.node (o11a P) (.node (o191 P) (.node (o351 P) .nil .nil) (.node (o512 P) .nil .nil)) (.node (o271 P) (.node (o431 P) .nil .nil) .nil))) (.node (boot_o_5 P) (.node (boot_o_9 P) (.node (o171 P) (.node (o331 P) .nil .nil) (.node (o491 P) .nil .nil)) (.node (o251 P) (.node (o411 P) .nil .nil) .nil)) (.node (o13a P) (.node (o211 P) (.node (o371 P) .nil .nil) (.node (o532 P) .nil .nil)) (.node (o291 P) (.node (o451 P) .nil .nil) .nil)))) (.node (boot_o_2 P) (.node (boot_o_4 P) (.node (boot_o_8 P) (.node (o161 P) (.node (o321 P) .nil .nil) (.node (o481 P) .nil .nil)) (.node (o241 P) (.node (o401 P) .nil .nil) .nil)) (.node (o121 P) (.node (o201 P) (.node (o361 P) .nil .nil) (.node (o522 P) .nil .nil)) (.node (o281 P) (.node (o441 P) .nil .nil) .nil))) (.node (boot_o_6 P) (.node (boot_o_10 P) (.node (o181 P) (.node (o341 P) .nil .nil) (.node (o502 P) .nil .nil)) (.node (o261 P) (.node (o421 P) .nil .nil) .nil)) (.node (o14a P) (.node (o221 P) (.node (o381 P) .nil .nil) (.node (o542 P) .nil .nil)) (.node (o301 P) (.node (o461 P) .nil .nil) .nil)))))
noncomputable def o33 (P : Params) : Obj := ⟨(Value.type "dict"), none, (Data.dict #[⟨PyData.keyHash P (Str.ofString "__name__"), (vS "__name__" 165), (vS "cpy313.email.quoprimime" 1285)⟩, ⟨PyData.keyHash P (Str.ofString "__doc__"), (vS "__doc__" 166), Value.none⟩, ⟨PyData.keyHash P (Str.ofString "__package__"), (vS "__package__" 167), Value.none⟩, ⟨PyData.keyHash P (Str.ofString "__loader__"), (vS "__loader__" 168), (Value.builtin "__main__.__loader__#opaque")⟩, ⟨PyData.keyHash P (Str.ofString "__spec__"), (vS "__spec__" 169), Value.none⟩, ⟨PyData.keyHash P (Str.ofString "__annotations__"), (vS "__annotations__" 170), (Value.ref 6)⟩, ⟨PyData.keyHash P (Str.ofString "__builtins__"), (vS "__builtins__" 171), (Value.ref 4)⟩, ⟨PyData.keyHash P (Str.ofString "__file__"), (vS "__file__" 173), (vS "/claim/cut.py" 172)⟩, ⟨PyData.keyHash P (Str.ofString "__cached__"), (vS "__cached__" 174), Value.none⟩, ⟨PyData.keyHash P (Str.ofString "heappush"), (vS "heappush" 196), (Value.ref 21)⟩, ⟨PyData.keyHash P (Str.ofString "heappop"), (vS "heappop" 205), (Value.ref 28)⟩, ⟨PyData.keyHash P (Str.ofString "heapify"), (vS "heapify" 214), (Value.ref 35)⟩, ⟨PyData.keyHash P (Str.ofString "_siftdown"), (vS "_siftdown" 226), (Value.ref 42)⟩, ⟨PyData.keyHash P (Str.ofString "_siftup"), (vS "_siftup" 239), (Value.ref 49)⟩, ⟨PyData.keyHash P (Str.ofString "NL"), (vS "NL" 241), (Value.str (Str.mk #[10]) 240)⟩, ⟨PyData.keyHash P (Str.ofString "_QUOPRI_MAP"), (vS "_QUOPRI_MAP" 1269), (Value.ref 52)⟩, ⟨PyData.keyHash P (Str.ofString "_QUOPRI_HEADER_MAP"), (vS "_QUOPRI_HEADER_MAP" 1270), (Value.ref 57)⟩, ⟨PyData.keyHash P (Str.ofString "_QUOPRI_BODY_MAP"), (vS "_QUOPRI_BODY_MAP" 1271), (Value.ref 59)⟩, ⟨PyData.keyHash P (Str.ofString "ascii_lowercase"), (vS "ascii_lowercase" 1273), (vS "abcdefghijklmnopqrstuvwxyz" 1272)⟩, ⟨PyData.keyHash P (Str.ofString "ascii_uppercase"), (vS "ascii_uppercase" 1275), (vS "ABCDEFGHIJKLMNOPQRSTUVWXYZ" 1274)⟩, ⟨PyData.keyHash P (Str.ofString "ascii_letters"), (vS "ascii_letters" 1277), (vS "abcdefghijklmnopqrstuvwxyzABCDEFGHIJKLMNOPQRSTUVWXYZ" 1276)⟩, ⟨PyData.keyHash P (Str.ofString "digits"), (vS "digits" 1279), (vS "0123456789" 1278)⟩, ⟨PyData.keyHash P (Str.ofString "hexdigits"), (vS "hexdigits" 1284), (vS "0123456789abcdefABCDEF" 1283)⟩] 23), #[]⟩
noncomputable def o563 (P : Params) : Obj := ⟨(Value.type "slice"), none, (Data.fields #[Value.none, Value.none, Value.none]), #[]⟩
noncomputable def o573 (P : Params) : Obj := ⟨(Value.type "list"), none, (Data.seq #[(vS "=00" 248), (vS "=01" 252), (vS "=02" 256), (vS "=03" 260), (vS "=04" 264), (vS "=05" 268), (vS "=06" 272), (vS "=07" 276), (vS "=08" 280), (vS "=09" 284), (vS "=0A" 288), (vS "=0B" 292), (vS "=0C" 296), (vS "=0D" 300), (vS "=0E" 304), (vS "=0F" 308), (vS "=10" 312), (vS "=11" 316), (vS "=12" 320), (vS "=13" 324), (vS "=14" 328), (vS "=15" 332), (vS "=16" 336), (vS "=17" 340), (vS "=18" 344), (vS "=19" 348), (vS "=1A" 352), (vS "=1B" 356), (vS "=1C" 360), (vS "=1D" 364), (vS "=1E" 368), (vS "=1F" 372), (vS "=20" 376), (vS "=21" 380), (vS "=22" 384), (vS "=23" 388), (vS "=24" 392), (vS "=25" 396), (vS "=26" 400), (vS "=27" 404), (vS "=28" 408), (vS "=29" 412), (vS "=2A" 416), (vS "=2B" 420), (vS "=2C" 424), (vS "=2D" 428), (vS "=2E" 432), (vS "=2F" 436), (vS "=30" 440), (vS "=31" 444), (vS "=32" 448), (vS "=33" 452), (vS "=34" 456), (vS "=35" 460), (vS "=36" 464), (vS "=37" 468), (vS "=38" 472), (vS "=39" 476), (vS "=3A" 480), (vS "=3B" 484), (vS "=3C" 488), (vS "=3D" 492), (vS "=3E" 496), (vS "=3F" 500), (vS "=40" 504), (vS "=41" 508), (vS "=42" 512), (vS "=43" 516), (vS "=44" 520), (vS "=45" 524), (vS "=46" 528), (vS "=47" 532), (vS "=48" 536), (vS "=49" 540), (vS "=4A" 544), (vS "=4B" 548), (vS "=4C" 552), (vS "=4D" 556), (vS "=4E" 560), (vS "=4F" 564), (vS "=50" 568), (vS "=51" 572), (vS "=52" 576), (vS "=53" 580), (vS "=54" 584), (vS "=55" 588), (vS "=56" 592), (vS "=57" 596), (vS "=58" 600), (vS "=59" 604), (vS "=5A" 608), (vS "=5B" 612), (vS "=5C" 616), (vS "=5D" 620), (vS "=5E" 624), (vS "=5F" 628), (vS "=60" 632), (vS "=61" 636), (vS "=62" 640), (vS "=63" 644), (vS "=64" 648), (vS "=65" 652), (vS "=66" 656), (vS "=67" 660), (vS "=68" 664), (vS "=69" 668), (vS "=6A" 672), (vS "=6B" 676), (vS "=6C" 680), (vS "=6D" 684), (vS "=6E" 688), (vS "=6F" 692), (vS "=70" 696), (vS "=71" 700), (vS "=72" 704), (vS "=73" 708), (vS "=74" 712), (vS "=75" 716), (vS "=76" 720), (vS "=77" 724), (vS "=78" 728), (vS "=79" 732), (vS "=7A" 736), (vS "=7B" 740), (vS "=7C" 744), (vS "=7D" 748), (vS "=7E" 752), (vS "=7F" 756), (vS "=80" 760), (vS "=81" 764), (vS "=82" 768), (vS "=83" 772), (vS "=84" 776), (vS "=85" 780), (vS "=86" 784), (vS "=87" 788), (vS "=88" 792), (vS "=89" 796), (vS "=8A" 800), (vS "=8B" 804), (vS "=8C" 808), (vS "=8D" 812), (vS "=8E" 816), (vS "=8F" 820), (vS "=90" 824), (vS "=91" 828), (vS "=92" 832), (vS "=93" 836), (vS "=94" 840), (vS "=95" 844), (vS "=96" 848), (vS "=97" 852), (vS "=98" 856), (vS "=99" 860), (vS "=9A" 864), (vS "=9B" 868), (vS "=9C" 872), (vS "=9D" 876), (vS "=9E" 880), (vS "=9F" 884), (vS "=A0" 888), (vS "=A1" 892), (vS "=A2" 896), (vS "=A3" 900), (vS "=A4" 904), (vS "=A5" 908), (vS "=A6" 912), (vS "=A7" 916), (vS "=A8" 920), (vS "=A9" 924), (vS "=AA" 928), (vS "=AB" 932), (vS "=AC" 936), (vS "=AD" 940), (vS "=AE" 944), (vS "=AF" 948), (vS "=B0" 952), (vS "=B1" 956), (vS "=B2" 960), (vS "=B3" 964), (vS "=B4" 968), (vS "=B5" 972), (vS "=B6" 976), (vS "=B7" 980), (vS "=B8" 984), (vS "=B9" 988), (vS "=BA" 992), (vS "=BB" 996), (vS "=BC" 1000), (vS "=BD" 1004), (vS "=BE" 1008), (vS "=BF" 1012), (vS "=C0" 1016), (vS "=C1" 1020), (vS "=C2" 1024), (vS "=C3" 1028), (vS "=C4" 1032), (vS "=C5" 1036), (vS "=C6" 1040), (vS "=C7" 1044), (vS "=C8" 1048), (vS "=C9" 1052), (vS "=CA" 1056), (vS "=CB" 1060), (vS "=CC" 1064), (vS "=CD" 1068), (vS "=CE" 1072), (vS "=CF" 1076), (vS "=D0" 1080), (vS "=D1" 1084), (vS "=D2" 1088), (vS "=D3" 1092), (vS "=D4" 1096), (vS "=D5" 1100), (vS "=D6" 1104), (vS "=D7" 1108), (vS "=D8" 1112), (vS "=D9" 1116), (vS "=DA" 1120), (vS "=DB" 1124), (vS "=DC" 1128), (vS "=DD" 1132), (vS "=DE" 1136), (vS "=DF" 1140), (vS "=E0" 1144), (vS "=E1" 1148), (vS "=E2" 1152), (vS "=E3" 1156), (vS "=E4" 1160), (vS "=E5" 1164), (vS "=E6" 1168), (vS "=E7" 1172), (vS "=E8" 1176), (vS "=E9" 1180), (vS "=EA" 1184), (vS "=EB" 1188), (vS "=EC" 1192), (vS "=ED" 1196), (vS "=EE" 1200), (vS "=EF" 1204), (vS "=F0" 1208), (vS "=F1" 1212), (vS "=F2" 1216), (vS "=F3" 1220), (vS "=F4" 1224), (vS "=F5" 1228), (vS "=F6" 1232), (vS "=F7" 1236), (vS "=F8" 1240), (vS "=F9" 1244), (vS "=FA" 1248), (vS "=FB" 1252), (vS "=FC" 1256), (vS "=FD" 1260), (vS "=FE" 1264), (vS "=FF" 1268)] 0), #[]⟩
noncomputable def o583 (P : Params) : Obj := ⟨(Value.type "slice"), none, (Data.fields #[Value.none, Value.none, Value.none]), #[]⟩
noncomputable def o593 (P : Params) : Obj := ⟨(Value.type "list"), none, (Data.seq #[(vS "=00" 248), (vS "=01" 252), (vS "=02" 256), (vS "=03" 260), (vS "=04" 264), (vS "=05" 268), (vS "=06" 272), (vS "=07" 276), (vS "=08" 280), (vS "=09" 284), (vS "=0A" 288), (vS "=0B" 292), (vS "=0C" 296), (vS "=0D" 300), (vS "=0E" 304), (vS "=0F" 308), (vS "=10" 312), (vS "=11" 316), (vS "=12" 320), (vS "=13" 324), (vS "=14" 328), (vS "=15" 332), (vS "=16" 336), (vS "=17" 340), (vS "=18" 344), (vS "=19" 348), (vS "=1A" 352), (vS "=1B" 356), (vS "=1C" 360), (vS "=1D" 364), (vS "=1E" 368), (vS "=1F" 372), (vS "=20" 376), (vS "=21" 380), (vS "=22" 384), (vS "=23" 388), (vS "=24" 392), (vS "=25" 396), (vS "=26" 400), (vS "=27" 404), (vS "=28" 408), (vS "=29" 412), (vS "=2A" 416), (vS "=2B" 420), (vS "=2C" 424), (vS "=2D" 428), (vS "=2E" 432), (vS "=2F" 436), (vS "=30" 440), (vS "=31" 444), (vS "=32" 448), (vS "=33" 452), (vS "=34" 456), (vS "=35" 460), (vS "=36" 464), (vS "=37" 468), (vS "=38" 472), (vS "=39" 476), (vS "=3A" 480), (vS "=3B" 484), (vS "=3C" 488), (vS "=3D" 492), (vS "=3E" 496), (vS "=3F" 500), (vS "=40" 504), (vS "=41" 508), (vS "=42" 512), (vS "=43" 516), (vS "=44" 520), (vS "=45" 524), (vS "=46" 528), (vS "=47" 532), (vS "=48" 536), (vS "=49" 540), (vS "=4A" 544), (vS "=4B" 548), (vS "=4C" 552), (vS "=4D" 556), (vS "=4E" 560), (vS "=4F" 564), (vS "=50" 568), (vS "=51" 572), (vS "=52" 576), (vS "=53" 580), (vS "=54" 584), (vS "=55" 588), (vS "=56" 592), (vS "=57" 596), (vS "=58" 600), (vS "=59" 604), (vS "=5A" 608), (vS "=5B" 612), (vS "=5C" 616), (vS "=5D" 620), (vS "=5E" 624), (vS "=5F" 628), (vS "=60" 632), (vS "=61" 636), (vS "=62" 640), (vS "=63" 644), (vS "=64" 648), (vS "=65" 652), (vS "=66" 656), (vS "=67" 660), (vS "=68" 664), (vS "=69" 668), (vS "=6A" 672), (vS "=6B" 676), (vS "=6C" 680), (vS "=6D" 684), (vS "=6E" 688), (vS "=6F" 692), (vS "=70" 696), (vS "=71" 700), (vS "=72" 704), (vS "=73" 708), (vS "=74" 712), (vS "=75" 716), (vS "=76" 720), (vS "=77" 724), (vS "=78" 728), (vS "=79" 732), (vS "=7A" 736), (vS "=7B" 740), (vS "=7C" 744), (vS "=7D" 748), (vS "=7E" 752), (vS "=7F" 756), (vS "=80" 760), (vS "=81" 764), (vS "=82" 768), (vS "=83" 772), (vS "=84" 776), (vS "=85" 780), (vS "=86" 784), (vS "=87" 788), (vS "=88" 792), (vS "=89" 796), (vS "=8A" 800), (vS "=8B" 804), (vS "=8C" 808), (vS "=8D" 812), (vS "=8E" 816), (vS "=8F" 820), (vS "=90" 824), (vS "=91" 828), (vS "=92" 832), (vS "=93" 836), (vS "=94" 840), (vS "=95" 844), (vS "=96" 848), (vS "=97" 852), (vS "=98" 856), (vS "=99" 860), (vS "=9A" 864), (vS "=9B" 868), (vS "=9C" 872), (vS "=9D" 876), (vS "=9E" 880), (vS "=9F" 884), (vS "=A0" 888), (vS "=A1" 892), (vS "=A2" 896), (vS "=A3" 900), (vS "=A4" 904), (vS "=A5" 908), (vS "=A6" 912), (vS "=A7" 916), (vS "=A8" 920), (vS "=A9" 924), (vS "=AA" 928), (vS "=AB" 932), (vS "=AC" 936), (vS "=AD" 940), (vS "=AE" 944), (vS "=AF" 948), (vS "=B0" 952), (vS "=B1" 956), (vS "=B2" 960), (vS "=B3" 964), (vS "=B4" 968), (vS "=B5" 972), (vS "=B6" 976), (vS "=B7" 980), (vS "=B8" 984), (vS "=B9" 988), (vS "=BA" 992), (vS "=BB" 996), (vS "=BC" 1000), (vS "=BD" 1004), (vS "=BE" 1008), (vS "=BF" 1012), (vS "=C0" 1016), (vS "=C1" 1020), (vS "=C2" 1024), (vS "=C3" 1028), (vS "=C4" 1032), (vS "=C5" 1036), (vS "=C6" 1040), (vS "=C7" 1044), (vS "=C8" 1048), (vS "=C9" 1052), (vS "=CA" 1056), (vS "=CB" 1060), (vS "=CC" 1064), (vS "=CD" 1068), (vS "=CE" 1072), (vS "=CF" 1076), (vS "=D0" 1080), (vS "=D1" 1084), (vS "=D2" 1088), (vS "=D3" 1092), (vS "=D4" 1096), (vS "=D5" 1100), (vS "=D6" 1104), (vS "=D7" 1108), (vS "=D8" 1112), (vS "=D9" 1116), (vS "=DA" 1120), (vS "=DB" 1124), (vS "=DC" 1128), (vS "=DD" 1132), (vS "=DE" 1136), (vS "=DF" 1140), (vS "=E0" 1144), (vS "=E1" 1148), (vS "=E2" 1152), (vS "=E3" 1156), (vS "=E4" 1160), (vS "=E5" 1164), (vS "=E6" 1168), (vS "=E7" 1172), (vS "=E8" 1176), (vS "=E9" 1180), (vS "=EA" 1184), (vS "=EB" 1188), (vS "=EC" 1192), (vS "=ED" 1196), (vS "=EE" 1200), (vS "=EF" 1204), (vS "=F0" 1208), (vS "=F1" 1212), (vS "=F2" 1216), (vS "=F3" 1220), (vS "=F4" 1224), (vS "=F5" 1228), (vS "=F6" 1232), (vS "=F7" 1236), (vS "=F8" 1240), (vS "=F9" 1244), (vS "=FA" 1248), (vS "=FB" 1252), (vS "=FC" 1256), (vS "=FD" 1260), (vS "=FE" 1264), (vS "=FF" 1268)] 0), #[]⟩
noncomputable def T3 (P : Params) : BT := (.node (boot_o_0 P) (.node (boot_o_1 P) (.node (o33 P) (.node (boot_o_7 P) (.node (o151 P) (.node (o311 P) .nil .nil) (.node (o471 P) .nil .nil)) (.node (o231 P) (.node (o391 P) .nil .nil) (.node (o552 P) .nil .nil))) (.node (o11a P) (.node (o191 P) (.node (o351 P) .nil .nil) (.node (o512 P) .nil .nil)) (.node (o271 P) (.node (o431 P) .nil .nil) (.node (o593 P) .nil .nil)))) (.node (boot_o_5 P) (.node (boot_o_9 P) (.node (o171 P) (.node (o331 P) .nil .nil) (.node (o491 P) .nil .nil)) (.node (o251 P) (.node (o411 P) .nil .nil) (.node (o573 P) .nil .nil))) (.node (o13a P) (.node (o211 P) (.node (o371 P) .nil .nil) (.node (o532 P) .nil .nil)) (.node (o291 P) (.node (o451 P) .nil .nil) .nil)))) (.node (boot_o_2 P) (.node (boot_o_4 P) (.node (boot_o_8 P) (.node (o161 P) (.node (o321 P) .nil .nil) (.node (o481 P) .nil .nil)) (.node (o241 P) (.node (o401 P) .nil .nil) (.node (o563 P) .nil .nil))) (.node (o121 P) (.node (o201 P) (.node (o361 P) .nil .nil) (.node (o522 P) .nil .nil)) (.node (o281 P) (.node (o441 P) .nil .nil) .nil))) (.node (boot_o_6 P) (.node (boot_o_10 P) (.node (o181 P) (.node (o341 P) .nil .nil) (.node (o502 P) .nil .nil)) (.node (o261 P) (.node (o421 P) .nil .nil) (.node (o583 P) .nil .nil))) (.node (o14a P) (.node (o221 P) (.node (o381 P) .nil .nil) (.node (o542 P) .nil .nil)) (.node (o301 P) (.node (o461 P) .nil .nil) .nil)))))
noncomputable def o34 (P : Params) : Obj := ⟨(Value.type "dict"), none, (Data.dict #[⟨PyData.keyHash P (Str.ofString "__name__"), (vS "__name__" 165), (vS "cpy313.email.quoprimime" 1285)⟩, ⟨PyData.keyHash P (Str.ofString "__doc__"), (vS "__doc__" 166), Value.none⟩, ⟨PyData.keyHash P (Str.ofString "__package__"), (vS "__package__" 167), Value.none⟩, ⟨PyData.keyHash P (Str.ofString "__loader__"), (vS "__loader__" 168), (Value.builtin "__main__.__loader__#opaque")⟩, ⟨PyData.keyHash P (Str.ofString "__spec__"), (vS "__spec__" 169), Value.none⟩, ⟨PyData.keyHash P (Str.ofString "__annotations__"), (vS "__annotations__" 170), (Value.ref 6)⟩, ⟨PyData.keyHash P (Str.ofString "__builtins__"), (vS "__builtins__" 171), (Value.ref 4)⟩, ⟨PyData.keyHash P (Str.ofString "__file__"), (vS "__file__" 173), (vS "/claim/cut.py" 172)⟩, ⟨PyData.keyHash P (Str.ofString "__cached__"), (vS "__cached__" 174), Value.none⟩, ⟨PyData.keyHash P (Str.ofString "heappush"), (vS "heappush" 196), (Value.ref 21)⟩, ⟨PyData.keyHash P (Str.ofString "heappop"), (vS "heappop" 205), (Value.ref 28)⟩, ⟨PyData.keyHash P (Str.ofString "heapify"), (vS "heapify" 214), (Value.ref 35)⟩, ⟨PyData.keyHash P (Str.ofString "_siftdown"), (vS "_siftdown" 226), (Value.ref 42)⟩, ⟨PyData.keyHash P (Str.ofString "_siftup"), (vS "_siftup" 239), (Value.ref 49)⟩, ⟨PyData.keyHash P (Str.ofString "NL"), (vS "NL" 241), (Value.str (Str.mk #[10]) 240)⟩, ⟨PyData.keyHash P (Str.ofString "_QUOPRI_MAP"), (vS "_QUOPRI_MAP" 1269), (Value.ref 52)⟩, ⟨PyData.keyHash P (Str.ofString "_QUOPRI_HEADER_MAP"), (vS "_QUOPRI_HEADER_MAP" 1270), (Value.ref 57)⟩, ⟨PyData.keyHash P (Str.ofString "_QUOPRI_BODY_MAP"), (vS "_QUOPRI_BODY_MAP" 1271), (Value.ref 59)⟩, ⟨PyData.keyHash P (Str.ofString "ascii_lowercase"), (vS "ascii_lowercase" 1273), (vS "abcdefghijklmnopqrstuvwxyz" 1272)⟩, ⟨PyData.keyHash P (Str.ofString "ascii_uppercase"), (vS "ascii_uppercase" 1275), (vS "ABCDEFGHIJKLMNOPQRSTUVWXYZ" 1274)⟩, ⟨PyData.keyHash P (Str.ofString "ascii_letters"), (vS "ascii_letters" 1277), (vS "abcdefghijklmnopqrstuvwxyzABCDEFGHIJKLMNOPQRSTUVWXYZ" 1276)⟩, ⟨PyData.keyHash P (Str.ofString "digits"), (vS "digits" 1279), (vS "0123456789" 1278)⟩, ⟨PyData.keyHash P (Str.ofString "hexdigits"), (vS "hexdigits" 1284), (vS "0123456789abcdefABCDEF" 1283)⟩, ⟨PyData.keyHash P (Str.ofString "c"), (vS "c" 1295), (Value.int 57 1492)⟩] 24), #[]⟩
noncomputable def o574 (P : Params) : Obj := ⟨(Value.type "list"), none, (Data.seq #[(vS "=00" 248), (vS "=01" 252), (vS "=02" 256), (vS "=03" 260), (vS "=04" 264), (vS "=05" 268), (vS "=06" 272), (vS "=07" 276), (vS "=08" 280), (vS "=09" 284), (vS "=0A" 288), (vS "=0B" 292), (vS "=0C" 296), (vS "=0D" 300), (vS "=0E" 304), (vS "=0F" 308), (vS "=10" 312), (vS "=11" 316), (vS "=12" 320), (vS "=13" 324), (vS "=14" 328), (vS "=15" 332), (vS "=16" 336), (vS "=17" 340), (vS "=18" 344), (vS "=19" 348), (vS "=1A" 352), (vS "=1B" 356), (vS "=1C" 360), (vS "=1D" 364), (vS "=1E" 368), (vS "=1F" 372), (vS "=20" 376), (vS "!" 1299), (vS "=22" 384), (vS "=23" 388), (vS "=24" 392), (vS "=25" 396), (vS "=26" 400), (vS "=27" 404), (vS "=28" 408), (vS "=29" 412), (vS "*" 1302), (vS "+" 1305), (vS "=2C" 424), (vS "-" 1296), (vS "=2E" 432), (vS "/" 1308), (vS "0" 1467), (vS "1" 1470), (vS "2" 1473), (vS "3" 1476), (vS "4" 1479), (vS "5" 1482), (vS "6" 1485), (vS "7" 1488), (vS "8" 1491), (vS "9" 1494), (vS "=3A" 480), (vS "=3B" 484), (vS "=3C" 488), (vS "=3D" 492), (vS "=3E" 496), (vS "=3F" 500), (vS "=40" 504), (vS "A" 1389), (vS "B" 1392), (vS "C" 1395), (vS "D" 1398), (vS "E" 1401), (vS "F" 1404), (vS "G" 1407), (vS "H" 1410), (vS "I" 1413), (vS "J" 1416), (vS "K" 1419), (vS "L" 1422), (vS "M" 1425), (vS "N" 1428), (vS "O" 1431), (vS "P" 1434), (vS "Q" 1437), (vS "R" 1440), (vS "S" 1443), (vS "T" 1446), (vS "U" 1449), (vS "V" 1452), (vS "W" 1455), (vS "X" 1458), (vS "Y" 1461), (vS "Z" 1464), (vS "=5B" 612), (vS "=5C" 616), (vS "=5D" 620), (vS "=5E" 624), (vS "=5F" 628), (vS "=60" 632), (vS "a" 1311), (vS "b" 1314), (vS "c" 1317), (vS "d" 1320), (vS "e" 1323), (vS "f" 1326), (vS "g" 1329), (vS "h" 1332), (vS "i" 1335), (vS "j" 1338), (vS "k" 1341), (vS "l" 1344), (vS "m" 1347), (vS "n" 1350), (vS "o" 1353), (vS "p" 1356), (vS "q" 1359), (vS "r" 1362), (vS "s" 1365), (vS "t" 1368), (vS "u" 1371), (vS "v" 1374), (vS "w" 1377), (vS "x" 1380), (vS "y" 1383), (vS "z" 1386), (vS "=7B" 740), (vS "=7C" 744), (vS "=7D" 748), (vS "=7E" 752), (vS "=7F" 756), (vS "=80" 760), (vS "=81" 764), (vS "=82" 768), (vS "=83" 772), (vS "=84" 776), (vS "=85" 780), (vS "=86" 784), (vS "=87" 788), (vS "=88" 792), (vS "=89" 796), (vS "=8A" 800), (vS "=8B" 804), (vS "=8C" 808), (vS "=8D" 812), (vS "=8E" 816), (vS "=8F" 820), (vS "=90" 824), (vS "=91" 828), (vS "=92" 832), (vS "=93" 836), (vS "=94" 840), (vS "=95" 844), (vS "=96" 848), (vS "=97" 852), (vS "=98" 856), (vS "=99" 860), (vS "=9A" 864), (vS "=9B" 868), (vS "=9C" 872), (vS "=9D" 876), (vS "=9E" 880), (vS "=9F" 884), (vS "=A0" 888), (vS "=A1" 892), (vS "=A2" 896), (vS "=A3" 900), (vS "=A4" 904), (vS "=A5" 908), (vS "=A6" 912), (vS "=A7" 916), (vS "=A8" 920), (vS "=A9" 924), (vS "=AA" 928), (vS "=AB" 932), (vS "=AC" 936), (vS "=AD" 940), (vS "=AE" 944), (vS "=AF" 948), (vS "=B0" 952), (vS "=B1" 956), (vS "=B2" 960), (vS "=B3" 964), (vS "=B4" 968), (vS "=B5" 972), (vS "=B6" 976), (vS "=B7" 980), (vS "=B8" 984), (vS "=B9" 988), (vS "=BA" 992), (vS "=BB" 996), (vS "=BC" 1000), (vS "=BD" 1004), (vS "=BE" 1008), (vS "=BF" 1012), (vS "=C0" 1016), (vS "=C1" 1020), (vS "=C2" 1024), (vS "=C3" 1028), (vS "=C4" 1032), (vS "=C5" 1036), (vS "=C6" 1040), (vS "=C7" 1044), (vS "=C8" 1048), (vS "=C9" 1052), (vS "=CA" 1056), (vS "=CB" 1060), (vS "=CC" 1064), (vS "=CD" 1068), (vS "=CE" 1072), (vS "=CF" 1076), (vS "=D0" 1080), (vS "=D1" 1084), (vS "=D2" 1088), (vS "=D3" 1092), (vS "=D4" 1096), (vS "=D5" 1100), (vS "=D6" 1104), (vS "=D7" 1108), (vS "=D8" 1112), (vS "=D9" 1116), (vS "=DA" 1120), (vS "=DB" 1124), (vS "=DC" 1128), (vS "=DD" 1132), (vS "=DE" 1136), (vS "=DF" 1140), (vS "=E0" 1144), (vS "=E1" 1148), (vS "=E2" 1152), (vS "=E3" 1156), (vS "=E4" 1160), (vS "=E5" 1164), (vS "=E6" 1168), (vS "=E7" 1172), (vS "=E8" 1176), (vS "=E9" 1180), (vS "=EA" 1184), (vS "=EB" 1188), (vS "=EC" 1192), (vS "=ED" 1196), (vS "=EE" 1200), (vS "=EF" 1204), (vS "=F0" 1208), (vS "=F1" 1212), (vS "=F2" 1216), (vS "=F3" 1220), (vS "=F4" 1224), (vS "=F5" 1228), (vS "=F6" 1232), (vS "=F7" 1236), (vS "=F8" 1240), (vS "=F9" 1244), (vS "=FA" 1248), (vS "=FB" 1252), (vS "=FC" 1256), (vS "=FD" 1260), (vS "=FE" 1264), (vS "=FF" 1268)] 0), #[]⟩
noncomputable def o604 (P : Params) : Obj := ⟨(Value.type "bytes_iterator"), none, (Data.fields #[Value.none, (Value.int 67 0)]), #[]⟩
noncomputable def o614 (P : Params) : Obj := ⟨(Value.type "tuple"), none, (Data.seq #[] 0), #[]⟩
noncomputable def o624 (P : Params) : Obj := ⟨(Value.type "StopIteration"), none, (Data.fields #[(Value.ref 61), Value.none, Value.none, Value.none, (Value.bool false), Value.none]), #[]⟩
noncomputable def T4 (P : Params) : BT := (.node (boot_o_0 P) (.node (boot_o_1 P) (.node (o34 P) (.node (boot_o_7 P) (.node (o151 P) (.node (o311 P) .nil .nil) (.node (o471 P) .nil .nil)) (.node (o231 P) (.node (o391 P) .nil .nil) (.node (o552 P) .nil .nil))) (.node (o11a P) (.node (o191 P) (.node (o351 P) .nil .nil) (.node (o512 P) .nil .nil)) (.node (o271 P) (.node (o431 P) .nil .nil) (.node (o593 P) .nil .nil)))) (.node (boot_o_5 P) (.node (boot_o_9 P) (.node (o171 P) (.node (o331 P) .nil .nil) (.node (o491 P) .nil .nil)) (.node (o251 P) (.node (o411 P) .nil .nil) (.node (o574 P) .nil .nil))) (.node (o13a P) (.node (o211 P) (.node (o371 P) .nil .nil) (.node (o532 P) .nil .nil)) (.node (o291 P) (.node (o451 P) .nil .nil) (.node (o614 P) .nil .nil))))) (.node (boot_o_2 P) (.node (boot_o_4 P) (.node (boot_o_8 P) (.node (o161 P) (.node (o321 P) .nil .nil) (.node (o481 P) .nil .nil)) (.node (o241 P) (.node (o401 P) .nil .nil) (.node (o563 P) .nil .nil))) (.node (o121 P) (.node (o201 P) (.node (o361 P) .nil .nil) (.node (o522 P) .nil .nil)) (.node (o281 P) (.node (o441 P) .nil .nil) (.node (o604 P) .nil .nil)))) (.node (boot_o_6 P) (.node (boot_o_10 P) (.node (o181 P) (.node (o341 P) .nil .nil) (.node (o502 P) .nil .nil)) (.node (o261 P) (.node (o421 P) .nil .nil) (.node (o583 P) .nil .nil))) (.node (o14a P) (.node (o221 P) (.node (o381 P) .nil .nil) (.node (o542 P) .nil .nil)) (.node (o301 P) (.node (o461 P) .nil .nil) (.node (o624 P) .nil .nil))))))
noncomputable def o575 (P : Params) : Obj := ⟨(Value.type "list"), none, (Data.seq #[(vS "=00" 248), (vS "=01" 252), (vS "=02" 256), (vS "=03" 260), (vS "=04" 264), (vS "=05" 268), (vS "=06" 272), (vS "=07" 276), (vS "=08" 280), (vS "=09" 284), (vS "=0A" 288), (vS "=0B" 292), (vS "=0C" 296), (vS "=0D" 300), (vS "=0E" 304), (vS "=0F" 308), (vS "=10" 312), (vS "=11" 316), (vS "=12" 320), (vS "=13" 324), (vS "=14" 328), (vS "=15" 332), (vS "=16" 336), (vS "=17" 340), (vS "=18" 344), (vS "=19" 348), (vS "=1A" 352), (vS "=1B" 356), (vS "=1C" 360), (vS "=1D" 364), (vS "=1E" 368), (vS "=1F" 372), (vS "_" 1495), (vS "!" 1299), (vS "=22" 384), (vS "=23" 388), (vS "=24" 392), (vS "=25" 396), (vS "=26" 400), (vS "=27" 404), (vS "=28" 408), (vS "=29" 412), (vS "*" 1302), (vS "+" 1305), (vS "=2C" 424), (vS "-" 1296), (vS "=2E" 432), (vS "/" 1308), (vS "0" 1467), (vS "1" 1470), (vS "2" 1473), (vS "3" 1476), (vS "4" 1479), (vS "5" 1482), (vS "6" 1485), (vS "7" 1488), (vS "8" 1491), (vS "9" 1494), (vS "=3A" 480), (vS "=3B" 484), (vS "=3C" 488), (vS "=3D" 492), (vS "=3E" 496), (vS "=3F" 500), (vS "=40" 504), (vS "A" 1389), (vS "B" 1392), (vS "C" 1395), (vS "D" 1398), (vS "E" 1401), (vS "F" 1404), (vS "G" 1407), (vS "H" 1410), (vS "I" 1413), (vS "J" 1416), (vS "K" 1419), (vS "L" 1422), (vS "M" 1425), (vS "N" 1428), (vS "O" 1431), (vS "P" 1434), (vS "Q" 1437), (vS "R" 1440), (vS "S" 1443), (vS "T" 1446), (vS "U" 1449), (vS "V" 1452), (vS "W" 1455), (vS "X" 1458), (vS "Y" 1461), (vS "Z" 1464), (vS "=5B" 612), (vS "=5C" 616), (vS "=5D" 620), (vS "=5E" 624), (vS "=5F" 628), (vS "=60" 632), (vS "a" 1311), (vS "b" 1314), (vS "c" 1317), (vS "d" 1320), (vS "e" 1323), (vS "f" 1326), (vS "g" 1329), (vS "h" 1332), (vS "i" 1335), (vS "j" 1338), (vS "k" 1341), (vS "l" 1344), (vS "m" 1347), (vS "n" 1350), (vS "o" 1353), (vS "p" 1356), (vS "q" 1359), (vS "r" 1362), (vS "s" 1365), (vS "t" 1368), (vS "u" 1371), (vS "v" 1374), (vS "w" 1377), (vS "x" 1380), (vS "y" 1383), (vS "z" 1386), (vS "=7B" 740), (vS "=7C" 744), (vS "=7D" 748), (vS "=7E" 752), (vS "=7F" 756), (vS "=80" 760), (vS "=81" 764), (vS "=82" 768), (vS "=83" 772), (vS "=84" 776), (vS "=85" 780), (vS "=86" 784), (vS "=87" 788), (vS "=88" 792), (vS "=89" 796), (vS "=8A" 800), (vS "=8B" 804), (vS "=8C" 808), (vS "=8D" 812), (vS "=8E" 816), (vS "=8F" 820), (vS "=90" 824), (vS "=91" 828), (vS "=92" 832), (vS "=93" 836), (vS "=94" 840), (vS "=95" 844), (vS "=96" 848), (vS "=97" 852), (vS "=98" 856), (vS "=99" 860), (vS "=9A" 864), (vS "=9B" 868), (vS "=9C" 872), (vS "=9D" 876), (vS "=9E" 880), (vS "=9F" 884), (vS "=A0" 888), (vS "=A1" 892), (vS "=A2" 896), (vS "=A3" 900), (vS "=A4" 904), (vS "=A5" 908), (vS "=A6" 912), (vS "=A7" 916), (vS "=A8" 920), (vS "=A9" 924), (vS "=AA" 928), (vS "=AB" 932), (vS "=AC" 936), (vS "=AD" 940), (vS "=AE" 944), (vS "=AF" 948), (vS "=B0" 952), (vS "=B1" 956), (vS "=B2" 960), (vS "=B3" 964), (vS "=B4" 968), (vS "=B5" 972), (vS "=B6" 976), (vS "=B7" 980), (vS "=B8" 984), (vS "=B9" 988), (vS "=BA" 992), (vS "=BB" 996), (vS "=BC" 1000), (vS "=BD" 1004), (vS "=BE" 1008), (vS "=BF" 1012), (vS "=C0" 1016), (vS "=C1" 1020), (vS "=C2" 1024), (vS "=C3" 1028), (vS "=C4" 1032), (vS "=C5" 1036), (vS "=C6" 1040), (vS "=C7" 1044), (vS "=C8" 1048), (vS "=C9" 1052), (vS "=CA" 1056), (vS "=CB" 1060), (vS "=CC" 1064), (vS "=CD" 1068), (vS "=CE" 1072), (vS "=CF" 1076), (vS "=D0" 1080), (vS "=D1" 1084), (vS "=D2" 1088), (vS "=D3" 1092), (vS "=D4" 1096), (vS "=D5" 1100), (vS "=D6" 1104), (vS "=D7" 1108), (vS "=D8" 1112), (vS "=D9" 1116), (vS "=DA" 1120), (vS "=DB" 1124), (vS "=DC" 1128), (vS "=DD" 1132), (vS "=DE" 1136), (vS "=DF" 1140), (vS "=E0" 1144), (vS "=E1" 1148), (vS "=E2" 1152), (vS "=E3" 1156), (vS "=E4" 1160), (vS "=E5" 1164), (vS "=E6" 1168), (vS "=E7" 1172), (vS "=E8" 1176), (vS "=E9" 1180), (vS "=EA" 1184), (vS "=EB" 1188), (vS "=EC" 1192), (vS "=ED" 1196), (vS "=EE" 1200), (vS "=EF" 1204), (vS "=F0" 1208), (vS "=F1" 1212), (vS "=F2" 1216), (vS "=F3" 1220), (vS "=F4" 1224), (vS "=F5" 1228), (vS "=F6" 1232), (vS "=F7" 1236), (vS "=F8" 1240), (vS "=F9" 1244), (vS "=FA" 1248), (vS "=FB" 1252), (vS "=FC" 1256), (vS "=FD" 1260), (vS "=FE" 1264), (vS "=FF" 1268)] 0), #[]⟩
noncomputable def T5 (P : Params) : BT := (.node (boot_o_0 P) (.node (boot_o_1 P) (.node (o34 P) (.node (boot_o_7 P) (.node (o151 P) (.node (o311 P) .nil .nil) (.node (o471 P) .nil .nil)) (.node (o231 P) (.node (o391 P) .nil .nil) (.node (o552 P) .nil .nil))) (.node (o11a P) (.node (o191 P) (.node (o351 P) .nil .nil) (.node (o512 P) .nil .nil)) (.node (o271 P) (.node (o431 P) .nil .nil) (.node (o593 P) .nil .nil)))) (.node (boot_o_5 P) (.node (boot_o_9 P) (.node (o171 P) (.node (o331 P) .nil .nil) (.node (o491 P) .nil .nil)) (.node (o251 P) (.node (o411 P) .nil .nil) (.node (o575 P) .nil .nil))) (.node (o13a P) (.node (o211 P) (.node (o371 P) .nil .nil) (.node (o532 P) .nil .nil)) (.node (o291 P) (.node (o451 P) .nil .nil) (.node (o614 P) .nil .nil))))) (.node (boot_o_2 P) (.node (boot_o_4 P) (.node (boot_o_8 P) (.node (o161 P) (.node (o321 P) .nil .nil) (.node (o481 P) .nil .nil)) (.node (o241 P) (.node (o401 P) .nil .nil) (.node (o563 P) .nil .nil))) (.node (o121 P) (.node (o201 P) (.node (o361 P) .nil .nil) (.node (o522 P) .nil .nil)) (.node (o281 P) (.node (o441 P) .nil .nil) (.node (o604 P) .nil .nil)))) (.node (boot_o_6 P) (.node (boot_o_10 P) (.node (o181 P) (.node (o341 P) .nil .nil) (.node (o502 P) .nil .nil)) (.node (o261 P) (.node (o421 P) .nil .nil) (.node (o583 P) .nil .nil))) (.node (o14a P) (.node (o221 P) (.node (o381 P) .nil .nil) (.node (o542 P) .nil .nil)) (.node (o301 P) (.node (o461 P) .nil .nil) (.node (o624 P) .nil .nil))))))
noncomputable def o36 (P : Params) : Obj := ⟨(Value.type "dict"), none, (Data.dict #[⟨PyData.keyHash P (Str.ofString "__name__"), (vS "__name__" 165), (vS "cpy313.email.quoprimime" 1285)⟩, ⟨PyData.keyHash P (Str.ofString "__doc__"), (vS "__doc__" 166), Value.none⟩, ⟨PyData.keyHash P (Str.ofString "__package__"), (vS "__package__" 167), Value.none⟩, ⟨PyData.keyHash P (Str.ofString "__loader__"), (vS "__loader__" 168), (Value.builtin "__main__.__loader__#opaque")⟩, ⟨PyData.keyHash P (Str.ofString "__spec__"), (vS "__spec__" 169), Value.none⟩, ⟨PyData.keyHash P (Str.ofString "__annotations__"), (vS "__annotations__" 170), (Value.ref 6)⟩, ⟨PyData.keyHash P (Str.ofString "__builtins__"), (vS "__builtins__" 171), (Value.ref 4)⟩, ⟨PyData.keyHash P (Str.ofString "__file__"), (vS "__file__" 173), (vS "/claim/cut.py" 172)⟩, ⟨PyData.keyHash P (Str.ofString "__cached__"), (vS "__cached__" 174), Value.none⟩, ⟨PyData.keyHash P (Str.ofString "heappush"), (vS "heappush" 196), (Value.ref 21)⟩, ⟨PyData.keyHash P (Str.ofString "heappop"), (vS "heappop" 205), (Value.ref 28)⟩, ⟨PyData.keyHash P (Str.ofString "heapify"), (vS "heapify" 214), (Value.ref 35)⟩, ⟨PyData.keyHash P (Str.ofString "_siftdown"), (vS "_siftdown" 226), (Value.ref 42)⟩, ⟨PyData.keyHash P (Str.ofString "_siftup"), (vS "_siftup" 239), (Value.ref 49)⟩, ⟨PyData.keyHash P (Str.ofString "NL"), (vS "NL" 241), (Value.str (Str.mk #[10]) 240)⟩, ⟨PyData.keyHash P (Str.ofString "_QUOPRI_MAP"), (vS "_QUOPRI_MAP" 1269), (Value.ref 52)⟩, ⟨PyData.keyHash P (Str.ofString "_QUOPRI_HEADER_MAP"), (vS "_QUOPRI_HEADER_MAP" 1270), (Value.ref 57)⟩, ⟨PyData.keyHash P (Str.ofString "_QUOPRI_BODY_MAP"), (vS "_QUOPRI_BODY_MAP" 1271), (Value.ref 59)⟩, ⟨PyData.keyHash P (Str.ofString "ascii_lowercase"), (vS "ascii_lowercase" 1273), (vS "abcdefghijklmnopqrstuvwxyz" 1272)⟩, ⟨PyData.keyHash P (Str.ofString "ascii_uppercase"), (vS "ascii_uppercase" 1275), (vS "ABCDEFGHIJKLMNOPQRSTUVWXYZ" 1274)⟩, ⟨PyData.keyHash P (Str.ofString "ascii_letters"), (vS "ascii_letters" 1277), (vS "abcdefghijklmnopqrstuvwxyzABCDEFGHIJKLMNOPQRSTUVWXYZ" 1276)⟩, ⟨PyData.keyHash P (Str.ofString "digits"), (vS "digits" 1279), (vS "0123456789" 1278)⟩, ⟨PyData.keyHash P (Str.ofString "hexdigits"), (vS "hexdigits" 1284), (vS "0123456789abcdefABCDEF" 1283)⟩, ⟨PyData.keyHash P (Str.ofString "c"), (vS "c" 1295), (Value.int 9 1781)⟩] 24), #[]⟩
noncomputable def o596 (P : Params) : Obj := ⟨(Value.type "list"), none, (Data.seq #[(vS "=00" 248), (vS "=01" 252), (vS "=02" 256), (vS "=03" 260), (vS "=04" 264), (vS "=05" 268), (vS "=06" 272), (vS "=07" 276), (vS "=08" 280), (Value.str (Str.mk #[9]) 1783), (vS "=0A" 288), (vS "=0B" 292), (vS "=0C" 296), (vS "=0D" 300), (vS "=0E" 304), (vS "=0F" 308), (vS "=10" 312), (vS "=11" 316), (vS "=12" 320), (vS "=13" 324), (vS "=14" 328), (vS "=15" 332), (vS "=16" 336), (vS "=17" 340), (vS "=18" 344), (vS "=19" 348), (vS "=1A" 352), (vS "=1B" 356), (vS "=1C" 360), (vS "=1D" 364), (vS "=1E" 368), (vS "=1F" 372), (vS " " 1501), (vS "!" 1504), (Value.str (Str.ofString "\"") 1507), (vS "#" 1510), (vS "$" 1513), (vS "%" 1516), (vS "&" 1519), (vS "'" 1522), (vS "(" 1525), (vS ")" 1528), (vS "*" 1531), (vS "+" 1534), (vS "," 1537), (vS "-" 1540), (vS "." 1543), (vS "/" 1546), (vS "0" 1549), (vS "1" 1552), (vS "2" 1555), (vS "3" 1558), (vS "4" 1561), (vS "5" 1564), (vS "6" 1567), (vS "7" 1570), (vS "8" 1573), (vS "9" 1576), (vS ":" 1579), (vS ";" 1582), (vS "<" 1585), (vS "=3D" 492), (vS ">" 1588), (vS "?" 1591), (vS "@" 1594), (vS "A" 1597), (vS "B" 1600), (vS "C" 1603), (vS "D" 1606), (vS "E" 1609), (vS "F" 1612), (vS "G" 1615), (vS "H" 1618), (vS "I" 1621), (vS "J" 1624), (vS "K" 1627), (vS "L" 1630), (vS "M" 1633), (vS "N" 1636), (vS "O" 1639), (vS "P" 1642), (vS "Q" 1645), (vS "R" 1648), (vS "S" 1651), (vS "T" 1654), (vS "U" 1657), (vS "V" 1660), (vS "W" 1663), (vS "X" 1666), (vS "Y" 1669), (vS "Z" 1672), (vS "[" 1675), (Value.str (Str.ofString "\\") 1678), (vS "]" 1681), (vS "^" 1684), (vS "_" 1687), (vS "`" 1690), (vS "a" 1693), (vS "b" 1696), (vS "c" 1699), (vS "d" 1702), (vS "e" 1705), (vS "f" 1708), (vS "g" 1711), (vS "h" 1714), (vS "i" 1717), (vS "j" 1720), (vS "k" 1723), (vS "l" 1726), (vS "m" 1729), (vS "n" 1732), (vS "o" 1735), (vS "p" 1738), (vS "q" 1741), (vS "r" 1744), (vS "s" 1747), (vS "t" 1750), (vS "u" 1753), (vS "v" 1756), (vS "w" 1759), (vS "x" 1762), (vS "y" 1765), (vS "z" 1768), (vS "{" 1771), (vS "|" 1774), (vS "}" 1777), (vS "~" 1780), (vS "=7F" 756), (vS "=80" 760), (vS "=81" 764), (vS "=82" 768), (vS "=83" 772), (vS "=84" 776), (vS "=85" 780), (vS "=86" 784), (vS "=87" 788), (vS "=88" 792), (vS "=89" 796), (vS "=8A" 800), (vS "=8B" 804), (vS "=8C" 808), (vS "=8D" 812), (vS "=8E" 816), (vS "=8F" 820), (vS "=90" 824), (vS "=91" 828), (vS "=92" 832), (vS "=93" 836), (vS "=94" 840), (vS "=95" 844), (vS "=96" 848), (vS "=97" 852), (vS "=98" 856), (vS "=99" 860), (vS "=9A" 864), (vS "=9B" 868), (vS "=9C" 872), (vS "=9D" 876), (vS "=9E" 880), (vS "=9F" 884), (vS "=A0" 888), (vS "=A1" 892), (vS "=A2" 896), (vS "=A3" 900), (vS "=A4" 904), (vS "=A5" 908), (vS "=A6" 912), (vS "=A7" 916), (vS "=A8" 920), (vS "=A9" 924), (vS "=AA" 928), (vS "=AB" 932), (vS "=AC" 936), (vS "=AD" 940), (vS "=AE" 944), (vS "=AF" 948), (vS "=B0" 952), (vS "=B1" 956), (vS "=B2" 960), (vS "=B3" 964), (vS "=B4" 968), (vS "=B5" 972), (vS "=B6" 976), (vS "=B7" 980), (vS "=B8" 984), (vS "=B9" 988), (vS "=BA" 992), (vS "=BB" 996), (vS "=BC" 1000), (vS "=BD" 1004), (vS "=BE" 1008), (vS "=BF" 1012), (vS "=C0" 1016), (vS "=C1" 1020), (vS "=C2" 1024), (vS "=C3" 1028), (vS "=C4" 1032), (vS "=C5" 1036), (vS "=C6" 1040), (vS "=C7" 1044), (vS "=C8" 1048), (vS "=C9" 1052), (vS "=CA" 1056), (vS "=CB" 1060), (vS "=CC" 1064), (vS "=CD" 1068), (vS "=CE" 1072), (vS "=CF" 1076), (vS "=D0" 1080), (vS "=D1" 1084), (vS "=D2" 1088), (vS "=D3" 1092), (vS "=D4" 1096), (vS "=D5" 1100), (vS "=D6" 1104), (vS "=D7" 1108), (vS "=D8" 1112), (vS "=D9" 1116), (vS "=DA" 1120), (vS "=DB" 1124), (vS "=DC" 1128), (vS "=DD" 1132), (vS "=DE" 1136), (vS "=DF" 1140), (vS "=E0" 1144), (vS "=E1" 1148), (vS "=E2" 1152), (vS "=E3" 1156), (vS "=E4" 1160), (vS "=E5" 1164), (vS "=E6" 1168), (vS "=E7" 1172), (vS "=E8" 1176), (vS "=E9" 1180), (vS "=EA" 1184), (vS "=EB" 1188), (vS "=EC" 1192), (vS "=ED" 1196), (vS "=EE" 1200), (vS "=EF" 1204), (vS "=F0" 1208), (vS "=F1" 1212), (vS "=F2" 1216), (vS "=F3" 1220), (vS "=F4" 1224), (vS "=F5" 1228), (vS "=F6" 1232), (vS "=F7" 1236), (vS "=F8" 1240), (vS "=F9" 1244), (vS "=FA" 1248), (vS "=FB" 1252), (vS "=FC" 1256), (vS "=FD" 1260), (vS "=FE" 1264), (vS "=FF" 1268)] 0), #[]⟩
noncomputable def o636 (P : Params) : Obj := ⟨(Value.type "bytes_iterator"), none, (Data.fields #[Value.none, (Value.int 95 0)]), #[]⟩
noncomputable def o646 (P : Params) : Obj := ⟨(Value.type "tuple"), none, (Data.seq #[] 0), #[]⟩
noncomputable def o656 (P : Params) : Obj := ⟨(Value.type "StopIteration"), none, (Data.fields #[(Value.ref 64), Value.none, Value.none, Value.none, (Value.bool false), Value.none]), #[]⟩
noncomputable def T6 (P : Params) : BT := (.node (boot_o_0 P) (.node (boot_o_1 P) (.node (o36 P) (.node (boot_o_7 P) (.node (o151 P) (.node (o311 P) (.node (o636 P) .nil .nil) .nil) (.node (o471 P) .nil .nil)) (.node (o231 P) (.node (o391 P) .nil .nil) (.node (o552 P) .nil .nil))) (.node (o11a P) (.node (o191 P) (.node (o351 P) .nil .nil) (.node (o512 P) .nil .nil)) (.node (o271 P) (.node (o431 P) .nil .nil) (.node (o596 P) .nil .nil)))) (.node (boot_o_5 P) (.node (boot_o_9 P) (.node (o171 P) (.node (o331 P) (.node (o656 P) .nil .nil) .nil) (.node (o491 P) .nil .nil)) (.node (o251 P) (.node (o411 P) .nil .nil) (.node (o575 P) .nil .nil))) (.node (o13a P) (.node (o211 P) (.node (o371 P) .nil .nil) (.node (o532 P) .nil .nil)) (.node (o291 P) (.node (o451 P) .nil .nil) (.node (o614 P) .nil .nil))))) (.node (boot_o_2 P) (.node (boot_o_4 P) (.node (boot_o_8 P) (.node (o161 P) (.node (o321 P) (.node (o646 P) .nil .nil) .nil) (.node (o481 P) .nil .nil)) (.node (o241 P) (.node (o401 P) .nil .nil) (.node (o563 P) .nil .nil))) (.node (o121 P) (.node (o201 P) (.node (o361 P) .nil .nil) (.node (o522 P) .nil .nil)) (.node (o281 P) (.node (o441 P) .nil .nil) (.node (o604 P) .nil .nil)))) (.node (boot_o_6 P) (.node (boot_o_10 P) (.node (o181 P) (.node (o341 P) .nil .nil) (.node (o502 P) .nil .nil)) (.node (o261 P) (.node (o421 P) .nil .nil) (.node (o583 P) .nil .nil))) (.node (o14a P) (.node (o221 P) (.node (o381 P) .nil .nil) (.node (o542 P) .nil .nil)) (.node (o301 P) (.node (o461 P) .nil .nil) (.node (o624 P) .nil .nil))))))
noncomputable def o3f (P : Params) : Obj := ⟨(Value.type "dict"), none, (Data.dict #[⟨PyData.keyHash P (Str.ofString "__name__"), (vS "__name__" 165), (vS "law_op0073_01" 1832)⟩, ⟨PyData.keyHash P (Str.ofString "__doc__"), (vS "__doc__" 166), Value.none⟩, ⟨PyData.keyHash P (Str.ofString "__package__"), (vS "__package__" 167), Value.none⟩, ⟨PyData.keyHash P (Str.ofString "__loader__"), (vS "__loader__" 168), (Value.builtin "__main__.__loader__#opaque")⟩, ⟨PyData.keyHash P (Str.ofString "__spec__"), (vS "__spec__" 169), Value.none⟩, ⟨PyData.keyHash P (Str.ofString "__annotations__"), (vS "__annotations__" 170), (Value.ref 6)⟩, ⟨PyData.keyHash P (Str.ofString "__builtins__"), (vS "__builtins__" 171), (Value.ref 4)⟩, ⟨PyData.keyHash P (Str.ofString "__file__"), (vS "__file__" 173), (vS "/claim/cut.py" 172)⟩, ⟨PyData.keyHash P (Str.ofString "__cached__"), (vS "__cached__" 174), Value.none⟩, ⟨PyData.keyHash P (Str.ofString "heappush"), (vS "heappush" 196), (Value.ref 21)⟩, ⟨PyData.keyHash P (Str.ofString "heappop"), (vS "heappop" 205), (Value.ref 28)⟩, ⟨PyData.keyHash P (Str.ofString "heapify"), (vS "heapify" 214), (Value.ref 35)⟩, ⟨PyData.keyHash P (Str.ofString "_siftdown"), (vS "_siftdown" 226), (Value.ref 42)⟩, ⟨PyData.keyHash P (Str.ofString "_siftup"), (vS "_siftup" 239), (Value.ref 49)⟩, ⟨PyData.keyHash P (Str.ofString "NL"), (vS "NL" 241), (Value.str (Str.mk #[10]) 240)⟩, ⟨PyData.keyHash P (Str.ofString "_QUOPRI_MAP"), (vS "_QUOPRI_MAP" 1269), (Value.ref 52)⟩, ⟨PyData.keyHash P (Str.ofString "_QUOPRI_HEADER_MAP"), (vS "_QUOPRI_HEADER_MAP" 1270), (Value.ref 57)⟩, ⟨PyData.keyHash P (Str.ofString "_QUOPRI_BODY_MAP"), (vS "_QUOPRI_BODY_MAP" 1271), (Value.ref 59)⟩, ⟨PyData.keyHash P (Str.ofString "ascii_lowercase"), (vS "ascii_lowercase" 1273), (vS "abcdefghijklmnopqrstuvwxyz" 1272)⟩, ⟨PyData.keyHash P (Str.ofString "ascii_uppercase"), (vS "ascii_uppercase" 1275), (vS "ABCDEFGHIJKLMNOPQRSTUVWXYZ" 1274)⟩, ⟨PyData.keyHash P (Str.ofString "ascii_letters"), (vS "ascii_letters" 1277), (vS "abcdefghijklmnopqrstuvwxyzABCDEFGHIJKLMNOPQRSTUVWXYZ" 1276)⟩, ⟨PyData.keyHash P (Str.ofString "digits"), (vS "digits" 1279), (vS "0123456789" 1278)⟩, ⟨PyData.keyHash P (Str.ofString "hexdigits"), (vS "hexdigits" 1284), (vS "0123456789abcdefABCDEF" 1283)⟩, ⟨PyData.keyHash P (Str.ofString "unquote"), (vS "unquote" 1790), (Value.ref 72)⟩, ⟨PyData.keyHash P (Str.ofString "header_encode"), (vS "header_encode" 1800), (Value.ref 80)⟩, ⟨PyData.keyHash P (Str.ofString "_QUOPRI_BODY_ENCODE_MAP"), (vS "_QUOPRI_BODY_ENCODE_MAP" 1801), (Value.ref 82)⟩, ⟨PyData.keyHash P (Str.ofString "decode"), (vS "decode" 1821), (Value.ref 93)⟩, ⟨PyData.keyHash P (Str.ofString "three_way_cmp"), (vS "three_way_cmp" 1831), (Value.ref 100)⟩, ⟨PyData.keyHash P (Str.ofString "_law_numbers"), (vS "_law_numbers" 1839), (Value.ref 105)⟩, ⟨PyData.keyHash P (Str.ofString "_law_octets"), (vS "_law_octets" 1849), (Value.ref 112)⟩, ⟨PyData.keyHash P (Str.ofString "_law_word"), (vS "_law_word" 1855), (Value.ref 117)⟩, ⟨PyData.keyHash P (Str.ofString "_law_sign"), (vS "_law_sign" 1864), (Value.ref 124)⟩, ⟨PyData.keyHash P (Str.ofString "_law_written"), (vS "_law_written" 1870), (Value.ref 129)⟩, ⟨PyData.keyHash P (Str.ofString "_law_ranks"), (vS "_law_ranks" 1876), (Value.ref 134)⟩, ⟨PyData.keyHash P (Str.ofString "_law_read"), (vS "_law_read" 1882), (Value.ref 139)⟩, ⟨PyData.keyHash P (Str.ofString "_law_turnings"), (vS "_law_turnings" 1888), (Value.ref 144)⟩, ⟨PyData.keyHash P (Str.ofString "_law_laid"), (vS "_law_laid" 1894), (Value.ref 149)⟩, ⟨PyData.keyHash P (Str.ofString "_law_carried"), (vS "_law_carried" 1900), (Value.ref 154)⟩, ⟨PyData.keyHash P (Str.ofString "_law_told"), (vS "_law_told" 1912), (Value.ref 161)⟩, ⟨PyData.keyHash P (Str.ofString "_law_rings"), (vS "_law_rings" 1918), (Value.ref 166)⟩, ⟨PyData.keyHash P (Str.ofString "_law_root"), (vS "_law_root" 1926), (Value.ref 173)⟩, ⟨PyData.keyHash P (Str.ofString "_law_least"), (vS "_law_least" 1932), (Value.ref 178)⟩, ⟨PyData.keyHash P (Str.ofString "_law_roots"), (vS "_law_roots" 1938), (Value.ref 183)⟩, ⟨PyData.keyHash P (Str.ofString "_law_holds"), (vS "_law_holds" 1944), (Value.ref 188)⟩, ⟨PyData.keyHash P (Str.ofString "law"), (vS "law" 1951), (Value.ref 195)⟩] 47), #[]⟩
noncomputable def o12f (P : Params) : Obj := ⟨Value.none, none, (Data.fields #[(Value.int 2 0), (Value.int 0 0), (Value.ref 20), (Value.int 5 0), (Value.int 0 0), (Value.ref 27), (Value.int 13 0), (Value.int 0 0), (Value.ref 34), (Value.int 17 0), (Value.int 0 0), (Value.ref 41), (Value.int 28 0), (Value.int 0 0), (Value.ref 48), (Value.int 57 0), (Value.int 0 0), (Value.ref 71), (Value.int 59 0), (Value.int 0 0), (Value.ref 79), (Value.int 68 0), (Value.int 0 0), (Value.ref 92), (Value.int 99 0), (Value.int 0 0), (Value.ref 99), (Value.int 102 0), (Value.int 0 0), (Value.ref 104), (Value.int 105 0), (Value.int 0 0), (Value.ref 111), (Value.int 110 0), (Value.int 0 0), (Value.ref 116), (Value.int 112 0), (Value.int 0 0), (Value.ref 123), (Value.int 120 0), (Value.int 0 0), (Value.ref 128), (Value.int 122 0), (Value.int 0 0), (Value.ref 133), (Value.int 124 0), (Value.int 0 0), (Value.ref 138), (Value.int 126 0), (Value.int 0 0), (Value.ref 143), (Value.int 128 0), (Value.int 0 0), (Value.ref 148), (Value.int 133 0), (Value.int 0 0), (Value.ref 153), (Value.int 136 0), (Value.int 0 0), (Value.ref 160), (Value.int 148 0), (Value.int 0 0), (Value.ref 165), (Value.int 164 0), (Value.int 0 0), (Value.ref 172), (Value.int 169 0), (Value.int 0 0), (Value.ref 177), (Value.int 172 0), (Value.int 0 0), (Value.ref 182), (Value.int 179 0), (Value.int 0 0), (Value.ref 187), (Value.int 190 0), (Value.int 0 0), (Value.ref 194)]), #[]⟩
noncomputable def o66f (P : Params) : Obj := ⟨(Value.type "tuple"), none, (Data.seq #[] 0), #[]⟩
noncomputable def o67f (P : Params) : Obj := ⟨Value.none, none, (Data.fields #[]), #[]⟩
noncomputable def o68f (P : Params) : Obj := ⟨(Value.type "tuple"), none, (Data.seq #[(vS "s" 1787)] 0), #[]⟩
noncomputable def o69f (P : Params) : Obj := ⟨(Value.type "tuple"), none, (Data.seq #[] 0), #[]⟩
noncomputable def o70f (P : Params) : Obj := ⟨Value.none, none, (dF "unquote" 19 0 Value.none Value.none Value.none), #[]⟩
noncomputable def o71f (P : Params) : Obj := ⟨(Value.type "code"), none, (Data.fields #[(vS "unquote" 1784), (vS "unquote" 1785), (vS "/claim/cut.py" 1786), (Value.int 57 0), (Value.int 1 0), (Value.int 0 0), (Value.int 0 0), (Value.int 3 0), (Value.ref 66), (Value.bool true), (Value.int 181 0), (Value.ref 67), Value.none, (Value.ref 68), (Value.ref 69), (Value.ref 70), (Value.int 1788 0), (Value.int 57 0), (vS "/claim/cut.py" 1789)]), #[]⟩
noncomputable def o72f (P : Params) : Obj := ⟨(Value.type "function"), none, (dF "unquote" 19 3 Value.none (vS "cpy313.email.quoprimime" 1285) (Value.ref 71)), #[]⟩
noncomputable def o73f (P : Params) : Obj := ⟨(Value.type "tuple"), none, (Data.seq #[(vS "iso-8859-1" 1791)] 0), #[]⟩
noncomputable def o74f (P : Params) : Obj := ⟨(Value.type "tuple"), none, (Data.seq #[] 0), #[]⟩
noncomputable def o75f (P : Params) : Obj := ⟨Value.none, none, (Data.fields #[]), #[]⟩
noncomputable def o76f (P : Params) : Obj := ⟨(Value.type "tuple"), none, (Data.seq #[(vS "header_bytes" 1795), (vS "charset" 1796), (vS "encoded" 1797)] 0), #[]⟩
noncomputable def o77f (P : Params) : Obj := ⟨(Value.type "tuple"), none, (Data.seq #[] 0), #[]⟩
noncomputable def o78f (P : Params) : Obj := ⟨Value.none, none, (dF "header_encode" 20 0 Value.none Value.none Value.none), #[]⟩
noncomputable def o79f (P : Params) : Obj := ⟨(Value.type "code"), none, (Data.fields #[(vS "header_encode" 1792), (vS "header_encode" 1793), (vS "/claim/cut.py" 1794), (Value.int 59 0), (Value.int 2 0), (Value.int 0 0), (Value.int 0 0), (Value.int 3 0), (Value.ref 74), (Value.bool true), (Value.int 181 0), (Value.ref 75), Value.none, (Value.ref 76), (Value.ref 77), (Value.ref 78), (Value.int 1798 0), (Value.int 59 0), (vS "/claim/cut.py" 1799)]), #[]⟩
noncomputable def o80f (P : Params) : Obj := ⟨(Value.type "function"), none, (dF "header_encode" 20 3 (Value.ref 73) (vS "cpy313.email.quoprimime" 1285) (Value.ref 79)), #[]⟩
noncomputable def o81f (P : Params) : Obj := ⟨(Value.type "slice"), none, (Data.fields #[Value.none, Value.none, Value.none]), #[]⟩
noncomputable def o82f (P : Params) : Obj := ⟨(Value.type "list"), none, (Data.seq #[(vS "=00" 248), (vS "=01" 252), (vS "=02" 256), (vS "=03" 260), (vS "=04" 264), (vS "=05" 268), (vS "=06" 272), (vS "=07" 276), (vS "=08" 280), (Value.str (Str.mk #[9]) 1783), (Value.str (Str.mk #[10]) 1808), (vS "=0B" 292), (vS "=0C" 296), (Value.str (Str.mk #[13]) 1805), (vS "=0E" 304), (vS "=0F" 308), (vS "=10" 312), (vS "=11" 316), (vS "=12" 320), (vS "=13" 324), (vS "=14" 328), (vS "=15" 332), (vS "=16" 336), (vS "=17" 340), (vS "=18" 344), (vS "=19" 348), (vS "=1A" 352), (vS "=1B" 356), (vS "=1C" 360), (vS "=1D" 364), (vS "=1E" 368), (vS "=1F" 372), (vS " " 1501), (vS "!" 1504), (Value.str (Str.ofString "\"") 1507), (vS "#" 1510), (vS "$" 1513), (vS "%" 1516), (vS "&" 1519), (vS "'" 1522), (vS "(" 1525), (vS ")" 1528), (vS "*" 1531), (vS "+" 1534), (vS "," 1537), (vS "-" 1540), (vS "." 1543), (vS "/" 1546), (vS "0" 1549), (vS "1" 1552), (vS "2" 1555), (vS "3" 1558), (vS "4" 1561), (vS "5" 1564), (vS "6" 1567), (vS "7" 1570), (vS "8" 1573), (vS "9" 1576), (vS ":" 1579), (vS ";" 1582), (vS "<" 1585), (vS "=3D" 492), (vS ">" 1588), (vS "?" 1591), (vS "@" 1594), (vS "A" 1597), (vS "B" 1600), (vS "C" 1603), (vS "D" 1606), (vS "E" 1609), (vS "F" 1612), (vS "G" 1615), (vS "H" 1618), (vS "I" 1621), (vS "J" 1624), (vS "K" 1627), (vS "L" 1630), (vS "M" 1633), (vS "N" 1636), (vS "O" 1639), (vS "P" 1642), (vS "Q" 1645), (vS "R" 1648), (vS "S" 1651), (vS "T" 1654), (vS "U" 1657), (vS "V" 1660), (vS "W" 1663), (vS "X" 1666), (vS "Y" 1669), (vS "Z" 1672), (vS "[" 1675), (Value.str (Str.ofString "\\") 1678), (vS "]" 1681), (vS "^" 1684), (vS "_" 1687), (vS "`" 1690), (vS "a" 1693), (vS "b" 1696), (vS "c" 1699), (vS "d" 1702), (vS "e" 1705), (vS "f" 1708), (vS "g" 1711), (vS "h" 1714), (vS "i" 1717), (vS "j" 1720), (vS "k" 1723), (vS "l" 1726), (vS "m" 1729), (vS "n" 1732), (vS "o" 1735), (vS "p" 1738), (vS "q" 1741), (vS "r" 1744), (vS "s" 1747), (vS "t" 1750), (vS "u" 1753), (vS "v" 1756), (vS "w" 1759), (vS "x" 1762), (vS "y" 1765), (vS "z" 1768), (vS "{" 1771), (vS "|" 1774), (vS "}" 1777), (vS "~" 1780), (vS "=7F" 756), (vS "=80" 760), (vS "=81" 764), (vS "=82" 768), (vS "=83" 772), (vS "=84" 776), (vS "=85" 780), (vS "=86" 784), (vS "=87" 788), (vS "=88" 792), (vS "=89" 796), (vS "=8A" 800), (vS "=8B" 804), (vS "=8C" 808), (vS "=8D" 812), (vS "=8E" 816), (vS "=8F" 820), (vS "=90" 824), (vS "=91" 828), (vS "=92" 832), (vS "=93" 836), (vS "=94" 840), (vS "=95" 844), (vS "=96" 848), (vS "=97" 852), (vS "=98" 856), (vS "=99" 860), (vS "=9A" 864), (vS "=9B" 868), (vS "=9C" 872), (vS "=9D" 876), (vS "=9E" 880), (vS "=9F" 884), (vS "=A0" 888), (vS "=A1" 892), (vS "=A2" 896), (vS "=A3" 900), (vS "=A4" 904), (vS "=A5" 908), (vS "=A6" 912), (vS "=A7" 916), (vS "=A8" 920), (vS "=A9" 924), (vS "=AA" 928), (vS "=AB" 932), (vS "=AC" 936), (vS "=AD" 940), (vS "=AE" 944), (vS "=AF" 948), (vS "=B0" 952), (vS "=B1" 956), (vS "=B2" 960), (vS "=B3" 964), (vS "=B4" 968), (vS "=B5" 972), (vS "=B6" 976), (vS "=B7" 980), (vS "=B8" 984), (vS "=B9" 988), (vS "=BA" 992), (vS "=BB" 996), (vS "=BC" 1000), (vS "=BD" 1004), (vS "=BE" 1008), (vS "=BF" 1012), (vS "=C0" 1016), (vS "=C1" 1020), (vS "=C2" 1024), (vS "=C3" 1028), (vS "=C4" 1032), (vS "=C5" 1036), (vS "=C6" 1040), (vS "=C7" 1044), (vS "=C8" 1048), (vS "=C9" 1052), (vS "=CA" 1056), (vS "=CB" 1060), (vS "=CC" 1064), (vS "=CD" 1068), (vS "=CE" 1072), (vS "=CF" 1076), (vS "=D0" 1080), (vS "=D1" 1084), (vS "=D2" 1088), (vS "=D3" 1092), (vS "=D4" 1096), (vS "=D5" 1100), (vS "=D6" 1104), (vS "=D7" 1108), (vS "=D8" 1112), (vS "=D9" 1116), (vS "=DA" 1120), (vS "=DB" 1124), (vS "=DC" 1128), (vS "=DD" 1132), (vS "=DE" 1136), (vS "=DF" 1140), (vS "=E0" 1144), (vS "=E1" 1148), (vS "=E2" 1152), (vS "=E3" 1156), (vS "=E4" 1160), (vS "=E5" 1164), (vS "=E6" 1168), (vS "=E7" 1172), (vS "=E8" 1176), (vS "=E9" 1180), (vS "=EA" 1184), (vS "=EB" 1188), (vS "=EC" 1192), (vS "=ED" 1196), (vS "=EE" 1200), (vS "=EF" 1204), (vS "=F0" 1208), (vS "=F1" 1212), (vS "=F2" 1216), (vS "=F3" 1220), (vS "=F4" 1224), (vS "=F5" 1228), (vS "=F6" 1232), (vS "=F7" 1236), (vS "=F8" 1240), (vS "=F9" 1244), (vS "=FA" 1248), (vS "=FB" 1252), (vS "=FC" 1256), (vS "=FD" 1260), (vS "=FE" 1264), (vS "=FF" 1268)] 0), #[]⟩
noncomputable def o83f (P : Params) : Obj := ⟨(Value.type "bytes_iterator"), none, (Data.fields #[Value.none, (Value.int 2 0)]), #[]⟩
noncomputable def o84f (P : Params) : Obj := ⟨(Value.type "tuple"), none, (Data.seq #[] 0), #[]⟩
noncomputable def o85f (P : Params) : Obj := ⟨(Value.type "StopIteration"), none, (Data.fields #[(Value.ref 84), Value.none, Value.none, Value.none, (Value.bool false), Value.none]), #[]⟩
noncomputable def o86f (P : Params) : Obj := ⟨(Value.type "tuple"), none, (Data.seq #[(Value.str (Str.mk #[10]) 240)] 0), #[]⟩
noncomputable def o87f (P : Params) : Obj := ⟨(Value.type "tuple"), none, (Data.seq #[] 0), #[]⟩
noncomputable def o88f (P : Params) : Obj := ⟨Value.none, none, (Data.fields #[]), #[]⟩
noncomputable def o89f (P : Params) : Obj := ⟨(Value.type "tuple"), none, (Data.seq #[(vS "encoded" 1812), (vS "eol" 1813), (vS "decoded" 1814), (vS "line" 1815), (vS "i" 1816), (vS "n" 1817), (vS "c" 1818)] 0), #[]⟩
noncomputable def o90f (P : Params) : Obj := ⟨(Value.type "tuple"), none, (Data.seq #[] 0), #[]⟩
noncomputable def o91f (P : Params) : Obj := ⟨Value.none, none, (dF "decode" 24 0 Value.none Value.none Value.none), #[]⟩
noncomputable def o92f (P : Params) : Obj := ⟨(Value.type "code"), none, (Data.fields #[(vS "decode" 1809), (vS "decode" 1810), (vS "/claim/cut.py" 1811), (Value.int 68 0), (Value.int 2 0), (Value.int 0 0), (Value.int 0 0), (Value.int 3 0), (Value.ref 87), (Value.bool true), (Value.int 181 0), (Value.ref 88), Value.none, (Value.ref 89), (Value.ref 90), (Value.ref 91), (Value.int 1819 0), (Value.int 68 0), (vS "/claim/cut.py" 1820)]), #[]⟩
noncomputable def o93f (P : Params) : Obj := ⟨(Value.type "function"), none, (dF "decode" 24 3 (Value.ref 86) (vS "cpy313.email.quoprimime" 1285) (Value.ref 92)), #[]⟩
noncomputable def o94f (P : Params) : Obj := ⟨(Value.type "tuple"), none, (Data.seq #[] 0), #[]⟩
noncomputable def o95f (P : Params) : Obj := ⟨Value.none, none, (Data.fields #[]), #[]⟩
noncomputable def o96f (P : Params) : Obj := ⟨(Value.type "tuple"), none, (Data.seq #[(vS "x" 1827), (vS "y" 1828)] 0), #[]⟩
noncomputable def o97f (P : Params) : Obj := ⟨(Value.type "tuple"), none, (Data.seq #[] 0), #[]⟩
noncomputable def o98f (P : Params) : Obj := ⟨Value.none, none, (dF "three_way_cmp" 26 0 Value.none Value.none Value.none), #[]⟩
noncomputable def o99f (P : Params) : Obj := ⟨(Value.type "code"), none, (Data.fields #[(vS "three_way_cmp" 1824), (vS "three_way_cmp" 1825), (vS "/claim/cut.py" 1826), (Value.int 99 0), (Value.int 2 0), (Value.int 0 0), (Value.int 0 0), (Value.int 3 0), (Value.ref 94), (Value.bool true), (Value.int 181 0), (Value.ref 95), Value.none, (Value.ref 96), (Value.ref 97), (Value.ref 98), (Value.int 1829 0), (Value.int 99 0), (vS "/claim/cut.py" 1830)]), #[]⟩
noncomputable def o100f (P : Params) : Obj := ⟨(Value.type "function"), none, (dF "three_way_cmp" 26 3 Value.none (vS "cpy313.unittest.util" 1822) (Value.ref 99)), #[]⟩
noncomputable def o101f (P : Params) : Obj := ⟨(Value.type "tuple"), none, (Data.seq #[] 0), #[]⟩
noncomputable def o102f (P : Params) : Obj := ⟨Value.none, none, (Data.fields #[]), #[]⟩
noncomputable def o103f (P : Params) : Obj := ⟨Value.none, none, (dF "_law_numbers" 28 0 Value.none Value.none Value.none), #[]⟩
noncomputable def o104f (P : Params) : Obj := ⟨(Value.type "code"), none, (Data.fields #[(vS "_law_numbers" 1834), (vS "_law_numbers" 1835), (vS "/claim/cut.py" 1836), (Value.int 102 0), (Value.int 1 0), (Value.int 0 0), (Value.int 0 0), (Value.int 3 0), (Value.ref 101), (Value.bool true), (Value.int 181 0), (Value.ref 102), Value.none, Value.none, Value.none, (Value.ref 103), (Value.int 1837 0), (Value.int 102 0), (vS "/claim/cut.py" 1838)]), #[]⟩
noncomputable def o105f (P : Params) : Obj := ⟨(Value.type "function"), none, (dF "_law_numbers" 28 3 Value.none (vS "law_op0073_01" 1832) (Value.ref 104)), #[]⟩
noncomputable def o106f (P : Params) : Obj := ⟨(Value.type "tuple"), none, (Data.seq #[] 0), #[]⟩
noncomputable def o107f (P : Params) : Obj := ⟨Value.none, none, (Data.fields #[]), #[]⟩
noncomputable def o108f (P : Params) : Obj := ⟨(Value.type "tuple"), none, (Data.seq #[(vS "number" 1843), (vS "first" 1844), (vS "second" 1845), (vS "third" 1846)] 0), #[]⟩
noncomputable def o109f (P : Params) : Obj := ⟨(Value.type "tuple"), none, (Data.seq #[] 0), #[]⟩
noncomputable def o110f (P : Params) : Obj := ⟨Value.none, none, (dF "_law_octets" 29 0 Value.none Value.none Value.none), #[]⟩
noncomputable def o111f (P : Params) : Obj := ⟨(Value.type "code"), none, (Data.fields #[(vS "_law_octets" 1840), (vS "_law_octets" 1841), (vS "/claim/cut.py" 1842), (Value.int 105 0), (Value.int 1 0), (Value.int 0 0), (Value.int 0 0), (Value.int 3 0), (Value.ref 106), (Value.bool true), (Value.int 181 0), (Value.ref 107), Value.none, (Value.ref 108), (Value.ref 109), (Value.ref 110), (Value.int 1847 0), (Value.int 105 0), (vS "/claim/cut.py" 1848)]), #[]⟩
noncomputable def o112f (P : Params) : Obj := ⟨(Value.type "function"), none, (dF "_law_octets" 29 3 Value.none (vS "law_op0073_01" 1832) (Value.ref 111)), #[]⟩
noncomputable def o113f (P : Params) : Obj := ⟨(Value.type "tuple"), none, (Data.seq #[] 0), #[]⟩
noncomputable def o114f (P : Params) : Obj := ⟨Value.none, none, (Data.fields #[]), #[]⟩
noncomputable def o115f (P : Params) : Obj := ⟨Value.none, none, (dF "_law_word" 30 0 Value.none Value.none Value.none), #[]⟩
noncomputable def o116f (P : Params) : Obj := ⟨(Value.type "code"), none, (Data.fields #[(vS "_law_word" 1850), (vS "_law_word" 1851), (vS "/claim/cut.py" 1852), (Value.int 110 0), (Value.int 2 0), (Value.int 0 0), (Value.int 0 0), (Value.int 3 0), (Value.ref 113), (Value.bool true), (Value.int 181 0), (Value.ref 114), Value.none, Value.none, Value.none, (Value.ref 115), (Value.int 1853 0), (Value.int 110 0), (vS "/claim/cut.py" 1854)]), #[]⟩
noncomputable def o117f (P : Params) : Obj := ⟨(Value.type "function"), none, (dF "_law_word" 30 3 Value.none (vS "law_op0073_01" 1832) (Value.ref 116)), #[]⟩
noncomputable def o118f (P : Params) : Obj := ⟨(Value.type "tuple"), none, (Data.seq #[] 0), #[]⟩
noncomputable def o119f (P : Params) : Obj := ⟨Value.none, none, (Data.fields #[]), #[]⟩
noncomputable def o120f (P : Params) : Obj := ⟨(Value.type "tuple"), none, (Data.seq #[(vS "octet" 1859), (vS "safe" 1860), (vS "figures" 1861)] 0), #[]⟩
noncomputable def o121f (P : Params) : Obj := ⟨(Value.type "tuple"), none, (Data.seq #[] 0), #[]⟩
noncomputable def o122f (P : Params) : Obj := ⟨Value.none, none, (dF "_law_sign" 31 0 Value.none Value.none Value.none), #[]⟩
noncomputable def o123f (P : Params) : Obj := ⟨(Value.type "code"), none, (Data.fields #[(vS "_law_sign" 1856), (vS "_law_sign" 1857), (vS "/claim/cut.py" 1858), (Value.int 112 0), (Value.int 1 0), (Value.int 0 0), (Value.int 0 0), (Value.int 3 0), (Value.ref 118), (Value.bool true), (Value.int 181 0), (Value.ref 119), Value.none, (Value.ref 120), (Value.ref 121), (Value.ref 122), (Value.int 1862 0), (Value.int 112 0), (vS "/claim/cut.py" 1863)]), #[]⟩
noncomputable def o124f (P : Params) : Obj := ⟨(Value.type "function"), none, (dF "_law_sign" 31 3 Value.none (vS "law_op0073_01" 1832) (Value.ref 123)), #[]⟩
noncomputable def o125f (P : Params) : Obj := ⟨(Value.type "tuple"), none, (Data.seq #[] 0), #[]⟩
noncomputable def o126f (P : Params) : Obj := ⟨Value.none, none, (Data.fields #[]), #[]⟩
noncomputable def o127f (P : Params) : Obj := ⟨Value.none, none, (dF "_law_written" 32 0 Value.none Value.none Value.none), #[]⟩
noncomputable def o128f (P : Params) : Obj := ⟨(Value.type "code"), none, (Data.fields #[(vS "_law_written" 1865), (vS "_law_written" 1866), (vS "/claim/cut.py" 1867), (Value.int 120 0), (Value.int 1 0), (Value.int 0 0), (Value.int 0 0), (Value.int 3 0), (Value.ref 125), (Value.bool true), (Value.int 181 0), (Value.ref 126), Value.none, Value.none, Value.none, (Value.ref 127), (Value.int 1868 0), (Value.int 120 0), (vS "/claim/cut.py" 1869)]), #[]⟩
noncomputable def o129f (P : Params) : Obj := ⟨(Value.type "function"), none, (dF "_law_written" 32 3 Value.none (vS "law_op0073_01" 1832) (Value.ref 128)), #[]⟩
noncomputable def o130f (P : Params) : Obj := ⟨(Value.type "tuple"), none, (Data.seq #[] 0), #[]⟩
noncomputable def o131f (P : Params) : Obj := ⟨Value.none, none, (Data.fields #[]), #[]⟩
noncomputable def o132f (P : Params) : Obj := ⟨Value.none, none, (dF "_law_ranks" 33 0 Value.none Value.none Value.none), #[]⟩
noncomputable def o133f (P : Params) : Obj := ⟨(Value.type "code"), none, (Data.fields #[(vS "_law_ranks" 1871), (vS "_law_ranks" 1872), (vS "/claim/cut.py" 1873), (Value.int 122 0), (Value.int 1 0), (Value.int 0 0), (Value.int 0 0), (Value.int 3 0), (Value.ref 130), (Value.bool true), (Value.int 181 0), (Value.ref 131), Value.none, Value.none, Value.none, (Value.ref 132), (Value.int 1874 0), (Value.int 122 0), (vS "/claim/cut.py" 1875)]), #[]⟩
noncomputable def o134f (P : Params) : Obj := ⟨(Value.type "function"), none, (dF "_law_ranks" 33 3 Value.none (vS "law_op0073_01" 1832) (Value.ref 133)), #[]⟩
noncomputable def o135f (P : Params) : Obj := ⟨(Value.type "tuple"), none, (Data.seq #[] 0), #[]⟩
noncomputable def o136f (P : Params) : Obj := ⟨Value.none, none, (Data.fields #[]), #[]⟩
noncomputable def o137f (P : Params) : Obj := ⟨Value.none, none, (dF "_law_read" 34 0 Value.none Value.none Value.none), #[]⟩
noncomputable def o138f (P : Params) : Obj := ⟨(Value.type "code"), none, (Data.fields #[(vS "_law_read" 1877), (vS "_law_read" 1878), (vS "/claim/cut.py" 1879), (Value.int 124 0), (Value.int 2 0), (Value.int 0 0), (Value.int 0 0), (Value.int 3 0), (Value.ref 135), (Value.bool true), (Value.int 181 0), (Value.ref 136), Value.none, Value.none, Value.none, (Value.ref 137), (Value.int 1880 0), (Value.int 124 0), (vS "/claim/cut.py" 1881)]), #[]⟩
noncomputable def o139f (P : Params) : Obj := ⟨(Value.type "function"), none, (dF "_law_read" 34 3 Value.none (vS "law_op0073_01" 1832) (Value.ref 138)), #[]⟩
noncomputable def o140f (P : Params) : Obj := ⟨(Value.type "tuple"), none, (Data.seq #[] 0), #[]⟩
noncomputable def o141f (P : Params) : Obj := ⟨Value.none, none, (Data.fields #[]), #[]⟩
noncomputable def o142f (P : Params) : Obj := ⟨Value.none, none, (dF "_law_turnings" 35 0 Value.none Value.none Value.none), #[]⟩
noncomputable def o143f (P : Params) : Obj := ⟨(Value.type "code"), none, (Data.fields #[(vS "_law_turnings" 1883), (vS "_law_turnings" 1884), (vS "/claim/cut.py" 1885), (Value.int 126 0), (Value.int 1 0), (Value.int 0 0), (Value.int 0 0), (Value.int 3 0), (Value.ref 140), (Value.bool true), (Value.int 181 0), (Value.ref 141), Value.none, Value.none, Value.none, (Value.ref 142), (Value.int 1886 0), (Value.int 126 0), (vS "/claim/cut.py" 1887)]), #[]⟩
noncomputable def o144f (P : Params) : Obj := ⟨(Value.type "function"), none, (dF "_law_turnings" 35 3 Value.none (vS "law_op0073_01" 1832) (Value.ref 143)), #[]⟩
noncomputable def o145f (P : Params) : Obj := ⟨(Value.type "tuple"), none, (Data.seq #[] 0), #[]⟩
noncomputable def o146f (P : Params) : Obj := ⟨Value.none, none, (Data.fields #[]), #[]⟩
noncomputable def o147f (P : Params) : Obj := ⟨Value.none, none, (dF "_law_laid" 36 0 Value.none Value.none Value.none), #[]⟩
noncomputable def o148f (P : Params) : Obj := ⟨(Value.type "code"), none, (Data.fields #[(vS "_law_laid" 1889), (vS "_law_laid" 1890), (vS "/claim/cut.py" 1891), (Value.int 128 0), (Value.int 1 0), (Value.int 0 0), (Value.int 0 0), (Value.int 3 0), (Value.ref 145), (Value.bool true), (Value.int 181 0), (Value.ref 146), Value.none, Value.none, Value.none, (Value.ref 147), (Value.int 1892 0), (Value.int 128 0), (vS "/claim/cut.py" 1893)]), #[]⟩
noncomputable def o149f (P : Params) : Obj := ⟨(Value.type "function"), none, (dF "_law_laid" 36 3 Value.none (vS "law_op0073_01" 1832) (Value.ref 148)), #[]⟩
noncomputable def o150f (P : Params) : Obj := ⟨(Value.type "tuple"), none, (Data.seq #[] 0), #[]⟩
noncomputable def o151f (P : Params) : Obj := ⟨Value.none, none, (Data.fields #[]), #[]⟩
noncomputable def o152f (P : Params) : Obj := ⟨Value.none, none, (dF "_law_carried" 37 0 Value.none Value.none Value.none), #[]⟩
noncomputable def o153f (P : Params) : Obj := ⟨(Value.type "code"), none, (Data.fields #[(vS "_law_carried" 1895), (vS "_law_carried" 1896), (vS "/claim/cut.py" 1897), (Value.int 133 0), (Value.int 1 0), (Value.int 0 0), (Value.int 0 0), (Value.int 3 0), (Value.ref 150), (Value.bool true), (Value.int 181 0), (Value.ref 151), Value.none, Value.none, Value.none, (Value.ref 152), (Value.int 1898 0), (Value.int 133 0), (vS "/claim/cut.py" 1899)]), #[]⟩
noncomputable def o154f (P : Params) : Obj := ⟨(Value.type "function"), none, (dF "_law_carried" 37 3 Value.none (vS "law_op0073_01" 1832) (Value.ref 153)), #[]⟩
noncomputable def o155f (P : Params) : Obj := ⟨(Value.type "tuple"), none, (Data.seq #[] 0), #[]⟩
noncomputable def o156f (P : Params) : Obj := ⟨Value.none, none, (Data.fields #[]), #[]⟩
noncomputable def o157f (P : Params) : Obj := ⟨(Value.type "tuple"), none, (Data.seq #[(vS "writings" 1904), (vS "keys" 1905), (vS "one" 1906), (vS "other" 1907), (vS "side" 1908), (vS "told" 1909)] 0), #[]⟩
noncomputable def o158f (P : Params) : Obj := ⟨(Value.type "tuple"), none, (Data.seq #[] 0), #[]⟩
noncomputable def o159f (P : Params) : Obj := ⟨Value.none, none, (dF "_law_told" 38 0 Value.none Value.none Value.none), #[]⟩
noncomputable def o160f (P : Params) : Obj := ⟨(Value.type "code"), none, (Data.fields #[(vS "_law_told" 1901), (vS "_law_told" 1902), (vS "/claim/cut.py" 1903), (Value.int 136 0), (Value.int 2 0), (Value.int 0 0), (Value.int 0 0), (Value.int 3 0), (Value.ref 155), (Value.bool true), (Value.int 181 0), (Value.ref 156), Value.none, (Value.ref 157), (Value.ref 158), (Value.ref 159), (Value.int 1910 0), (Value.int 136 0), (vS "/claim/cut.py" 1911)]), #[]⟩
noncomputable def o161f (P : Params) : Obj := ⟨(Value.type "function"), none, (dF "_law_told" 38 3 Value.none (vS "law_op0073_01" 1832) (Value.ref 160)), #[]⟩
noncomputable def o162f (P : Params) : Obj := ⟨(Value.type "tuple"), none, (Data.seq #[] 0), #[]⟩
noncomputable def o163f (P : Params) : Obj := ⟨Value.none, none, (Data.fields #[]), #[]⟩
noncomputable def o164f (P : Params) : Obj := ⟨Value.none, none, (dF "_law_rings" 39 0 Value.none Value.none Value.none), #[]⟩
noncomputable def o165f (P : Params) : Obj := ⟨(Value.type "code"), none, (Data.fields #[(vS "_law_rings" 1913), (vS "_law_rings" 1914), (vS "/claim/cut.py" 1915), (Value.int 148 0), (Value.int 1 0), (Value.int 0 0), (Value.int 0 0), (Value.int 3 0), (Value.ref 162), (Value.bool true), (Value.int 181 0), (Value.ref 163), Value.none, Value.none, Value.none, (Value.ref 164), (Value.int 1916 0), (Value.int 148 0), (vS "/claim/cut.py" 1917)]), #[]⟩
noncomputable def o166f (P : Params) : Obj := ⟨(Value.type "function"), none, (dF "_law_rings" 39 3 Value.none (vS "law_op0073_01" 1832) (Value.ref 165)), #[]⟩
noncomputable def o167f (P : Params) : Obj := ⟨(Value.type "tuple"), none, (Data.seq #[] 0), #[]⟩
noncomputable def o168f (P : Params) : Obj := ⟨Value.none, none, (Data.fields #[]), #[]⟩
noncomputable def o169f (P : Params) : Obj := ⟨(Value.type "tuple"), none, (Data.seq #[(vS "word" 1922), (vS "size" 1923)] 0), #[]⟩
noncomputable def o170f (P : Params) : Obj := ⟨(Value.type "tuple"), none, (Data.seq #[] 0), #[]⟩
noncomputable def o171f (P : Params) : Obj := ⟨Value.none, none, (dF "_law_root" 40 0 Value.none Value.none Value.none), #[]⟩
noncomputable def o172f (P : Params) : Obj := ⟨(Value.type "code"), none, (Data.fields #[(vS "_law_root" 1919), (vS "_law_root" 1920), (vS "/claim/cut.py" 1921), (Value.int 164 0), (Value.int 1 0), (Value.int 0 0), (Value.int 0 0), (Value.int 3 0), (Value.ref 167), (Value.bool true), (Value.int 181 0), (Value.ref 168), Value.none, (Value.ref 169), (Value.ref 170), (Value.ref 171), (Value.int 1924 0), (Value.int 164 0), (vS "/claim/cut.py" 1925)]), #[]⟩
noncomputable def o173f (P : Params) : Obj := ⟨(Value.type "function"), none, (dF "_law_root" 40 3 Value.none (vS "law_op0073_01" 1832) (Value.ref 172)), #[]⟩
noncomputable def o174f (P : Params) : Obj := ⟨(Value.type "tuple"), none, (Data.seq #[] 0), #[]⟩
noncomputable def o175f (P : Params) : Obj := ⟨Value.none, none, (Data.fields #[]), #[]⟩
noncomputable def o176f (P : Params) : Obj := ⟨Value.none, none, (dF "_law_least" 41 0 Value.none Value.none Value.none), #[]⟩
noncomputable def o177f (P : Params) : Obj := ⟨(Value.type "code"), none, (Data.fields #[(vS "_law_least" 1927), (vS "_law_least" 1928), (vS "/claim/cut.py" 1929), (Value.int 169 0), (Value.int 1 0), (Value.int 0 0), (Value.int 0 0), (Value.int 3 0), (Value.ref 174), (Value.bool true), (Value.int 181 0), (Value.ref 175), Value.none, Value.none, Value.none, (Value.ref 176), (Value.int 1930 0), (Value.int 169 0), (vS "/claim/cut.py" 1931)]), #[]⟩
noncomputable def o178f (P : Params) : Obj := ⟨(Value.type "function"), none, (dF "_law_least" 41 3 Value.none (vS "law_op0073_01" 1832) (Value.ref 177)), #[]⟩
noncomputable def o179f (P : Params) : Obj := ⟨(Value.type "tuple"), none, (Data.seq #[] 0), #[]⟩
noncomputable def o180f (P : Params) : Obj := ⟨Value.none, none, (Data.fields #[]), #[]⟩
noncomputable def o181f (P : Params) : Obj := ⟨Value.none, none, (dF "_law_roots" 42 0 Value.none Value.none Value.none), #[]⟩
noncomputable def o182f (P : Params) : Obj := ⟨(Value.type "code"), none, (Data.fields #[(vS "_law_roots" 1933), (vS "_law_roots" 1934), (vS "/claim/cut.py" 1935), (Value.int 172 0), (Value.int 1 0), (Value.int 0 0), (Value.int 0 0), (Value.int 3 0), (Value.ref 179), (Value.bool true), (Value.int 181 0), (Value.ref 180), Value.none, Value.none, Value.none, (Value.ref 181), (Value.int 1936 0), (Value.int 172 0), (vS "/claim/cut.py" 1937)]), #[]⟩
noncomputable def o183f (P : Params) : Obj := ⟨(Value.type "function"), none, (dF "_law_roots" 42 3 Value.none (vS "law_op0073_01" 1832) (Value.ref 182)), #[]⟩
noncomputable def o184f (P : Params) : Obj := ⟨(Value.type "tuple"), none, (Data.seq #[] 0), #[]⟩
noncomputable def o185f (P : Params) : Obj := ⟨Value.none, none, (Data.fields #[]), #[]⟩
noncomputable def o186f (P : Params) : Obj := ⟨Value.none, none, (dF "_law_holds" 43 0 Value.none Value.none Value.none), #[]⟩
noncomputable def o187f (P : Params) : Obj := ⟨(Value.type "code"), none, (Data.fields #[(vS "_law_holds" 1939), (vS "_law_holds" 1940), (vS "/claim/cut.py" 1941), (Value.int 179 0), (Value.int 1 0), (Value.int 0 0), (Value.int 0 0), (Value.int 3 0), (Value.ref 184), (Value.bool true), (Value.int 181 0), (Value.ref 185), Value.none, Value.none, Value.none, (Value.ref 186), (Value.int 1942 0), (Value.int 179 0), (vS "/claim/cut.py" 1943)]), #[]⟩
noncomputable def o188f (P : Params) : Obj := ⟨(Value.type "function"), none, (dF "_law_holds" 43 3 Value.none (vS "law_op0073_01" 1832) (Value.ref 187)), #[]⟩
noncomputable def o189f (P : Params) : Obj := ⟨(Value.type "tuple"), none, (Data.seq #[] 0), #[]⟩
noncomputable def o190f (P : Params) : Obj := ⟨Value.none, none, (Data.fields #[]), #[]⟩
noncomputable def o191f (P : Params) : Obj := ⟨(Value.type "tuple"), none, (Data.seq #[(vS "script" 1948)] 0), #[]⟩
noncomputable def o192f (P : Params) : Obj := ⟨(Value.type "tuple"), none, (Data.seq #[] 0), #[]⟩
noncomputable def o193f (P : Params) : Obj := ⟨Value.none, none, (dF "law" 44 0 Value.none Value.none Value.none), #[]⟩
noncomputable def o194f (P : Params) : Obj := ⟨(Value.type "code"), none, (Data.fields #[(vS "law" 1945), (vS "law" 1946), (vS "/claim/cut.py" 1947), (Value.int 190 0), (Value.int 1 0), (Value.int 0 0), (Value.int 0 0), (Value.int 3 0), (Value.ref 189), (Value.bool true), (Value.int 181 0), (Value.ref 190), Value.none, (Value.ref 191), (Value.ref 192), (Value.ref 193), (Value.int 1949 0), (Value.int 190 0), (vS "/claim/cut.py" 1950)]), #[]⟩
noncomputable def o195f (P : Params) : Obj := ⟨(Value.type "function"), none, (dF "law" 44 3 Value.none (vS "law_op0073_01" 1832) (Value.ref 194)), #[]⟩
noncomputable def Tf (P : Params) : BT := (.node (boot_o_0 P) (.node (boot_o_1 P) (.node (o3f P) (.node (boot_o_7 P) (.node (o151 P) (.node (o311 P) (.node (o636 P) (.node (o127f P) .nil .nil) (.node (o191f P) .nil .nil)) (.node (o95f P) (.node (o159f P) .nil .nil) .nil)) (.node (o471 P) (.node (o79f P) (.node (o143f P) .nil .nil) .nil) (.node (o111f P) (.node (o175f P) .nil .nil) .nil))) (.node (o231 P) (.node (o391 P) (.node (o71f P) (.node (o135f P) .nil .nil) .nil) (.node (o103f P) (.node (o167f P) .nil .nil) .nil)) (.node (o552 P) (.node (o87f P) (.node (o151f P) .nil .nil) .nil) (.node (o119f P) (.node (o183f P) .nil .nil) .nil)))) (.node (o11a P) (.node (o191 P) (.node (o351 P) (.node (o67f P) (.node (o131f P) .nil .nil) (.node (o195f P) .nil .nil)) (.node (o99f P) (.node (o163f P) .nil .nil) .nil)) (.node (o512 P) (.node (o83f P) (.node (o147f P) .nil .nil) .nil) (.node (o115f P) (.node (o179f P) .nil .nil) .nil))) (.node (o271 P) (.node (o431 P) (.node (o75f P) (.node (o139f P) .nil .nil) .nil) (.node (o107f P) (.node (o171f P) .nil .nil) .nil)) (.node (o596 P) (.node (o91f P) (.node (o155f P) .nil .nil) .nil) (.node (o123f P) (.node (o187f P) .nil .nil) .nil))))) (.node (boot_o_5 P) (.node (boot_o_9 P) (.node (o171 P) (.node (o331 P) (.node (o656 P) (.node (o129f P) .nil .nil) (.node (o193f P) .nil .nil)) (.node (o97f P) (.node (o161f P) .nil .nil) .nil)) (.node (o491 P) (.node (o81f P) (.node (o145f P) .nil .nil) .nil) (.node (o113f P) (.node (o177f P) .nil .nil) .nil))) (.node (o251 P) (.node (o411 P) (.node (o73f P) (.node (o137f P) .nil .nil) .nil) (.node (o105f P) (.node (o169f P) .nil .nil) .nil)) (.node (o575 P) (.node (o89f P) (.node (o153f P) .nil .nil) .nil) (.node (o121f P) (.node (o185f P) .nil .nil) .nil)))) (.node (o13a P) (.node (o211 P) (.node (o371 P) (.node (o69f P) (.node (o133f P) .nil .nil) .nil) (.node (o101f P) (.node (o165f P) .nil .nil) .nil)) (.node (o532 P) (.node (o85f P) (.node (o149f P) .nil .nil) .nil) (.node (o117f P) (.node (o181f P) .nil .nil) .nil))) (.node (o291 P) (.node (o451 P) (.node (o77f P) (.node (o141f P) .nil .nil) .nil) (.node (o109f P) (.node (o173f P) .nil .nil) .nil)) (.node (o614 P) (.node (o93f P) (.node (o157f P) .nil .nil) .nil) (.node (o125f P) (.node (o189f P) .nil .nil) .nil)))))) (.node (boot_o_2 P) (.node (boot_o_4 P) (.node (boot_o_8 P) (.node (o161 P) (.node (o321 P) (.node (o646 P) (.node (o128f P) .nil .nil) (.node (o192f P) .nil .nil)) (.node (o96f P) (.node (o160f P) .nil .nil) .nil)) (.node (o481 P) (.node (o80f P) (.node (o144f P) .nil .nil) .nil) (.node (o112f P) (.node (o176f P) .nil .nil) .nil))) (.node (o241 P) (.node (o401 P) (.node (o72f P) (.node (o136f P) .nil .nil) .nil) (.node (o104f P) (.node (o168f P) .nil .nil) .nil)) (.node (o563 P) (.node (o88f P) (.node (o152f P) .nil .nil) .nil) (.node (o120f P) (.node (o184f P) .nil .nil) .nil)))) (.node (o12f P) (.node (o201 P) (.node (o361 P) (.node (o68f P) (.node (o132f P) .nil .nil) .nil) (.node (o100f P) (.node (o164f P) .nil .nil) .nil)) (.node (o522 P) (.node (o84f P) (.node (o148f P) .nil .nil) .nil) (.node (o116f P) (.node (o180f P) .nil .nil) .nil))) (.node (o281 P) (.node (o441 P) (.node (o76f P) (.node (o140f P) .nil .nil) .nil) (.node (o108f P) (.node (o172f P) .nil .nil) .nil)) (.node (o604 P) (.node (o92f P) (.node (o156f P) .nil .nil) .nil) (.node (o124f P) (.node (o188f P) .nil .nil) .nil))))) (.node (boot_o_6 P) (.node (boot_o_10 P) (.node (o181 P) (.node (o341 P) (.node (o66f P) (.node (o130f P) .nil .nil) (.node (o194f P) .nil .nil)) (.node (o98f P) (.node (o162f P) .nil .nil) .nil)) (.node (o502 P) (.node (o82f P) (.node (o146f P) .nil .nil) .nil) (.node (o114f P) (.node (o178f P) .nil .nil) .nil))) (.node (o261 P) (.node (o421 P) (.node (o74f P) (.node (o138f P) .nil .nil) .nil) (.node (o106f P) (.node (o170f P) .nil .nil) .nil)) (.node (o583 P) (.node (o90f P) (.node (o154f P) .nil .nil) .nil) (.node (o122f P) (.node (o186f P) .nil .nil) .nil)))) (.node (o14a P) (.node (o221 P) (.node (o381 P) (.node (o70f P) (.node (o134f P) .nil .nil) .nil) (.node (o102f P) (.node (o166f P) .nil .nil) .nil)) (.node (o542 P) (.node (o86f P) (.node (o150f P) .nil .nil) .nil) (.node (o118f P) (.node (o182f P) .nil .nil) .nil))) (.node (o301 P) (.node (o461 P) (.node (o78f P) (.node (o142f P) .nil .nil) .nil) (.node (o110f P) (.node (o174f P) .nil .nil) .nil)) (.node (o624 P) (.node (o94f P) (.node (o158f P) .nil .nil) .nil) (.node (o126f P) (.node (o190f P) .nil .nil) .nil)))))))

noncomputable def envT : Env := { scope := P0.main.scope, locals := mainNs, globals := mainNs, cells := [], code := .ref 13, frame := some 14 }
noncomputable def ann : Option Value := some (.ref 6)
noncomputable def pos0 : Pos := ⟨0, 0, 0, 0⟩
noncomputable def bodyT : List Stmt := behindTheImports P0
noncomputable def cE : Code := .body bodyT envT
noncomputable def B0 : List Frame := [topFrame pos0]
noncomputable def sts (a n : Nat) : List Stmt := (bodyT.drop a).take n
noncomputable def stT (T : Params → BT) (n k : Nat) (w : World) (os : OsState) : SharedT := ⟨T w.params, n, {}, #[], {}, k, os⟩
theorem quickRun (w : World) (m : Nat) (a : Option Value) (b n : Nat) (s : SharedT) (l : List Stmt) (q : Pos) :
    segRunT treeTable P0 w m a b n s (piecesOf l envT cE q B0) = Fast.tw10110043849684766642 Fast.tw14364793385576792824 P0 w m a b n s ⟨(Fast.tw12563942051412417395 l envT).wrap doneF deadEnd id id, cE, q, B0⟩ := by
  show segRunT treeTable P0 w m a b n s ⟨(execs l envT).wrap doneF deadEnd id id, cE, q, B0⟩ = _
  rw [Fast.te14364793385576792824, Fast.te10110043849684766642, Fast.te12563942051412417395]
theorem g1 : ∀ (w : World) (os : OsState), segRunT treeTable P0 w 11 ann 1 180 (stT Tb 15 187 w os) (piecesOf (sts 0 7) envT cE pos0 B0) = some (.next, stT T1 50 242 w os, cE, ⟨42, 0, 42, 2⟩) := fun w os => (quickRun w 11 ann 1 180 _ _ _).trans (by kernel_rfl)
theorem g2_ff : ∀ (w : World) (os : OsState), segRunT treeTable P0 ((w.withFollow "special-get-raises" false).withFollow "comprehension-iter-twice" false) 11 ann 1 9552 (stT T1 50 242 ((w.withFollow "special-get-raises" false).withFollow "comprehension-iter-twice" false) os) (piecesOf (sts 7 1) envT cE ⟨42, 0, 42, 2⟩ B0) = some (.next, stT T2 56 1270 ((w.withFollow "special-get-raises" false).withFollow "comprehension-iter-twice" false) os, cE, ⟨43, 0, 43, 11⟩) := fun w os => (quickRun ((w.withFollow "special-get-raises" false).withFollow "comprehension-iter-twice" false) 11 ann 1 9552 _ _ _).trans (by kernel_rfl)
theorem g2_ft : ∀ (w : World) (os : OsState), segRunT treeTable P0 ((w.withFollow "special-get-raises" true).withFollow "comprehension-iter-twice" false) 11 ann 1 9552 (stT T1 50 242 ((w.withFollow "special-get-raises" true).withFollow "comprehension-iter-twice" false) os) (piecesOf (sts 7 1) envT cE ⟨42, 0, 42, 2⟩ B0) = some (.next, stT T2 56 1270 ((w.withFollow "special-get-raises" true).withFollow "comprehension-iter-twice" false) os, cE, ⟨43, 0, 43, 11⟩) := fun w os => (quickRun ((w.withFollow "special-get-raises" true).withFollow "comprehension-iter-twice" false) 11 ann 1 9552 _ _ _).trans (by kernel_rfl)
theorem g2_tf : ∀ (w : World) (os : OsState), segRunT treeTable P0 ((w.withFollow "special-get-raises" false).withFollow "comprehension-iter-twice" true) 11 ann 1 9552 (stT T1 50 242 ((w.withFollow "special-get-raises" false).withFollow "comprehension-iter-twice" true) os) (piecesOf (sts 7 1) envT cE ⟨42, 0, 42, 2⟩ B0) = some (.next, stT T2 56 1270 ((w.withFollow "special-get-raises" false).withFollow "comprehension-iter-twice" true) os, cE, ⟨43, 0, 43, 11⟩) := fun w os => (quickRun ((w.withFollow "special-get-raises" false).withFollow "comprehension-iter-twice" true) 11 ann 1 9552 _ _ _).trans (by kernel_rfl)
theorem g2_tt : ∀ (w : World) (os : OsState), segRunT treeTable P0 ((w.withFollow "special-get-raises" true).withFollow "comprehension-iter-twice" true) 11 ann 1 9552 (stT T1 50 242 ((w.withFollow "special-get-raises" true).withFollow "comprehension-iter-twice" true) os) (piecesOf (sts 7 1) envT cE ⟨42, 0, 42, 2⟩ B0) = some (.next, stT T2 56 1270 ((w.withFollow "special-get-raises" true).withFollow "comprehension-iter-twice" true) os, cE, ⟨43, 0, 43, 11⟩) := fun w os => (quickRun ((w.withFollow "special-get-raises" true).withFollow "comprehension-iter-twice" true) 11 ann 1 9552 _ _ _).trans (by kernel_rfl)
noncomputable def g2P (w : World) : Prop := ∀ os : OsState, segRunT treeTable P0 w 11 ann 1 9552 (stT T1 50 242 w os) (piecesOf (sts 7 1) envT cE ⟨42, 0, 42, 2⟩ B0) = some (.next, stT T2 56 1270 w os, cE, ⟨43, 0, 43, 11⟩)
theorem g2 : ∀ (w : World), g2P w := fun w => byRow2 "comprehension-iter-twice" (P := g2P) (fun w => byRow2 "special-get-raises" (P := fun w => g2P (w.withFollow "comprehension-iter-twice" false)) (fun w => g2_ff w) (fun w => g2_ft w) w) (fun w => byRow2 "special-get-raises" (P := fun w => g2P (w.withFollow "comprehension-iter-twice" true)) (fun w => g2_tf w) (fun w => g2_tt w) w) w
theorem g3 : ∀ (w : World) (os : OsState), segRunT treeTable P0 w 11 ann 1 133 (stT T2 56 1270 w os) (piecesOf (sts 8 8) envT cE ⟨43, 0, 43, 11⟩ B0) = some (.next, stT T3 60 1287 w os, cE, ⟨51, 0, 51, 8⟩) := fun w os => (quickRun w 11 ann 1 133 _ _ _).trans (by kernel_rfl)
theorem g4_f : ∀ (w : World) (os : OsState), segRunT treeTable P0 (w.withFollow "special-get-raises" false) 11 ann 1 3077 (stT T3 60 1287 (w.withFollow "special-get-raises" false) os) (piecesOf (sts 16 1) envT cE ⟨51, 0, 51, 8⟩ B0) = some (.next, stT T4 63 1495 (w.withFollow "special-get-raises" false) os, cE, ⟨52, 9, 52, 74⟩) := fun w os => (quickRun (w.withFollow "special-get-raises" false) 11 ann 1 3077 _ _ _).trans (by kernel_rfl)
theorem g4_t : ∀ (w : World) (os : OsState), segRunT treeTable P0 (w.withFollow "special-get-raises" true) 11 ann 1 3077 (stT T3 60 1287 (w.withFollow "special-get-raises" true) os) (piecesOf (sts 16 1) envT cE ⟨51, 0, 51, 8⟩ B0) = some (.next, stT T4 63 1495 (w.withFollow "special-get-raises" true) os, cE, ⟨52, 9, 52, 74⟩) := fun w os => (quickRun (w.withFollow "special-get-raises" true) 11 ann 1 3077 _ _ _).trans (by kernel_rfl)
noncomputable def g4P (w : World) : Prop := ∀ os : OsState, segRunT treeTable P0 w 11 ann 1 3077 (stT T3 60 1287 w os) (piecesOf (sts 16 1) envT cE ⟨51, 0, 51, 8⟩ B0) = some (.next, stT T4 63 1495 w os, cE, ⟨52, 9, 52, 74⟩)
theorem g4 : ∀ (w : World), g4P w := fun w => byRow2 "special-get-raises" (P := g4P) (fun w => g4_f w) (fun w => g4_t w) w
theorem g5 : ∀ (w : World) (os : OsState), segRunT treeTable P0 w 11 ann 1 25 (stT T4 63 1495 w os) (piecesOf (sts 17 1) envT cE ⟨52, 9, 52, 74⟩ B0) = some (.next, stT T5 63 1498 w os, cE, ⟨54, 0, 54, 28⟩) := fun w os => (quickRun w 11 ann 1 25 _ _ _).trans (by kernel_rfl)
theorem g6_f : ∀ (w : World) (os : OsState), segRunT treeTable P0 (w.withFollow "special-get-raises" false) 11 ann 1 4303 (stT T5 63 1498 (w.withFollow "special-get-raises" false) os) (piecesOf (sts 18 1) envT cE ⟨54, 0, 54, 28⟩ B0) = some (.next, stT T6 66 1784 (w.withFollow "special-get-raises" false) os, cE, ⟨55, 9, 55, 110⟩) := fun w os => (quickRun (w.withFollow "special-get-raises" false) 11 ann 1 4303 _ _ _).trans (by kernel_rfl)
theorem g6_t : ∀ (w : World) (os : OsState), segRunT treeTable P0 (w.withFollow "special-get-raises" true) 11 ann 1 4303 (stT T5 63 1498 (w.withFollow "special-get-raises" true) os) (piecesOf (sts 18 1) envT cE ⟨54, 0, 54, 28⟩ B0) = some (.next, stT T6 66 1784 (w.withFollow "special-get-raises" true) os, cE, ⟨55, 9, 55, 110⟩) := fun w os => (quickRun (w.withFollow "special-get-raises" true) 11 ann 1 4303 _ _ _).trans (by kernel_rfl)
noncomputable def g6P (w : World) : Prop := ∀ os : OsState, segRunT treeTable P0 w 11 ann 1 4303 (stT T5 63 1498 w os) (piecesOf (sts 18 1) envT cE ⟨54, 0, 54, 28⟩ B0) = some (.next, stT T6 66 1784 w os, cE, ⟨55, 9, 55, 110⟩)
theorem g6 : ∀ (w : World), g6P w := fun w => byRow2 "special-get-raises" (P := g6P) (fun w => g6_f w) (fun w => g6_t w) w
theorem g7_f : ∀ (w : World) (os : OsState), segRunT treeTable P0 (w.withFollow "special-get-raises" false) 11 ann 1 767 (stT T6 66 1784 (w.withFollow "special-get-raises" false) os) (piecesOf (sts 19 26) envT cE ⟨55, 9, 55, 110⟩ B0) = some (.next, stT Tf 196 1952 (w.withFollow "special-get-raises" false) os, cE, ⟨190, 0, 191, 43⟩) := fun w os => (quickRun (w.withFollow "special-get-raises" false) 11 ann 1 767 _ _ _).trans (by kernel_rfl)
theorem g7_t : ∀ (w : World) (os : OsState), segRunT treeTable P0 (w.withFollow "special-get-raises" true) 11 ann 1 767 (stT T6 66 1784 (w.withFollow "special-get-raises" true) os) (piecesOf (sts 19 26) envT cE ⟨55, 9, 55, 110⟩ B0) = some (.next, stT Tf 196 1952 (w.withFollow "special-get-raises" true) os, cE, ⟨190, 0, 191, 43⟩) := fun w os => (quickRun (w.withFollow "special-get-raises" true) 11 ann 1 767 _ _ _).trans (by kernel_rfl)
noncomputable def g7P (w : World) : Prop := ∀ os : OsState, segRunT treeTable P0 w 11 ann 1 767 (stT T6 66 1784 w os) (piecesOf (sts 19 26) envT cE ⟨55, 9, 55, 110⟩ B0) = some (.next, stT Tf 196 1952 w os, cE, ⟨190, 0, 191, 43⟩)
theorem g7 : ∀ (w : World), g7P w := fun w => byRow2 "special-get-raises" (P := g7P) (fun w => g7_f w) (fun w => g7_t w) w

end Mine
end
end
section
open PySem PySem.W PyProof.Rows
set_option maxHeartbeats 0
noncomputable section
namespace Mine
theorem quickGo (w : World) (m : Nat) (a : Option Value) (n : Nat) (s : Shared) (th : Thread) :
    topGo treeTable P0 w m a n s th = Fast.tw15667345088766844465 Fast.tw14364793385576792824 P0 w m a n s th := by
  rw [Fast.te14364793385576792824, Fast.te15667345088766844465]
theorem quickTop (w : World) (m : Nat) (a : Option Value) (n : Nat) (s : Shared) (th : Thread) :
    topRun treeTable P0 w m a n s th = Fast.tw14082659384304107361 Fast.tw14364793385576792824 P0 w m a n s th := by
  rw [Fast.te14364793385576792824, Fast.te14082659384304107361]
theorem quickDen (c : Code) : denote treeTable c = Fast.tw11892475500146522536 Fast.tw14364793385576792824 c := by
  rw [Fast.te14364793385576792824, Fast.te11892475500146522536]
noncomputable def s0 (w : World) (os : OsState) : Shared := ⟨boot_heap w.params, #[], boot_drawn, boot_toks, os⟩
theorem preQ : ∀ (w : World) (os : OsState), Fast.tw15667345088766844465 Fast.tw14364793385576792824 P0 w 11 ann 12 (s0 w os) (topStub P0) = some ((stT Ta 15 187 w os).abs, ⟨Fast.tw11892475500146522536 Fast.tw14364793385576792824 cE, cE, pos0, B0⟩) := fun w os => by kernel_rfl
theorem pre : ∀ (w : World) (os : OsState), topGo treeTable P0 w 11 ann 12 (s0 w os) (topStub P0) = some ((stT Ta 15 187 w os).abs, ⟨denote treeTable cE, cE, pos0, B0⟩) := fun w os => by
  rw [quickGo, quickDen]
  exact preQ w os
theorem block : ∀ (w : World) (os : OsState), segRunT treeTable P0 w 11 ann 1 1 (stT Ta 15 187 w os) (blockOf bodyT envT cE pos0 B0) = some (.next, stT Tb 15 187 w os, cE, pos0) := fun w os => by kernel_rfl
theorem fin : ∀ (w : World) (os : OsState), topRun treeTable P0 w 11 ann 2 (stT Tf 196 1952 w os).abs ⟨doneF .next, cE, ⟨190, 0, 191, 43⟩, B0⟩ = some (stT Tf 196 1952 w os).abs := fun w os => by
  rw [quickTop]; exact (by kernel_rfl)
theorem cut (a n b : Nat) (h : a + n = b) : bodyT.drop a = sts a n ++ bodyT.drop b := by
  subst h; unfold sts; rw [← List.drop_drop, List.take_append_drop]
theorem run : ∀ (w : World) (os : OsState), topRun treeTable P0 w 11 ann (12 + (1 + (180 + (9552 + (133 + (3077 + (25 + (4303 + (767 + 2))))))))) (s0 w os) (topStub P0) = some (stT Tf 196 1952 w os).abs := fun w os => by
  refine go_top (pre w os) ?_
  refine piece_block (q := pos0) (segRun_of (block w os)) ?_
  show topRun treeTable P0 w 11 ann _ _ (restOf (bodyT.drop 0) envT cE pos0 [topFrame pos0]) = _
  rw [cut 0 7 7 rfl]
  refine piece_app (segRun_of (g1 w os)) ?_
  rw [cut 7 1 8 rfl]
  refine piece_app (segRun_of (g2 w os)) ?_
  rw [cut 8 8 16 rfl]
  refine piece_app (segRun_of (g3 w os)) ?_
  rw [cut 16 1 17 rfl]
  refine piece_app (segRun_of (g4 w os)) ?_
  rw [cut 17 1 18 rfl]
  refine piece_app (segRun_of (g5 w os)) ?_
  rw [cut 18 1 19 rfl]
  refine piece_app (segRun_of (g6 w os)) ?_
  rw [cut 19 26 45 rfl]
  refine piece_app (segRun_of (g7 w os)) ?_
  have e : bodyT.drop 45 = [] := by kernel_rfl
  rw [e]
  exact piece_nil (fin w os)
noncomputable def qL : Program := { P0 with main := { P0.main with body := [stAt 44] } }
noncomputable def lawN : Str := Str.ofString "law"
noncomputable def looseL : List Str := P0.boundNames.filter fun n => !(n == lawN)
noncomputable def dLaw : DefRec := ⟨lawN, aArgs (stAt 44), aBody (stAt 44), aScope (stAt 44), ⟨190, 0, 191, 43⟩⟩
noncomputable def Hf (P : Params) : Heap := absHeap (Tf P) 196 {}
noncomputable def sF (w : World) (os : OsState) : Shared := ⟨Hf w.params, #[], {}, 1952, os⟩
theorem look1 : ∀ (w : World) (os : OsState), (staticsOk (importedModules P0.main.body) (boot_heap w.params) (Hf w.params) && namesBound P0 (Hf w.params) && gensDone (sF w os) && laidKept (boot_heap w.params) (Hf w.params)) = true := fun w os => by kernel_rfl
theorem quickSeen (q : Program) (loose mods : List Str) (Xt : Shared → Bool) (g0 : Bool) (s : Shared) : openSeen q loose mods Xt g0 s = Fast.tw4187177175401517315 q loose mods Xt g0 s := by rw [Fast.te4187177175401517315]
theorem look2 : ∀ (w : World) (os : OsState), openSeen qL looseL (importedModules P0.main.body) (fun _ => true) true (sF w os) = openGood qL looseL := fun w os => (quickSeen ..).trans (by kernel_rfl)
theorem size0 : ∀ w : World, ((boot_heap w.params).isNs mainGlobals && (#[] : Array GenState).size == 0, (boot_heap w.params).objs.size, (boot_heap w.params).nsMap mainGlobals "__annotations__") = (true, 11, ann) := fun w => by kernel_rfl
theorem hdefL : defOf qL lawN = some (dLaw, []) := by kernel_rfl
theorem hpL : P0.theDef lawN = some (dLaw.params, dLaw.body, dLaw.scope) := by kernel_rfl
theorem quickImp (p : Program) (w : World) (n : Nat) (s : Shared) (t : Thread) : importEnds treeTable p w n s t = Fast.tw10274390034422433532 Fast.tw14364793385576792824 p w n s t := by
  rw [Fast.te14364793385576792824, Fast.te10274390034422433532]
theorem impE : ∀ w : World, importEnds treeTable (opening P0) w 600 (start (opening P0)).1 (start (opening P0)).2 = some ⟨boot_heap w.params, #[], boot_drawn, boot_toks, (start (opening P0)).1.os⟩ := fun w => (quickImp ..).trans (by kernel_rfl)
theorem quickFence (p : Program) (s : Shared) : fenceModules? p s = Fast.tw14289696077712309145 p s := by rw [Fast.te14289696077712309145]
theorem fenceE : ∀ w : World, (fun os => (fenceModules? P0 ⟨boot_heap w.params, #[], boot_drawn, boot_toks, os⟩).map (fun s => (s.heap, s.gens, s.drawn, s.toks))) = fun _ => some (boot_heap w.params, #[], boot_drawn, boot_toks) := fun w => by
  funext os
  rw [quickFence]
  exact (by kernel_rfl)
theorem openE : ∀ w : World, (fencedOpening treeTable P0 w 40000).map (fun s => (s.heap, s.gens, s.drawn, s.toks)) = some (boot_heap w.params, #[], boot_drawn, boot_toks) := open_cut impE rfl fenceE
noncomputable def obsH (s : Shared) : Heap := s.heap
theorem leftL : LeftO P0 qL looseL (fun _ => true) obsH (fun w => Hf w.params) 40000 :=
  LeftO.of_pieces (H₁ := Hf) (gs₁ := #[]) (d₁ := {}) (k₁ := 1952) openE size0 (fun w os => run w os) (by kernel_rfl) (fun w => funext fun os => by
    refine Prod.ext (look1 w os) (Prod.ext (look2 w os) rfl))
noncomputable def saysH (w : World) (h : Heap) : Prop := ∀ b o, (Hf w.params).get? b = some o → h.get? b = some o
theorem said : OpenLaw.wellSaid PySem.Challenge.rw_op0073_01 = true := by kernel_rfl
theorem okL : (chainsOk qL && opensWell P0 && (frees PySem.Challenge.rw_op0073_01.row.toRowW && PySem.Challenge.rw_op0073_01.row.within.isEmpty)) = true := by kernel_rfl
theorem kwL : kwWritten? dLaw.params.kwonlyargs dLaw.params.kw_defaults = some [] := by kernel_rfl
theorem head (walk : WalkO qL looseL (fun _ _ => True) saysH PySem.Challenge.rw_op0073_01.row.toRowW dLaw [] fun f vs => PySem.call f vs) : PySem.Challenge.rw_op0073_01.Holds := by
  refine holds_law said fun k1 => ?_
  refine holds_open (Yf := obsH) (Ya := fun w => Hf w.params) (YP := saysH) (XP := fun _ _ => True) (kwd := []) (d := dLaw) leftL ?_ ?_ (fun _ _ => trivial) (fun _ _ _ _ _ => trivial) hdefL hpL kwL (fun _ _ => recFacts_nil rfl) rfl k1 okL ⟨rfl, rfl, rfl, rfl, rfl, by decide +kernel⟩ ?_ walk
  · intro w s e b o h
    have e' : s.heap = Hf w.params := e
    rw [e']; exact h
  · intro w h h' y k b o e
    exact k b o (y b o e)
  · w_witness2
end Mine
end
end
section
open PySem PySem.W PyProof.Rows
namespace Mine
/-- the data that the program's values bear -/
inductive D where
  | nil
  | bool (b : Bool)
  | int (i : Int)
  | str (s : Str)
  | bytes (b : List Nat)
  | list (xs : List D)
  | tup (xs : List D)
  | rng (lo hi : Int)
  | own (k : Nat)
noncomputable abbrev Mu := List (Option (List D))
noncomputable abbrev Sg := List (Str × D)

theorem noSome {β : Type} {x : β} {P : Prop} (h : (none : Option β) = some x) : P := by cases h
noncomputable def onStr {β : Type} (d : D) (f : Str → Option β) : Option β := match d with
  | .str s => f s
  | _ => none
theorem onStr_inv {β : Type} {d : D} {f : Str → Option β} {x : β} (h : onStr d f = some x) : ∃ s, d = .str s ∧ f s = some x := by cases d <;> first | exact ⟨_, rfl, h⟩ | exact noSome h
noncomputable def onList {β : Type} (d : D) (f : List D → Option β) : Option β := match d with
  | .list s => f s
  | _ => none
theorem onList_inv {β : Type} {d : D} {f : List D → Option β} {x : β} (h : onList d f = some x) : ∃ s, d = .list s ∧ f s = some x := by cases d <;> first | exact ⟨_, rfl, h⟩ | exact noSome h
noncomputable def onInt {β : Type} (d : D) (f : Int → Option β) : Option β := match d with
  | .int s => f s
  | _ => none
theorem onInt_inv {β : Type} {d : D} {f : Int → Option β} {x : β} (h : onInt d f = some x) : ∃ s, d = .int s ∧ f s = some x := by cases d <;> first | exact ⟨_, rfl, h⟩ | exact noSome h
noncomputable def onTup {β : Type} (d : D) (f : List D → Option β) : Option β := match d with
  | .tup s => f s
  | _ => none
theorem onTup_inv {β : Type} {d : D} {f : List D → Option β} {x : β} (h : onTup d f = some x) : ∃ s, d = .tup s ∧ f s = some x := by cases d <;> first | exact ⟨_, rfl, h⟩ | exact noSome h
noncomputable def o3 (p q : Prop) [Decidable p] [Decidable q] : Ordering := if p then .lt else if q then .gt else .eq
mutual
noncomputable def D.cmp : D → D → Option Ordering
  | .int a, b => onInt b fun b => some (o3 (a < b) (b < a))
  | .str a, b => onStr b fun b => some (o3 (a.cps.toList < b.cps.toList) (b.cps.toList < a.cps.toList))
  | .list a, b => onList b (D.cmps a)
  | .tup a, b => onTup b (D.cmps a)
  | _, _ => none
noncomputable def D.cmps : List D → List D → Option Ordering
  | [], b => match b with
    | [] => some .eq
    | _ :: _ => some .lt
  | x :: xs, b => match b with
    | [] => some .gt
    | y :: ys => match D.cmp x y with
      | some .eq => D.cmps xs ys
      | r => r
end
/-- what holds of all that compare -/
structure CmpInd (P : D → D → Ordering → Prop) (Ps : List D → List D → Ordering → Prop) : Prop where
  int : ∀ a b : Int, P (.int a) (.int b) (o3 (a < b) (b < a))
  str : ∀ a b : Str, P (.str a) (.str b) (o3 (a.cps.toList < b.cps.toList) (b.cps.toList < a.cps.toList))
  list : ∀ a b o, D.cmps a b = some o → Ps a b o → P (.list a) (.list b) o
  tup : ∀ a b o, D.cmps a b = some o → Ps a b o → P (.tup a) (.tup b) o
  nn : Ps [] [] .eq
  nc : ∀ y ys, Ps [] (y :: ys) .lt
  cn : ∀ x xs, Ps (x :: xs) [] .gt
  ce : ∀ x xs y ys o, D.cmp x y = some .eq → D.cmps xs ys = some o → P x y .eq → Ps xs ys o → Ps (x :: xs) (y :: ys) o
  cd : ∀ x xs y ys o, o ≠ .eq → D.cmp x y = some o → P x y o → Ps (x :: xs) (y :: ys) o
theorem cmps_some {x y : D} {xs ys : List D} {o : Ordering} (h : D.cmps (x :: xs) (y :: ys) = some o) : (D.cmp x y = some .eq ∧ D.cmps xs ys = some o) ∨ (o ≠ .eq ∧ D.cmp x y = some o) := by
  have e : (match D.cmp x y with
      | some .eq => D.cmps xs ys
      | r => r) = some o := h
  cases q : D.cmp x y with
  | none => rw [q] at e; cases e
  | some p =>
    rw [q] at e
    cases p with
    | eq => exact .inl ⟨rfl, e⟩
    | lt => cases e; exact .inr ⟨nofun, rfl⟩
    | gt => cases e; exact .inr ⟨nofun, rfl⟩
theorem cmps_go {x y : D} {xs ys : List D} {r : Option Ordering} (h : D.cmp x y = some .eq) (h2 : D.cmps xs ys = r) : D.cmps (x :: xs) (y :: ys) = r := by
  show (match D.cmp x y with
      | some .eq => D.cmps xs ys
      | r => r) = r
  rw [h]; exact h2
theorem cmps_stop {x y : D} {xs ys : List D} {o : Ordering} (h0 : o ≠ .eq) (h : D.cmp x y = some o) : D.cmps (x :: xs) (y :: ys) = some o := by
  show (match D.cmp x y with
      | some .eq => D.cmps xs ys
      | r => r) = some o
  rw [h]
  cases o <;> first | exact absurd rfl h0 | rfl
section
variable {P : D → D → Ordering → Prop} {Ps : List D → List D → Ordering → Prop}
mutual
theorem CmpInd.cmp (I : CmpInd P Ps) : ∀ (a b : D) (o : Ordering), D.cmp a b = some o → P a b o
  | .int a, b, o, h => by obtain ⟨b, rfl, h⟩ := onInt_inv h; cases h; exact I.int a b
  | .str a, b, o, h => by obtain ⟨b, rfl, h⟩ := onStr_inv h; cases h; exact I.str a b
  | .list a, b, o, h => by obtain ⟨b, rfl, h⟩ := onList_inv h; exact I.list a b o h (CmpInd.cmps I a b o h)
  | .tup a, b, o, h => by obtain ⟨b, rfl, h⟩ := onTup_inv h; exact I.tup a b o h (CmpInd.cmps I a b o h)
  | .nil, b, o, h => noSome h
  | .bool _, b, o, h => noSome h
  | .bytes _, b, o, h => noSome h
  | .rng _ _, b, o, h => noSome h
  | .own _, b, o, h => noSome h
theorem CmpInd.cmps (I : CmpInd P Ps) : ∀ (a b : List D) (o : Ordering), D.cmps a b = some o → Ps a b o
  | [], b, o, h => by cases b with
    | nil => cases h; exact I.nn
    | cons y ys => cases h; exact I.nc y ys
  | x :: xs, b, o, h => by cases b with
    | nil => cases h; exact I.cn x xs
    | cons y ys =>
      rcases cmps_some h with ⟨h1, h2⟩ | ⟨h1, h2⟩
      · exact I.ce x xs y ys o h1 h2 (CmpInd.cmp I x y _ h1) (CmpInd.cmps I xs ys o h2)
      · exact I.cd x xs y ys o h1 h2 (CmpInd.cmp I x y o h2)
end
end

/-- data that may be compared, of so many storeys -/
noncomputable def eqD (f : List D → Bool) : D → Bool
  | .int _ => true
  | .str s => PyData.strOk s
  | .list xs => f xs
  | .tup xs => f xs
  | _ => false
noncomputable def eqOk : Nat → D → Bool
  | 0 => eqD fun _ => false
  | n + 1 => eqD fun xs => xs.all (eqOk n)
noncomputable def scal : D → Bool := eqD fun _ => false
noncomputable def flatD : D → Bool := eqD fun xs => xs.all scal
theorem eqD_inv {f : List D → Bool} {d : D} (h : eqD f d = true) : (∃ i, d = .int i) ∨ (∃ s, d = .str s ∧ PyData.strOk s = true) ∨ (∃ xs, d = .list xs ∧ f xs = true) ∨ ∃ xs, d = .tup xs ∧ f xs = true := by
  cases d with
  | int i => exact .inl ⟨i, rfl⟩
  | str s => exact .inr (.inl ⟨s, rfl, h⟩)
  | list xs => exact .inr (.inr (.inl ⟨xs, rfl, h⟩))
  | tup xs => exact .inr (.inr (.inr ⟨xs, rfl, h⟩))
  | _ => cases h
theorem scal_inv {d : D} (h : scal d = true) : (∃ i, d = .int i) ∨ ∃ s, d = .str s ∧ PyData.strOk s = true := by
  obtain h | h | ⟨_, _, h⟩ | ⟨_, _, h⟩ := eqD_inv h
  · exact .inl h
  · exact .inr h
  · cases h
  · cases h
theorem eqOk_is (n : Nat) : ∃ f : List D → Bool, eqOk n = eqD f ∧ ∀ xs, f xs = true → ∃ m, n = m + 1 ∧ xs.all (eqOk m) = true := by
  cases n with
  | zero => exact ⟨_, rfl, fun _ h => absurd h Bool.false_ne_true⟩
  | succ n => exact ⟨_, rfl, fun xs h => ⟨n, rfl, h⟩⟩
/-- what a name of the module or of the built-ins holds -/
inductive GV where
  | fn (a : Nat)
  | bi (id : String)
  | ty (name : String)
  | dat (d : D)

structure Tbl where
  fn : List (Nat × (List D → D → Prop))
  mt : List (Nat × (List D → List D → D → List D → Prop))

noncomputable def b2 (b : Bool) : Int := if b then 1 else 0
noncomputable def small (i : Int) : Bool := decide (-1000000 < i) && decide (i < 1000000)
noncomputable def int2 (f : Int → Int → Option D) (a b : D) : Option D := onInt a fun x => onInt b (f x)
noncomputable def addD (a b : D) : Option D := match a with
  | .int x => onInt b fun y => some (.int (x + y))
  | .str x => onStr b fun y => if (decide (x.length ≤ 1000) && decide (y.length ≤ 1000)) = true then some (.str (x ++ y)) else none
  | d => onList d fun x => onList b fun y => if (decide (x.length ≤ 1000) && decide (y.length ≤ 1000)) = true then some (.list (x ++ y)) else none
noncomputable def onBool {β : Type} (d : D) (f : Bool → Option β) : Option β := match d with
  | .bool s => f s
  | _ => none
theorem onBool_inv {β : Type} {d : D} {f : Bool → Option β} {x : β} (h : onBool d f = some x) : ∃ s, d = .bool s ∧ f s = some x := by cases d <;> first | exact ⟨_, rfl, h⟩ | exact noSome h
noncomputable def subtD (a b : D) : Option D := match a with
  | .int x => onInt b fun y => some (.int (x - y))
  | d => onBool d fun x => onBool b fun y => some (.int (b2 x - b2 y))
noncomputable def multD (a b : D) : Option D := match a with
  | .int x => onInt b fun y => if (small x && small y) = true then some (.int (x * y)) else none
  | d => onList d fun xs => onInt b fun k => if (decide (0 ≤ k) && decide (k ≤ 64) && decide (xs.length ≤ 64)) = true then some (.list (List.replicate k.toNat xs).flatten) else none
noncomputable def binD (op : Operator) (a b : D) : Option D := match op with
  | .Add => addD a b
  | .Sub => subtD a b
  | .Mult => multD a b
  | .FloorDiv => int2 (fun a b => if b = 0 then none else if small b = true then some (.int (a.fdiv b)) else none) a b
  | .Mod => int2 (fun a b => if b = 0 then none else some (.int (a.fmod b))) a b
  | .Pow => int2 (fun a n => if (decide (0 ≤ n) && decide (n ≤ 64) && small a) = true then some (.int (a ^ n.toNat)) else none) a b
  | .RShift => int2 (fun a n => if (decide (0 ≤ n) && decide (n ≤ 64)) = true then some (.int (a.fdiv (2 ^ n.toNat))) else none) a b
  | _ => none
theorem iteSome {β : Type} {c : Bool} {a : Option β} {x : β} (h : (if c = true then a else none) = some x) : c = true ∧ a = some x := by
  cases c with
  | false => cases h
  | true => exact ⟨rfl, h⟩
theorem iteSomeP {β : Type} {c : Prop} [Decidable c] {a : Option β} {x : β} (h : (if c then a else none) = some x) : c ∧ a = some x := by
  by_cases hc : c
  · rw [if_pos hc] at h; exact ⟨hc, h⟩
  · rw [if_neg hc] at h; cases h
theorem iteNone {β : Type} {c : Prop} [Decidable c] {a : Option β} {x : β} (h : (if c then none else a) = some x) : ¬ c ∧ a = some x := by
  by_cases hc : c
  · rw [if_pos hc] at h; cases h
  · rw [if_neg hc] at h; exact ⟨hc, h⟩
theorem int2_inv {f : Int → Int → Option D} {a b d : D} (h : int2 f a b = some d) : ∃ x y, a = .int x ∧ b = .int y ∧ f x y = some d := by
  obtain ⟨x, rfl, h1⟩ := onInt_inv h
  obtain ⟨y, rfl, h2⟩ := onInt_inv h1
  exact ⟨x, y, rfl, rfl, h2⟩
noncomputable def ordIs : CmpOp → Ordering → Option Bool
  | .Lt, o => some (o == .lt)
  | .Gt, o => some (o == .gt)
  | .Eq, o => some (o == .eq)
  | .NotEq, o => some (o != .eq)
  | _, _ => none
noncomputable def eqInt (i : Int) : D → Option Bool
  | .int j => some (j == i)
  | _ => none
noncomputable def anyInt (i : Int) : List D → Option Bool
  | [] => some false
  | d :: r => (eqInt i d).bind fun b => if b then some true else anyInt i r
noncomputable def ownOf (μ : Mu) (k : Nat) : Option (List D) := (μ[k]?).bind id
theorem bindSome {β γ : Type} {o : Option β} {f : β → Option γ} {x : γ} (h : o.bind f = some x) : ∃ y, o = some y ∧ f y = some x := Option.bind_eq_some_iff.mp h
theorem mapSome {β γ : Type} {o : Option β} {f : β → γ} {x : γ} (h : o.map f = some x) : ∃ y, o = some y ∧ f y = x := Option.map_eq_some_iff.mp h
theorem ownOf_is {μ : Mu} {k : Nat} {ds : List D} (h : ownOf μ k = some ds) : μ[k]? = some (some ds) :=
  have ⟨_, h1, h2⟩ := bindSome h
  h1.trans (congrArg some h2)
theorem ownOf_of {μ : Mu} {k : Nat} {ds : List D} (h : μ[k]? = some (some ds)) : ownOf μ k = some ds := by unfold ownOf; rw [h]; rfl
noncomputable def onOwn {β : Type} (d : D) (f : Nat → Option β) : Option β := match d with
  | .own s => f s
  | _ => none
theorem onOwn_inv {β : Type} {d : D} {f : Nat → Option β} {x : β} (h : onOwn d f = some x) : ∃ s, d = .own s ∧ f s = some x := by cases d <;> first | exact ⟨_, rfl, h⟩ | exact noSome h
noncomputable def one? {β : Type} (l : List Nat) (f : Nat → Option β) : Option β := match l with
  | [] => none
  | c :: r => (match r with
    | [] => f c
    | _ :: _ => none)
theorem one?_inv {β : Type} {l : List Nat} {f : Nat → Option β} {x : β} (h : one? l f = some x) : ∃ c, l = [c] ∧ f c = some x := by
  cases l with
  | nil => exact noSome h
  | cons d r => cases r with
    | nil => exact ⟨d, rfl, h⟩
    | cons => exact noSome h
noncomputable def memStr (x s : Str) : Option Bool := one? x.cps.toList fun c => some (s.cps.toList.contains c)
noncomputable def inD (a b : D) : Option Bool := onStr a fun x => onStr b (memStr x)
noncomputable def notInD (μ : Mu) (a b : D) : Option Bool := match a with
  | .int i => onOwn b fun k => (ownOf μ k).bind fun ds => if ds.all (fun d => (eqInt i d).isSome) = true then (anyInt i ds).map (!·) else none
  | a => onStr a fun x => onStr b fun s => (memStr x s).map (!·)
noncomputable def cmpD (μ : Mu) (op : CmpOp) (a b : D) : Option Bool := match op with
  | .In => inD a b
  | .NotIn => notInD μ a b
  | .Lt => if (flatD a && flatD b) = true then (D.cmp a b).bind (ordIs .Lt) else none
  | .Gt => if (flatD a && flatD b) = true then (D.cmp a b).bind (ordIs .Gt) else none
  | .Eq => if (eqOk 10 a && eqOk 10 b) = true then (D.cmp a b).bind (ordIs .Eq) else none
  | .NotEq => if (eqOk 10 a && eqOk 10 b) = true then (D.cmp a b).bind (ordIs .NotEq) else none
  | _ => none
noncomputable def truthD (μ : Mu) (d : D) : Option Bool := match d with
  | .bool b => some b
  | .int i => some (i != 0)
  | .str s => if s.length ≤ 1000000 then some (decide (s.length ≠ 0)) else none
  | .bytes b => if b.length ≤ 1000000 then some (!b.isEmpty) else none
  | .list xs => if xs.length ≤ 1000000 then some (!xs.isEmpty) else none
  | .own k => (ownOf μ k).bind fun ds => if ds.length ≤ 1000000 then some (!ds.isEmpty) else none
  | _ => none
noncomputable def at? {α : Type} (xs : List α) (i : Int) : Option α :=
  if 0 ≤ i then xs[i.toNat]? else if -(xs.length : Int) ≤ i then xs[(xs.length + i).toNat]? else none
noncomputable def subD (μ : Mu) (a b : D) : Option D := onInt b fun i => match a with
  | .list xs => if xs.length ≤ 100000 then at? xs i else none
  | .tup xs => if 0 ≤ i then if xs.length ≤ 100000 then xs[i.toNat]? else none else none
  | .own k => (ownOf μ k).bind fun ds => if 0 ≤ i then if ds.length ≤ 100000 then ds[i.toNat]? else none else none
  | a => onStr a fun s => if s.length ≤ 100000 then (at? s.cps.toList i).map fun c => .str ⟨#[c]⟩ else none
/-- the bounds of a slice by ones, clamped -/
noncomputable def clamp (n : Nat) (d : Nat) : Option Int → Nat
  | none => d
  | some i => if i < 0 then (n + i).toNat else min i.toNat n
noncomputable def cutL {α : Type} (xs : List α) (lo hi : Option Int) : List α :=
  (xs.take (clamp xs.length xs.length hi)).drop (clamp xs.length 0 lo)
noncomputable def sliceD (d : D) (lo hi st : Option Int) : Option D := match d with
  | .str s => if s.length ≤ 100000 then if st = none then some (.str ⟨(cutL s.cps.toList lo hi).toArray⟩) else none else none
  | d => onList d fun xs => if xs.length ≤ 100000 then if st = none then some (.list (cutL xs lo hi)) else if hi = none ∧ st = some 4 then lo.bind fun k => if 0 ≤ k then some (.list ((sliceRange (max 0 (min k xs.length)) xs.length 4).filterMap (xs[·]?))) else none else none else none
noncomputable def allInts (l : List D) : Option (List Int) := match l with
  | [] => some []
  | d :: r => onInt d fun i => (allInts r).map (i :: ·)
noncomputable def allStrs (l : List D) : Option (List Str) := match l with
  | [] => some []
  | d :: r => onStr d fun i => (allStrs r).map (i :: ·)
noncomputable def octets? : List Int → Option (List Nat)
  | [] => some []
  | i :: r => if 0 ≤ i then if i < 256 then (octets? r).map (i.toNat :: ·) else none else none
noncomputable def insD (x : D) : List D → Option (List D)
  | [] => some [x]
  | y :: r => (D.cmp x y).bind fun o => if o == .gt then (insD x r).map (y :: ·) else some (x :: y :: r)
noncomputable def sortD : List D → Option (List D)
  | [] => some []
  | x :: r => (sortD r).bind (insD x)
noncomputable def allCmp (xs : List D) : Bool := xs.all fun a => xs.all fun b => (D.cmp a b).isSome
/-- a tuple whose first part is a list, its parts flat -/
noncomputable def tupOfList (d : D) : Bool := (onTup d fun xs => match xs with
  | [] => none
  | d :: r => onList d fun x => if ((D.list x :: r).all fun d => flatD d && eqOk 3 d) = true then some () else none).isSome
noncomputable def hexVal (c : Nat) : Option Nat := if 48 ≤ c ∧ c ≤ 57 then some (c - 48) else if 65 ≤ c ∧ c ≤ 70 then some (c - 55) else none
noncomputable def arg1 (ds : List D) (f : D → Option D) : Option D := match ds with
  | [] => none
  | d :: r => (match r with
    | [] => f d
    | _ :: _ => none)
noncomputable def arg2 (ds : List D) (f : D → D → Option D) : Option D := match ds with
  | [] => none
  | d :: r => arg1 r (f d)
theorem arg1_inv {ds : List D} {f : D → Option D} {x : D} (h : arg1 ds f = some x) : ∃ d, ds = [d] ∧ f d = some x := by
  cases ds with
  | nil => exact noSome h
  | cons d r => cases r with
    | nil => exact ⟨d, rfl, h⟩
    | cons => exact noSome h
theorem arg2_inv {ds : List D} {f : D → D → Option D} {x : D} (h : arg2 ds f = some x) : ∃ d e, ds = [d, e] ∧ f d e = some x := by
  cases ds with
  | nil => exact noSome h
  | cons d r => obtain ⟨e, rfl, h⟩ := arg1_inv h; exact ⟨d, e, rfl, h⟩
noncomputable def lenF (μ : Mu) (d : D) : Option D := match d with
  | .list xs => if xs.length ≤ 1000000 then some (.int xs.length) else none
  | .str s => if s.length ≤ 1000000 then some (.int s.length) else none
  | .own k => (ownOf μ k).bind fun ds => if ds.length ≤ 1000000 then some (.int ds.length) else none
  | _ => none
noncomputable def chrF (d : D) : Option D := onInt d fun i => if 0 ≤ i then if i < 256 then some (.str ⟨#[i.toNat]⟩) else none else none
noncomputable def ordF (d : D) : Option D := onStr d fun s => one? s.cps.toList fun c => some (.int c)
noncomputable def sumF (d : D) : Option D := onList d fun xs => (allInts xs).map fun l => .int l.sum
noncomputable def sortedF (d : D) : Option D := onList d fun xs => if (xs.all tupOfList && allCmp xs && decide (xs.length < 64)) = true then (sortD xs).map .list else none
noncomputable def biD (μ : Mu) (id : String) (ds : List D) : Option D :=
  if id = "len" then arg1 ds (lenF μ) else if id = "chr" then arg1 ds chrF else if id = "ord" then arg1 ds ordF else if id = "sum" then arg1 ds sumF else if id = "sorted" then arg1 ds sortedF else none
theorem iteOr {β : Type} {c : Prop} [Decidable c] {a b : Option β} {x : β} (h : (if c then a else b) = some x) : (c ∧ a = some x) ∨ b = some x := by
  by_cases q : c
  · rw [if_pos q] at h; exact .inl ⟨q, h⟩
  · rw [if_neg q] at h; exact .inr h
noncomputable def rng1 (n : Int) : Option D := if -1000000 < n then if n < 1000000 then some (.rng 0 n) else none else none
noncomputable def rng2 (a n : Int) : Option D := if -1000000 < a then if a < 1000000 then if -1000000 < n then if n < 1000000 then some (.rng a n) else none else none else none else none
noncomputable def rangeF (ds : List D) : Option D := match ds with
  | [] => none
  | a :: r => (match r with
    | [] => onInt a rng1
    | _ :: _ => onInt a fun x => arg1 r fun b => onInt b (rng2 x))
noncomputable def bytesF (d : D) : Option D := onList d fun xs => if xs.length ≤ 1000 then (allInts xs).bind fun l => (octets? l).map .bytes else none
noncomputable def hex2 (l : List Nat) : Option D := match l with
  | [] => none
  | a :: r => one? r fun b => (hexVal a).bind fun (x : Nat) => (hexVal b).map fun (y : Nat) => D.int (16 * (x : Int) + (y : Int))
noncomputable def intF (d e : D) : Option D := onStr d fun s => onInt e fun k => if k = 16 then hex2 s.cps.toList else none
noncomputable def tyD (nm : String) (ds : List D) : Option D := if nm = "range" then rangeF ds else if nm = "bytes" then arg1 ds bytesF else if nm = "int" then arg2 ds intF else none
noncomputable def joinS : List Str → List Nat
  | [] => []
  | s :: r => s.cps.toList ++ joinS r
noncomputable def repl1 (a : Nat) (b : List Nat) : List Nat → List Nat
  | [] => []
  | c :: r => (if c == a then b else [c]) ++ repl1 a b r
/-- a sign that is printed plainly: no white space, no line's end -/
noncomputable def plainSign (c : Nat) : Bool := decide (33 ≤ c) && decide (c ≤ 126)
noncomputable def none0 (args : List D) (x : Option D) : Option D := match args with
  | [] => x
  | _ :: _ => none
theorem none0_inv {args : List D} {o : Option D} {x : D} (h : none0 args o = some x) : args = [] ∧ o = some x := by
  cases args with
  | nil => exact ⟨rfl, h⟩
  | cons => exact noSome h
noncomputable def onBytes (d : D) (f : List Nat → Option D) : Option D := match d with
  | .bytes s => f s
  | _ => none
theorem onBytes_inv {d : D} {f : List Nat → Option D} {x : D} (h : onBytes d f = some x) : ∃ s, d = .bytes s ∧ f s = some x := by cases d <;> first | exact ⟨_, rfl, h⟩ | exact noSome h
noncomputable def decodeF (d e : D) : Option D := onBytes d fun b => onStr e fun e => if (e == Str.ofString "latin1" && decide (b.length ≤ 1000) && !b.isEmpty) = true then some (.str ⟨b.toArray⟩) else none
noncomputable def translateF (d x : D) : Option D := onStr d fun s => onList x fun xs => (allStrs xs).bind fun hm => if (decide (1 ≤ s.length) && decide (s.length ≤ 1000) && decide (hm.length = 256) && hm.all (fun x => decide (x.length ≤ 1000)) && s.cps.toList.all (fun c => decide (c < 256))) = true then some (.str ⟨(joinS (s.cps.toList.map fun c => hm.getD c Str.empty)).toArray⟩) else none
noncomputable def plainF (f : Str → D) (d : D) : Option D := onStr d fun s => if (decide (1 ≤ s.length) && decide (s.length ≤ 1000) && s.cps.toList.all plainSign) = true then some (f s) else none
noncomputable def endsF (d e : D) : Option D := onStr d fun s => onStr e fun e => some (.bool (decide (e.length ≤ s.length) && s.cps.toList.drop (s.length - e.length) == e.cps.toList))
noncomputable def joinF (d x : D) : Option D := onStr d fun s => onList x fun xs => if s.length = 0 then (allStrs xs).bind fun l => if xs.length ≤ 1000 then if l.all (fun x => decide (x.length ≤ 1000)) = true then some (.str ⟨(joinS l).toArray⟩) else none else none else none
noncomputable def methD (d : D) (name : Str) (args : List D) : Option D :=
  if (name == Str.ofString "decode") = true then arg1 args (decodeF d) else if (name == Str.ofString "translate") = true then arg1 args (translateF d) else if (name == Str.ofString "splitlines") = true then none0 args (plainF (fun s => .list [.str s]) d)
  else if (name == Str.ofString "rstrip") = true then none0 args (plainF .str d) else if (name == Str.ofString "endswith") = true then arg1 args (endsF d) else if (name == Str.ofString "join") = true then arg1 args (joinF d) else none
end Mine
end
section
open PySem PySem.W PyProof.Rows
namespace Mine
inductive Fl where
  | next | brk | cont
  | ret (d : D)
mutual
noncomputable def D.plain : D → Bool
  | .own _ => false
  | .list xs => D.plains xs
  | .tup xs => D.plains xs
  | _ => true
noncomputable def D.plains : List D → Bool
  | [] => true
  | x :: r => D.plain x && D.plains r
end
noncomputable def isVar (o : Option NameKind) : Bool := o.elim false fun k => k == .local || (k == .cell || k == .free)
theorem isVar_inv {o : Option NameKind} (h : isVar o = true) : o = some .local ∨ o = some .cell ∨ o = some .free := by
  cases o with
  | none => cases h
  | some k =>
    rcases (Bool.or_eq_true _ _).mp h with h | h
    · exact .inl (congrArg some (LawfulBEq.eq_of_beq h))
    · rcases (Bool.or_eq_true _ _).mp h with h | h
      · exact .inr (.inl (congrArg some (LawfulBEq.eq_of_beq h)))
      · exact .inr (.inr (congrArg some (LawfulBEq.eq_of_beq h)))
/-- names that may be bound here -/
noncomputable def isBind (o : Option NameKind) : Bool := o.elim false fun k => k == .local || k == .cell
theorem isBind_inv {o : Option NameKind} (h : isBind o = true) : o = some .local ∨ o = some .cell := by
  cases o with
  | none => cases h
  | some k =>
    rcases (Bool.or_eq_true _ _).mp h with h | h
    · exact .inl (congrArg some (LawfulBEq.eq_of_beq h))
    · exact .inr (congrArg some (LawfulBEq.eq_of_beq h))
noncomputable def isGlob (o : Option NameKind) : Bool := o == some .globalImplicit
noncomputable def kOf (sc : Scope) (x : Str) : Option NameKind := sc.names.lookup x
/-- a name is bound anew, in its place -/
noncomputable def upd : Sg → Str → D → Sg
  | [], x, d => [(x, d)]
  | (y, e) :: r, x, d => if y == x then (x, d) :: r else (y, e) :: upd r x d
noncomputable def onName {β : Type} (e : Expr) (f : Str → Option β) : Option β := match e with
  | .Name x _ => f x
  | _ => none
theorem onName_inv {β : Type} {e : Expr} {f : Str → Option β} {y : β} (h : onName e f = some y) : ∃ x p, e = .Name x p ∧ f x = some y := by
  cases e with
  | Name x p => exact ⟨x, p, rfl, h⟩
  | _ => exact noSome h
noncomputable def tupleOf (e : Expr) : Option (List Expr) := match e with
  | .Tuple es _ _ => some es
  | _ => none
theorem tupleOf_inv {e : Expr} {es : List Expr} (h : tupleOf e = some es) : ∃ k p, e = .Tuple es k p := by
  cases e with
  | Tuple es k p => exact ⟨k, p, congrArg (Expr.Tuple · k p) (Option.some.inj h)⟩
  | _ => exact noSome h
noncomputable def bindNs (sc : Scope) : List Expr → List D → Sg → Option Sg
  | [], ds, σ => (match ds with
    | [] => some σ
    | _ :: _ => none)
  | e :: r, ds, σ => (match ds with
    | [] => none
    | d :: ds => onName e fun x => if isBind (kOf sc x) = true then bindNs sc r ds (upd σ x d) else none)
noncomputable def bindT (sc : Scope) (t : Expr) (d : D) (σ : Sg) : Option Sg := match tupleOf t with
  | some es => onTup d fun ds => bindNs sc es ds σ
  | none => onName t fun x => if isBind (kOf sc x) = true then some (upd σ x d) else none
noncomputable def intsFrom (lo : Int) : Nat → List D
  | 0 => []
  | k + 1 => .int lo :: intsFrom (lo + 1) k
noncomputable def itemsOf : D → Option (List D)
  | .list xs => some xs
  | .rng lo hi => if small lo && small hi then some (intsFrom lo (hi - lo).toNat) else none
  | .str s => if s.length ≤ 1000 then some (s.cps.toList.map fun c => .str ⟨#[c]⟩) else none
  | _ => none
/-- loops, as relations: from the items left and a state to an end -/
noncomputable def LF (bind : D → Sg → Option Sg) (body : Sg → Mu → Fl × Sg × Mu → Prop) : List D → Sg → Mu → Fl × Sg × Mu → Prop
  | [], σ, μ, y => y = (.next, σ, μ)
  | d :: r, σ, μ, y => ∃ σ1 x, bind d σ = some σ1 ∧ body σ1 μ x ∧ match x.1 with
    | .next => LF bind body r x.2.1 x.2.2 y
    | .cont => LF bind body r x.2.1 x.2.2 y
    | .brk => y = (.next, x.2.1, x.2.2)
    | .ret d => y = (.ret d, x.2.1, x.2.2)
noncomputable def LW (test : Sg → Mu → Bool × Mu → Prop) (body : Sg → Mu → Fl × Sg × Mu → Prop) : Nat → Sg → Mu → Fl × Sg × Mu → Prop
  | 0, _, _, _ => False
  | k + 1, σ, μ, y => ∃ t, test σ μ t ∧ if t.1 = true then ∃ x, body σ t.2 x ∧ match x.1 with
      | .next => LW test body k x.2.1 x.2.2 y
      | .cont => LW test body k x.2.1 x.2.2 y
      | .brk => y = (.next, x.2.1, x.2.2)
      | .ret d => y = (.ret d, x.2.1, x.2.2)
    else y = (.next, σ, t.2)
noncomputable def LC (bind : D → Sg → Option Sg) (step : Sg → Mu → List D → List D × Sg × Mu → Prop) : List D → Sg → Mu → List D → List D × Sg × Mu → Prop
  | [], σ, μ, acc, y => y = (acc, σ, μ)
  | d :: r, σ, μ, acc, y => ∃ σ1 x, bind d σ = some σ1 ∧ step σ1 μ acc x ∧ LC bind step r x.2.1 x.2.2 x.1 y
noncomputable def isFree (o : Option NameKind) : Bool := o == some .free
/-- a comprehension's own names: none is a cell, and what is free there is a cell outside -/
noncomputable def compOk (sc sc' : Scope) : Bool := (sc'.kind == .function) && sc'.names.all fun p => (p.2 != .cell) && ((p.2 != .free) || (kOf sc p.1 == some .cell)) && (kOf sc' p.1 == some p.2) && (p.1 != Str.ofString "__debug__")
noncomputable def innerOf (sc : Scope) (σ : Sg) : Sg := σ.filter fun p => isFree (kOf sc p.1)
noncomputable def tyName : D → Option String
  | .int _ => some "int"
  | .bool _ => some "bool"
  | .str _ => some "str"
  | _ => none
noncomputable def CallF (T : Tbl) (a : Nat) (ds : List D) (μ : Mu) (d : D) (μ' : Mu) : Prop :=
  (D.plains ds = true ∧ ∃ F, T.fn.lookup a = some F ∧ F ds d ∧ μ' = μ) ∨ ∃ (k : Nat) (rest cs cs' : List D) (F : List D → List D → D → List D → Prop), ds = .own k :: rest ∧ D.plains rest = true ∧ μ[k]? = some (some cs) ∧ T.mt.lookup a = some F ∧ F cs rest d cs' ∧ μ' = μ.set k (some cs')
noncomputable def methO (ds : List D) (name : Str) (args : List D) (k : Nat) (μ : Mu) : Option (D × Mu) := match args with
  | [] => if (name == Str.ofString "pop" && decide (ds.length ≤ 1000)) = true then ds.getLast?.map fun x => (x, μ.set k (some ds.dropLast)) else none
  | x :: r => (match r with
    | [] => if (name == Str.ofString "append" && D.plain x && decide (ds.length ≤ 1000)) = true then some (.nil, μ.set k (some (ds ++ [x]))) else none
    | _ :: _ => none)
noncomputable def methE (d : D) (name : Str) (args : List D) (μ : Mu) : Option (D × Mu) := match onOwn d some with
  | some k => (ownOf μ k).bind fun ds => methO ds name args k μ
  | none => (methD d name args).map fun r => (r, μ)
noncomputable def ownOk : D → Mu → Bool
  | .own k, μ => (ownOf μ k).isSome
  | _, _ => true
/-- a body's answer; an own list that is handed back is frozen -/
noncomputable def outD (x : Fl × Sg × Mu) : Option D := match x.1 with
  | .next => some .nil
  | .ret d => (match onOwn d some with
    | some k => (ownOf x.2.2 k).map .list
    | none => if D.plain d = true then some d else none)
  | _ => none
end Mine
end
section
open PySem PySem.W PyProof.Rows
namespace Mine
noncomputable abbrev P0' : Program := PySem.Challenge.pw_op0073_01
noncomputable def st (i : Nat) : Stmt := P0'.main.body.getD i (.Pass ⟨0, 0, 0, 0⟩)
noncomputable def fArgs : Stmt → List Str
  | .FunctionDef _ a _ _ _ _ _ _ _ _ => a.args.map (·.arg)
  | _ => []
noncomputable def fBody : Stmt → List Stmt
  | .FunctionDef _ _ b _ _ _ _ _ _ _ => b
  | _ => []
noncomputable def fScope : Stmt → Scope
  | .FunctionDef _ _ _ _ _ _ s _ _ _ => s
  | _ => { kind := .function, names := [], isGenerator := false, isCoroutine := false, more := [] }
noncomputable def hdrSign (c : Nat) : Str :=
  if c == 32 then ⟨#[95]⟩ else if (48 ≤ c && c ≤ 57) || (65 ≤ c && c ≤ 90) || (97 ≤ c && c ≤ 122) || c == 45 || c == 33 || c == 42 || c == 43 || c == 47 then ⟨#[c]⟩
  else ⟨#[61, (if c / 16 < 10 then 48 + c / 16 else 55 + c / 16), (if c % 16 < 10 then 48 + c % 16 else 55 + c % 16)]⟩
noncomputable def hdrMap : List D := (List.range 256).map fun c => .str (hdrSign c)
noncomputable def globs : List (Str × GV) := [
  (Str.ofString "heappush", .fn 21), (Str.ofString "heappop", .fn 28), (Str.ofString "heapify", .fn 35), (Str.ofString "_siftdown", .fn 42), (Str.ofString "_siftup", .fn 49),
  (Str.ofString "unquote", .fn 72), (Str.ofString "header_encode", .fn 80), (Str.ofString "decode", .fn 93), (Str.ofString "three_way_cmp", .fn 100),
  (Str.ofString "_law_numbers", .fn 105), (Str.ofString "_law_octets", .fn 112), (Str.ofString "_law_word", .fn 117), (Str.ofString "_law_sign", .fn 124), (Str.ofString "_law_written", .fn 129),
  (Str.ofString "_law_ranks", .fn 134), (Str.ofString "_law_read", .fn 139), (Str.ofString "_law_turnings", .fn 144), (Str.ofString "_law_laid", .fn 149), (Str.ofString "_law_carried", .fn 154),
  (Str.ofString "_law_told", .fn 161), (Str.ofString "_law_rings", .fn 166), (Str.ofString "_law_root", .fn 173), (Str.ofString "_law_least", .fn 178), (Str.ofString "_law_roots", .fn 183), (Str.ofString "_law_holds", .fn 188),
  (Str.ofString "_QUOPRI_HEADER_MAP", .dat (.list hdrMap)), (Str.ofString "hexdigits", .dat (.str (Str.ofString "0123456789abcdefABCDEF"))),
  (Str.ofString "len", .bi "len"), (Str.ofString "chr", .bi "chr"), (Str.ofString "ord", .bi "ord"), (Str.ofString "sum", .bi "sum"), (Str.ofString "sorted", .bi "sorted"),
  (Str.ofString "range", .ty "range"), (Str.ofString "bytes", .ty "bytes"), (Str.ofString "int", .ty "int"), (Str.ofString "reversed", .ty "reversed"), (Str.ofString "type", .ty "type")]
noncomputable def GG (x : Str) : Option GV := globs.lookup x
noncomputable def sg (i : Nat) (ds : List D) : Sg := ((fArgs (st i)).zip ds).reverse
end Mine
end
section
open PySem PySem.W PyProof.Rows
namespace Mine
/-- the part of the heap that stands still -/
noncomputable abbrev Gh := Addr → Option Obj
noncomputable def lobj (vs : List Value) (n : Nat) : Obj := { cls := .type "list", data := .seq vs.toArray n }
noncomputable def tobj (vs : List Value) (n : Nat) : Obj := { cls := .type "tuple", data := .seq vs.toArray n }
noncomputable def robj (lo hi : Int) (a b c : Tok) : Obj := { cls := .type "range", data := .fields #[.int lo a, .int hi b, .int 1 c] }
mutual
inductive Rd (g : Gh) (α : List Addr) : Value → D → Prop
  | nil : Rd g α .none .nil
  | bool (b : Bool) : Rd g α (.bool b) (.bool b)
  | int (i : Int) (t : Tok) : Rd g α (.int i t) (.int i)
  | str (s : Str) (t : Tok) : Rd g α (.str s t) (.str s)
  | bytes {b : Array UInt8} {l : List Nat} (t : Tok) (h : b.toList.map UInt8.toNat = l) : Rd g α (.bytes b t) (.bytes l)
  | list {a : Addr} {vs : List Value} {n : Nat} {ds : List D} (h : g a = some (lobj vs n)) (r : Rds g α vs ds) : Rd g α (.ref a) (.list ds)
  | tup {a : Addr} {vs : List Value} {n : Nat} {ds : List D} (h : g a = some (tobj vs n)) (r : Rds g α vs ds) : Rd g α (.ref a) (.tup ds)
  | rng {a : Addr} {lo hi : Int} {x y z : Tok} (h : g a = some (robj lo hi x y z)) : Rd g α (.ref a) (.rng lo hi)
  | own {k : Nat} {a : Addr} (h : α[k]? = some a) : Rd g α (.ref a) (.own k)
inductive Rds (g : Gh) (α : List Addr) : List Value → List D → Prop
  | nil : Rds g α [] []
  | cons {v : Value} {vs : List Value} {d : D} {ds : List D} (h : Rd g α v d) (r : Rds g α vs ds) : Rds g α (v :: vs) (d :: ds)
end
noncomputable def RdI (g : Gh) (α : List Addr) (v : Value) : D → Prop
  | .nil => v = .none
  | .bool b => v = .bool b
  | .int i => ∃ t, v = .int i t
  | .str x => ∃ t, v = .str x t
  | .bytes l => ∃ b t, v = .bytes b t ∧ b.toList.map UInt8.toNat = l
  | .list ds => ∃ a vs n, v = .ref a ∧ g a = some (lobj vs n) ∧ Rds g α vs ds
  | .tup ds => ∃ a vs n, v = .ref a ∧ g a = some (tobj vs n) ∧ Rds g α vs ds
  | .rng lo hi => ∃ a x y z, v = .ref a ∧ g a = some (robj lo hi x y z)
  | .own k => ∃ a, v = .ref a ∧ α[k]? = some a
theorem Rd.inv {g : Gh} {α : List Addr} {v : Value} {d : D} (h : Rd g α v d) : RdI g α v d :=
  Rd.casesOn (motive_1 := fun v d _ => RdI g α v d) h rfl (fun _ => rfl) (fun _ t => ⟨t, rfl⟩) (fun _ t => ⟨t, rfl⟩) (fun t h => ⟨_, t, rfl, h⟩) (fun h r => ⟨_, _, _, rfl, h, r⟩) (fun h r => ⟨_, _, _, rfl, h, r⟩) (fun h => ⟨_, _, _, _, rfl, h⟩) (fun h => ⟨_, rfl, h⟩)
section
variable {g : Gh} {α : List Addr} {v : Value}
theorem Rd.nil_ (h : Rd g α v .nil) : v = .none := h.inv
theorem Rd.bool_ {b : Bool} (h : Rd g α v (.bool b)) : v = .bool b := h.inv
theorem Rd.int_ {i : Int} (h : Rd g α v (.int i)) : ∃ t, v = .int i t := h.inv
theorem Rd.str_ {x : Str} (h : Rd g α v (.str x)) : ∃ t, v = .str x t := h.inv
theorem Rd.bytes_ {l : List Nat} (h : Rd g α v (.bytes l)) : ∃ b t, v = .bytes b t ∧ b.toList.map UInt8.toNat = l := h.inv
theorem Rd.list_ {ds : List D} (h : Rd g α v (.list ds)) : ∃ a vs n, v = .ref a ∧ g a = some (lobj vs n) ∧ Rds g α vs ds := h.inv
theorem Rd.tup_ {ds : List D} (h : Rd g α v (.tup ds)) : ∃ a vs n, v = .ref a ∧ g a = some (tobj vs n) ∧ Rds g α vs ds := h.inv
theorem Rd.rng_ {lo hi : Int} (h : Rd g α v (.rng lo hi)) : ∃ a x y z, v = .ref a ∧ g a = some (robj lo hi x y z) := h.inv
theorem Rd.own_ {k : Nat} (h : Rd g α v (.own k)) : ∃ a, v = .ref a ∧ α[k]? = some a := h.inv
end
theorem Rds.nil_ {g : Gh} {α : List Addr} {vs : List Value} (h : Rds g α vs []) : vs = [] := by cases h; rfl
theorem Rds.cons_ {g : Gh} {α : List Addr} {vs : List Value} {d : D} {ds : List D} (h : Rds g α vs (d :: ds)) : ∃ v r, vs = v :: r ∧ Rd g α v d ∧ Rds g α r ds := by cases h; exact ⟨_, _, rfl, ‹_›, ‹_›⟩
section
variable {g g' : Gh} {α α' β : List Addr}
theorem Rd.mono (hg : ∀ b o, g b = some o → g' b = some o) (hα : ∀ (k : Nat) a, α[k]? = some a → α'[k]? = some a) {v : Value} {d : D} (h : Rd g α v d) : Rd g' α' v d :=
  Rd.rec (motive_1 := fun v d _ => Rd g' α' v d) (motive_2 := fun vs ds _ => Rds g' α' vs ds) .nil .bool .int .str .bytes (fun h _ r => .list (hg _ _ h) r) (fun h _ r => .tup (hg _ _ h) r) (fun h => .rng (hg _ _ h)) (fun h => .own (hα _ _ h)) .nil (fun _ _ h r => .cons h r) h
theorem Rds.mono (hg : ∀ b o, g b = some o → g' b = some o) (hα : ∀ (k : Nat) a, α[k]? = some a → α'[k]? = some a) {vs : List Value} {ds : List D} (h : Rds g α vs ds) : Rds g' α' vs ds :=
  Rds.rec (motive_1 := fun v d _ => Rd g' α' v d) (motive_2 := fun vs ds _ => Rds g' α' vs ds) .nil .bool .int .str .bytes (fun h _ r => .list (hg _ _ h) r) (fun h _ r => .tup (hg _ _ h) r) (fun h => .rng (hg _ _ h)) (fun h => .own (hα _ _ h)) .nil (fun _ _ h r => .cons h r) h
theorem Rds.plain {vs : List Value} {ds : List D} (p : D.plains ds = true) (h : Rds g α vs ds) : Rds g β vs ds :=
  Rds.rec (motive_1 := fun v d _ => D.plain d = true → Rd g β v d) (motive_2 := fun vs ds _ => D.plains ds = true → Rds g β vs ds) (fun _ => .nil) (fun b _ => .bool b) (fun i t _ => .int i t) (fun s t _ => .str s t) (fun t h _ => .bytes t h)
    (fun h _ r p => .list h (r p)) (fun h _ r p => .tup h (r p)) (fun h _ => .rng h) (fun _ p => nomatch p) (fun _ => .nil) (fun _ _ h r p => have p := (Bool.and_eq_true _ _).mp p; .cons (h p.1) (r p.2)) h p
theorem Rd.plain {v : Value} {d : D} (p : D.plain d = true) (h : Rd g α v d) : Rd g β v d := by
  obtain ⟨_, _, e, r, _⟩ := (Rds.plain (β := β) (show D.plains [d] = true from (Bool.and_eq_true _ _).mpr ⟨p, rfl⟩) (.cons h .nil)).cons_
  cases e; exact r
end
theorem Rds.ind {g : Gh} {α : List Addr} {P : List Value → List D → Prop} (h0 : P [] []) (h1 : ∀ {v vs d ds}, Rd g α v d → Rds g α vs ds → P vs ds → P (v :: vs) (d :: ds)) : ∀ {ds : List D} {vs : List Value}, Rds g α vs ds → P vs ds
  | [], vs, r => by cases r.nil_; exact h0
  | d :: ds, vs, r => by obtain ⟨v, vs, rfl, h, r⟩ := r.cons_; exact h1 h r (Rds.ind h0 h1 r)
theorem Rds.length {g : Gh} {α : List Addr} {vs : List Value} {ds : List D} (r : Rds g α vs ds) : vs.length = ds.length := r.ind (P := fun vs ds => vs.length = ds.length) rfl fun _ _ e => congrArg (· + 1) e
theorem Rds.at {g : Gh} {α : List Addr} {vs : List Value} {ds : List D} {i : Nat} {d : D} (r : Rds g α vs ds) : ds[i]? = some d → ∃ v, vs[i]? = some v ∧ Rd g α v d := by
  refine r.ind (P := fun vs ds => ∀ i : Nat, ds[i]? = some d → ∃ v, vs[i]? = some v ∧ Rd g α v d) (fun i h => by cases h) (fun h r ih i e => ?_) i
  cases i with
  | zero => cases e; exact ⟨_, rfl, h⟩
  | succ i => exact ih i e
theorem Rds.append {g : Gh} {α : List Addr} {vs ws : List Value} {ds es : List D} (q : Rds g α vs ds) (r : Rds g α ws es) : Rds g α (vs ++ ws) (ds ++ es) := q.ind (P := fun vs ds => Rds g α (vs ++ ws) (ds ++ es)) r fun h _ ih => .cons h ih
theorem Rds.take {g : Gh} {α : List Addr} {vs : List Value} {ds : List D} (n : Nat) (r : Rds g α vs ds) : Rds g α (vs.take n) (ds.take n) := by
  refine r.ind (P := fun vs ds => ∀ n : Nat, Rds g α (vs.take n) (ds.take n)) (fun n => ?_) (fun h r ih n => ?_) n
  · cases n <;> exact .nil
  · cases n with
    | zero => exact .nil
    | succ n => exact .cons h (ih n)
theorem Rds.drop {g : Gh} {α : List Addr} {vs : List Value} {ds : List D} (n : Nat) (r : Rds g α vs ds) : Rds g α (vs.drop n) (ds.drop n) := by
  refine r.ind (P := fun vs ds => ∀ n : Nat, Rds g α (vs.drop n) (ds.drop n)) (fun n => ?_) (fun h r ih n => ?_) n
  · cases n <;> exact .nil
  · cases n with
    | zero => exact .cons h r
    | succ n => exact ih n
theorem Rds.set {g : Gh} {α : List Addr} {v : Value} {d : D} (hv : Rd g α v d) {vs : List Value} {ds : List D} (n : Nat) (r : Rds g α vs ds) : Rds g α (vs.set n v) (ds.set n d) := by
  refine r.ind (P := fun vs ds => ∀ n : Nat, Rds g α (vs.set n v) (ds.set n d)) (fun n => .nil) (fun h r ih n => ?_) n
  cases n with
  | zero => exact .cons hv r
  | succ n => exact .cons h (ih n)
theorem Rds.dropLast {g : Gh} {α : List Addr} {vs : List Value} {ds : List D} (r : Rds g α vs ds) : Rds g α vs.dropLast ds.dropLast := by
  rw [List.dropLast_eq_take, List.dropLast_eq_take, r.length]; exact r.take _

noncomputable def VarIs (env : Env) (h : Heap) (x : Str) (v : Value) : Prop :=
  (env.kindOf x = some .local ∧ ∃ m, h.Ns env.locals m ∧ m x = some v) ∨ (env.kindOf x = some .cell ∧ ∃ c, env.cells.lookup x = some c ∧ h.IsCell c (some v))
noncomputable def Stor (env : Env) (a : Addr) : Prop := a = env.locals ∨ ∃ x, env.cells.lookup x = some a

structure St (K g : Gh) (h : Heap) (env : Env) (sc : Scope) (α : List Addr) (σ : Sg) (μ : Mu) : Prop where
  base : ∀ b o, K b = some o → g b = some o
  sub : ∀ b o, g b = some o → h.get? b = some o
  kind : env.scope.kind = .function
  glb : env.globals = mainNs ∧ env.builtins = builtinsNs
  seesG : ∀ x, isGlob (kOf sc x) = true → env.kindOf x = some .globalImplicit
  seesL : ∀ x, kOf sc x = some .local → env.kindOf x = some .local
  seesC : ∀ x, kOf sc x = some .cell ∨ kOf sc x = some .free → env.kindOf x = some .cell
  loc : ∃ m, h.Ns env.locals m
  cel : ∀ x, env.kindOf x = some .cell → ∃ c v, env.cells.lookup x = some c ∧ h.IsCell c v
  apart : ∀ x y c, env.cells.lookup x = some c → env.cells.lookup y = some c → x = y
  locc : ∀ x c, env.cells.lookup x = some c → c ≠ env.locals
  vars : ∀ x d, σ.lookup x = some d → ∃ v, VarIs env h x v ∧ Rd g α v d
  stor : ∀ a, Stor env a → g a = none ∧ a ∉ α ∧ a < h.objs.size
  own : ∀ (k : Nat) ds, μ[k]? = some (some ds) → ∃ a vs n, α[k]? = some a ∧ h.get? a = some (lobj vs n) ∧ Rds g [] vs ds ∧ g a = none
  nodup : α.Nodup
  lt : ∀ a ∈ α, a < h.objs.size
  len : α.length = μ.length

theorem Rds.up {g : Gh} {α : List Addr} {vs : List Value} {ds : List D} (r : Rds g [] vs ds) : Rds g α vs ds := r.mono (fun _ _ e => e) fun _ _ e => by simp at e
theorem Rd.up {g : Gh} {α : List Addr} {v : Value} {d : D} (r : Rd g [] v d) : Rd g α v d := r.mono (fun _ _ e => e) fun _ _ e => by simp at e
theorem St.own' {K g : Gh} {h : Heap} {env : Env} {sc : Scope} {α : List Addr} {σ : Sg} {μ : Mu} (S : St K g h env sc α σ μ) (k : Nat) (ds : List D) (e : μ[k]? = some (some ds)) :
    ∃ a vs n, α[k]? = some a ∧ h.get? a = some (lobj vs n) ∧ Rds g α vs ds ∧ g a = none :=
  (S.own k ds e).imp fun _ => .imp fun _ => .imp fun _ => .imp_right (.imp_right (.imp_left Rds.up))
theorem St.isVar {K g : Gh} {h : Heap} {env : Env} {sc : Scope} {α : List Addr} {σ : Sg} {μ : Mu} (S : St K g h env sc α σ μ) {x : Str} (hv : isVar (kOf sc x) = true) : env.kindOf x = some .local ∨ env.kindOf x = some .cell := by
  rcases isVar_inv hv with h | h
  · exact .inl (S.seesL x h)
  · exact .inr (S.seesC x h)
noncomputable def Ext (n : Nat) (g g' : Gh) : Prop := (∀ b o, g b = some o → g' b = some o) ∧ ∀ b, b < n → g' b = g b
noncomputable def Kp (α : List Addr) (h h' : Heap) : Prop := h.objs.size ≤ h'.objs.size ∧ ∀ b o, h.get? b = some o → b ∉ α → h'.get? b = some o
theorem Ext.refl (n : Nat) (g : Gh) : Ext n g g := ⟨fun _ _ e => e, fun _ _ => rfl⟩
theorem Ext.trans {n m : Nat} {g g1 g2 : Gh} (x : Ext n g g1) (y : Ext m g1 g2) (h : n ≤ m) : Ext n g g2 := ⟨fun b o e => y.1 b o (x.1 b o e), fun b hb => (y.2 b (by lia)).trans (x.2 b hb)⟩
theorem Ext.le {n m : Nat} {g g1 : Gh} (x : Ext m g g1) (h : n ≤ m) : Ext n g g1 := ⟨x.1, fun b hb => x.2 b (by lia)⟩
theorem Kp.refl (α : List Addr) (h : Heap) : Kp α h h := ⟨Nat.le_refl _, fun _ _ e _ => e⟩
theorem Kp.trans {α : List Addr} {h h1 h2 : Heap} (x : Kp α h h1) (y : Kp α h1 h2) : Kp α h h2 := ⟨Nat.le_trans x.1 y.1, fun b o e n => y.2 b o (x.2 b o e n) n⟩
structure Step (K g : Gh) (s : Shared) (g' : Gh) (s' : Shared) (env : Env) (sc : Scope) (α : List Addr) (σ : Sg) (μ' : Mu) : Prop where
  ext : Ext s.heap.objs.size g g'
  st : St K g' s'.heap env sc α σ μ'
  kp : Kp α s.heap s'.heap
  gens : s'.gens = s.gens
  os : s'.os = s.os
theorem Step.trans {K g : Gh} {s s1 s2 : Shared} {g1 g2 : Gh} {env : Env} {sc : Scope} {α : List Addr} {σ : Sg} {μ1 μ2 : Mu} (x : Step K g s g1 s1 env sc α σ μ1) (y : Step K g1 s1 g2 s2 env sc α σ μ2) : Step K g s g2 s2 env sc α σ μ2 :=
  ⟨x.ext.trans y.ext x.kp.1, y.st, x.kp.trans y.kp, y.gens.trans x.gens, y.os.trans x.os⟩
theorem Step.here {K g : Gh} {s s' : Shared} {env : Env} {sc : Scope} {α : List Addr} {σ : Sg} {μ : Mu} (S : St K g s.heap env sc α σ μ) (h : s'.heap = s.heap) (a : s'.gens = s.gens) (b : s'.os = s.os) : Step K g s g s' env sc α σ μ :=
  ⟨Ext.refl _ _, by rw [h]; exact S, by rw [h]; exact Kp.refl _ _, a, b⟩
section
variable {K g : Gh} {h h' : Heap} {env : Env} {sc : Scope} {α : List Addr} {σ : Sg} {μ : Mu}
theorem VarIs.keeps {x : Str} {v : Value} (q : VarIs env h x v) (k : ∀ a, Stor env a → ∀ o, h.get? a = some o → h'.get? a = some o) : VarIs env h' x v := by
  rcases q with ⟨a, m, hm, e⟩ | ⟨a, c, hc, e⟩
  · obtain ⟨o, es, ep, ho, r⟩ := hm
    exact .inl ⟨a, m, ⟨o, es, ep, k _ (.inl rfl) o ho, r⟩, e⟩
  · obtain ⟨o, ho, hd⟩ := e
    exact .inr ⟨a, c, hc, o, k _ (.inr ⟨_, hc⟩) o ho, hd⟩
/-- whatever does not touch what is in use -/
theorem St.keep (S : St K g h env sc α σ μ) (hk : ∀ b o, h.get? b = some o → h'.get? b = some o) (hs : h.objs.size ≤ h'.objs.size) : St K g h' env sc α σ μ :=
  ⟨S.base, fun b o e => hk b o (S.sub b o e), S.kind, S.glb, S.seesG, S.seesL, S.seesC, let ⟨m, hm⟩ := S.loc; ⟨m, hm.keeps hk⟩, fun x e => let ⟨c, v, a, b⟩ := S.cel x e; ⟨c, v, a, b.keeps hk⟩, S.apart, S.locc,
    fun x d e => let ⟨v, a, b⟩ := S.vars x d e; ⟨v, a.keeps fun a _ o e => hk a o e, b⟩, fun a e => let ⟨x, y, z⟩ := S.stor a e; ⟨x, y, Nat.lt_of_lt_of_le z hs⟩,
    fun k ds e => (S.own k ds e).imp fun _ => .imp fun _ => .imp fun _ => .imp_right (.imp_left (hk _ _)), S.nodup, fun a ha => Nat.lt_of_lt_of_le (S.lt a ha) hs, S.len⟩
noncomputable def put (g : Gh) (a : Addr) (o : Obj) : Gh := fun b => if b = a then some o else g b
theorem put_self (g : Gh) (a : Addr) (o : Obj) : put g a o a = some o := by simp [put]
theorem put_ne (g : Gh) {a b : Addr} (o : Obj) (h : b ≠ a) : put g a o b = g b := by simp [put, h]
/-- a bigger still part -/
theorem St.more (S : St K g h env sc α σ μ) {g' : Gh} (hg : ∀ b o, g b = some o → g' b = some o) (hsub : ∀ b o, g' b = some o → h.get? b = some o) (hst : ∀ a, Stor env a → g' a = none) (hown : ∀ a ∈ α, g a = none → g' a = none) : St K g' h env sc α σ μ :=
  ⟨fun b o e => hg _ _ (S.base b o e), hsub, S.kind, S.glb, S.seesG, S.seesL, S.seesC, S.loc, S.cel, S.apart, S.locc, fun x d e => let ⟨v, a, b⟩ := S.vars x d e; ⟨v, a, b.mono hg fun _ _ e => e⟩,
    fun a e => let ⟨x, y⟩ := S.stor a e; ⟨hst a e, y⟩, fun k ds e => let ⟨a, vs, n, x, y, z, u⟩ := S.own k ds e; ⟨a, vs, n, x, y, z.mono hg fun _ _ e => e, hown a (List.mem_of_getElem? x) u⟩, S.nodup, S.lt, S.len⟩
/-- a new object that stands still from now on -/
theorem St.add (S : St K g h env sc α σ μ) (hk : ∀ b o, h.get? b = some o → h'.get? b = some o) (hs : h.objs.size ≤ h'.objs.size) {a : Addr} {o : Obj} (ha : h.objs.size ≤ a) (ho : h'.get? a = some o) : St K (put g a o) h' env sc α σ μ := by
  refine (S.keep hk hs).more (fun b x e => ?_) (fun b x e => ?_) (fun b hb => ?_) (fun b hb e => ?_)
  · have : b ≠ a := Nat.ne_of_lt (Nat.lt_of_lt_of_le (Heap.lt_size (S.sub b x e)) ha)
    rw [put_ne _ _ this]; exact e
  · by_cases q : b = a
    · subst q; rw [put_self] at e; cases e; exact ho
    · rw [put_ne _ _ q] at e; exact hk _ _ (S.sub _ _ e)
  · rw [put_ne _ _ (Nat.ne_of_lt (Nat.lt_of_lt_of_le (S.stor b hb).2.2 ha))]; exact (S.stor b hb).1
  · rw [put_ne _ _ (Nat.ne_of_lt (Nat.lt_of_lt_of_le (S.lt b hb) ha))]; exact e
theorem Ext.put {n a : Nat} {o : Obj} (ha : n ≤ a) (hg : g a = none) : Ext n g (put g a o) := by
  refine ⟨fun b x e => ?_, fun b hb => put_ne _ _ (Nat.ne_of_lt (Nat.lt_of_lt_of_le hb ha))⟩
  have : b ≠ a := fun q => by rw [q, hg] at e; cases e
  rw [put_ne _ _ this]; exact e
theorem St.fresh (S : St K g h env sc α σ μ) {a : Addr} (ha : h.objs.size ≤ a) : g a = none := by
  cases e : g a with
  | none => rfl
  | some o => exact absurd (Heap.lt_size (S.sub a o e)) (Nat.not_lt.mpr ha)
end
/-- the usual end: the heap has grown, and one new object stands still -/
theorem Step.add {K g : Gh} {s s' : Shared} {env : Env} {sc : Scope} {α : List Addr} {σ : Sg} {μ : Mu} {a : Addr} {o : Obj} (S : St K g s.heap env sc α σ μ) (hk : ∀ b o, s.heap.get? b = some o → s'.heap.get? b = some o) (hs : s.heap.objs.size ≤ s'.heap.objs.size)
    (ha : s.heap.objs.size ≤ a) (ho : s'.heap.get? a = some o) (hg : s'.gens = s.gens) (hos : s'.os = s.os) : Step K g s (put g a o) s' env sc α σ μ :=
  ⟨Ext.put ha (S.fresh ha), S.add hk hs ha ho, ⟨hs, fun b o e _ => hk b o e⟩, hg, hos⟩
theorem Step.grow {K g : Gh} {s s' : Shared} {env : Env} {sc : Scope} {α : List Addr} {σ : Sg} {μ : Mu} (S : St K g s.heap env sc α σ μ) (hk : ∀ b o, s.heap.get? b = some o → s'.heap.get? b = some o) (hs : s.heap.objs.size ≤ s'.heap.objs.size)
    (hg : s'.gens = s.gens) (hos : s'.os = s.os) : Step K g s g s' env sc α σ μ :=
  ⟨Ext.refl _ _, S.keep hk hs, ⟨hs, fun b o e _ => hk b o e⟩, hg, hos⟩
end Mine
end
section
open PySem PySem.W PyProof.Rows
namespace Mine
noncomputable def F0 : Value → Shared → Prop := fun _ _ => False
noncomputable def Room (r : Nat) (A : Around) : Prop := A.depth + r < recursionLimit ∧ A.units + 5 * r + 300 < cLine ∧ A.handled = none
noncomputable abbrev MM (w : World) : Model := model P0' w
noncomputable def GVal (K : Gh) : GV → Value → Prop
  | .fn a, v => v = .ref a
  | .bi id, v => v = .builtin id
  | .ty n, v => v = .type n
  | .dat d, v => Rd K [] v d
structure Tops (K : Gh) (mg mb : Str → Option Value) : Prop where
  ng : ∀ h : Heap, (∀ b o, K b = some o → h.get? b = some o) → h.Ns mainNs mg
  nb : ∀ h : Heap, (∀ b o, K b = some o → h.get? b = some o) → h.Ns builtinsNs mb
  has : ∀ x gv, GG x = some gv → ∃ v, (mg x = some v ∨ (mg x = none ∧ mb x = some v)) ∧ GVal K gv v
  lim : ∀ h : Heap, (∀ b o, K b = some o → h.get? b = some o) → h.NoLimit
section
variable {K : Gh} {w : World} {r : Nat} {mg mb : Str → Option Value}
noncomputable def Ev (K : Gh) (w : World) (r : Nat) (sc : Scope) (σ : Sg) (μ : Mu) (e : Expr) (d : D) (μ' : Mu) : Prop :=
  ∀ g s env α A, St K g s.heap env sc α σ μ → Room r A → wpAny (MM w) A (eval e env) (fun v s' => ∃ g', Step K g s g' s' env sc α σ μ' ∧ Rd g' α v d) F0 s
noncomputable def EvT (K : Gh) (w : World) (r : Nat) (sc : Scope) (σ : Sg) (μ : Mu) (e : Expr) (b : Bool) (μ' : Mu) : Prop :=
  ∀ g s env α A, St K g s.heap env sc α σ μ → Room r A → wpAny (MM w) A (isTrue e env (eval e env)) (fun v s' => v = b ∧ ∃ g', Step K g s g' s' env sc α σ μ') F0 s
/-- an operation on values -/
noncomputable def Op (K : Gh) (w : World) (r : Nat) (sc : Scope) (σ : Sg) (μ : Mu) (vs : List (Value × D)) (t : Sem Value) (d : D) (μ' : Mu) : Prop :=
  ∀ g s env α A, St K g s.heap env sc α σ μ → Room r A → (∀ p ∈ vs, Rd g α p.1 p.2) → wpAny (MM w) A t (fun v s' => ∃ g', Step K g s g' s' env sc α σ μ' ∧ Rd g' α v d) F0 s
variable {sc : Scope} {σ : Sg} {μ μ1 μ2 μ3 : Mu}
theorem done {g : Gh} {s : Shared} {env : Env} {α : List Addr} {v : Value} {d : D} (S : St K g s.heap env sc α σ μ) (hr : Rd g α v d) (k : Nat) :
    ∃ g', Step K g s g' { s with toks := k } env sc α σ μ ∧ Rd g' α v d := ⟨g, Step.here S rfl rfl rfl, hr⟩
theorem done0 {g : Gh} {s : Shared} {env : Env} {α : List Addr} {v : Value} {d : D} (S : St K g s.heap env sc α σ μ) (hr : Rd g α v d) :
    ∃ g', Step K g s g' s env sc α σ μ ∧ Rd g' α v d := ⟨g, Step.here S rfl rfl rfl, hr⟩
theorem loadVar {x : Str} {v : Value} {env : Env} {h : Heap} {s : Shared} {A : Around} {Q : Value → Shared → Prop} (hk : env.scope.kind = .function) (q : VarIs env s.heap x v) (hq : Q v s) : wpAny (MM w) A (loadName env x) Q F0 s := by
  rcases q with ⟨a, m, hm, e⟩ | ⟨a, c, hc, e⟩
  · exact wpAny_loadName_local hk a hm e hq
  · exact wpAny_loadName_cell hk a hc e hq
theorem Ev.const_int {i : Int} {k : Nat} {p : Pos} : Ev K w r sc σ μ (.Constant (.int i) k p) (.int i) μ := fun g s env α A S _ => wpAny_Constant_int (done S (.int i _) _)
theorem Ev.const_str {x : Str} {k : Nat} {p : Pos} : Ev K w r sc σ μ (.Constant (.str x) k p) (.str x) μ := fun g s env α A S _ => wpAny_Constant_str (done S (.str x _) _)
theorem Ev.const_bool {b : Bool} {k : Nat} {p : Pos} : Ev K w r sc σ μ (.Constant (.bool b) k p) (.bool b) μ := fun g s env α A S _ => wpAny_Constant_bool (done0 S (.bool b))
theorem debugNo {x : Str} {sc : Scope} : (x == ("__debug__" : Str)) = false ∨ (x == ("__debug__" : Str)) = true := by cases (x == ("__debug__" : Str)) <;> simp
theorem Ev.name {x : Str} {p : Pos} {d : D} (hv : isVar (kOf sc x) = true) (hd : σ.lookup x = some d) (hn : (x == ("__debug__" : Str)) = false) : Ev K w r sc σ μ (.Name x p) d μ := fun g s env α A S _ => by
  obtain ⟨v, q, hr⟩ := S.vars x d hd
  exact wpAny_Name (loadVar (h := s.heap) S.kind q (done0 S hr)) hn
theorem loadGlob {x : Str} {v : Value} {env : Env} {s : Shared} {A : Around} {Q : Value → Shared → Prop} (T : Tops K mg mb) (hK : ∀ b o, K b = some o → s.heap.get? b = some o) (hk : env.scope.kind = .function) (hg : env.globals = mainNs ∧ env.builtins = builtinsNs)
    (hl : env.kindOf x = some .globalImplicit) (hv : mg x = some v ∨ (mg x = none ∧ mb x = some v)) (hq : Q v s) : wpAny (MM w) A (loadName env x) Q F0 s := by
  unfold loadName
  simp only [Env.blockKind, hk, hl, ScopeKind.isAnnotationScope, Bool.false_and, Bool.false_eq_true, if_false]
  unfold loadGlobal
  rw [hg.1, hg.2]
  refine wpAny_bind (wpAny_nsGet (T.ng _ hK) ?_)
  rcases hv with hv | ⟨h1, hv⟩
  · rw [hv]; exact wpAny_pure hq
  · rw [h1]
    refine wpAny_bind (wpAny_nsGet (T.nb _ hK) ?_)
    rw [hv]; exact wpAny_pure hq
theorem Ev.glob {x : Str} {p : Pos} {d : D} (T : Tops K mg mb) (hv : isGlob (kOf sc x) = true) (hd : GG x = some (.dat d)) (hn : (x == ("__debug__" : Str)) = false) : Ev K w r sc σ μ (.Name x p) d μ := fun g s env α A S _ => by
  obtain ⟨v, q, hr⟩ := T.has x _ hd
  exact wpAny_Name (loadGlob T (fun b o e => S.sub _ _ (S.base _ _ e)) S.kind S.glb (S.seesG x hv) q (done0 S (Rd.mono S.base (fun _ _ e => by simp at e) hr))) hn
theorem Ev.binop {l rr : Expr} {op : Operator} {p : Pos} {a b d : D} (h1 : Ev K w r sc σ μ l a μ1) (h2 : Ev K w r sc σ μ1 rr b μ2) (h3 : ∀ va vb, Op K w r sc σ μ2 [(va, a), (vb, b)] (binaryOp op va vb) d μ3) : Ev K w r sc σ μ (.BinOp l op rr p) d μ3 := fun g s env α A S R => by
  refine wpAny_BinOp (wpAny_mono (h1 g s env α A S R) (fun va s1 q => ?_) fun _ _ x => x)
  obtain ⟨g1, P1, r1⟩ := q
  refine wpAny_mono (h2 g1 s1 env α A P1.st R) (fun vb s2 q => ?_) fun _ _ x => x
  obtain ⟨g2, P2, r2⟩ := q
  refine wpAny_mono (h3 va vb g2 s2 env α A P2.st R ?_) (fun v s3 q => ?_) fun _ _ x => x
  · intro p hp
    simp only [List.mem_cons, List.not_mem_nil, or_false] at hp
    rcases hp with rfl | rfl
    · exact r1.mono P2.ext.1 fun _ _ e => e
    · exact r2
  · obtain ⟨g3, P3, r3⟩ := q
    exact ⟨g3, (P1.trans P2).trans P3, r3⟩
theorem Ev.unary {x : Expr} {op : UnaryOp} {p : Pos} {a d : D} (h1 : Ev K w r sc σ μ x a μ1) (h3 : ∀ va, Op K w r sc σ μ1 [(va, a)] (unaryOp op va) d μ2) : Ev K w r sc σ μ (.UnaryOp op x p) d μ2 := fun g s env α A S R => by
  refine wpAny_UnaryOp (wpAny_mono (h1 g s env α A S R) (fun va s1 q => ?_) fun _ _ x => x)
  obtain ⟨g1, P1, r1⟩ := q
  refine wpAny_mono (h3 va g1 s1 env α A P1.st R ?_) (fun v s3 q => ?_) fun _ _ x => x
  · intro p hp
    simp only [List.mem_cons, List.not_mem_nil, or_false] at hp
    subst hp; exact r1
  · obtain ⟨g3, P3, r3⟩ := q
    exact ⟨g3, P1.trans P3, r3⟩
theorem Ev.compare {l rr : Expr} {op : CmpOp} {p : Pos} {a b d : D} (hs : behindInMarks op rr = false) (h1 : Ev K w r sc σ μ l a μ1) (h2 : Ev K w r sc σ μ1 rr b μ2) (h3 : ∀ va vb, Op K w r sc σ μ2 [(va, a), (vb, b)] (compareOp op va vb) d μ3) : Ev K w r sc σ μ (.Compare l [op] [rr] p) d μ3 := fun g s env α A S R => by
  refine wpAny_Compare1 (wpAny_mono (h1 g s env α A S R) (fun va s1 q => ?_) fun _ _ x => x) hs
  obtain ⟨g1, P1, r1⟩ := q
  refine wpAny_mono (h2 g1 s1 env α A P1.st R) (fun vb s2 q => ?_) fun _ _ x => x
  obtain ⟨g2, P2, r2⟩ := q
  refine wpAny_mono (h3 va vb g2 s2 env α A P2.st R ?_) (fun v s3 q => ?_) fun _ _ x => x
  · intro p hp
    simp only [List.mem_cons, List.not_mem_nil, or_false] at hp
    rcases hp with rfl | rfl
    · exact r1.mono P2.ext.1 fun _ _ e => e
    · exact r2
  · obtain ⟨g3, P3, r3⟩ := q
    exact ⟨g3, (P1.trans P2).trans P3, r3⟩
/-- several expressions in order -/
noncomputable def Evs (K : Gh) (w : World) (r : Nat) (sc : Scope) (σ : Sg) (μ : Mu) (es : List Expr) (ds : List D) (μ' : Mu) : Prop :=
  ∀ g s env α A pos, St K g s.heap env sc α σ μ → Room r A → wpAny (MM w) A (spliced (backTo pos (starEach es env))) (fun vs s' => ∃ g', Step K g s g' s' env sc α σ μ' ∧ Rds g' α vs ds) F0 s
theorem Evs.nil : Evs K w r sc σ μ [] [] μ := fun g s env α A pos S R => wpAny_items_nil ⟨g, Step.here S rfl rfl rfl, .nil⟩
theorem Evs.cons {e : Expr} {es : List Expr} {d : D} {ds : List D} (hs : ∀ env, starEach (e :: es) env = (false, eval e env) :: starEach es env) (h1 : Ev K w r sc σ μ e d μ1) (h2 : Evs K w r sc σ μ1 es ds μ2) : Evs K w r sc σ μ (e :: es) (d :: ds) μ2 := fun g s env α A pos S R => by
  refine wpAny_items_cons (wpAny_mono (h1 g s env α A S R) (fun v s1 q => ?_) fun _ _ x => x) (hs env)
  obtain ⟨g1, P1, r1⟩ := q
  refine wpAny_mono (h2 g1 s1 env α A pos P1.st R) (fun vs s2 q => ?_) fun _ _ x => x
  obtain ⟨g2, P2, r2⟩ := q
  exact ⟨g2, P1.trans P2, .cons (r1.mono P2.ext.1 fun _ _ e => e) r2⟩
theorem push_keep (h : Heap) (o : Obj) : (∀ b x, h.get? b = some x → (h.push o).get? b = some x) ∧ h.objs.size ≤ (h.push o).objs.size := ⟨fun b x e => Heap.get?_push_of_some _ e, by rw [Heap.size_push]; lia⟩
theorem Ev.tuple {es : List Expr} {ds : List D} {k : Nat} {p : Pos} (h : Evs K w r sc σ μ es ds μ1) (hl : ds.length ≤ 1000) : Ev K w r sc σ μ (.Tuple es k p) (.tup ds) μ1 := fun g s env α A S R => by
  refine wpAny_Tuple (wpAny_mono (h g s env α A p S R) (fun vs s1 q => ?_) fun _ _ x => x)
  obtain ⟨g1, P1, r1⟩ := q
  refine ⟨by rw [r1.length]; exact Nat.le_trans hl (by decide), put g1 s1.heap.objs.size (tobj vs 0), ?_⟩
  have st := Step.add (s' := { s1 with heap := s1.heap.push (tobj vs 0) }) (o := tobj vs 0) P1.st (push_keep _ _).1 (push_keep _ _).2 (Nat.le_refl _) (Heap.get?_push_size _ rfl) rfl rfl
  exact ⟨P1.trans st, .tup (put_self _ _ _) (r1.mono st.ext.1 fun _ _ e => e)⟩
/-- a fresh list -/
noncomputable def EvL (K : Gh) (w : World) (r : Nat) (sc : Scope) (σ : Sg) (μ : Mu) (e : Expr) (ds : List D) (μ' : Mu) : Prop :=
  ∀ g s env α A, St K g s.heap env sc α σ μ → Room r A → wpAny (MM w) A (eval e env) (fun v s' => ∃ g' a vs n, v = .ref a ∧ Step K g s g' s' env sc α σ μ' ∧ s.heap.objs.size ≤ a ∧ a ∉ α ∧ s'.heap.get? a = some (lobj vs n) ∧ g' a = none ∧ Rds g' α vs ds) F0 s
theorem EvL.list {es : List Expr} {ds : List D} {p : Pos} (h : Evs K w r sc σ μ es ds μ1) (hl : ds.length ≤ 1000) : EvL K w r sc σ μ (.List es p) ds μ1 := fun g s env α A S R => by
  refine wpAny_List (wpAny_mono (h g s env α A p S R) (fun vs s1 q => ?_) fun _ _ x => x)
  obtain ⟨g1, P1, r1⟩ := q
  refine ⟨by rw [r1.length]; exact Nat.le_trans hl (by decide), g1, s1.heap.objs.size, vs, 0, rfl, ?_⟩
  have st := Step.grow (s' := { s1 with heap := s1.heap.push (lobj vs 0) }) P1.st (push_keep _ _).1 (push_keep _ _).2 rfl rfl
  exact ⟨P1.trans st, P1.kp.1, fun hm => Nat.lt_irrefl _ (P1.st.lt _ hm), Heap.get?_push_size _ rfl, P1.st.fresh (Nat.le_refl _), r1⟩
theorem EvL.still {e : Expr} {ds : List D} (h : EvL K w r sc σ μ e ds μ1) : Ev K w r sc σ μ e (.list ds) μ1 := fun g s env α A S R => by
  refine wpAny_mono (h g s env α A S R) (fun v s1 q => ?_) fun _ _ x => x
  obtain ⟨g1, a, vs, n, rfl, P1, ha, hα, ho, hg, r1⟩ := q
  have hlt := Heap.lt_size ho
  refine ⟨put g1 a (lobj vs n), ⟨P1.ext.trans (Ext.put (n := s.heap.objs.size) ha hg) (Nat.le_refl _), ?_, P1.kp, P1.gens, P1.os⟩, .list (put_self _ _ _) (r1.mono (Ext.put (n := s.heap.objs.size) ha hg).1 fun _ _ e => e)⟩
  refine P1.st.more (Ext.put (n := s.heap.objs.size) ha hg).1 (fun b x e => ?_) (fun b hb => ?_) (fun b hb e => ?_)
  · by_cases q : b = a
    · subst q; rw [put_self] at e; cases e; exact ho
    · rw [put_ne _ _ q] at e; exact P1.st.sub _ _ e
  · have q : b ≠ a := fun q => by
      subst q
      exact absurd ((S.stor b hb).2.2) (Nat.not_lt.mpr ha)
    rw [put_ne _ _ q]; exact (P1.st.stor b hb).1
  · rw [put_ne _ _ (fun (q : b = a) => hα (q ▸ hb))]; exact e
end
end Mine
end
section
open PySem PySem.W PyProof.Rows
namespace Mine
section
variable {K : Gh} {w : World} {r : Nat} {sc : Scope} {σ : Sg} {μ μ1 μ2 μ3 : Mu}
theorem Op.of2 {va vb : Value} {a b d : D} {t : Sem Value} (h : ∀ g s env α A, St K g s.heap env sc α σ μ → Room r A → Rd g α va a → Rd g α vb b → wpAny (MM w) A t (fun v s' => ∃ g', Step K g s g' s' env sc α σ μ1 ∧ Rd g' α v d) F0 s) : Op K w r sc σ μ [(va, a), (vb, b)] t d μ1 :=
  fun g s env α A S R hp => h g s env α A S R (hp _ (List.mem_cons_self ..)) (hp _ (List.mem_cons_of_mem _ (List.mem_cons_self ..)))
theorem Op.of1 {va : Value} {a d : D} {t : Sem Value} (h : ∀ g s env α A, St K g s.heap env sc α σ μ → Room r A → Rd g α va a → wpAny (MM w) A t (fun v s' => ∃ g', Step K g s g' s' env sc α σ μ1 ∧ Rd g' α v d) F0 s) : Op K w r sc σ μ [(va, a)] t d μ1 :=
  fun g s env α A S R hp => h g s env α A S R (hp _ (List.mem_cons_self ..))
theorem small_lt {a : Int} (h : small a = true) : -1000000 < a ∧ a < 1000000 :=
  have h := (Bool.and_eq_true _ _).mp h
  ⟨of_decide_eq_true h.1, of_decide_eq_true h.2⟩
theorem smallAbs2 {y : Int} (h : small y = true) : y.natAbs < 1000000 := by have := small_lt h; lia
theorem small_bits {a : Int} (h : small a = true) : Builtin.Int.intBits a ≤ 64 := intBits_le_64 (Int.lt_trans (by decide) (small_lt h).1) (Int.lt_trans (small_lt h).2 (by decide))
theorem and2 {a b : Nat} (h : (decide (a ≤ 1000) && decide (b ≤ 1000)) = true) : a ≤ 1000 ∧ b ≤ 1000 :=
  have h := (Bool.and_eq_true _ _).mp h
  ⟨of_decide_eq_true h.1, of_decide_eq_true h.2⟩
theorem still {g : Gh} {s : Shared} {env : Env} {α : List Addr} {o : Obj} {d : D} (S : St K g s.heap env sc α σ μ) (hf : o.isFreed = false) (hr : Rd (put g s.heap.objs.size o) α (.ref s.heap.objs.size) d) :
    ∃ g', Step K g s g' { s with heap := s.heap.push o } env sc α σ μ ∧ Rd g' α (.ref s.heap.objs.size) d :=
  ⟨_, Step.add (s' := { s with heap := s.heap.push o }) S (push_keep _ _).1 (push_keep _ _).2 (Nat.le_refl _) (Heap.get?_push_size _ hf) rfl rfl, hr⟩
theorem stillL {g : Gh} {s : Shared} {env : Env} {α : List Addr} {vs : List Value} {n : Nat} {ds : List D} (S : St K g s.heap env sc α σ μ) (r : Rds g α vs ds) :
    ∃ g', Step K g s g' { s with heap := s.heap.push (lobj vs n) } env sc α σ μ ∧ Rd g' α (.ref s.heap.objs.size) (.list ds) :=
  still S rfl (.list (put_self _ _ _) (r.mono (Ext.put (n := 0) (Nat.zero_le _) (S.fresh (Nat.le_refl _))).1 fun _ _ e => e))
theorem foldl_app {α : Type} : ∀ (k : Nat) (xs : Array α) (acc : Array α), (List.foldl (fun x1 x2 => x1 ++ x2) acc (List.replicate k xs)).toList = acc.toList ++ (List.replicate k xs.toList).flatten
  | 0, xs, acc => by simp
  | k + 1, xs, acc => by rw [List.replicate_succ, List.foldl_cons, foldl_app k xs (acc ++ xs)]; simp [List.replicate_succ]
theorem Rds.flat {g : Gh} {α : List Addr} {vs : List Value} {ds : List D} (r : Rds g α vs ds) : ∀ k : Nat, Rds g α (List.replicate k vs).flatten (List.replicate k ds).flatten
  | 0 => .nil
  | k + 1 => by simp only [List.replicate_succ, List.flatten_cons]; exact r.append (Rds.flat r k)
theorem mulL {s : Shared} {A : Around} {E : Value → Shared → Prop} {Q : Value → Shared → Prop} {l : Addr} {vs : List Value} {k : Nat} {x : Int} {u : Tok} (hl : s.heap.get? l = some (lobj vs k)) (h0 : 0 ≤ x) (h1 : x ≤ 64) (h2 : vs.length ≤ 64)
    (h : ∀ n, Q (.ref s.heap.objs.size) { s with heap := s.heap.push (lobj (List.replicate x.toNat vs).flatten n) }) : wpAny (MM w) A (binaryOp .Mult (.ref l) (.int x u)) Q E s := by
  have hm : vs.toArray.size * x.toNat ≤ 4096 := by rw [List.size_toArray]; exact Nat.mul_le_mul h2 (by lia : x.toNat ≤ 64)
  have e : List.foldl (fun x1 x2 => x1 ++ x2) #[] (List.replicate (if vs.toArray.isEmpty = true then 0 else x.toNat) vs.toArray) = (List.replicate x.toNat vs).flatten.toArray := by
    apply Array.ext'
    rw [foldl_app]
    by_cases hv : vs = []
    · subst hv; simp
    · simp [hv]
  refine wpAny_binaryOp_repeat_ref (T := "list") (U := "int") (by decide) ⟨_, hl, rfl⟩ (fun s' => typeIs_int s' x u) noFill_list_mul F.fills_int_mul F.slot_int_rmul repeat_list F.slot_int_index.lookup
    (call_meets F.slot_int_rmul (typeIs_int s x u) F.entry_int_rmul (F.args_int_rmul_2 _ _) (int___rmul___int_list x u l vs.toArray k)
      ⟨hl, rfl, ⟨_, hl, rfl⟩, call_meets F.slot_list_mul ⟨_, hl, rfl⟩ F.entry_list_mul (F.args_list_mul_2 _ _)
        (AutoListH.list___mul___list_int_3 l vs.toArray k x u (by simp [Builtin.List.listFitsIndex]; lia) (by lia) (by rw [List.size_toArray] at hm ⊢; simp only [Builtin.List.listTooLong, sizeLine]; simp; lia))
        ⟨hl, ?_⟩⟩)
  rw [e]
  exact h 0
theorem addStr_sz {a b : Nat} (h1 : a ≤ 1000) (h2 : b ≤ 1000) : a + b ≤ sizeLine := by rw [sizeLine_eq]; lia
theorem le64 {y : Int} (h : y ≤ 64) : y ≤ 1000000 := Int.le_trans h (by decide)
theorem addD_sound {a b d : D} (h : addD a b = some d) (va vb : Value) : Op K w r sc σ μ [(va, a), (vb, b)] (binaryOp .Add va vb) d μ := by
  cases a with
  | int x =>
    obtain ⟨y, rfl, h⟩ := onInt_inv h; cases h
    exact Op.of2 fun g s env α A S R ra rb => by obtain ⟨_, rfl⟩ := ra.int_; obtain ⟨_, rfl⟩ := rb.int_; exact add_int (done S (.int _ _) _)
  | str x =>
    obtain ⟨y, rfl, k⟩ := onStr_inv h; obtain ⟨c, k⟩ := iteSome k; cases k
    exact Op.of2 fun g s env α A S R ra rb => by
      obtain ⟨_, rfl⟩ := ra.str_; obtain ⟨_, rfl⟩ := rb.str_
      exact PyProof.Rows.add_str (fun t tk => done S (.str _ _) _) (addStr_sz (and2 c).1 (and2 c).2)
  | list x =>
    obtain ⟨y, rfl, k⟩ := onList_inv h; obtain ⟨c, k⟩ := iteSome k; cases k
    exact Op.of2 fun g s env α A S R ra rb => by
      obtain ⟨_, _, _, rfl, h1, r1⟩ := ra.list_
      obtain ⟨_, _, _, rfl, h2, r2⟩ := rb.list_
      exact PySem.P.add_list (S.sub _ _ h1) (S.sub _ _ h2) ((List.append_toArray _ _).symm ▸ stillL (n := 0) S (r1.append r2)) (addStr_sz (Nat.le_trans (Nat.le_of_eq r1.length) (and2 c).1) (Nat.le_trans (Nat.le_of_eq r2.length) (and2 c).2))
  | _ => exact noSome h
theorem subtD_sound {a b d : D} (h : subtD a b = some d) (va vb : Value) : Op K w r sc σ μ [(va, a), (vb, b)] (binaryOp .Sub va vb) d μ := by
  cases a with
  | int x =>
    obtain ⟨y, rfl, h⟩ := onInt_inv h; cases h
    exact Op.of2 fun g s env α A S R ra rb => by obtain ⟨_, rfl⟩ := ra.int_; obtain ⟨_, rfl⟩ := rb.int_; exact PyProof.Rows.sub_int' (done S (.int _ _) _)
  | bool p =>
    obtain ⟨q, rfl, k⟩ := onBool_inv h; cases k
    exact Op.of2 fun g s env α A S R ra rb => by
      obtain rfl := ra.bool_; obtain rfl := rb.bool_
      refine sub_bool ?_
      have e : b2i p - b2i q = b2 p - b2 q := by cases p <;> cases q <;> rfl
      exact e ▸ done S (.int _ _) _
  | _ => exact noSome h
theorem multD_sound {a b d : D} (h : multD a b = some d) (va vb : Value) : Op K w r sc σ μ [(va, a), (vb, b)] (binaryOp .Mult va vb) d μ := by
  cases a with
  | int x =>
    obtain ⟨y, rfl, k⟩ := onInt_inv h; obtain ⟨c, k⟩ := iteSome k; cases k
    exact Op.of2 fun g s env α A S R ra rb => by obtain ⟨_, rfl⟩ := ra.int_; obtain ⟨_, rfl⟩ := rb.int_; exact mul_int (done S (.int _ _) _) (IntMulOk.of_left (small_bits ((Bool.and_eq_true _ _).mp c).1))
  | list xs =>
    obtain ⟨k, rfl, q⟩ := onInt_inv h
    obtain ⟨c, q⟩ := iteSome q
    have c1 := (Bool.and_eq_true _ _).mp c
    have c2 := (Bool.and_eq_true _ _).mp c1.1
    cases q
    exact Op.of2 fun g s env α A S R ra rb => by
      obtain ⟨_, rfl⟩ := rb.int_
      obtain ⟨_, _, _, rfl, hg, rr⟩ := ra.list_
      exact mulL (S.sub _ _ hg) (of_decide_eq_true c2.1) (of_decide_eq_true c2.2) (Nat.le_trans (Nat.le_of_eq rr.length) (of_decide_eq_true c1.2)) fun n => stillL S (rr.flat _)
  | _ => exact noSome h
theorem int2_sound {f : Int → Int → Option D} {op : Operator} {a b d : D} (h : int2 f a b = some d) (va vb : Value)
    (hf : ∀ {x y : Int} {t u : Tok} {s : Shared} {A : Around} {Q : Value → Shared → Prop}, f x y = some d → (∀ i t k, d = .int i → Q (.int i t) { s with toks := k }) → wpAny (MM w) A (binaryOp op (.int x t) (.int y u)) Q F0 s) : Op K w r sc σ μ [(va, a), (vb, b)] (binaryOp op va vb) d μ := by
  refine Op.of2 fun g s env α A S R ra rb => ?_
  obtain ⟨x, y, rfl, rfl, h⟩ := int2_inv h
  obtain ⟨_, rfl⟩ := ra.int_; obtain ⟨_, rfl⟩ := rb.int_
  exact hf h fun i t k e => by subst e; exact done S (.int _ _) _
theorem binD_sound {op : Operator} {a b d : D} (h : binD op a b = some d) (va vb : Value) : Op K w r sc σ μ [(va, a), (vb, b)] (binaryOp op va vb) d μ := by
  cases op with
  | Add => exact addD_sound h va vb
  | Sub => exact subtD_sound h va vb
  | Mult => exact multD_sound h va vb
  | FloorDiv =>
    refine int2_sound h va vb fun h hq => ?_
    obtain ⟨hb, h⟩ := iteNone h
    obtain ⟨hs, h⟩ := iteSome h
    exact floordiv_int hb (hq _ _ _ (Option.some.inj h).symm) (.inl (PyProof.noPylong_small (Nat.lt_trans (smallAbs2 hs) (by decide))))
  | Mod =>
    refine int2_sound h va vb fun h hq => ?_
    obtain ⟨hb, h⟩ := iteNone h
    exact mod_int' hb (hq _ _ _ (Option.some.inj h).symm)
  | Pow =>
    refine int2_sound h va vb fun h hq => ?_
    obtain ⟨hs, h⟩ := iteSome h
    have c1 := (Bool.and_eq_true _ _).mp hs
    have c2 := (Bool.and_eq_true _ _).mp c1.1
    exact pow_int_small (of_decide_eq_true c2.1) (le64 (of_decide_eq_true c2.2)) (Nat.lt_trans (smallAbs2 c1.2) (by decide)) (hq _ _ _ (Option.some.inj h).symm)
  | RShift =>
    refine int2_sound h va vb fun h hq => ?_
    obtain ⟨hs, h⟩ := iteSome h
    exact rshift_int (of_decide_eq_true ((Bool.and_eq_true _ _).mp hs).1) (hq _ _ _ (Option.some.inj h).symm)
  | _ => exact noSome h
end
end Mine
end
section
open PySem PySem.W PyProof.Rows
namespace Mine
open PySem.SeqAt (EqAt)
open AutoSeq1 (wpAny_loadPart')
mutual
noncomputable def toPy : D → PyData
  | .bool b => .bool b
  | .int i => .int i
  | .str s => .str s
  | .list xs => .list (toPys xs)
  | .tup xs => .tuple (toPys xs)
  | _ => .none
noncomputable def toPys : List D → List PyData
  | [] => []
  | d :: r => toPy d :: toPys r
end
theorem toPys_len : ∀ xs : List D, (toPys xs).length = xs.length
  | [] => rfl
  | x :: r => by simp [toPys, toPys_len r]
theorem layAll {n : Nat} (ih : ∀ d, eqOk n d = true → (toPy d).canLay0 = true ∧ (toPy d).depth ≤ n) : ∀ xs : List D, xs.all (eqOk n) = true → PyData.canLayAll0 (toPys xs) = true ∧ PyData.depthAll (toPys xs) ≤ n
  | [], _ => ⟨rfl, Nat.zero_le _⟩
  | x :: r, h => by
    have h := (Bool.and_eq_true _ _).mp h
    have a := ih x h.1
    have b := layAll ih r h.2
    exact ⟨(Bool.and_eq_true _ _).mpr ⟨a.1, b.1⟩, Nat.max_le.mpr ⟨a.2, b.2⟩⟩
theorem okLay : ∀ (n : Nat) (d : D), eqOk n d = true → (toPy d).canLay0 = true ∧ (toPy d).depth ≤ n := by
  intro n
  induction n with
  | zero =>
    intro d h
    obtain ⟨i, rfl⟩ | ⟨s, rfl, h⟩ := scal_inv h
    · exact ⟨rfl, Nat.le_refl _⟩
    · exact ⟨h, Nat.le_refl _⟩
  | succ n ih =>
    intro d h
    obtain ⟨i, rfl⟩ | ⟨s, rfl, h⟩ | ⟨xs, rfl, h⟩ | ⟨xs, rfl, h⟩ := eqD_inv h
    · exact ⟨rfl, Nat.zero_le _⟩
    · exact ⟨h, Nat.zero_le _⟩
    · have := layAll ih xs h
      exact ⟨this.1, Nat.succ_le_succ this.2⟩
    · have := layAll ih xs h
      exact ⟨this.1, Nat.succ_le_succ this.2⟩
theorem Rd.reads {g : Gh} {α : List Addr} {h : Heap} (hs : ∀ b o, g b = some o → h.get? b = some o) {v : Value} {d : D} {n : Nat} (e : eqOk n d = true) (r : Rd g α v d) : ∃ as, Reads h v (toPy d) as := by
  obtain ⟨f, e1, hf⟩ := eqOk_is n
  rw [e1] at e
  exact Rd.rec (motive_1 := fun v d _ => ∀ f, (∀ xs, f xs = true → ∃ m, xs.all (eqOk m) = true) → eqD f d = true → ∃ as, Reads h v (toPy d) as) (motive_2 := fun vs ds _ => ∀ n, ds.all (eqOk n) = true → ∃ as, ReadsAll h vs (toPys ds) as)
    (fun _ _ e => nomatch e) (fun _ _ _ e => nomatch e) (fun i t _ _ _ => ⟨_, .int i t⟩) (fun s t _ _ _ => ⟨_, .str s t⟩) (fun _ _ _ _ e => nomatch e)
    (fun hg _ ih f hf e => (hf _ e).elim fun m e => (ih m e).elim fun as q => ⟨_, .list (hs _ _ hg) rfl rfl q⟩) (fun hg _ ih f hf e => (hf _ e).elim fun m e => (ih m e).elim fun as q => ⟨_, .tuple (hs _ _ hg) rfl rfl q⟩)
    (fun _ _ _ e => nomatch e) (fun _ _ _ e => nomatch e) (fun _ _ => ⟨_, .nil⟩)
    (fun _ _ h1 h2 n e => by
      have e := (Bool.and_eq_true _ _).mp e
      obtain ⟨f, e1, hf⟩ := eqOk_is n
      rw [e1] at e
      obtain ⟨as, x⟩ := h1 f (fun xs h => (hf xs h).imp fun _ => And.right) e.1
      obtain ⟨bs, y⟩ := h2 n (e1 ▸ e.2)
      exact ⟨_, .cons x y⟩) r f (fun xs h => (hf xs h).imp fun _ => And.right) e
theorem natsEq {a b : List Nat} (h1 : ¬ a < b) (h2 : ¬ b < a) : a = b := List.le_antisymm (List.not_lt.mp h2) (List.not_lt.mp h1)
theorem str_ext {a b : Str} (h : a.cps.toList = b.cps.toList) : a = b := by
  cases a; cases b; exact congrArg _ (Array.toList_inj.mp h)
section
variable {p q : Prop} [Decidable p] [Decidable q]
theorem o3_swap (h : p → ¬ q) : o3 q p = (o3 p q).swap := by
  unfold o3
  by_cases hp : p
  · rw [if_pos hp, if_neg (h hp), if_pos hp]; rfl
  · rw [if_neg hp, if_neg hp]; by_cases hq : q
    · rw [if_pos hq, if_pos hq]; rfl
    · rw [if_neg hq, if_neg hq]; rfl
theorem o3_lt : o3 p q = .lt ↔ p := by
  unfold o3
  by_cases hp : p
  · rw [if_pos hp]; exact ⟨fun _ => hp, fun _ => rfl⟩
  · rw [if_neg hp]; refine ⟨fun h => ?_, fun h => absurd h hp⟩
    by_cases hq : q
    · rw [if_pos hq] at h; cases h
    · rw [if_neg hq] at h; cases h
theorem o3_eq : o3 p q = .eq ↔ ¬ p ∧ ¬ q := by
  unfold o3
  by_cases hp : p
  · rw [if_pos hp]; exact ⟨nofun, fun h => absurd hp h.1⟩
  · rw [if_neg hp]
    by_cases hq : q
    · rw [if_pos hq]; exact ⟨nofun, fun h => absurd hq h.2⟩
    · rw [if_neg hq]; exact ⟨fun _ => ⟨hp, hq⟩, fun _ => rfl⟩
theorem o3_gt (h : p → ¬ q) : o3 p q = .gt ↔ q := by
  have e : o3 q p = .lt ↔ q := o3_lt
  rw [o3_swap h] at e
  refine Iff.trans ?_ e
  cases o3 p q with
  | gt => exact ⟨fun _ => rfl, fun _ => rfl⟩
  | _ => exact ⟨nofun, nofun⟩
end
theorem eqb {a b : Ordering} {c : Bool} (h : c = true ↔ a = b) : c = (a == b) := Bool.eq_iff_iff.mpr (h.trans beq_iff_eq.symm)
theorem str_asym {a b : List Nat} (x : a < b) : ¬ b < a := fun y => List.lt_irrefl _ (List.lt_trans x y)
theorem ind_eqv : CmpInd (fun a b o => PyData.eqv (toPy a) (toPy b) = (o == .eq)) (fun a b o => PyData.eqvAll (toPys a) (toPys b) = (o == .eq)) where
  int a b := eqb (c := a == b) (beq_iff_eq.trans (o3_eq.trans ⟨fun h => Int.le_antisymm (Int.not_lt.mp h.2) (Int.not_lt.mp h.1), fun h => h ▸ ⟨Int.lt_irrefl _, Int.lt_irrefl _⟩⟩).symm)
  str a b := eqb (c := a == b) (beq_iff_eq.trans (o3_eq.trans ⟨fun h => str_ext (natsEq h.1 h.2), fun h => h ▸ ⟨List.lt_irrefl _, List.lt_irrefl _⟩⟩).symm)
  list a b o _ h := h
  tup a b o _ h := h
  nn := rfl
  nc y ys := rfl
  cn x xs := rfl
  ce x xs y ys o _ _ h1 h2 := (congrArg (· && PyData.eqvAll (toPys xs) (toPys ys)) h1).trans h2
  cd x xs y ys o h0 _ h1 := (congrArg (· && PyData.eqvAll (toPys xs) (toPys ys)) (h1.trans (beq_eq_false_iff_ne.mpr h0))).trans (beq_eq_false_iff_ne.mpr h0).symm
theorem cmp_eqv (a b : D) (o : Ordering) (h : D.cmp a b = some o) : PyData.eqv (toPy a) (toPy b) = (o == .eq) := ind_eqv.cmp a b o h
section
variable {K : Gh} {w : World} {r : Nat} {sc : Scope} {σ : Sg} {μ μ1 μ2 μ3 : Mu}
theorem eqAt_of {g : Gh} {α : List Addr} {s : Shared} {A : Around} {va vb : Value} {a b : D} {o : Ordering} {n m : Nat} (hs : ∀ b o, g b = some o → s.heap.get? b = some o) (ha : eqOk n a = true) (hb : eqOk m b = true) (h : D.cmp a b = some o) (ra : Rd g α va a) (rb : Rd g α vb b) (hu : A.units + n < cLine) : EqAt A s va vb (o == .eq) := by
  obtain ⟨as, x⟩ := ra.reads hs ha
  obtain ⟨bs, y⟩ := rb.reads hs hb
  have p := okLay n a ha
  rw [← cmp_eqv a b o h]
  exact PySem.SeqAt.eqAt_reads _ _ A s va vb as bs x y p.1 (okLay m b hb).1 (Nat.lt_of_le_of_lt (Nat.add_le_add_left (Nat.le_trans (Nat.min_le_left _ _) p.2) _) hu)
theorem scal_ok {d : D} (h : scal d = true) (n : Nat) : eqOk n d = true := by
  obtain ⟨f, e, _⟩ := eqOk_is n
  rw [e]
  obtain ⟨i, rfl⟩ | ⟨s, rfl, h⟩ := scal_inv h
  · rfl
  · exact h
theorem ordLt {p q : Prop} [Decidable p] [Decidable q] {t : Bool} (h : ordIs .Lt (o3 p q) = some t) : decide p = t := by
  cases h
  exact Bool.eq_iff_iff.mpr (decide_eq_true_iff.trans (o3_lt.symm.trans beq_iff_eq.symm))
theorem ordGt {p q : Prop} [Decidable p] [Decidable q] {t : Bool} (hpq : p → ¬ q) (h : ordIs .Gt (o3 p q) = some t) : decide q = t := by
  cases h
  exact Bool.eq_iff_iff.mpr (decide_eq_true_iff.trans ((o3_gt hpq).symm.trans beq_iff_eq.symm))
theorem scal_cmp {prog : Program} {g : Gh} {α : List Addr} {s : Shared} {A : Around} {E : Value → Shared → Prop} {va vb : Value} {a b : D} {o : Ordering} {Q : Value → Shared → Prop} {op : CmpOp} {t : Bool} (hop : op = .Lt ∨ op = .Gt) (ha : scal a = true) (h : D.cmp a b = some o) (ra : Rd g α va a) (rb : Rd g α vb b) (ht : ordIs op o = some t) (hq : Q (.bool t) s) :
    wpAny (model prog w) A (richCompare op va vb) Q E s := by
  obtain ⟨i, rfl⟩ | ⟨x, rfl, _⟩ := scal_inv ha
  · obtain ⟨j, rfl, k⟩ := onInt_inv h
    obtain ⟨_, rfl⟩ := ra.int_
    obtain ⟨_, rfl⟩ := rb.int_
    cases k
    obtain rfl | rfl := hop
    · exact lt_int (s := s) (ordLt ht ▸ hq)
    · exact gt_int (s := s) (ordGt Int.lt_asymm ht ▸ hq)
  · obtain ⟨j, rfl, k⟩ := onStr_inv h
    obtain ⟨_, rfl⟩ := ra.str_
    obtain ⟨_, rfl⟩ := rb.str_
    cases k
    obtain rfl | rfl := hop
    · exact PySem.P.lt_str (s := s) (ordLt ht ▸ hq)
    · exact PySem.P.gt_str (s := s) (ordGt str_asym ht ▸ hq)
end
end Mine
end
section
open PySem PySem.W PyProof.Rows
namespace Mine
open PySem.SeqAt (EqAt)
open AutoSeq1 (wpAny_loadPart')
open MeetsSeq MeetsSeq2 MeetsSeq3 SeqRoads2
open Builtin.List (listItems)
theorem isInst {prog : Program} {w : World} {A : Around} {E : Value → Shared → Prop} {s : Shared} {b : Addr} {o : Obj} {T : String} {Q : Bool → Shared → Prop} (hb : s.heap.get? b = some o) (hc : o.cls = .type T) (hs : isSubtype (.type T) (.type T) = pure true) (hq : Q true s) : wpAny (model prog w) A (isInstance (.ref b) (.type T)) Q E s := by
  unfold isInstance
  refine wpAny_bind (wpAny_typeOf (T := T) ⟨o, hb, hc⟩ ?_)
  rw [hs]; exact wpAny_pure hq
theorem tupItems {M : Model} {A : Around} {E : Value → Shared → Prop} {s : Shared} {b : Addr} {o : Obj} {xs : Array Value} {n : Nat} {Q : Array Value → Shared → Prop} (hb : s.heap.get? b = some o) (hd : o.data = .seq xs n) (hq : Q xs s) : wpAny M A (Builtin.Tuple.tupleItemsOf (.ref b)) Q E s := by
  unfold Builtin.Tuple.tupleItemsOf seqItems?
  refine wpAny_bind (wpAny_bind (wpAny_load hb ?_))
  rw [hd]
  exact wpAny_pure (wpAny_pure hq)
noncomputable def zipStep (op : CmpOp) (p : Value × Value) (r : Option Fin × Unit) : Sem (ForInStep (Option Fin × Unit)) := (do
    if !(← eqBool p.1 p.2) then
      rule "tuple.compare.by-the-first-pair-that-differs"
      let f ← ret (← richCompare op p.1 p.2)
      return .done (some f, ())
    else return .yield (none, ()))
noncomputable def cEnd (f : Nat → Nat → Bool) (l b : Addr) : Sem Fin := listItems (.ref l) >>= fun xs => listItems (.ref b) >>= fun ys => ret (.bool (f xs.size ys.size))
noncomputable def cIn (op : CmpOp) (f : Nat → Nat → Bool) (m n : Nat) : Option Value → Option Value → Sem Fin
  | some x, some y => richCompare op x y >>= fun v => ret v
  | _, _ => rule "list.compare.shrunk" >>= fun _ => ret (.bool (f m n))
noncomputable def cDiff (op : CmpOp) (f : Nat → Nat → Bool) (l b : Addr) (i : Nat) : Sem Fin := listItems (.ref l) >>= fun xs => listItems (.ref b) >>= fun ys => cIn op f xs.size ys.size xs[i]? ys[i]?
noncomputable def cTwo (op : CmpOp) (f : Nat → Nat → Bool) (c : Nat) (l b : Addr) (i : Nat) (x y : Value) : Sem Fin := eqBool x y >>= fun q => if q = true then again (.builtin "list.__eq__.loop" ⟨[.ref l, .ref b, rawInt (i + 1), rawInt c], []⟩) else cDiff op f l b i
noncomputable def cStep (op : CmpOp) (f : Nat → Nat → Bool) (c : Nat) (l b : Addr) (i : Nat) : Option Value → Option Value → Sem Fin
  | some x, some y => cTwo op f c l b i x y
  | _, _ => cEnd f l b
/-- one of the two orders: the operator, how lengths tell, the loop's sign -/
structure Dir (op : CmpOp) (f : Nat → Nat → Bool) (c : Nat) : Prop where
  hop : op = .Lt ∨ op = .Gt
  is : ∀ a b, ordIs op (o3 (a < b) (b < a)) = some (f a b)
  add : ∀ i a b, f (i + a) (i + b) = f a b
  loop : ∀ (l b : Addr) (i : Nat), Builtin.«list.__eq__.loop» ⟨[.ref l, .ref b, rawInt i, rawInt c], []⟩ = listItems (.ref l) >>= fun xs => listItems (.ref b) >>= fun ys => cStep op f c l b i xs[i]? ys[i]?
theorem dLt : Dir .Lt (fun a b => decide (a < b)) 0 where
  hop := .inl rfl
  is a b := congrArg some (Bool.eq_iff_iff.mpr (beq_iff_eq.trans (o3_lt.trans decide_eq_true_iff.symm)))
  add i a b := decide_eq_decide.mpr Nat.add_lt_add_iff_left
  loop l b i := by
    refine congrArg (Sem.bind (listItems (.ref l))) (funext fun xs => congrArg (Sem.bind (listItems (.ref b))) (funext fun ys => ?_))
    show (match (xs[i]?, ys[i]?) with | (some x, some y) => _ | _ => _) = _
    cases xs[i]? with
    | none => rfl
    | some x =>
      cases ys[i]? with
      | none => rfl
      | some y =>
        refine congrArg (Sem.bind (eqBool x y)) (funext fun c => ?_)
        cases c with
        | true => rfl
        | false =>
          refine congrArg (Sem.bind (listItems (.ref l))) (funext fun xs => congrArg (Sem.bind (listItems (.ref b))) (funext fun ys => ?_))
          show (match xs[i]?, ys[i]?, CmpOp.Lt with | some _, some _, .Eq => _ | some _, some _, .NotEq => _ | some x, some y, _ => _ | _, _, _ => _) = _
          cases xs[i]? with
          | none => rfl
          | some x =>
            cases ys[i]? with
            | none => rfl
            | some y => rfl
theorem dGt : Dir .Gt (fun a b => decide (a > b)) 4 where
  hop := .inr rfl
  is a b := congrArg some (Bool.eq_iff_iff.mpr (beq_iff_eq.trans ((o3_gt Nat.lt_asymm).trans decide_eq_true_iff.symm)))
  add i a b := decide_eq_decide.mpr Nat.add_lt_add_iff_left
  loop l b i := by
    refine congrArg (Sem.bind (listItems (.ref l))) (funext fun xs => congrArg (Sem.bind (listItems (.ref b))) (funext fun ys => ?_))
    show (match (xs[i]?, ys[i]?) with | (some x, some y) => _ | _ => _) = _
    cases xs[i]? with
    | none => rfl
    | some x =>
      cases ys[i]? with
      | none => rfl
      | some y =>
        refine congrArg (Sem.bind (eqBool x y)) (funext fun c => ?_)
        cases c with
        | true => rfl
        | false =>
          refine congrArg (Sem.bind (listItems (.ref l))) (funext fun xs => congrArg (Sem.bind (listItems (.ref b))) (funext fun ys => ?_))
          show (match xs[i]?, ys[i]?, CmpOp.Gt with | some _, some _, .Eq => _ | some _, some _, .NotEq => _ | some x, some y, _ => _ | _, _, _ => _) = _
          cases xs[i]? with
          | none => rfl
          | some x =>
            cases ys[i]? with
            | none => rfl
            | some y => rfl
theorem cmps_end {xs ys : List D} {o : Ordering} (h : D.cmps xs ys = some o) (e : xs = [] ∨ ys = []) : o = o3 (xs.length < ys.length) (ys.length < xs.length) := by
  cases xs with
  | nil => cases ys with
    | nil => cases h; rfl
    | cons y ys => cases h; exact (o3_lt.mpr (Nat.succ_pos _)).symm
  | cons x xs => cases ys with
    | nil => cases h; exact ((o3_gt Nat.lt_asymm).mpr (Nat.succ_pos _)).symm
    | cons y ys => cases e with
      | inl e => cases e
      | inr e => cases e
theorem Rds.scal_ {g : Gh} {α : List Addr} {v : Value} {d : D} (h : scal d = true) (r : Rd g α v d) : Rd (fun _ => none) [] v d := by
  obtain ⟨i, rfl⟩ | ⟨s, rfl, _⟩ := scal_inv h
  · obtain ⟨_, rfl⟩ := r.int_; exact .int _ _
  · obtain ⟨_, rfl⟩ := r.str_; exact .str _ _
theorem scal_eqAt {g : Gh} {α : List Addr} {s : Shared} {A : Around} {va vb : Value} {a b : D} {o : Ordering} (ha : scal a = true) (hb : scal b = true) (h : D.cmp a b = some o) (ra : Rd g α va a) (rb : Rd g α vb b) (hu : A.units < cLine) : EqAt A s va vb (o == .eq) :=
  eqAt_of (fun _ _ e => by cases e) (scal_ok ha 0) (scal_ok hb 0) h (Rds.scal_ ha ra) (Rds.scal_ hb rb) hu
theorem in1_lt {A : Around} (hu : A.units + 20 < cLine) : A.in1.units < cLine := by simp only [Around.in1_units]; lia
theorem all_cons {x : D} {xs : List D} {f : D → Bool} (h : (x :: xs).all f = true) : f x = true ∧ xs.all f = true := (Bool.and_eq_true _ _).mp h
section
variable {op : CmpOp} {f : Nat → Nat → Bool} {c : Nat} {g : Gh} {α : List Addr} {t : Bool}
theorem Dir.sz (D1 : Dir op f c) {xs ys : List D} {o : Ordering} (h : D.cmps xs ys = some o) (e : xs = [] ∨ ys = []) (ht : ordIs op o = some t) : f xs.length ys.length = t := by
  have e2 := cmps_end h e
  subst e2
  exact Option.some.inj ((D1.is _ _).symm.trans ht)
theorem drop_cons {i : Nat} {vs r : List Value} {v : Value} (h : vs.drop i = v :: r) : vs.toArray[i]? = some v ∧ vs.drop (i + 1) = r := by
  refine ⟨?_, ?_⟩
  · rw [List.getElem?_toArray, ← Nat.add_zero i, ← List.getElem?_drop, h]; rfl
  · rw [← List.tail_drop, h]; rfl
theorem drop_nil {i : Nat} {vs : List Value} (h : vs.drop i = []) : vs.toArray[i]? = none := by
  rw [List.getElem?_toArray, List.getElem?_eq_none_iff]; exact List.drop_eq_nil_iff.mp h
theorem wpTwo {prog : Program} {w : World} {A : Around} {E : Value → Shared → Prop} {s : Shared} {l b : Addr} {vs ws : List Value} {n m : Nat} {Q : Fin → Shared → Prop} {F : Array Value → Array Value → Sem Fin} (hl : s.heap.get? l = some (lobj vs n)) (hb : s.heap.get? b = some (lobj ws m)) (h : wpAny (model prog w) A (F vs.toArray ws.toArray) Q E s) :
    wpAny (model prog w) A (listItems (.ref l) >>= fun xs => listItems (.ref b) >>= fun ys => F xs ys) Q E s := wpAny_bind (listItems_at hl rfl (wpAny_bind (listItems_at hb rfl h)))
theorem genLoop (D1 : Dir op f c) (l b : Addr) (vs ws : List Value) (n m : Nat) : ∀ (xs ys : List D) (us zs : List Value) (i : Nat) (o : Ordering), D.cmps xs ys = some o → xs.all scal = true → ys.all scal = true → i + xs.length = vs.length → i + ys.length = ws.length → vs.drop i = us → ws.drop i = zs → Rds g α us xs → Rds g α zs ys → ordIs op o = some t →
    Meets (Builtin.«list.__eq__.loop» ⟨[.ref l, .ref b, rawInt i, rawInt c], []⟩) (fun A R s => s.heap.get? l = some (lobj vs n) ∧ s.heap.get? b = some (lobj ws m) ∧ A.units + 20 < cLine ∧ R (.ok (.ret (.bool t))) s) := by
  intro xs
  induction xs with
  | nil =>
    intro ys us zs i o hc hx hy hi hj eu ez rx ry ht prog w A R s h
    obtain ⟨hl, hb, hu, h⟩ := h
    rw [D1.loop]
    refine wpTwo hl hb ?_
    rw [drop_nil (eu.trans rx.nil_)]
    refine wpTwo hl hb (wpAny_pure ?_)
    show R (.ok (.ret (.bool (f vs.toArray.size ws.toArray.size)))) s
    rw [List.size_toArray, List.size_toArray, ← hi, ← hj, D1.add, D1.sz hc (.inl rfl) ht]; exact h
  | cons x xs ih =>
    intro ys us zs i o hc hx hy hi hj eu ez rx ry ht prog w A R s h
    obtain ⟨hl, hb, hu, h⟩ := h
    rw [D1.loop]
    refine wpTwo hl hb ?_
    obtain ⟨v, us, rfl, rv, rx⟩ := rx.cons_
    obtain ⟨i1, eu⟩ := drop_cons eu
    rw [i1]
    cases ys with
    | nil =>
      rw [drop_nil (ez.trans ry.nil_)]
      refine wpTwo hl hb (wpAny_pure ?_)
      show R (.ok (.ret (.bool (f vs.toArray.size ws.toArray.size)))) s
      rw [List.size_toArray, List.size_toArray, ← hi, ← hj, D1.add, D1.sz hc (.inr rfl) ht]; exact h
    | cons y ys =>
      obtain ⟨u, zs, rfl, ru, ry⟩ := ry.cons_
      obtain ⟨i2, ez⟩ := drop_cons ez
      rw [i2]
      have hx := all_cons hx
      have hy := all_cons hy
      have hu' : A.in1.units < cLine := in1_lt hu
      obtain ⟨h1, h2⟩ | ⟨h1, h2⟩ := cmps_some hc
      · refine wpAny_bind (scal_eqAt hx.1 hy.1 h1 rv ru hu' prog w _ _ (wpAny_pure ⟨plainId_quiet plain_eq_loop _, codeAny_builtin entry_eq_loop ?_⟩))
        rw [Around.under_plainId plain_eq_loop _]
        exact ih ys us zs (i + 1) o h2 hx.2 hy.2 ((Nat.succ_add _ _).trans hi) ((Nat.succ_add _ _).trans hj) eu ez rx ry ht prog w A R _ ⟨hl, hb, hu, h⟩
      · refine wpAny_bind (scal_eqAt hx.1 hy.1 h2 rv ru hu' prog w _ _ ?_)
        rw [beq_eq_false_iff_ne.mpr h1]
        refine wpTwo (F := fun xs ys => cIn op f xs.size ys.size xs[i]? ys[i]?) hl hb ?_
        rw [i1, i2]
        exact wpAny_bind (scal_cmp D1.hop hx.1 h2 rv ru ht (wpAny_pure h))
theorem zipLoop {prog : Program} {w : World} {A : Around} {E : Value → Shared → Prop} {s : Shared} (hop : op = .Lt ∨ op = .Gt) (hu : A.units + 20 < cLine) {Q : Option Fin × Unit → Shared → Prop} (h2 : Q (some (.done (.ret (.bool t))), ()) s) : ∀ (xs ys : List D) (vs ws : List Value) (o : Ordering), D.cmps xs ys = some o → ordIs op o = some t → xs.all scal = true → ys.all scal = true → Rds g α vs xs → Rds g α ws ys →
    (o = o3 (xs.length < ys.length) (ys.length < xs.length) → Q (none, ()) s) → wpAny (model prog w) A.in1 (forIn (vs.zip ws) (none, ()) (zipStep op)) Q E s := by
  intro xs
  induction xs with
  | nil =>
    intro ys vs ws o hc ht hx hy rx ry h1
    cases rx.nil_
    exact wpAny_pure (h1 (cmps_end hc (.inl rfl)))
  | cons x xs ih =>
    intro ys vs ws o hc ht hx hy rx ry h1
    obtain ⟨v, vs, rfl, rv, rx⟩ := rx.cons_
    cases ys with
    | nil =>
      cases ry.nil_
      exact wpAny_pure (h1 (cmps_end hc (.inr rfl)))
    | cons y ys =>
      obtain ⟨u, ws, rfl, ru, ry⟩ := ry.cons_
      have hx := all_cons hx
      have hy := all_cons hy
      have hu' : A.in1.units < cLine := in1_lt hu
      rw [List.zip_cons_cons, List.forIn_cons]
      refine wpAny_bind (wpAny_bind ?_)
      obtain ⟨h3, h4⟩ | ⟨h3, h4⟩ := cmps_some hc
      · exact scal_eqAt hx.1 hy.1 h3 rv ru hu' prog w _ _ (wpAny_pure (ih ys vs ws o h4 ht hx.2 hy.2 rx ry fun e => h1 (e.trans (by unfold o3; simp only [List.length_cons, Nat.succ_lt_succ_iff]))))
      · refine scal_eqAt hx.1 hy.1 h4 rv ru hu' prog w _ _ ?_
        rw [beq_eq_false_iff_ne.mpr h3]
        exact wpAny_bind (wpAny_rule (wpAny_bind (scal_cmp hop hx.1 h4 rv ru ht (wpAny_bind (wpAny_pure (wpAny_pure (wpAny_pure h2)))))))
noncomputable def tupBody (op : CmpOp) (f : Nat → Nat → Bool) (l b : Addr) : Sem Fin := Builtin.Tuple.tupleItemsOf (.ref l) >>= fun xs => Builtin.Tuple.tupleItemsOf (.ref b) >>= fun ys =>
    (forIn (xs.toList.zip ys.toList) (none, ()) (zipStep op) >>= fun r => match r.1 with | none => ret (.bool (f xs.size ys.size)) | some f => pure f)
noncomputable def ofType (T : String) (b : Addr) (t : Sem Fin) : Sem Fin := isInstance (.ref b) (.type T) >>= fun c => if (!c) = true then ret .notImplemented else t
theorem genListM {t1 : Sem Fin} {l b : Addr} (D1 : Dir op f c) (e : t1 = ofType "list" b (again (.builtin "list.__eq__.loop" ⟨[.ref l, .ref b, rawInt 0, rawInt c], []⟩))) (vs ws : List Value) (n m : Nat) (xs ys : List D) (o : Ordering) (hc : D.cmps xs ys = some o) (hx : xs.all scal = true) (hy : ys.all scal = true) (rx : Rds g α vs xs) (ry : Rds g α ws ys) (ht : ordIs op o = some t) :
    Meets t1 (fun A R s => s.heap.get? l = some (lobj vs n) ∧ s.heap.get? b = some (lobj ws m) ∧ A.units + 20 < cLine ∧ R (.ok (.ret (.bool t))) s) := by
  intro prog w A R s h
  rw [e]
  refine wpAny_bind (isInst h.2.1 rfl AutoSeq1.sub_list_list (wpAny_pure ⟨plainId_quiet plain_eq_loop _, codeAny_builtin entry_eq_loop ?_⟩))
  rw [Around.under_plainId plain_eq_loop _]
  exact genLoop D1 l b vs ws n m xs ys vs ws 0 o hc hx hy ((Nat.zero_add _).trans rx.length.symm) ((Nat.zero_add _).trans ry.length.symm) rfl rfl rx ry ht prog w A R s h
theorem genTupM {t1 : Sem Fin} {l b : Addr} (D1 : Dir op f c) (e : t1 = ofType "tuple" b (tupBody op f l b)) (vs ws : List Value) (n m : Nat) (xs ys : List D) (o : Ordering) (hc : D.cmps xs ys = some o) (hx : xs.all scal = true) (hy : ys.all scal = true) (rx : Rds g α vs xs) (ry : Rds g α ws ys) (ht : ordIs op o = some t) :
    Meets t1 (fun A R s => s.heap.get? l = some (tobj vs n) ∧ s.heap.get? b = some (tobj ws m) ∧ A.units + 20 < cLine ∧ R (.ok (.ret (.bool t))) s) := by
  intro prog w A R s h
  obtain ⟨hl, hb, hu, h⟩ := h
  rw [e]
  refine wpAny_bind (isInst hb rfl AutoSeq1.sub_tuple_tuple (wpAny_bind (tupItems hl rfl (wpAny_bind (tupItems hb rfl (wpAny_bind ?_))))))
  refine zipLoop D1.hop hu ?_ xs ys vs ws o hc ht hx hy rx ry fun eo => wpAny_pure ?_
  · exact wpAny_pure h
  show R (.ok (.ret (.bool (f vs.toArray.size ws.toArray.size)))) s
  subst eo
  rw [List.size_toArray, List.size_toArray, rx.length, ry.length, Option.some.inj ((D1.is _ _).symm.trans ht)]; exact h
end
theorem ofType_eq {T : String} {b : Addr} {F : Bool → Sem Fin} {t : Sem Fin} (h1 : F false = ret .notImplemented) (h2 : F true = t) : (isInstance (.ref b) (.type T) >>= F) = ofType T b t := by
  refine congrArg (Sem.bind (isInstance (.ref b) (.type T))) (funext fun c => ?_)
  cases c with
  | false => exact h1
  | true => exact h2
theorem tup_eq {op : CmpOp} {f : Nat → Nat → Bool} {l b : Addr} {F : Value × Value → Option Fin × Unit → Sem (ForInStep (Option Fin × Unit))} {G : Array Value → Array Value → Option Fin × Unit → Sem Fin}
    (h1 : ∀ x y r, F (x, y) r = zipStep op (x, y) r) (h2 : ∀ xs ys u, G xs ys (none, u) = ret (.bool (f xs.size ys.size))) (h3 : ∀ xs ys u x, G xs ys (some x, u) = pure x) :
    (Builtin.Tuple.tupleItemsOf (.ref l) >>= fun xs => Builtin.Tuple.tupleItemsOf (.ref b) >>= fun ys => (forIn (xs.toList.zip ys.toList) (none, ()) F >>= G xs ys)) = tupBody op f l b := by
  have e1 : F = zipStep op := funext fun ⟨x, y⟩ => funext fun r => h1 x y r
  have e2 : G = fun xs ys r => match r.1 with | none => ret (.bool (f xs.size ys.size)) | some f => pure f := funext fun xs => funext fun ys => funext fun ⟨r, u⟩ => by
    cases r with
    | none => exact h2 xs ys u
    | some x => exact h3 xs ys u x
  rw [e1, e2]; rfl
theorem zs_eq {op : CmpOp} {x y : Value} {r : Option Fin × Unit} {F : Bool → Sem (ForInStep (Option Fin × Unit))} (h : ∀ c, F c = (do
    if !c then
      rule "tuple.compare.by-the-first-pair-that-differs"
      let f ← ret (← richCompare op x y)
      return .done (some f, ())
    else return .yield (none, ()))) : (eqBool x y >>= F) = zipStep op (x, y) r := congrArg (Sem.bind (eqBool x y)) (funext h)
theorem ltTup_eq (l b : Addr) : Builtin.«tuple.__lt__» ⟨[.ref l, .ref b], []⟩ = ofType "tuple" b (tupBody .Lt (fun a b => decide (a < b)) l b) :=
  ofType_eq rfl (tup_eq (fun x y r => zs_eq fun c => by cases c <;> rfl) (fun _ _ _ => rfl) fun _ _ _ _ => rfl)
theorem gtTup_eq (l b : Addr) : Builtin.«tuple.__gt__» ⟨[.ref l, .ref b], []⟩ = ofType "tuple" b (tupBody .Gt (fun a b => decide (a > b)) l b) :=
  ofType_eq rfl (tup_eq (fun x y r => zs_eq fun c => by cases c <;> rfl) (fun _ _ _ => rfl) fun _ _ _ _ => rfl)
section
variable {g : Gh} {α : List Addr} {w : World} {s : Shared} {A : Around} {E : Value → Shared → Prop} {Q : Value → Shared → Prop} {l b : Addr} {vs ws : List Value} {n m : Nat} {xs ys : List D} {o : Ordering} {t : Bool}
theorem lt40 (hu : A.units + 40 < cLine) : A.units + 20 < cLine := Nat.lt_of_le_of_lt (Nat.add_le_add_left (by decide) _) hu
theorem ltList (hl : s.heap.get? l = some (lobj vs n)) (hb : s.heap.get? b = some (lobj ws m))
    (hc : D.cmps xs ys = some o) (hx : xs.all scal = true) (hy : ys.all scal = true) (rx : Rds g α vs xs) (ry : Rds g α ws ys) (ht : ordIs .Lt o = some t) (hu : A.units + 40 < cLine) (hq : Q (.bool t) s) : wpAny (MM w) A (richCompare .Lt (.ref l) (.ref b)) Q E s :=
  richCompare_meets_room (T := "list") ⟨_, hl, rfl⟩ ⟨_, hb, rfl⟩ F.slot_list_lt F.entry_list_lt (F.args_list_lt_2 _ _) (genListM dLt (ofType_eq rfl rfl) vs ws n m xs ys o hc hx hy rx ry ht) ⟨hl, hb, lt40 hu, And.intro (fun e => by cases e) hq⟩ (by lia)
theorem gtList (hl : s.heap.get? l = some (lobj vs n)) (hb : s.heap.get? b = some (lobj ws m))
    (hc : D.cmps xs ys = some o) (hx : xs.all scal = true) (hy : ys.all scal = true) (rx : Rds g α vs xs) (ry : Rds g α ws ys) (ht : ordIs .Gt o = some t) (hu : A.units + 40 < cLine) (hq : Q (.bool t) s) : wpAny (MM w) A (richCompare .Gt (.ref l) (.ref b)) Q E s :=
  richCompare_meets_room (T := "list") ⟨_, hl, rfl⟩ ⟨_, hb, rfl⟩ F.slot_list_gt F.entry_list_gt (F.args_list_gt_2 _ _) (genListM dGt (ofType_eq rfl rfl) vs ws n m xs ys o hc hx hy rx ry ht) ⟨hl, hb, lt40 hu, And.intro (fun e => by cases e) hq⟩ (by lia)
theorem ltTup (hl : s.heap.get? l = some (tobj vs n)) (hb : s.heap.get? b = some (tobj ws m))
    (hc : D.cmps xs ys = some o) (hx : xs.all scal = true) (hy : ys.all scal = true) (rx : Rds g α vs xs) (ry : Rds g α ws ys) (ht : ordIs .Lt o = some t) (hu : A.units + 40 < cLine) (hq : Q (.bool t) s) : wpAny (MM w) A (richCompare .Lt (.ref l) (.ref b)) Q E s :=
  richCompare_meets_room (T := "tuple") ⟨_, hl, rfl⟩ ⟨_, hb, rfl⟩ F.slot_tuple_lt F.entry_tuple_lt (F.args_tuple_lt_2 _ _) (genTupM dLt (ltTup_eq l b) vs ws n m xs ys o hc hx hy rx ry ht) ⟨hl, hb, lt40 hu, And.intro (fun e => by cases e) hq⟩ (by lia)
theorem gtTup (hl : s.heap.get? l = some (tobj vs n)) (hb : s.heap.get? b = some (tobj ws m))
    (hc : D.cmps xs ys = some o) (hx : xs.all scal = true) (hy : ys.all scal = true) (rx : Rds g α vs xs) (ry : Rds g α ws ys) (ht : ordIs .Gt o = some t) (hu : A.units + 40 < cLine) (hq : Q (.bool t) s) : wpAny (MM w) A (richCompare .Gt (.ref l) (.ref b)) Q E s :=
  richCompare_meets_room (T := "tuple") ⟨_, hl, rfl⟩ ⟨_, hb, rfl⟩ F.slot_tuple_gt F.entry_tuple_gt (F.args_tuple_gt_2 _ _) (genTupM dGt (gtTup_eq l b) vs ws n m xs ys o hc hx hy rx ry ht) ⟨hl, hb, lt40 hu, And.intro (fun e => by cases e) hq⟩ (by lia)
end
end Mine
end
section
open PySem PySem.W PyProof.Rows
namespace Mine
section
variable {K : Gh} {w : World} {r : Nat} {sc : Scope} {σ : Sg} {μ μ1 μ2 μ3 : Mu}
theorem boolDone {g : Gh} {s : Shared} {env : Env} {α : List Addr} {b : Bool} (S : St K g s.heap env sc α σ μ) : ∃ g', Step K g s g' s env sc α σ μ ∧ Rd g' α (.bool b) (.bool b) := done0 S (.bool b)
theorem flatCmp {g : Gh} {s : Shared} {env : Env} {α : List Addr} {A : Around} {E : Value → Shared → Prop} {Q : Value → Shared → Prop} {op : CmpOp} {a b : D} {va vb : Value} {o : Ordering} {t : Bool} (hop : op = .Lt ∨ op = .Gt) (hs : ∀ b o, g b = some o → s.heap.get? b = some o) (hu : A.units + 40 < cLine) (ha : flatD a = true) (hb : flatD b = true) (hc : D.cmp a b = some o) (ht : ordIs op o = some t) (ra : Rd g α va a) (rb : Rd g α vb b) (hq : Q (.bool t) s) : wpAny (MM w) A (richCompare op va vb) Q E s := by
  obtain ⟨i, rfl⟩ | ⟨x, rfl, h⟩ | ⟨xs, rfl, ha⟩ | ⟨xs, rfl, ha⟩ := eqD_inv ha
  · exact scal_cmp hop rfl hc ra rb ht hq
  · exact scal_cmp (a := .str x) hop h hc ra rb ht hq
  · obtain ⟨ys, rfl, hc⟩ := onList_inv hc
    obtain ⟨_, _, _, rfl, h1, r1⟩ := ra.list_
    obtain ⟨_, _, _, rfl, h2, r2⟩ := rb.list_
    obtain rfl | rfl := hop
    · exact ltList (hs _ _ h1) (hs _ _ h2) hc ha hb r1 r2 ht hu hq
    · exact gtList (hs _ _ h1) (hs _ _ h2) hc ha hb r1 r2 ht hu hq
  · obtain ⟨ys, rfl, hc⟩ := onTup_inv hc
    obtain ⟨_, _, _, rfl, h1, r1⟩ := ra.tup_
    obtain ⟨_, _, _, rfl, h2, r2⟩ := rb.tup_
    obtain rfl | rfl := hop
    · exact ltTup (hs _ _ h1) (hs _ _ h2) hc ha hb r1 r2 ht hu hq
    · exact gtTup (hs _ _ h1) (hs _ _ h2) hc ha hb r1 r2 ht hu hq
theorem Room.units {r : Nat} {A : Around} (h : Room r A) : A.units + 300 < cLine := by have := h.2.1; lia
theorem memStr_eq {x s : Str} {b : Bool} (h : memStr x s = some b) : (!(Builtin.Str.occurrences s x 0 s.length 1).isEmpty) = b := by
  obtain ⟨c, hc, h⟩ := one?_inv h
  have e : x = ⟨#[c]⟩ := str_ext hc
  subst e
  exact (StrLaws.found_one s c).trans ((List.contains_eq_mem _ _).symm.trans (Option.some.inj h))
noncomputable def isI (i : Int) : Value → Bool
  | .int j _ => j == i
  | _ => false
theorem eqInt_inv {i : Int} {d : D} {c : Bool} (h : eqInt i d = some c) : ∃ j, d = .int j ∧ (j == i) = c := by
  cases d with
  | int j => exact ⟨j, rfl, Option.some.inj h⟩
  | _ => exact noSome h
theorem anyInt_eq {g : Gh} {α : List Addr} {i : Int} : ∀ {ds : List D} {vs : List Value} {b : Bool}, anyInt i ds = some b → Rds g α vs ds → vs.any (isI i) = b
  | [], vs, b, h, r => by cases r.nil_; exact Option.some.inj h
  | d :: ds, vs, b, h, r => by
    obtain ⟨v, vs, rfl, hv, r2⟩ := r.cons_
    obtain ⟨c, h1, h2⟩ := bindSome h
    obtain ⟨j, rfl, h3⟩ := eqInt_inv h1
    obtain ⟨_, rfl⟩ := hv.int_
    show ((j == i) || vs.any (isI i)) = b
    rw [h3]
    cases c with
    | true => exact Option.some.inj h2
    | false => exact anyInt_eq h2 r2
theorem ownInts {i : Int} {t : Tok} {v : Value} {d : D} {g : Gh} {α : List Addr} (hd : (eqInt i d).isSome = true) (hv : Rd g α v d) : MeetsSeq.EqGives v (.int i t) (isI i v) := by
  obtain ⟨c, hc⟩ := Option.isSome_iff_exists.mp hd
  obtain ⟨j, rfl, _⟩ := eqInt_inv hc
  obtain ⟨_, rfl⟩ := hv.int_
  exact MeetsSeq.EqGives.int _ _ _ _
/-- the ints of a list are told apart one by one, up to the first that is like -/
theorem notInOwn {g : Gh} {s : Shared} {α : List Addr} {A : Around} {E : Value → Shared → Prop} {Q : Value → Shared → Prop} {i : Int} {t : Tok} {l : Addr} {vs : List Value} {n : Nat} {ds : List D} {b : Bool} (hl : s.heap.get? l = some (lobj vs n)) (hi : ds.all (fun d => (eqInt i d).isSome) = true) (h : anyInt i ds = some b) (r : Rds g α vs ds) (hq : Q (.bool (!b)) s) :
    wpAny (MM w) A (compareOp .NotIn (.int i t) (.ref l)) Q E s := by
  refine PySem.SeqInW.notIn_listW (items := vs.toArray) (isI i) (fun y hy => ?_) ⟨_, hl, rfl, n, rfl⟩ ?_
  · obtain ⟨k, hk, rfl⟩ := List.getElem_of_mem (List.mem_toArray.mp hy)
    have hk' : k < ds.length := by rw [← r.length]; exact hk
    obtain ⟨v, e, rv⟩ := r.at (List.getElem?_eq_getElem hk')
    rw [List.getElem?_eq_getElem hk] at e
    cases e
    exact ownInts (List.all_eq_true.mp hi _ (List.getElem_mem hk')) rv
  · have e : vs.toArray.any (isI i) = b := by rw [List.any_toArray]; exact anyInt_eq h r
    rw [e]; exact hq
theorem reads2 {a b : D} {o : Ordering} {va vb : Value} {g : Gh} {s : Shared} {env : Env} {α : List Addr} {A : Around} (S : St K g s.heap env sc α σ μ) (R : Room r A) (ra : Rd g α va a) (rb : Rd g α vb b) (hf : (eqOk 10 a && eqOk 10 b) = true) (hc : D.cmp a b = some o) :
    ∃ da db as bs, Reads s.heap va da as ∧ Reads s.heap vb db bs ∧ da.canLay0 = true ∧ db.canLay0 = true ∧ A.units + min da.depth db.depth < cLine ∧ PyData.eqv da db = (o == .eq) := by
  have hf := (Bool.and_eq_true _ _).mp hf
  obtain ⟨as, x⟩ := ra.reads S.sub hf.1
  obtain ⟨bs, y⟩ := rb.reads S.sub hf.2
  have p := okLay 10 _ hf.1
  exact ⟨_, _, _, _, x, y, p.1, (okLay 10 _ hf.2).1, Nat.lt_of_le_of_lt (Nat.add_le_add_left (Nat.le_trans (Nat.min_le_left _ _) (Nat.le_trans p.2 (by decide))) _) R.units, cmp_eqv _ _ _ hc⟩
theorem inD_sound {a b : D} {t : Bool} (h : inD a b = some t) (va vb : Value) : Op K w r sc σ μ [(va, a), (vb, b)] (compareOp .In va vb) (.bool t) μ := by
  obtain ⟨x, rfl, h1⟩ := onStr_inv h
  obtain ⟨y, rfl, h⟩ := onStr_inv h1
  refine Op.of2 fun g s env α A S R ra rb => ?_
  obtain ⟨_, rfl⟩ := ra.str_
  obtain ⟨_, rfl⟩ := rb.str_
  exact PyProof.Rows.in_str (memStr_eq h ▸ boolDone S)
theorem notInD_sound {a b : D} {t : Bool} (h : notInD μ a b = some t) (va vb : Value) : Op K w r sc σ μ [(va, a), (vb, b)] (compareOp .NotIn va vb) (.bool t) μ := by
  cases a with
  | str x =>
    obtain ⟨y, rfl, h⟩ := onStr_inv h
    obtain ⟨c, h1, rfl⟩ := mapSome h
    refine Op.of2 fun g s env α A S R ra rb => ?_
    obtain ⟨_, rfl⟩ := ra.str_
    obtain ⟨_, rfl⟩ := rb.str_
    exact PyProof.Rows.notIn_str (memStr_eq h1 ▸ boolDone S)
  | int i =>
    obtain ⟨k, rfl, h⟩ := onOwn_inv h
    obtain ⟨ds, hk, h⟩ := bindSome h
    obtain ⟨hall, h⟩ := iteSome h
    obtain ⟨c, h1, rfl⟩ := mapSome h
    refine Op.of2 fun g s env α A S R ra rb => ?_
    obtain ⟨l, vs, n, ha, hl, rr, hg⟩ := S.own' k ds (ownOf_is hk)
    obtain ⟨_, rfl⟩ := ra.int_
    obtain ⟨_, rfl, hb⟩ := rb.own_
    cases ha.symm.trans hb
    exact notInOwn hl hall h1 rr (boolDone S)
  | _ => exact noSome h
theorem cmpD_sound {op : CmpOp} {a b : D} {t : Bool} (h : cmpD μ op a b = some t) (va vb : Value) : Op K w r sc σ μ [(va, a), (vb, b)] (compareOp op va vb) (.bool t) μ := by
  cases op with
  | In => exact inD_sound h va vb
  | NotIn => exact notInD_sound h va vb
  | Lt =>
    obtain ⟨hf, h⟩ := iteSome h
    obtain ⟨o, hc, ht⟩ := bindSome h
    have hf := (Bool.and_eq_true _ _).mp hf
    exact Op.of2 fun g s env α A S R ra rb => flatCmp (op := .Lt) (env := env) (.inl rfl) S.sub (Nat.lt_of_le_of_lt (Nat.add_le_add_left (by decide) _) R.units) hf.1 hf.2 hc ht ra rb (boolDone S)
  | Gt =>
    obtain ⟨hf, h⟩ := iteSome h
    obtain ⟨o, hc, ht⟩ := bindSome h
    have hf := (Bool.and_eq_true _ _).mp hf
    exact Op.of2 fun g s env α A S R ra rb => flatCmp (op := .Gt) (env := env) (.inr rfl) S.sub (Nat.lt_of_le_of_lt (Nat.add_le_add_left (by decide) _) R.units) hf.1 hf.2 hc ht ra rb (boolDone S)
  | Eq =>
    obtain ⟨hf, h⟩ := iteSome h
    obtain ⟨o, hc, ht⟩ := bindSome h
    cases ht
    refine Op.of2 fun g s env α A S R ra rb => ?_
    obtain ⟨_, _, _, _, x, y, p, q, hu, e⟩ := reads2 S R ra rb hf hc
    exact PySem.SeqAt.compareEq_reads x y p q hu (e ▸ boolDone S)
  | NotEq =>
    obtain ⟨hf, h⟩ := iteSome h
    obtain ⟨o, hc, ht⟩ := bindSome h
    cases ht
    refine Op.of2 fun g s env α A S R ra rb => ?_
    obtain ⟨_, _, _, _, x, y, p, q, hu, e⟩ := reads2 S R ra rb hf hc
    exact PySem.SeqAt.compareNe_reads x y p q hu (e ▸ boolDone S)
  | _ => exact noSome h
theorem emptyEq {β γ : Type} {xs : List β} {ys : List γ} (h : xs.length = ys.length) : xs.isEmpty = ys.isEmpty := by
  cases xs <;> cases ys <;> first | rfl | cases h
theorem truthL {g : Gh} {s : Shared} {A : Around} {α : List Addr} {a : Addr} {vs : List Value} {n : Nat} {ds : List D} {Q : Bool → Shared → Prop} (hl : ds.length ≤ 1000000) (ho : s.heap.get? a = some (lobj vs n)) (rr : Rds g α vs ds) (hq : ∀ k, Q (!ds.isEmpty) { s with toks := k }) : wpAny (MM w) A (truthy (.ref a)) Q F0 s := by
  refine wpAny_truthy_list ⟨_, ho, rfl, _, rfl⟩ (by rw [List.size_toArray, rr.length]; lia) ?_
  rw [← emptyEq rr.length] at hq
  rw [List.isEmpty_toArray]; exact hq _
theorem truthD_sound {d : D} {t : Bool} (h : truthD μ d = some t) {g : Gh} {s : Shared} {env : Env} {α : List Addr} {A : Around} {v : Value} (S : St K g s.heap env sc α σ μ) (hv : Rd g α v d) :
    wpAny (MM w) A (truthy v) (fun b s' => b = t ∧ ∃ k, s' = { s with toks := k }) F0 s := by
  cases d with
  | bool b => cases hv.bool_; exact wpAny_truthy_bool ⟨Option.some.inj h, s.toks, rfl⟩
  | int i => obtain ⟨_, rfl⟩ := hv.int_; exact PyProof.Rows.truthy_int ⟨Option.some.inj h, s.toks, rfl⟩
  | str x =>
    obtain ⟨hl, h⟩ := iteSomeP h
    obtain ⟨_, rfl⟩ := hv.str_
    refine PySem.P.truthy_str (by lia) ⟨Eq.trans ?_ (Option.some.inj h), _, rfl⟩
    by_cases q : x.length = 0 <;> simp [q]
  | bytes b =>
    obtain ⟨hl, h⟩ := iteSomeP h
    obtain ⟨bs, _, rfl, rfl⟩ := hv.bytes_
    rw [List.length_map, Array.length_toList] at hl
    refine PySem.W.truthy_bytes (by lia) ⟨Eq.trans ?_ (Option.some.inj h), _, rfl⟩
    obtain ⟨_ | ⟨x, b⟩⟩ := bs <;> rfl
  | list xs =>
    obtain ⟨hl, h⟩ := iteSomeP h
    obtain ⟨_, vs, _, rfl, hg, rr⟩ := hv.list_
    exact truthL hl (S.sub _ _ hg) rr fun _ => ⟨Option.some.inj h, _, rfl⟩
  | own k =>
    obtain ⟨ds, hk, h⟩ := bindSome h
    obtain ⟨hl, h⟩ := iteSomeP h
    obtain ⟨l, vs, n, ha, ho, rr, hg⟩ := S.own' k ds (ownOf_is hk)
    obtain ⟨_, rfl, hb⟩ := hv.own_
    cases ha.symm.trans hb
    exact truthL hl ho rr fun _ => ⟨Option.some.inj h, _, rfl⟩
  | _ => exact noSome h
end
end Mine
end
section
open PySem PySem.W PyProof.Rows
namespace Mine
/-- what an expression is not: a slice, a starred one, a set's display, super() -/
noncomputable def SubOk (i : Expr) : Prop := ∀ o v, subscripted i false o v = operate [o, v] (getItem o v)
noncomputable def StarOk (e : Expr) : Prop := ∀ es env, starEach (e :: es) env = (false, eval e env) :: starEach es env
noncomputable def SetOk (e : Expr) : Prop := ∀ env x, foldedSetIterable e env x = pure x
noncomputable def BaseOk (o : Expr) : Prop := ∀ name env, attributeBase o name env (eval o env) = eval o env
section
variable {K : Gh} {w : World} {r : Nat} {sc : Scope} {σ : Sg} {μ μ1 μ2 μ3 : Mu}
/-- an item: the type has its own way, and it gives d -/
noncomputable def ItemIs (K : Gh) (w : World) (r : Nat) (sc : Scope) (σ : Sg) (μ : Mu) (a b d : D) : Prop :=
  ∀ g s env α A va vb, St K g s.heap env sc α σ μ → Room r A → Rd g α va a → Rd g α vb b →
    ∃ T id, typeLookup (.type T) "__getitem__" = pure (some (.builtin id)) ∧ s.TypeIs va T ∧ wpAny (MM w) A (getItem va vb) (fun v s' => ∃ g', Step K g s g' s' env sc α σ μ ∧ Rd g' α v d) F0 s
theorem subEnd {value slice : Expr} {o i : Value} {A : Around} {s : Shared} {Q : Value → Shared → Prop} {T id : String} {vs : List Value} (hs : subscripted slice false o i = operate vs (getItem o i)) (hl : typeLookup (.type T) "__getitem__" = pure (some (.builtin id))) (hT : s.TypeIs o T) (hg : wpAny (MM w) A (getItem o i) Q F0 s) :
    wpAny (MM w) A (getitemInPython o >>= fun b => subscripted slice b o i >>= fun r => letTemporaryGo value o r >>= fun _ => pure r) Q F0 s := by
  refine wpAny_bind ?_
  rw [getitemInPython_of_ne hT.not_modules]
  refine wpAny_bind (wpAny_specialOf hT hl ?_)
  have fin : wpAny (MM w) A (subscripted slice false o i) (fun r s₃ => wpAny (MM w) A (letTemporaryGo value o r >>= fun _ => pure r) Q F0 s₃) F0 s := by
    rw [hs]
    exact wpAny_operating (wpAny_mono hg (fun r s₃ h₃ => wpAny_bind (wpAny_letTemporaryGo (wpAny_pure h₃))) fun _ _ x => x)
  exact wpAny_pure (wpAny_bind fin)
theorem Ev.item {v i : Expr} {p : Pos} {a b d : D} (hn : SubOk i) (h1 : Ev K w r sc σ μ v a μ1) (h2 : Ev K w r sc σ μ1 i b μ2) (h3 : ItemIs K w r sc σ μ2 a b d) : Ev K w r sc σ μ (.Subscript v i p) d μ2 := fun g s env α A S R => by
  rw [eval_Subscript]
  refine wpAny_bind (wpAny_mono (h1 g s env α A S R) (fun va s1 q => ?_) fun _ _ x => x)
  obtain ⟨g1, P1, r1⟩ := q
  refine wpAny_bind (wpAny_holding (wpAny_mono (h2 g1 s1 env α A P1.st R) (fun vb s2 q => ?_) fun _ _ x => x))
  obtain ⟨g2, P2, r2⟩ := q
  refine wpAny_bind (wpAny_standAt ?_)
  obtain ⟨T, id, hl, hT, hg⟩ := h3 g2 s2 env α A va vb P2.st R (r1.mono P2.ext.1 fun _ _ e => e) r2
  refine subEnd (hn _ _) hl hT (wpAny_mono hg (fun v s3 q => ?_) fun _ _ x => x)
  obtain ⟨g3, P3, r3⟩ := q
  exact ⟨g3, (P1.trans P2).trans P3, r3⟩
theorem at_nonneg {α : Type} {xs : List α} {i : Int} {x : α} (h : at? xs i = some x) : (0 ≤ i ∧ xs[i.toNat]? = some x) ∨ (i < 0 ∧ -(xs.length : Int) ≤ i ∧ xs[(i + xs.length).toNat]? = some x) := by
  unfold at? at h
  by_cases h0 : 0 ≤ i
  · rw [if_pos h0] at h; exact .inl ⟨h0, h⟩
  · rw [if_neg h0] at h
    obtain ⟨h1, h⟩ := iteSomeP h
    exact .inr ⟨Int.not_le.mp h0, h1, Int.add_comm _ _ ▸ h⟩
theorem lt_of_get {α : Type} {xs : List α} {i : Nat} {x : α} (h : xs[i]? = some x) : i < xs.length := (List.getElem?_eq_some_iff.mp h).1
theorem listItem {g : Gh} {s : Shared} {env : Env} {α : List Addr} {A : Around} {l : Addr} {vs : List Value} {n : Nat} {ds : List D} {i : Int} {t : Tok} {d : D} (S : St K g s.heap env sc α σ μ) (hl : s.heap.get? l = some (lobj vs n)) (rr : Rds g α vs ds) (hz : ds.length ≤ 100000) (h : at? ds i = some d) :
    wpAny (MM w) A (getItem (.ref l) (.int i t)) (fun v s' => ∃ g', Step K g s g' s' env sc α σ μ ∧ Rd g' α v d) F0 s := by
  have hlen := rr.length
  rcases at_nonneg h with ⟨h0, hx⟩ | ⟨h0, h1, hx⟩
  · obtain ⟨v, hv, rv⟩ := rr.at hx
    have := lt_of_get hx
    exact wpAny_getItem_list ⟨_, hl, rfl, n, rfl⟩ h0 (by lia) (by simpa using hv) (done0 S rv)
  · obtain ⟨v, hv, rv⟩ := rr.at hx
    have := lt_of_get hx
    refine wpAny_getItem_list_neg ⟨_, hl, rfl, n, rfl⟩ h0 (by rw [List.size_toArray, hlen]; exact h1) (by lia) ?_ (done0 S rv)
    rw [List.size_toArray, hlen]; simpa using hv
theorem seqIx {n : Nat} {i : Int} (h0 : 0 ≤ i) (h : i.toNat < n) : seqIndex? i n = some i.toNat := by
  unfold seqIndex?
  rw [if_neg (Int.not_lt.mpr h0), if_pos (by simp only [Bool.and_eq_true, decide_eq_true_eq]; lia)]
theorem seqIxNeg {n : Nat} {i : Int} (h0 : i < 0) (h1 : -(n : Int) ≤ i) : seqIndex? i n = some (i + n).toNat := by
  unfold seqIndex?
  rw [if_pos h0, if_pos (by simp only [Bool.and_eq_true, decide_eq_true_eq]; lia)]
theorem strIx {x : Str} {i : Int} {c : Nat} (h : at? x.cps.toList i = some c) : (seqIndex? i x.length).bind (x.cps[·]?) = some c ∧ -(x.length : Int) ≤ i ∧ i < (x.length : Int) := by
  have hx : x.cps.toList.length = x.length := Array.length_toList
  obtain ⟨h0, hg⟩ | ⟨h0, h1, hg⟩ := at_nonneg h
  · have hl := lt_of_get hg
    rw [hx] at hl
    rw [seqIx h0 hl]
    exact ⟨Array.getElem?_toList.symm.trans hg, by lia, by lia⟩
  · rw [hx] at h1 hg
    rw [seqIxNeg h0 h1]
    exact ⟨Array.getElem?_toList.symm.trans hg, h1, by lia⟩
theorem strItem {g : Gh} {s : Shared} {env : Env} {α : List Addr} {A : Around} {x : Str} {t u : Tok} {i : Int} {c : Nat} (S : St K g s.heap env sc α σ μ) (hz : x.length ≤ 100000) (h : at? x.cps.toList i = some c) :
    wpAny (MM w) A (getItem (.str x t) (.int i u)) (fun v s' => ∃ g', Step K g s g' s' env sc α σ μ ∧ Rd g' α v (.str ⟨#[c]⟩)) F0 s := by
  obtain ⟨e, h1, h2⟩ := strIx h
  exact PySem.P.getItem_str (by simp only [Bool.or_eq_false_iff, decide_eq_false_iff_not]; lia) e (done S (.str _ _) _)
theorem tupItem {g : Gh} {s : Shared} {env : Env} {α : List Addr} {A : Around} {l : Addr} {vs : List Value} {n : Nat} {ds : List D} {i : Int} {t : Tok} {d : D} (S : St K g s.heap env sc α σ μ) (hl : s.heap.get? l = some (tobj vs n)) (rr : Rds g α vs ds) (h0 : 0 ≤ i) (hz : ds.length ≤ 100000) (h : ds[i.toNat]? = some d) :
    wpAny (MM w) A (getItem (.ref l) (.int i t)) (fun v s' => ∃ g', Step K g s g' s' env sc α σ μ ∧ Rd g' α v d) F0 s := by
  obtain ⟨v, hv, rv⟩ := rr.at h
  have hlt := lt_of_get h
  have hlen := rr.length
  exact PySem.P.getItem_tuple (k := i.toNat) (y := v) hl (by lia) (by lia) (seqIx h0 (by rw [List.size_toArray, hlen]; exact hlt)) (List.getElem?_toArray.trans hv) (done0 S rv)
theorem subD_sound {a b d : D} (h : subD μ a b = some d) : ItemIs K w r sc σ μ a b d := by
  obtain ⟨i, rfl, k⟩ := onInt_inv h
  clear h
  cases a with
  | list xs =>
    obtain ⟨hz, h⟩ := iteSomeP k
    exact fun g s env α A va vb S R ra rb => by
      obtain ⟨u, rfl⟩ := rb.int_
      obtain ⟨_, _, _, rfl, hg, rr⟩ := ra.list_
      exact ⟨"list", _, slot_list_getitem.lookup, ⟨_, S.sub _ _ hg, rfl⟩, listItem S (S.sub _ _ hg) rr hz h⟩
  | tup xs =>
    obtain ⟨h0, h⟩ := iteSomeP k
    obtain ⟨hz, h⟩ := iteSomeP h
    exact fun g s env α A va vb S R ra rb => by
      obtain ⟨u, rfl⟩ := rb.int_
      obtain ⟨_, vs, n, rfl, hg, rr⟩ := ra.tup_
      exact ⟨"tuple", _, F.slot_tuple_getitem.lookup, ⟨_, S.sub _ _ hg, rfl⟩, tupItem S (S.sub _ _ hg) rr h0 hz h⟩
  | own k =>
    obtain ⟨ds, hk, h⟩ := bindSome k
    obtain ⟨h0, h⟩ := iteSomeP h
    obtain ⟨hz, h⟩ := iteSomeP h
    exact fun g s env α A va vb S R ra rb => by
      obtain ⟨u, rfl⟩ := rb.int_
      obtain ⟨l, vs, n, ha, hl, rr, hg⟩ := S.own' _ ds (ownOf_is hk)
      obtain ⟨_, rfl, hb⟩ := ra.own_
      cases ha.symm.trans hb
      exact ⟨"list", _, slot_list_getitem.lookup, ⟨_, hl, rfl⟩, listItem S hl rr hz ((if_pos h0).trans h)⟩
  | str x =>
    obtain ⟨hz, h⟩ := iteSomeP k
    obtain ⟨c, hc, rfl⟩ := mapSome h
    exact fun g s env α A va vb S R ra rb => by
      obtain ⟨u, rfl⟩ := rb.int_
      obtain ⟨t, rfl⟩ := ra.str_
      exact ⟨"str", _, F.slot_str_getitem.lookup, typeIs_str s x t, strItem S hz hc⟩
  | _ => exact noSome k
end
end Mine
end
section
open PySem PySem.W PyProof.Rows
namespace Mine
noncomputable def partV (v : Value) (o : Option Int) : Prop := o.elim (v = .none) fun i => ∃ t, v = .int i t
section
variable {K : Gh} {w : World} {r : Nat} {sc : Scope} {σ : Sg} {μ μ1 μ2 μ3 μ4 : Mu}
noncomputable def EvO (K : Gh) (w : World) (r : Nat) (sc : Scope) (σ : Sg) (μ : Mu) (e : Option Expr) (o : Option Int) (μ' : Mu) : Prop :=
  ∀ g s env α A, St K g s.heap env sc α σ μ → Room r A → wpAny (MM w) A (evalPart e env) (fun v s' => ∃ g', Step K g s g' s' env sc α σ μ' ∧ partV v o) F0 s
theorem EvO.none : EvO K w r sc σ μ none none μ := fun g s env α A S R => wpAny_pure ⟨g, Step.here S rfl rfl rfl, rfl⟩
theorem EvO.some {e : Expr} {i : Int} (h : Ev K w r sc σ μ e (.int i) μ1) : EvO K w r sc σ μ (some e) (some i) μ1 := fun g s env α A S R =>
  wpAny_mono (h g s env α A S R) (fun v s' q => q.imp fun _ q => ⟨q.1, q.2.int_⟩) fun _ _ x => x
theorem clip_eq (n : Nat) (i : Int) : (if i < 0 then (n + i).toNat else min i.toNat n) = clipAt n i := by
  cases i with
  | ofNat a => exact (if_neg (Int.not_lt.mpr (Int.natCast_nonneg a))).trans (clipAt_nat n a).symm
  | negSucc k => exact (if_pos (Int.negSucc_lt_zero k)).trans ((Int.toNat_sub n (k + 1)).trans (clipAt_neg n (k + 1) (Nat.le_add_left 1 k)).symm)
theorem clamp_eq (n : Nat) (d : Nat) (o : Option Int) : clamp n d o = o.elim d (clipAt n) := by
  cases o with
  | none => rfl
  | some i => exact clip_eq n i
theorem cut_eq {α : Type} (xs : List α) (lo hi : Option Int) : cutL xs lo hi = (xs.drop (lo.elim 0 (clipAt xs.length))).take (hi.elim xs.length (clipAt xs.length) - lo.elim 0 (clipAt xs.length)) := by
  unfold cutL
  rw [clamp_eq, clamp_eq, List.drop_take]
theorem Rds.cut {g : Gh} {α : List Addr} {vs : List Value} {ds : List D} (r : Rds g α vs ds) (lo hi : Option Int) : Rds g α (cutL vs lo hi) (cutL ds lo hi) := by
  unfold cutL
  rw [r.length]
  exact (r.take _).drop _
theorem Rds.pick {g : Gh} {α : List Addr} {vs : List Value} {ds : List D} (r : Rds g α vs ds) : ∀ l : List Nat, Rds g α (l.filterMap (vs[·]?)) (l.filterMap (ds[·]?))
  | [] => .nil
  | i :: l => by
    cases h : ds[i]? with
    | none =>
      have h' : vs[i]? = none := by rw [List.getElem?_eq_none_iff] at h ⊢; rw [r.length]; exact h
      rw [List.filterMap_cons_none h, List.filterMap_cons_none h']; exact Rds.pick r l
    | some d =>
      obtain ⟨v, hv, rv⟩ := r.at h
      rw [List.filterMap_cons_some h, List.filterMap_cons_some hv]; exact .cons rv (Rds.pick r l)
theorem partOf {v : Value} {o : Option Int} (h : partV v o) : IsPart v o := by
  cases o with
  | none => cases (h : v = .none); exact .none
  | some i => obtain ⟨t, rfl⟩ : ∃ t, v = .int i t := h; exact .int _ _
theorem partTok {v : Value} {o : Option Int} (h : partV v o) : ∃ p : Option (Int × Tok), v = partValue p ∧ p.map (·.1) = o := by
  cases o with
  | none => cases (h : v = .none); exact ⟨none, rfl, rfl⟩
  | some i => obtain ⟨t, rfl⟩ : ∃ t, v = .int i t := h; exact ⟨some (i, t), rfl, rfl⟩
theorem subscripted_slice {lo hi st : Option Expr} {p : Pos} {o v : Value} : ∃ vs, subscripted (.Slice lo hi st p) false o v = operate vs (getItem o v) := by
  cases st with
  | none => exact ⟨_, rfl⟩
  | some e => exact ⟨_, rfl⟩
theorem str_pick (x : Str) (lo hi : Option Int) : (Builtin.Str.strSliceIndices lo hi 1 x.length).filterMap (x.cps[·]?) = cutL x.cps.toList lo hi := by
  have hx : x.cps.toList.length = x.length := by rw [Array.length_toList]; rfl
  have e : Builtin.Str.strSliceIndices lo hi 1 x.length = sliceRange (sliceBounds lo hi none x.length).1 (sliceBounds lo hi none x.length).2.1 (sliceBounds lo hi none x.length).2.2 := rfl
  rw [e, sliceBounds_plain]
  simp only [sliceRange_one, pick_run]
  rw [cut_eq, hx]
theorem clip_le (n : Nat) (i : Int) : clipAt n i ≤ n := Int.ofNat_le.mp (clipAt_cast n i ▸ Int.max_le.mpr ⟨Int.natCast_nonneg n, Int.min_le_right _ _⟩)
theorem cut_len {α : Type} (xs : List α) (lo hi : Option Int) : (cutL xs lo hi).length ≤ xs.length := by
  unfold cutL
  rw [List.length_drop, List.length_take]; exact Nat.le_trans (Nat.sub_le _ _) (Nat.min_le_right _ _)
theorem cut_all (x : Str) (lo hi : Option Int) (h : (Builtin.Str.strSliceIndices lo hi 1 x.length).length = x.length) : (⟨(cutL x.cps.toList lo hi).toArray⟩ : Str) = x := by
  have hx : x.cps.toList.length = x.length := by rw [Array.length_toList]; rfl
  have e : Builtin.Str.strSliceIndices lo hi 1 x.length = sliceRange (sliceBounds lo hi none x.length).1 (sliceBounds lo hi none x.length).2.1 (sliceBounds lo hi none x.length).2.2 := rfl
  rw [e, sliceBounds_plain] at h
  simp only [sliceRange_one, List.length_map, List.length_range] at h
  have hb : hi.elim x.length (clipAt x.length) ≤ x.length := by cases hi with | none => exact Nat.le_refl _ | some i => exact clip_le _ _
  apply str_ext
  show cutL x.cps.toList lo hi = _
  rw [cut_eq, hx]
  by_cases h0 : x.length = 0
  · have : x.cps.toList = [] := List.length_eq_zero_iff.mp (hx.trans h0)
    rw [this]; simp
  · have a0 : lo.elim 0 (clipAt x.length) = 0 := by lia
    rw [a0] at h ⊢
    rw [h, List.drop_zero, ← hx, List.take_length]
/-- a slice gives d -/
noncomputable def slObj (vl vu vs : Value) : Obj := { cls := .type "slice", data := .fields #[vl, vu, vs] }
noncomputable def slS (s : Shared) (vl vu vs : Value) : Shared := { s with heap := s.heap.push (slObj vl vu vs) }
noncomputable def Slices (K : Gh) (w : World) (g : Gh) (s : Shared) (env : Env) (sc : Scope) (α : List Addr) (σ : Sg) (μ : Mu) (A : Around) (va vl vu vs : Value) (d : D) : Prop :=
  ∃ T id, typeLookup (.type T) "__getitem__" = pure (some (.builtin id)) ∧ (slS s vl vu vs).TypeIs va T ∧
      wpAny (MM w) A (getItem va (.ref s.heap.objs.size)) (fun v s' => ∃ g', Step K g s g' s' env sc α σ μ ∧ Rd g' α v d) F0 (slS s vl vu vs)
section
variable {g : Gh} {s : Shared} {env : Env} {α : List Addr} {A : Around} {va vl vu vs : Value} {lo hi st : Option Int}
theorem slice_list {l : Addr} {xs ys : List D} {ws us : List Value} {n : Nat} (S : St K g s.heap env sc α σ μ) (pl : partV vl lo) (pu : partV vu hi) (ps : partV vs st) (hg : g l = some (lobj ws n)) (rr : Rds g α ws xs) (hz : xs.length ≤ 100000) (h0 : st ≠ some 0) (e : slicePick ws.toArray lo hi st = us.toArray) (ru : Rds g α us ys) :
    Slices K w g s env sc α σ μ A (.ref l) vl vu vs (.list ys) := by
  have S1 : Step K g s g (slS s vl vu vs) env sc α σ μ := Step.grow S (push_keep _ _).1 (push_keep _ _).2 rfl rfl
  have hl := (push_keep s.heap (slObj vl vu vs)).1 _ _ (S.sub _ _ hg)
  refine ⟨"list", _, slot_list_getitem.lookup, ⟨_, hl, rfl⟩, ?_⟩
  refine wpAny_getItem_list_slice ⟨_, hl, rfl, n, rfl⟩ (Heap.IsSliceOf.new ..) (partOf pl) (partOf pu) (partOf ps) h0 ?_ (by rw [List.size_toArray, rr.length, sizeLine_eq]; lia)
  rw [e]
  obtain ⟨g', P, q⟩ := stillL (n := 0) S1.st ru
  exact ⟨g', S1.trans P, q⟩
theorem slice_str {x : Str} {t : Tok} (S : St K g s.heap env sc α σ μ) (pl : partV vl lo) (pu : partV vu hi) (hz : x.length ≤ 100000) :
    Slices K w g s env sc α σ μ A (.str x t) vl vu .none (.str ⟨(cutL x.cps.toList lo hi).toArray⟩) := by
  obtain ⟨pl', rfl, el⟩ := partTok pl
  obtain ⟨pu', rfl, eu⟩ := partTok pu
  have S1 : Step K g s g (slS s (partValue pl') (partValue pu') .none) env sc α σ μ := Step.grow S (push_keep _ _).1 (push_keep _ _).2 rfl rfl
  have hp := str_pick x lo hi
  refine ⟨"str", _, F.slot_str_getitem.lookup, typeIs_str _ x t, ?_⟩
  refine wpAny_getItem_str_slice (l := pl') (u := pu') (st := none) ⟨_, Heap.get?_push_size _ rfl, rfl, rfl⟩ rfl ?_
  unfold sliceMade slicePicked
  rw [el, eu]
  split
  · rename_i hc
    refine ⟨_, S1, ?_⟩
    rw [cut_all x lo hi (beq_iff_eq.mp hc)]; exact .str _ _
  · refine ⟨?_, _, ⟨S1.ext, S1.st, S1.kp, rfl, rfl⟩, ?_⟩
    · show ((Builtin.Str.strSliceIndices lo hi 1 x.length).filterMap (x.cps[·]?)).toArray.size ≤ sizeLine
      rw [hp, List.size_toArray, sizeLine_eq]
      exact Nat.le_trans (cut_len _ _ _) (Nat.le_trans (Nat.le_of_eq Array.length_toList) (Nat.le_trans hz (by decide)))
    · show Rd g α (.str ⟨((Builtin.Str.strSliceIndices lo hi 1 x.length).filterMap (x.cps[·]?)).toArray⟩ _) _
      rw [hp]; exact .str _ _
theorem pick4 {ws : List Value} {k : Int} (h0 : 0 ≤ k) : slicePick ws.toArray (some k) none (some 4) = ((sliceRange (max 0 (min k ws.length)) ws.length 4).filterMap (ws[·]?)).toArray := by
  have h4 : (4 : Int) > 0 := by decide
  have hk : ¬ (k < 0) := Int.not_lt.mpr h0
  unfold slicePick sliceBounds
  simp only [Option.getD_some, List.size_toArray, h4, if_true, hk, if_false]
  simp
theorem sliceL_inv {xs : List D} {d : D} (h : sliceD (.list xs) lo hi st = some d) : xs.length ≤ 100000 ∧ ((st = none ∧ d = .list (cutL xs lo hi)) ∨ ∃ k, 0 ≤ k ∧ lo = some k ∧ hi = none ∧ st = some 4 ∧ d = .list ((sliceRange (max 0 (min k xs.length)) xs.length 4).filterMap (xs[·]?))) := by
  obtain ⟨hz, k⟩ := iteSomeP h
  refine ⟨hz, ?_⟩
  by_cases hst : st = none
  · rw [if_pos hst] at k; exact .inl ⟨hst, (Option.some.inj k).symm⟩
  · rw [if_neg hst] at k
    obtain ⟨h1, k⟩ := iteSomeP k
    obtain ⟨i, h2, k⟩ := bindSome k
    obtain ⟨h0, k⟩ := iteSomeP k
    exact .inr ⟨i, h0, h2, h1.1, h1.2, (Option.some.inj k).symm⟩
theorem slice_get {a d : D} (h : sliceD a lo hi st = some d) (S : St K g s.heap env sc α σ μ) (ra : Rd g α va a) (pl : partV vl lo) (pu : partV vu hi) (ps : partV vs st) : Slices K w g s env sc α σ μ A va vl vu vs d := by
  cases a with
  | str x =>
    obtain ⟨hz, k⟩ := iteSomeP h
    clear h
    obtain ⟨h1, k⟩ := iteSomeP k
    subst h1
    obtain ⟨t, rfl⟩ := ra.str_
    cases (ps : vs = .none)
    cases k
    exact slice_str S pl pu hz
  | list xs =>
    obtain ⟨_, ws, _, rfl, hg, rr⟩ := ra.list_
    obtain ⟨hz, ⟨rfl, rfl⟩ | ⟨k, h0, rfl, rfl, rfl, rfl⟩⟩ := sliceL_inv h
    · exact slice_list S pl pu ps hg rr hz nofun (by rw [slicePick_plain, cut_eq, List.size_toArray]) (rr.cut lo hi)
    · exact slice_list S pl pu ps hg rr hz (by decide) (pick4 h0) (rr.length ▸ rr.pick _)
  | _ => exact noSome h
end
theorem Ev.slice {v : Expr} {lo hi st : Option Expr} {sp p : Pos} {a d : D} {l h t : Option Int} (h1 : Ev K w r sc σ μ v a μ1) (h2 : EvO K w r sc σ μ1 lo l μ2) (h3 : EvO K w r sc σ μ2 hi h μ3) (h4 : EvO K w r sc σ μ3 st t μ4) (h5 : sliceD a l h t = some d) : Ev K w r sc σ μ (.Subscript v (.Slice lo hi st sp) p) d μ4 := fun g s env α A S R => by
  rw [eval_Subscript]
  refine wpAny_bind (wpAny_mono (h1 g s env α A S R) (fun va s1 q => ?_) fun _ _ x => x)
  obtain ⟨g1, P1, r1⟩ := q
  refine wpAny_bind (wpAny_holding (wpAny_Slice (wpAny_mono (h2 g1 s1 env α A P1.st R) (fun vl s2 q => ?_) fun _ _ x => x)))
  obtain ⟨g2, P2, pl⟩ := q
  refine wpAny_mono (h3 g2 s2 env α A P2.st R) (fun vu s3 q => ?_) fun _ _ x => x
  obtain ⟨g3, P3, pu⟩ := q
  refine wpAny_mono (h4 g3 s3 env α A P3.st R) (fun vt s4 q => ?_) fun _ _ x => x
  obtain ⟨g4, P4, pt⟩ := q
  refine wpAny_bind (wpAny_standAt ?_)
  have P := ((P1.trans P2).trans P3).trans P4
  obtain ⟨T, id, hl, hT, hg⟩ := slice_get (w := w) (A := A) h5 P4.st (r1.mono ((P2.trans P3).trans P4).ext.1 fun _ _ e => e) pl pu pt
  obtain ⟨vs, es⟩ := subscripted_slice (lo := lo) (hi := hi) (st := st) (p := sp) (o := va) (v := .ref s4.heap.objs.size)
  refine subEnd es hl hT (wpAny_mono hg (fun v s5 q => ?_) fun _ _ x => x)
  obtain ⟨g5, P5, r5⟩ := q
  exact ⟨g5, P.trans P5, r5⟩
end
end Mine
end
section
set_option autoImplicit false
namespace Mine
open PySem

theorem runs_size {M : Model} {Γ : Ctx} {p : Pos} {t : Sem Fin} {fs : List Frame} {s s' : Shared} {e : End} (h : Runs M Γ p t fs s e s') : s.heap.objs.size ≤ s'.heap.objs.size := by
  induction h <;> (try simp only [Shared.setGen, Heap.size_push, Heap.size_update] at *) <;> lia

theorem wakes_size {M : Model} {Γ : Ctx} {p : Pos} {g : Nat} {r : Resume} {s s' : Shared} {res : GenResult} (h : Wakes M Γ p g r s res s') : s.heap.objs.size ≤ s'.heap.objs.size := by
  unfold Wakes at h
  split at h
  · exact h.elim
  · split at h
    · obtain ⟨e₁, s₁, hr, _, _, rfl⟩ := h; exact (runs_size hr : (s.setGen g .running).heap.objs.size ≤ s₁.heap.objs.size)
    · rw [h.2]; exact Nat.le_refl _
    · rw [h.2]; exact Nat.le_refl _
  · obtain ⟨e₁, s₁, hr, _, _, rfl⟩ := h; exact (runs_size hr : (s.setGen g .running).heap.objs.size ≤ s₁.heap.objs.size)
  · rw [h.2]; exact Nat.le_refl _
  · rw [h.2]; exact Nat.le_refl _

theorem wp_size {α : Type} (M : Model) (Γ : Ctx) (n : Nat) (t : Sem α) : ∀ (Q : α → Pos → Shared → Prop) (E : Value → Pos → Shared → Prop) (p : Pos) (s : Shared), n ≤ s.heap.objs.size → Sem.wp M Γ t Q E p s →
    Sem.wp M Γ t (fun a p' s' => n ≤ s'.heap.objs.size ∧ Q a p' s') (fun e p' s' => n ≤ s'.heap.objs.size ∧ E e p' s') p s := by
  induction t with
  | pure a => intro Q E p s hn h; exact ⟨hn, h⟩
  | raise e => intro Q E p s hn h; exact ⟨hn, h⟩
  | unsupported _ => intro Q E p s _ h; exact h
  | finish _ => intro Q E p s _ h; exact h
  | rule _ k ih => intro Q E p s hn h; exact ih () Q E p s hn h
  | «at» p' k ih => intro Q E p s hn h; exact ih () Q E p' s hn h
  | load a _ k ih => intro Q E p s hn h; obtain ⟨o, ho, h⟩ := h; exact ⟨o, ho, ih o Q E p s hn h⟩
  | update a _ f k ih => intro Q E p s hn h; exact ⟨h.1, ih () Q E p _ (by simpa only [Heap.size_update] using hn) h.2⟩
  | loadIfAlive a k ih => intro Q E p s hn h; exact ih _ Q E p s hn h
  | point _ k ih => intro Q E p s hn h; exact ih () Q E p s hn h
  | register _ _ => intro Q E p s _ h; exact h
  | alloc o k ih => intro Q E p s hn h; exact ih _ Q E p _ (by simp only [Heap.size_push]; lia) h
  | fresh k ih => intro Q E p s hn h; exact ih _ Q E p _ hn h
  | ask k ih => intro Q E p s hn h; exact ih _ Q E p s hn h
  | choose src m k ih => intro Q E p s hn h; exact ⟨h.1, ih _ Q E p _ hn h.2⟩
  | os q _ k ih => intro Q E p s hn h; exact ih _ Q E p _ hn h
  | call c hd _ _ k ih => intro Q E p s hn h; obtain ⟨r, s', hr, h⟩ := h; exact ⟨r, s', hr, ih r Q E p s' (Nat.le_trans hn (runs_size hr)) h⟩
  | handled own k ih => intro Q E p s hn h; exact ih _ Q E p s hn h
  | genState g k ih => intro Q E p s hn h; obtain ⟨st, hs, h⟩ := h; exact ⟨st, hs, ih _ Q E p s hn h⟩
  | newGen c k ih => intro Q E p s hn h; exact ih _ Q E p _ hn h
  | resume g r _ k ih => intro Q E p s hn h; obtain ⟨res, s', hw, h⟩ := h; exact ⟨res, s', hw, ih res Q E p s' (Nat.le_trans hn (wakes_size hw)) h⟩
  | yield _ _ _ _ => intro Q E p s _ h; exact h
  | stack k ih => intro Q E p s hn h; exact ih _ Q E p s hn h
  | fork _ _ => intro Q E p s _ h; exact h
  | thread k ih => intro Q E p s hn h; exact ih _ Q E p s hn h
  | await _ _ _ _ _ => intro Q E p s _ h; exact h

theorem wpAny_size {α : Type} {M : Model} {A : Around} {s : Shared} {t : Sem α} {Q : α → Shared → Prop} {E : Value → Shared → Prop}
    (h : wpAny M A t (fun a s' => s.heap.objs.size ≤ s'.heap.objs.size → Q a s') E s) : wpAny M A t Q E s :=
  fun Γ p hΓ => Sem.wp_mono M Γ t (fun _ _ _ x => x.2 x.1) (fun _ _ _ x => x.2) p s (wp_size M Γ _ t _ _ p s (Nat.le_refl _) (h Γ p hΓ))
end Mine
end
section
open PySem PySem.W PyProof.Rows PySem.Calls
set_option autoImplicit false
namespace Mine
theorem star_plain {es : List Expr} {env : Env} (p : Pos) (h : ∀ e ∈ es, StarOk e) : (backTo p (starEach es env)).any (·.1) = false := by
  induction es with
  | nil => rfl
  | cons e es ih =>
    rw [h e (List.mem_cons_self ..)]
    show (false || (backTo p (starEach es env)).any (·.1)) = false
    rw [ih fun x hx => h x (List.mem_cons_of_mem _ hx)]; rfl
theorem star_all {es : List Expr} {env : Env} (p : Pos) (h : ∀ e ∈ es, StarOk e) : (backTo p (starEach es env)).all (fun x => !x.1) = true := by
  induction es with
  | nil => rfl
  | cons e es ih =>
    rw [h e (List.mem_cons_self ..)]
    show (true && (backTo p (starEach es env)).all (fun x => !x.1)) = true
    rw [ih fun x hx => h x (List.mem_cons_of_mem _ hx)]; rfl
section
variable {M : Model} {A : Around} {E : Value → Shared → Prop} {s : Shared}
theorem evalArgs_all {f : Value} {args : List (Bool × Sem Value)} {Q : Args → Shared → Prop} (hp : args.any (·.1) = false)
    (h : wpAny M A (spliced args) (fun vs s' => Q ⟨vs, []⟩ s') E s) : wpAny M A (evalArgs f true args []) Q E s := by
  cases args with
  | nil =>
    unfold evalArgs
    show wpAny M A (spliced [] >>= _) Q E s
    refine wpAny_bind (wpAny_mono h (fun vs s' h' => ?_) fun _ _ x => x)
    refine wpAny_bind (wpAny_pure ?_)
    refine wpAny_holding ?_
    exact wpAny_bind (wpAny_pure (wpAny_bind (wpAny_pure (wpAny_pure h'))))
  | cons a r =>
    obtain ⟨b, x⟩ := a
    cases b with
    | true => simp at hp
    | false => exact evalArgs_plain h
end
section
variable {K : Gh} {w : World} {r : Nat} {mg mb : Str → Option Value} {sc : Scope} {σ : Sg} {μ μ1 μ2 μ3 : Mu}
/-- an operation on a row of values -/
noncomputable def Opn (K : Gh) (w : World) (r : Nat) (sc : Scope) (σ : Sg) (μ : Mu) (ds : List D) (t : List Value → Sem Value) (d : D) (μ' : Mu) : Prop :=
  ∀ g s env α A vs, St K g s.heap env sc α σ μ → Room r A → Rds g α vs ds → wpAny (MM w) A (t vs) (fun v s' => ∃ g', Step K g s g' s' env sc α σ μ' ∧ Rd g' α v d) F0 s
theorem Ev.call {f : Str} {np pos : Pos} {args : List Expr} {gv : GV} {ds : List D} {d : D} (T : Tops K mg mb) (hf : isGlob (kOf sc f) = true) (hg : GG f = some gv) (hn : (f == ("__debug__" : Str)) = false)
    (hs : ∀ e ∈ args, StarOk e) (ha : Evs K w r sc σ μ args ds μ1)
    (hc : ∀ fv, GVal K gv fv → ∀ g s env α A, St K g s.heap env sc α σ μ → Room r A → ∀ tr : List (Bool × Sem Value), tr.any (·.1) = false →
      wpAny (MM w) A (spliced tr) (fun vs s1 => ∃ g1, Step K g s g1 s1 env sc α σ μ1 ∧ Rds g1 α vs ds) F0 s →
      wpAny (MM w) A (callWith pos fv [] tr []) (fun v s' => ∃ g', Step K g s g' s' env sc α σ μ2 ∧ Rd g' α v d) F0 s) :
    Ev K w r sc σ μ (.Call (.Name f np) args [] pos) d μ2 := fun g s env α A S R => by
  obtain ⟨fv, q, hr⟩ := T.has f _ hg
  refine wpAny_Call_ofName (wpAny_Name (loadGlob T (fun b o e => S.sub _ _ (S.base _ _ e)) S.kind S.glb (S.seesG f hf) q ?_) hn)
  exact hc fv hr g s env α A S R _ (star_plain _ hs) (ha g s env α A pos S R)
theorem Ev.call_bi {f : Str} {np pos : Pos} {args : List Expr} {id : String} {ds : List D} {d : D} (T : Tops K mg mb) (hf : isGlob (kOf sc f) = true) (hg : GG f = some (.bi id)) (hn : (f == ("__debug__" : Str)) = false)
    (hs : ∀ e ∈ args, StarOk e) (ha : Evs K w r sc σ μ args ds μ1) (ho : Opn K w r sc σ μ1 ds (fun vs => PySem.call (.builtin id) vs) d μ2) : Ev K w r sc σ μ (.Call (.Name f np) args [] pos) d μ2 := by
  refine Ev.call T hf hg hn hs ha fun fv hv g s env α A S R tr ht h => ?_
  obtain rfl : fv = .builtin id := hv
  refine callWith_builtin ht (evalArgs_all ht (wpAny_mono h (fun vs s1 q => ?_) fun _ _ x => x))
  obtain ⟨g1, P1, r1⟩ := q
  refine wpAny_mono (ho g1 s1 env α A vs P1.st R r1) (fun v s2 q => ?_) fun _ _ x => x
  obtain ⟨g2, P2, r2⟩ := q
  exact ⟨g2, P1.trans P2, r2⟩
theorem Ev.call_ty {f : Str} {np pos : Pos} {args : List Expr} {id : String} {ds : List D} {d : D} (T : Tops K mg mb) (hf : isGlob (kOf sc f) = true) (hg : GG f = some (.ty id)) (hn : (f == ("__debug__" : Str)) = false)
    (hs : ∀ e ∈ args, StarOk e) (ha : Evs K w r sc σ μ args ds μ1) (ho : Opn K w r sc σ μ1 ds (fun vs => PySem.call (.type id) vs) d μ2) : Ev K w r sc σ μ (.Call (.Name f np) args [] pos) d μ2 := by
  refine Ev.call T hf hg hn hs ha fun fv hv g s env α A S R tr ht h => ?_
  obtain rfl : fv = .type id := hv
  refine PySem.callWith_type ht (evalArgs_all ht (wpAny_mono h (fun vs s1 q => ?_) fun _ _ x => x))
  obtain ⟨g1, P1, r1⟩ := q
  refine wpAny_mono (ho g1 s1 env α A vs P1.st R r1) (fun v s2 q => ?_) fun _ _ x => x
  obtain ⟨g2, P2, r2⟩ := q
  exact ⟨g2, P1.trans P2, r2⟩
theorem Ev.call_fn {f : Str} {np pos : Pos} {args : List Expr} {a : Addr} {o : Obj} {fd : FuncData} {ds : List D} {d : D} (T : Tops K mg mb) (hf : isGlob (kOf sc f) = true) (hg : GG f = some (.fn a)) (hn : (f == ("__debug__" : Str)) = false)
    (hs : ∀ e ∈ args, StarOk e) (ha : Evs K w r sc σ μ args ds μ1) (hK : K a = some o) (hd : o.data = .func fd) (ho : Opn K w r sc σ μ1 ds (fun vs => PySem.call (.ref a) vs) d μ2) : Ev K w r sc σ μ (.Call (.Name f np) args [] pos) d μ2 := by
  refine Ev.call T hf hg hn hs ha fun fv hv g s env α A S R tr ht h => ?_
  obtain rfl : fv = .ref a := hv
  refine callWith_function (o := o) (fd := fd) (evalArgs_all ht (wpAny_mono h (fun vs s1 q => ?_) fun _ _ x => x))
  obtain ⟨g1, P1, r1⟩ := q
  refine ⟨⟨P1.st.sub _ _ (P1.st.base _ _ hK), hd⟩, wpAny_mono (ho g1 s1 env α A vs P1.st R r1) (fun v s2 q => ?_) fun _ _ x => x⟩
  obtain ⟨g2, P2, r2⟩ := q
  exact ⟨g2, P1.trans P2, r2⟩
theorem Rds.one {g : Gh} {α : List Addr} {vs : List Value} {d : D} (h : Rds g α vs [d]) : ∃ v, vs = [v] ∧ Rd g α v d := by
  obtain ⟨v, r, rfl, a, h⟩ := h.cons_
  exact ⟨v, congrArg (v :: ·) h.nil_, a⟩
theorem Rds.two {g : Gh} {α : List Addr} {vs : List Value} {d e : D} (h : Rds g α vs [d, e]) : ∃ v u, vs = [v, u] ∧ Rd g α v d ∧ Rd g α u e := by
  obtain ⟨v, r, rfl, a, h⟩ := h.cons_
  obtain ⟨u, rfl, b⟩ := h.one
  exact ⟨v, u, rfl, a, b⟩
theorem isListOf {h : Heap} {a : Addr} {vs : List Value} {n : Nat} (e : h.get? a = some (lobj vs n)) : h.IsList a vs.toArray := ⟨_, e, rfl, n, rfl⟩
theorem lenFit {n : Nat} (h : n ≤ 1000000) : (n : Int) < 2 ^ 63 := by
  have : (2 : Int) ^ 63 = 9223372036854775808 := by decide
  lia
theorem len_list {xs : List D} (hl : xs.length ≤ 1000000) : Opn K w r sc σ μ [.list xs] (fun vs => PySem.call (.builtin "len") vs) (.int xs.length) μ := fun g s env α A vs S R h => by
  obtain ⟨v, rfl, hv⟩ := h.one
  obtain ⟨_, _, _, rfl, ha, hr⟩ := hv.list_
  ·
    refine call_len_list (isListOf (S.sub _ _ ha)) ?_ ?_
    · simp only [List.size_toArray, hr.length]; exact lenFit hl
    · simp only [List.size_toArray, hr.length]; exact done S (.int _ _) _
theorem len_own {k : Nat} {ds : List D} (hk : μ[k]? = some (some ds)) (hl : ds.length ≤ 1000000) : Opn K w r sc σ μ [.own k] (fun vs => PySem.call (.builtin "len") vs) (.int ds.length) μ := fun g s env α A vs S R h => by
  obtain ⟨v, rfl, hv⟩ := h.one
  obtain ⟨_, rfl, ha⟩ := hv.own_
  ·
    obtain ⟨b, ws, n, hb, ho, hr, _⟩ := S.own' _ _ hk
    cases ha.symm.trans hb
    refine call_len_list (isListOf ho) ?_ ?_
    · simp only [List.size_toArray, hr.length]; exact lenFit hl
    · simp only [List.size_toArray, hr.length]; exact done S (.int _ _) _
theorem len_strD {x : Str} (hl : x.length ≤ 1000000) : Opn K w r sc σ μ [.str x] (fun vs => PySem.call (.builtin "len") vs) (.int x.length) μ := fun g s env α A vs S R h => by
  obtain ⟨v, rfl, hv⟩ := h.one
  obtain ⟨t, rfl⟩ := hv.str_
  · exact PySem.P.len_str (Int.not_le.mpr (lenFit hl)) (done S (.int _ _) _)
theorem chrD {i : Int} (h0 : 0 ≤ i) (h1 : i < 256) : Opn K w r sc σ μ [.int i] (fun vs => PySem.call (.builtin "chr") vs) (.str ⟨#[i.toNat]⟩) μ := fun g s env α A vs S R h => by
  obtain ⟨v, rfl, hv⟩ := h.one
  obtain ⟨t, rfl⟩ := hv.int_
  · exact PySem.P.chr_of_int (by simp; lia) (done S (.str _ _) _)
theorem ordD {x : Str} {c : Nat} (hx : x.cps.toList = [c]) : Opn K w r sc σ μ [.str x] (fun vs => PySem.call (.builtin "ord") vs) (.int c) μ := fun g s env α A vs S R h => by
  obtain ⟨v, rfl, hv⟩ := h.one
  obtain ⟨t, rfl⟩ := hv.str_
  ·
    cases (str_ext hx : x = ⟨#[c]⟩)
    exact PySem.P.ord_of_char (done S (.int _ _) _)
theorem intsAre {g : Gh} {α : List Addr} : ∀ {ds : List D} {vs : List Value} {l : List Int}, Rds g α vs ds → allInts ds = some l → IntsAre vs l
  | [], vs, l, r, e => by cases r.nil_; cases e; exact .nil
  | d :: ds, vs, l, r, e => by
    obtain ⟨v, vs, rfl, h, r2⟩ := r.cons_
    obtain ⟨i, rfl, e2⟩ := onInt_inv e
    obtain ⟨l', e', rfl⟩ := mapSome e2
    obtain ⟨t, rfl⟩ := h.int_
    exact .cons _ _ (intsAre r2 e')
theorem sumD {xs : List D} {l : List Int} (hl : allInts xs = some l) : Opn K w r sc σ μ [.list xs] (fun vs => PySem.call (.builtin "sum") vs) (.int l.sum) μ := fun g s env α A vs S R h => by
  obtain ⟨v, rfl, hv⟩ := h.one
  obtain ⟨a, vs, n, rfl, ha, hr⟩ := hv.list_
  ·
    have hi := intsAre hr hl
    obtain ⟨xs, e⟩ := hi.allInts.items
    have es : preSum (numAt xs) xs.size = l.sum := by
      rw [preSum_eq, List.take_of_length_le (by simp)]
      have := hi.numsOf
      rw [show vs = vs.toArray.toList from rfl, e, nums_intItems] at this
      rw [← this]
    refine wpAny_size (sum_intListG R.2.2 (e ▸ isListOf (S.sub _ _ ha)) fun h' tk t' hk hz => ?_)
    rw [es]
    exact ⟨g, Step.grow S hk hz rfl rfl, .int _ _⟩
theorem rangeD1 {n : Int} : Opn K w r sc σ μ [.int n] (fun vs => PySem.call (.type "range") vs) (.rng 0 n) μ := fun g s env α A vs S R h => by
  obtain ⟨v, rfl, hv⟩ := h.one
  obtain ⟨t, rfl⟩ := hv.int_
  ·
    refine call_range_1 ⟨put g s.heap.objs.size (robj 0 n s.toks t (s.toks + 1)), ?_, .rng (put_self _ _ _)⟩
    exact Step.add (o := robj 0 n s.toks t (s.toks + 1)) S (push_keep _ _).1 (push_keep _ _).2 (Nat.le_refl _) (Heap.get?_push_size _ rfl) rfl rfl
theorem rangeD2 {a n : Int} : Opn K w r sc σ μ [.int a, .int n] (fun vs => PySem.call (.type "range") vs) (.rng a n) μ := fun g s env α A vs S R h => by
  obtain ⟨v, u, rfl, hv, hu⟩ := h.two
  obtain ⟨t, rfl⟩ := hv.int_
  obtain ⟨t2, rfl⟩ := hu.int_
  exact call_range_2 ⟨put g s.heap.objs.size (robj a n t t2 s.toks), Step.add (o := robj a n t t2 s.toks) S (push_keep _ _).1 (push_keep _ _).2 (Nat.le_refl _) (Heap.get?_push_size _ rfl) rfl rfl, .rng (put_self _ _ _)⟩
theorem octet_ok {i : Int} (h0 : 0 ≤ i) (h1 : i < 256) : i.toNat.toUInt8.toNat = i.toNat := by
  have : i.toNat < 256 := by lia
  simp [Nat.toUInt8, UInt8.ofNat, UInt8.toNat, Nat.mod_eq_of_lt this]
theorem octets_ok : ∀ {l : List Int} {m : List Nat}, octets? l = some m → (∀ n ∈ l, 0 ≤ n ∧ n < 256) ∧ (byteArr l).toList.map UInt8.toNat = m
  | [], m, h => by cases h; exact ⟨fun _ h => absurd h List.not_mem_nil, rfl⟩
  | i :: l, m, h => by
    obtain ⟨h0, h⟩ := iteSomeP h
    obtain ⟨h1, h⟩ := iteSomeP h
    obtain ⟨m', e, rfl⟩ := mapSome h
    obtain ⟨a, b⟩ := octets_ok e
    exact ⟨fun n hn => (List.mem_cons.mp hn).elim (fun q => q ▸ ⟨h0, h1⟩) (a n), List.cons_eq_cons.mpr ⟨octet_ok h0 h1, b⟩⟩
theorem bytesD {xs : List D} {l : List Int} {m : List Nat} (hz : xs.length ≤ 1000) (hl : allInts xs = some l) (hm : octets? l = some m) : Opn K w r sc σ μ [.list xs] (fun vs => PySem.call (.type "bytes") vs) (.bytes m) μ := fun g s env α A vs S R h => by
  obtain ⟨v, rfl, hv⟩ := h.one
  obtain ⟨a, vs, n, rfl, ha, hr⟩ := hv.list_
  ·
    have hi := intsAre hr hl
    refine wpAny_size (call_bytes_ints (isListOf (S.sub _ _ ha)) hi (octets_ok hm).1 (by rw [hr.length]; exact Nat.le_trans hz (by decide)) R.2.2 fun h' t k hk hs => ?_)
    exact ⟨g, Step.grow S hk hs rfl rfl, .bytes _ (octets_ok hm).2⟩
end
end Mine
end
section
open PySem PySem.W PyProof.Rows PySem.Calls
set_option autoImplicit false
namespace Mine
/-- the sort's questions answered by lt, all of places below n -/
noncomputable def pw (lt : Nat → Nat → Bool) (n : Nat) {α : Type} : KasT α → (α → Prop) → Prop
  | .ret a, Q => Q a
  | .ask i j k, Q => i < n ∧ j < n ∧ pw lt n (k (lt i j)) Q
section
variable {lt : Nat → Nat → Bool} {n : Nat} {α β : Type}
theorem pw_bind {f : α → KasT β} {Q : β → Prop} : ∀ {t : KasT α}, pw lt n t (fun a => pw lt n (f a) Q) → pw lt n (t.bind f) Q
  | .ret _, h => h
  | .ask _ _ k, h => ⟨h.1, h.2.1, pw_bind (t := k _) h.2.2⟩
theorem pw_mono {Q Q' : α → Prop} (hq : ∀ a, Q a → Q' a) : ∀ {t : KasT α}, pw lt n t Q → pw lt n t Q'
  | .ret _, h => hq _ h
  | .ask _ _ k, h => ⟨h.1, h.2.1, pw_mono hq (t := k _) h.2.2⟩
theorem pw_wp {cmp : Nat → Nat → (Bool → Shared → Prop) → Shared → Prop} {s : Shared} {Q : α → Prop} {R : α → Shared → Prop} (hc : ∀ i j (C : Bool → Shared → Prop), i < n → j < n → C (lt i j) s → cmp i j C s)
    (hq : ∀ a, Q a → R a s) : ∀ {t : KasT α}, pw lt n t Q → t.kasWp cmp R s
  | .ret _, h => hq _ h
  | .ask i j k, h => hc i j _ h.1 h.2.1 (pw_wp hc hq (t := k _) h.2.2)
end
section
variable {lt : Nat → Nat → Bool} {N : Nat} {le : Nat → Nat → Prop}
noncomputable def q0 (p : Array Nat) (i : Nat) : Nat := (p[i]?).getD 0
theorem q0_eq (p : Array Nat) (i : Nat) : p.getD i 0 = q0 p i := by simp [q0]
noncomputable def Sd (le : Nat → Nat → Prop) (p : Array Nat) (m : Nat) : Prop := ∀ i j, i ≤ j → j < m → le (q0 p i) (q0 p j)
noncomputable def Ni (le : Nat → Nat → Prop) (p : Array Nat) (m : Nat) : Prop := ∀ i j, i ≤ j → j < m → le (q0 p j) (q0 p i)
noncomputable def PP (N : Nat) (p : Array Nat) : Prop := p.toList.Perm (List.range N)
theorem PP.size {p : Array Nat} (h : PP N p) : p.size = N := by have := h.length_eq; simpa using this
theorem PP.below {p : Array Nat} (h : PP N p) {i : Nat} (hi : i < N) : q0 p i < N := by
  have hs := h.size
  have : q0 p i ∈ p.toList := by
    unfold q0; rw [Array.getElem?_eq_getElem (by lia)]; simp
  exact List.mem_range.mp (h.mem_iff.mp this)
theorem PP.rev {p : Array Nat} (h : PP N p) (i j : Nat) : PP N (kas_rev p i j) := (Array.perm_iff_toList_perm.mp (mirror_perm p i j ((j - i) / 2))).trans h
theorem PP.bub {p : Array Nat} (h : PP N p) (i j : Nat) : PP N (bubble p i j) := (Array.perm_iff_toList_perm.mp (bubble_perm p i j)).trans h
theorem q0_rev {p : Array Nat} {i j : Nat} (hj : j ≤ p.size) (k : Nat) : q0 (kas_rev p i j) k = if i ≤ k ∧ k < j then q0 p (i + j - 1 - k) else q0 p k := by
  unfold q0 kas_rev; rw [getElem?_mirror_all hj k]; split <;> rfl
theorem q0_bub {p : Array Nat} {src d : Nat} (hs : src < p.size) (hd : d ≤ src) (k : Nat) : q0 (bubble p src d) k = if k = src - d then q0 p src else if src - d < k ∧ k ≤ src then q0 p (k - 1) else q0 p k := by
  unfold q0; rw [getElem?_bubble hs d hd k]; split
  · rfl
  · split <;> rfl
structure Ord (lt : Nat → Nat → Bool) (le : Nat → Nat → Prop) : Prop where
  tot : ∀ a b, le a b ∨ le b a
  tr : ∀ a b c, le a b → le b c → le a c
  yes : ∀ a b, lt a b = true → le a b ∧ ¬ le b a
  no : ∀ a b, lt a b = false → le b a
theorem Ord.rfl' (O : Ord lt le) (a : Nat) : le a a := (O.tot a a).elim id id
theorem asc_ok (O : Ord lt le) {p : Array Nat} (hp : PP N p) : ∀ (f n : Nat), 1 ≤ n → n + f ≤ N → Sd le p n → pw lt N (kas_asc p f n) (fun m => n ≤ m ∧ m ≤ n + f ∧ Sd le p m ∧ (m < n + f → lt (q0 p m) (q0 p (m - 1)) = true))
  | 0, n, h1, hf, hs => ⟨Nat.le_refl _, Nat.le_refl _, hs, fun h => absurd h (by lia)⟩
  | f + 1, n, h1, hf, hs => by
    show p.getD n 0 < N ∧ p.getD (n - 1) 0 < N ∧ pw lt N (if lt (p.getD n 0) (p.getD (n - 1) 0) = true then KasT.ret n else kas_asc p f (n + 1)) _
    rw [q0_eq, q0_eq]
    refine ⟨hp.below (by lia), hp.below (by lia), ?_⟩
    cases e : lt (q0 p n) (q0 p (n - 1)) with
    | true => exact ⟨Nat.le_refl _, by lia, hs, fun _ => e⟩
    | false =>
      refine pw_mono (fun m hm => ?_) (asc_ok O hp f (n + 1) (by lia) (by lia) fun i j hij hj => ?_)
      · exact ⟨by lia, by lia, hm.2.2.1, fun h => hm.2.2.2 (by lia)⟩
      · by_cases hjn : j < n
        · exact hs i j hij hjn
        · have : j = n := by lia
          subst this
          by_cases hi : i = j
          · subst hi; exact O.rfl' _
          · exact O.tr _ _ _ (hs i (j - 1) (by lia) (by lia)) (O.no _ _ e)
/-- the last q + 1 below n are alike -/
noncomputable def Eqs (le : Nat → Nat → Prop) (p : Array Nat) (n q : Nat) : Prop := q < n ∧ ∀ i, n - (q + 1) ≤ i → i < n → le (q0 p i) (q0 p (n - 1)) ∧ le (q0 p (n - 1)) (q0 p i)
theorem rev_alike (O : Ord lt le) {p : Array Nat} {n q : Nat} (hn : n ≤ p.size) (he : Eqs le p n q) (k : Nat) :
    le (q0 (kas_rev p (n - (q + 1)) n) k) (q0 p k) ∧ le (q0 p k) (q0 (kas_rev p (n - (q + 1)) n) k) := by
  rw [q0_rev hn]
  have hq := he.1
  split
  · next h =>
    have a := he.2 k h.1 h.2
    have b := he.2 (n - (q + 1) + n - 1 - k) (by lia) (by lia)
    exact ⟨O.tr _ _ _ b.1 a.2, O.tr _ _ _ a.1 b.2⟩
  · exact ⟨O.rfl' _, O.rfl' _⟩
theorem Ni.alike (O : Ord lt le) {p p' : Array Nat} {m : Nat} (h : Ni le p m) (ha : ∀ k, le (q0 p' k) (q0 p k) ∧ le (q0 p k) (q0 p' k)) : Ni le p' m := fun i j hij hj =>
  O.tr _ _ _ (ha j).1 (O.tr _ _ _ (h i j hij hj) (ha i).2)
theorem Ni.succ (O : Ord lt le) {p : Array Nat} {n : Nat} (h1 : 1 ≤ n) (h : Ni le p n) (hl : le (q0 p n) (q0 p (n - 1))) : Ni le p (n + 1) := fun i j hij hj => by
  by_cases hjn : j < n
  · exact h i j hij hjn
  · have : j = n := by lia
    subst this
    by_cases hi : i = j
    · subst hi; exact O.rfl' _
    · exact O.tr _ _ _ hl (h i (j - 1) (by lia) (by lia))
theorem Eqs.zero (O : Ord lt le) {p : Array Nat} {n : Nat} (h : 1 ≤ n) : Eqs le p n 0 := ⟨by lia, fun i h1 h2 => by
  have : i = n - 1 := by lia
  subst this; exact ⟨O.rfl' _, O.rfl' _⟩⟩
theorem desc_ok (O : Ord lt le) : ∀ (f : Nat) (p : Array Nat) (n q : Nat), PP N p → 1 ≤ n → n + f ≤ N → Ni le p n → Eqs le p n q →
    pw lt N (kas_desc f p n q) (fun r => PP N r.1 ∧ n ≤ r.2.1 ∧ r.2.1 ≤ n + f ∧ Ni le r.1 r.2.1 ∧ Eqs le r.1 r.2.1 r.2.2)
  | 0, p, n, q, hp, h1, hf, hn, he => ⟨hp, Nat.le_refl _, Nat.le_refl _, hn, he⟩
  | f + 1, p, n, q, hp, h1, hf, hn, he => by
    show p.getD n 0 < N ∧ p.getD (n - 1) 0 < N ∧ pw lt N (if lt (p.getD n 0) (p.getD (n - 1) 0) = true then (if q > 0 then kas_desc f (kas_rev p (n - (q + 1)) n) (n + 1) 0 else kas_desc f p (n + 1) 0)
      else .ask (p.getD (n - 1) 0) (p.getD n 0) fun d => if d = true then .ret (p, n, q) else kas_desc f p (n + 1) (q + 1)) _
    rw [q0_eq, q0_eq]
    have hz := hp.size
    refine ⟨hp.below (by lia), hp.below (by lia), ?_⟩
    cases e : lt (q0 p n) (q0 p (n - 1)) with
    | true =>
      simp only [if_true]
      have hl := (O.yes _ _ e).1
      split
      · have al := rev_alike O (q := q) (by lia : n ≤ p.size) he
        refine pw_mono (fun r h => ⟨h.1, by lia, by lia, h.2.2.2⟩) (desc_ok O f _ (n + 1) 0 (hp.rev _ _) (by lia) (by lia) ((hn.succ O h1 hl).alike O al) (Eqs.zero O (by lia)))
      · exact pw_mono (fun r h => ⟨h.1, by lia, by lia, h.2.2.2⟩) (desc_ok O f p (n + 1) 0 hp (by lia) (by lia) (hn.succ O h1 hl) (Eqs.zero O (by lia)))
    | false =>
      simp only [Bool.false_eq_true, if_false]
      refine ⟨hp.below (by lia), hp.below (by lia), ?_⟩
      cases e2 : lt (q0 p (n - 1)) (q0 p n) with
      | true => exact ⟨hp, Nat.le_refl _, Nat.le_add_right _ _, hn, he⟩
      | false =>
        simp only [Bool.false_eq_true, if_false]
        have a := O.no _ _ e
        have b := O.no _ _ e2
        refine pw_mono (fun r h => ⟨h.1, by lia, by lia, h.2.2.2⟩) (desc_ok O f p (n + 1) (q + 1) hp (by lia) (by lia) (hn.succ O h1 b) ⟨by have := he.1; lia, fun i h1 h2 => ?_⟩)
        show le (q0 p i) (q0 p n) ∧ le (q0 p n) (q0 p i)
        by_cases hi : i = n
        · subst hi; exact ⟨O.rfl' _, O.rfl' _⟩
        · have c := he.2 i (by lia) (by lia)
          exact ⟨O.tr _ _ _ c.1 a, O.tr _ _ _ b c.2⟩
noncomputable def Cnt (le : Nat → Nat → Prop) (N : Nat) (r : Nat × Array Nat) : Prop := 1 ≤ r.1 ∧ r.1 ≤ N ∧ PP N r.2 ∧ Sd le r.2 r.1
theorem tail3_ok (O : Ord lt le) {p : Array Nat} {n : Nat} (hp : PP N p) (h1 : 1 ≤ n) (hn : n ≤ N) (h : Ni le p n) : pw lt N (kas_tail3 n N p) (Cnt le N) := by
  unfold kas_tail3
  have hz := hp.size
  refine pw_bind (pw_mono (fun m hm => ?_) (asc_ok O (hp.rev 0 n) (N - n) n h1 (by lia) fun i j hij hj => ?_))
  · exact ⟨by lia, by lia, hp.rev 0 n, hm.2.2.1⟩
  · rw [q0_rev (by lia), q0_rev (by lia), if_pos (by lia), if_pos (by lia)]
    exact h _ _ (by lia) (by lia)
theorem descPart_ok (O : Ord lt le) {p : Array Nat} {n : Nat} (hp : PP N p) (h1 : 1 ≤ n) (hn : n + 1 ≤ N) (h : Ni le p n) (hl : le (q0 p n) (q0 p (n - 1))) : pw lt N (kas_descPart n N p) (Cnt le N) := by
  unfold kas_descPart
  refine pw_bind (pw_mono (fun r hr => ?_) (desc_ok O (N - (n + 1)) p (n + 1) 0 hp (by lia) (by lia) (h.succ O h1 hl) (Eqs.zero O (by lia))))
  obtain ⟨a, b, c, d, e⟩ := hr
  have hz := a.size
  split
  · exact tail3_ok O (a.rev _ _) (by lia) (by lia) (d.alike O (rev_alike O (by lia) e))
  · exact tail3_ok O a (by lia) (by lia) d
theorem count_ok (O : Ord lt le) {p : Array Nat} (hp : PP N p) (hN : 1 ≤ N) : pw lt N (kas_count N p) (Cnt le N) := by
  unfold kas_count
  have hz := hp.size
  refine pw_bind (pw_mono (fun n hn => ?_) (asc_ok O hp (N - 1) 1 (Nat.le_refl _) (by lia) fun i j hij hj => ?_))
  · obtain ⟨a, b, c, d⟩ := hn
    split
    · exact ⟨a, by lia, hp, c⟩
    · next hne =>
      have hlt : n < N := by
        have : n ≠ N := fun q => hne (by simp [q])
        lia
      have hl := O.yes _ _ (d (by lia))
      split
      · refine ⟨?_, ?_, ?_⟩
        · rw [q0_eq]; exact hp.below (by lia)
        · rw [q0_eq]; exact hp.below (by lia)
        · rw [q0_eq, q0_eq]
          cases e : lt (q0 p 0) (q0 p (n - 1)) with
          | true => exact ⟨a, by show n ≤ N; lia, hp, c⟩
          | false =>
            have e0 := O.no _ _ e
            simp only [Bool.false_eq_true, if_false]
            have al : ∀ i, i < n → le (q0 p i) (q0 p 0) ∧ le (q0 p 0) (q0 p i) := fun i hi => ⟨O.tr _ _ _ (c i (n - 1) (by lia) (by lia)) e0, c 0 i (by lia) hi⟩
            refine descPart_ok O (hp.rev 0 n) (by lia) (by lia) (fun i j hij hj => ?_) ?_
            · rw [q0_rev (by lia), q0_rev (by lia), if_pos (by lia), if_pos (by lia)]
              exact c _ _ (by lia) (by lia)
            · rw [q0_rev (by lia), q0_rev (by lia), if_neg (by lia), if_pos (by lia)]
              exact O.tr _ _ _ hl.1 (O.tr _ _ _ (al _ (by lia)).1 (al _ (by lia)).2)
      · exact descPart_ok O hp a (by lia) (fun i j hij hj => by
          have : i = j := by lia
          subst this; exact O.rfl' _) hl.1
  · have : i = j := by lia
    subst this; exact O.rfl' _
theorem place_ok (O : Ord lt le) {p : Array Nat} {k : Nat} (hp : PP N p) (hk : k < N) (hs : Sd le p k) : ∀ (f l r : Nat), l ≤ r → r ≤ k → r ≤ l + f → (∀ i, i < l → le (q0 p i) (q0 p k)) → (∀ i, r ≤ i → i < k → le (q0 p k) (q0 p i)) →
    pw lt N (kas_place p k f l r) (fun m => m ≤ k ∧ (∀ i, i < m → le (q0 p i) (q0 p k)) ∧ ∀ i, m ≤ i → i < k → le (q0 p k) (q0 p i))
  | 0, l, r, hlr, hr, hf, h1, h2 => by
    have : l = r := by lia
    subst this; exact ⟨hr, h1, h2⟩
  | f + 1, l, r, hlr, hr, hf, h1, h2 => by
    unfold kas_place
    split
    · next h =>
      have : l = r := by lia
      subst this; exact ⟨hr, h1, h2⟩
    · next h =>
      refine ⟨?_, ?_, ?_⟩
      · rw [q0_eq]; exact hp.below (by lia)
      · rw [q0_eq]; exact hp.below (by lia)
      · rw [q0_eq, q0_eq]
        cases e : lt (q0 p k) (q0 p ((l + r) / 2)) with
        | true =>
          simp only [if_true]
          exact place_ok O hp hk hs f l ((l + r) / 2) (by lia) (by lia) (by lia) h1 fun i a b => O.tr _ _ _ (O.yes _ _ e).1 (hs _ _ a b)
        | false =>
          simp only [Bool.false_eq_true, if_false]
          exact place_ok O hp hk hs f ((l + r) / 2 + 1) r (by lia) hr (by lia) (fun i a => O.tr _ _ _ (hs _ _ (by lia) (by lia : (l + r) / 2 < k)) (O.no _ _ e)) h2
theorem bin_ok (O : Ord lt le) : ∀ (f : Nat) (p : Array Nat) (k : Nat), PP N p → k + f ≤ N → Sd le p k → pw lt N (kas_bin f p k) (fun p' => PP N p' ∧ Sd le p' (k + f))
  | 0, p, k, hp, hf, hs => ⟨hp, hs⟩
  | f + 1, p, k, hp, hf, hs => by
    unfold kas_bin
    have hz := hp.size
    refine pw_bind (pw_mono (fun l hl => ?_) (place_ok O hp (by lia) hs k 0 k (by lia) (Nat.le_refl _) (by lia) (fun i h => absurd h (by lia)) fun i a b => absurd b (by lia)))
    refine pw_mono (fun p' h => ⟨h.1, by have := h.2; rwa [show k + 1 + f = k + (f + 1) by lia] at this⟩) (bin_ok O f _ (k + 1) (hp.bub _ _) (by lia) fun i j hij hj => ?_)
    obtain ⟨a, b, c⟩ := hl
    rw [q0_bub (by lia) (by lia), q0_bub (by lia) (by lia), show k - (k - l) = l by lia]
    by_cases h1 : i = l <;> by_cases h2 : j = l
    · rw [if_pos h1, if_pos h2]; exact O.rfl' _
    · rw [if_pos h1, if_neg h2, if_pos (by lia)]; exact c _ (by lia) (by lia)
    · rw [if_neg h1, if_pos h2, if_neg (by lia)]; exact b _ (by lia)
    · rw [if_neg h1, if_neg h2]
      by_cases h3 : l < i
      · rw [if_pos (by lia), if_pos (by lia)]; exact hs _ _ (by lia) (by lia)
      · rw [if_neg (by lia)]
        split
        · exact hs _ _ (by lia) (by lia)
        · exact hs _ _ (by lia) (by lia)
theorem sort_ok (O : Ord lt le) (hN : 1 ≤ N) : pw lt N (kas_sort N) (fun p => PP N p ∧ Sd le p N) := by
  unfold kas_sort
  refine pw_bind (pw_mono (fun r hr => ?_) (count_ok O (p := (List.range N).toArray) (by show ((List.range N).toArray).toList.Perm _; exact List.Perm.refl _) hN))
  obtain ⟨a, b, c, d⟩ := hr
  have e : max r.1 1 = r.1 := by lia
  split
  · rw [e]
    exact pw_mono (fun p h => ⟨h.1, by have := h.2; rwa [show r.1 + (N - r.1) = N by lia] at this⟩) (bin_ok O (N - r.1) r.2 r.1 c (by lia) d)
  · exact ⟨c, by rw [show N = r.1 by lia]; exact d⟩
end
end Mine
end
section
open PySem PySem.W PyProof.Rows PySem.Calls
set_option autoImplicit false
namespace Mine
theorem ind_swap : CmpInd (fun a b o => D.cmp b a = some o.swap) (fun a b o => D.cmps b a = some o.swap) where
  int a b := congrArg some (o3_swap Int.lt_asymm)
  str a b := congrArg some (o3_swap str_asym)
  list a b o _ h := h
  tup a b o _ h := h
  nn := rfl
  nc y ys := rfl
  cn x xs := rfl
  ce x xs y ys o _ _ h1 h2 := cmps_go h1 h2
  cd x xs y ys o h0 _ h1 := cmps_stop (by cases o <;> first | exact absurd rfl h0 | nofun) h1
theorem cmp_swap (a b : D) (o : Ordering) (h : D.cmp a b = some o) : D.cmp b a = some o.swap := ind_swap.cmp a b o h
theorem cmps_swap (a b : List D) (o : Ordering) (h : D.cmps a b = some o) : D.cmps b a = some o.swap := ind_swap.cmps a b o h
theorem ind_eq : CmpInd (fun a b o => o = .eq → a = b) (fun a b o => o = .eq → a = b) where
  int a b h := congrArg D.int (Int.le_antisymm (Int.not_lt.mp (o3_eq.mp h).2) (Int.not_lt.mp (o3_eq.mp h).1))
  str a b h := congrArg D.str (str_ext (natsEq (o3_eq.mp h).1 (o3_eq.mp h).2))
  list a b o _ h e := congrArg D.list (h e)
  tup a b o _ h e := congrArg D.tup (h e)
  nn _ := rfl
  nc y ys h := by cases h
  cn x xs h := by cases h
  ce x xs y ys o _ _ h1 h2 e := by rw [h1 rfl, h2 e]
  cd x xs y ys o h0 _ _ e := absurd e h0
theorem cmp_eq (a b : D) (h : D.cmp a b = some .eq) : a = b := ind_eq.cmp a b _ h rfl
theorem cmps_eq (a b : List D) (h : D.cmps a b = some .eq) : a = b := ind_eq.cmps a b _ h rfl
theorem cmp_to {a c : D} {o : Ordering} (h : D.cmp a c = some o) : (∃ i j, a = .int i ∧ c = .int j) ∨ (∃ i j, a = .str i ∧ c = .str j) ∨ (∃ i j, a = .list i ∧ c = .list j) ∨ ∃ i j, a = .tup i ∧ c = .tup j :=
  (CmpInd.cmp (P := fun a c _ => (∃ i j, a = .int i ∧ c = .int j) ∨ (∃ i j, a = .str i ∧ c = .str j) ∨ (∃ i j, a = .list i ∧ c = .list j) ∨ ∃ i j, a = .tup i ∧ c = .tup j) (Ps := fun _ _ _ => True)
    ⟨fun i j => .inl ⟨i, j, rfl, rfl⟩, fun i j => .inr (.inl ⟨i, j, rfl, rfl⟩), fun i j _ _ _ => .inr (.inr (.inl ⟨i, j, rfl, rfl⟩)), fun i j _ _ _ => .inr (.inr (.inr ⟨i, j, rfl, rfl⟩)), trivial, fun _ _ => trivial, fun _ _ => trivial, fun _ _ _ _ _ _ _ _ _ => trivial, fun _ _ _ _ _ _ _ _ => trivial⟩) a c o h
theorem ind_tr : CmpInd (fun a b o => o = .lt → ∀ c, D.cmp b c = some .lt → (D.cmp a c).isSome = true → D.cmp a c = some .lt) (fun a b o => o = .lt → ∀ c, D.cmps b c = some .lt → (D.cmps a c).isSome = true → D.cmps a c = some .lt) where
  int a b h c k _ := by
    rw [o3_lt] at h
    obtain ⟨i, j, _, rfl⟩ | ⟨i, j, x, _⟩ | ⟨i, j, x, _⟩ | ⟨i, j, x, _⟩ := cmp_to k <;> first | (cases x; done) | skip
    have k' := o3_lt.mp (Option.some.inj k)
    exact congrArg some (o3_lt.mpr (Int.lt_trans h k'))
  str a b h c k _ := by
    rw [o3_lt] at h
    obtain ⟨i, j, x, _⟩ | ⟨i, j, _, rfl⟩ | ⟨i, j, x, _⟩ | ⟨i, j, x, _⟩ := cmp_to k <;> first | (cases x; done) | skip
    have k' := o3_lt.mp (Option.some.inj k)
    exact congrArg some (o3_lt.mpr (List.lt_trans h k'))
  list a b o _ ih h c k hs := by
    obtain ⟨i, j, x, _⟩ | ⟨i, j, x, _⟩ | ⟨i, j, _, rfl⟩ | ⟨i, j, x, _⟩ := cmp_to k <;> first | (cases x; done) | skip
    exact ih h j k hs
  tup a b o _ ih h c k hs := by
    obtain ⟨i, j, x, _⟩ | ⟨i, j, x, _⟩ | ⟨i, j, x, _⟩ | ⟨i, j, _, rfl⟩ := cmp_to k <;> first | (cases x; done) | skip
    exact ih h j k hs
  nn h := by cases h
  nc y ys _ c k hs := by cases c with
    | nil => cases k
    | cons z zs => rfl
  cn x xs h := by cases h
  ce x xs y ys o h1 _ _ ih h c k hs := by
    have e := cmp_eq x y h1
    subst e
    cases c with
    | nil => cases k
    | cons z zs =>
      rcases cmps_some k with ⟨k1, k2⟩ | ⟨k1, k2⟩
      · rw [cmps_go k1 rfl] at hs ⊢; exact ih h zs k2 hs
      · exact cmps_stop k1 k2
  cd x xs y ys o _ h1 ih h c k hs := by
    subst h
    cases c with
    | nil => cases k
    | cons z zs =>
      rcases cmps_some k with ⟨k1, k2⟩ | ⟨k1, k2⟩
      · have e := cmp_eq y z k1
        subst e
        exact cmps_stop nofun h1
      · obtain ⟨r, hr⟩ := Option.isSome_iff_exists.mp hs
        have hs1 : (D.cmp x z).isSome = true := by
          rcases cmps_some hr with ⟨q, _⟩ | ⟨_, q⟩ <;> rw [q] <;> rfl
        exact cmps_stop nofun (ih rfl z k2 hs1)
theorem cmp_tr (a b c : D) (h : D.cmp a b = some .lt) (k : D.cmp b c = some .lt) (hs : (D.cmp a c).isSome = true) : D.cmp a c = some .lt := ind_tr.cmp a b _ h rfl c k hs
/-- the order of the data's places -/
noncomputable def dle (xs : List D) (i j : Nat) : Prop := match xs[i]?, xs[j]? with
  | some a, some b => D.cmp a b ≠ some .gt
  | some _, none => True
  | none, some _ => False
  | none, none => True
noncomputable def dlt (xs : List D) (i j : Nat) : Bool := match xs[i]?, xs[j]? with
  | some a, some b => D.cmp a b == some .lt
  | some _, none => true
  | _, _ => false
theorem allCmp_mem {xs : List D} (h : allCmp xs = true) {a b : D} (ha : a ∈ xs) (hb : b ∈ xs) : ∃ o, D.cmp a b = some o := by
  have := (List.all_eq_true.mp (List.all_eq_true.mp h a ha)) b hb
  exact Option.isSome_iff_exists.mp this
theorem not_gt_tr {a b c : D} {o : Ordering} (h1 : D.cmp a b ≠ some .gt) (h2 : D.cmp b c ≠ some .gt) (s1 : ∃ o, D.cmp a b = some o) (s2 : ∃ o, D.cmp b c = some o) (s3 : ∃ o, D.cmp a c = some o) : D.cmp a c ≠ some .gt := by
  obtain ⟨p, hp⟩ := s1
  obtain ⟨q, hq⟩ := s2
  cases p with
  | gt => exact absurd hp h1
  | eq => rw [cmp_eq a b hp]; exact h2
  | lt =>
    cases q with
    | gt => exact absurd hq h2
    | eq => rw [← cmp_eq b c hq]; exact h1
    | lt => rw [cmp_tr a b c hp hq (Option.isSome_iff_exists.mpr s3)]; simp
theorem dOrd {xs : List D} (h : allCmp xs = true) : Ord (dlt xs) (dle xs) where
  tot i j := by
    unfold dle
    cases e1 : xs[i]? with
    | none => cases e2 : xs[j]? <;> simp
    | some a =>
      cases e2 : xs[j]? with
      | none => simp
      | some b =>
        obtain ⟨o, ho⟩ := allCmp_mem h (List.mem_of_getElem? e1) (List.mem_of_getElem? e2)
        have := cmp_swap _ _ _ ho
        dsimp only
        rw [ho, this]
        cases o <;> simp [Ordering.swap]
  tr i j k := by
    unfold dle
    cases e1 : xs[i]? with
    | none => cases e2 : xs[j]? <;> cases e3 : xs[k]? <;> simp
    | some a =>
      cases e2 : xs[j]? with
      | none => cases e3 : xs[k]? <;> simp
      | some b =>
        cases e3 : xs[k]? with
        | none => simp
        | some c =>
          dsimp only
          have m1 := List.mem_of_getElem? e1
          have m2 := List.mem_of_getElem? e2
          have m3 := List.mem_of_getElem? e3
          intro h1 h2
          exact not_gt_tr (o := .eq) h1 h2 (allCmp_mem h m1 m2) (allCmp_mem h m2 m3) (allCmp_mem h m1 m3)
  yes i j := by
    unfold dle dlt
    cases e1 : xs[i]? with
    | none => simp
    | some a =>
      cases e2 : xs[j]? with
      | none => simp
      | some b =>
        dsimp only
        intro hl
        have hl : D.cmp a b = some .lt := by simpa using hl
        rw [hl, cmp_swap _ _ _ hl]
        simp [Ordering.swap]
  no i j := by
    unfold dle dlt
    cases e1 : xs[i]? with
    | none => cases e2 : xs[j]? <;> simp
    | some a =>
      cases e2 : xs[j]? with
      | none => simp
      | some b =>
        dsimp only
        obtain ⟨o, ho⟩ := allCmp_mem h (List.mem_of_getElem? e1) (List.mem_of_getElem? e2)
        rw [ho, cmp_swap _ _ _ ho]
        cases o <;> simp [Ordering.swap]
/-- sorted: nothing greater ahead -/
noncomputable def SrtD (xs : List D) : Prop := xs.Pairwise fun a b => D.cmp a b ≠ some .gt
theorem mem_skip {a x y : D} {r : List D} (h : a ∈ x :: r) : a ∈ x :: y :: r := by
  rcases List.mem_cons.mp h with rfl | h
  · simp
  · simp [h]
theorem insD_ok {x : D} : ∀ {xs ys : List D}, insD x xs = some ys → (∀ a ∈ x :: xs, ∀ b ∈ x :: xs, ∃ o, D.cmp a b = some o) → SrtD xs → SrtD ys ∧ ys.Perm (x :: xs)
  | [], ys, h, hc, hs => by simp [insD] at h; subst h; exact ⟨by simp [SrtD], List.Perm.refl _⟩
  | y :: r, ys, h, hc, hs => by
    simp only [insD, Option.bind_eq_some_iff] at h
    obtain ⟨o, ho, h⟩ := h
    have hs' := List.pairwise_cons.mp hs
    split at h
    · next e =>
      simp only [Option.map_eq_some_iff] at h
      obtain ⟨zs, hz, rfl⟩ := h
      have e : o = .gt := by simpa using e
      subst e
      obtain ⟨a, b⟩ := insD_ok hz (fun a ha b hb => hc a (mem_skip ha) b (mem_skip hb)) hs'.2
      refine ⟨List.pairwise_cons.mpr ⟨fun z hz' => ?_, a⟩, (b.cons y).trans (List.Perm.swap x y r)⟩
      rcases List.mem_cons.mp (b.mem_iff.mp hz') with rfl | hm
      · rw [cmp_swap _ _ _ ho]; simp [Ordering.swap]
      · exact hs'.1 z hm
    · next e =>
      cases h
      refine ⟨List.pairwise_cons.mpr ⟨fun z hz => ?_, hs⟩, List.Perm.refl _⟩
      have h0 : D.cmp x y ≠ some .gt := by rw [ho]; simpa using e
      rcases List.mem_cons.mp hz with rfl | hm
      · exact h0
      · exact not_gt_tr (o := .eq) h0 (hs'.1 z hm) ⟨_, ho⟩ (hc y (by simp) z (by simp [hm])) (hc x (by simp) z (by simp [hm]))
theorem insD_some {x : D} : ∀ {xs : List D}, (∀ b ∈ xs, ∃ o, D.cmp x b = some o) → ∃ ys, insD x xs = some ys
  | [], _ => ⟨_, rfl⟩
  | y :: r, h => by
    obtain ⟨o, ho⟩ := h y (by simp)
    obtain ⟨zs, hz⟩ := insD_some (x := x) (xs := r) fun b hb => h b (by simp [hb])
    simp only [insD, ho, Option.bind_some, hz]
    split <;> simp
theorem sortD_ok : ∀ {xs : List D}, (∀ a ∈ xs, ∀ b ∈ xs, ∃ o, D.cmp a b = some o) → ∃ ys, sortD xs = some ys ∧ SrtD ys ∧ ys.Perm xs
  | [], _ => ⟨[], rfl, by simp [SrtD], List.Perm.refl _⟩
  | x :: r, h => by
    obtain ⟨zs, hz, hs, hp⟩ := sortD_ok (xs := r) fun a ha b hb => h a (by simp [ha]) b (by simp [hb])
    have hm : ∀ a ∈ x :: zs, ∀ b ∈ x :: zs, ∃ o, D.cmp a b = some o := fun a ha b hb => by
      refine h a ?_ b ?_
      · rcases List.mem_cons.mp ha with rfl | ha
        · simp
        · simp [hp.mem_iff.mp ha]
      · rcases List.mem_cons.mp hb with rfl | hb
        · simp
        · simp [hp.mem_iff.mp hb]
    obtain ⟨ys, hy⟩ := insD_some (x := x) (xs := zs) fun b hb => hm x (by simp) b (by simp [hb])
    obtain ⟨a, b⟩ := insD_ok hy hm hs
    exact ⟨ys, by simp only [sortD, hz, Option.bind_some, hy], a, b.trans (hp.cons x)⟩
theorem srtD_unique : ∀ {xs ys : List D}, SrtD xs → SrtD ys → xs.Perm ys → (∀ a ∈ xs, ∀ b ∈ xs, ∃ o, D.cmp a b = some o) → xs = ys
  | [], ys, _, _, hp, _ => (List.nil_perm.mp hp).symm
  | x :: xs, [], _, _, hp, _ => absurd hp.length_eq (by simp)
  | x :: xs, y :: ys, hx, hy, hp, hc => by
    have hx' := List.pairwise_cons.mp hx
    have hy' := List.pairwise_cons.mp hy
    have e : x = y := by
      have m1 : x ∈ y :: ys := hp.mem_iff.mp (by simp)
      have m2 : y ∈ x :: xs := hp.mem_iff.mpr (by simp)
      rcases List.mem_cons.mp m1 with e | m1
      · exact e
      rcases List.mem_cons.mp m2 with e | m2
      · exact e.symm
      have a := hx'.1 y m2
      have b := hy'.1 x m1
      obtain ⟨o, ho⟩ := hc x (by simp) y (by simp [m2])
      rw [cmp_swap _ _ _ ho] at b
      rw [ho] at a
      cases o with
      | lt => simp [Ordering.swap] at b
      | gt => simp at a
      | eq => exact cmp_eq _ _ ho
    subst e
    rw [srtD_unique hx'.2 hy'.2 (List.Perm.cons_inv hp) fun a ha b hb => hc a (by simp [ha]) b (by simp [hb])]
end Mine
end
section
open PySem PySem.W PyProof.Rows PySem.Calls
set_option autoImplicit false
namespace Mine
section
variable {w : World} {A : Around} {E : Value → Shared → Prop} {s : Shared}
/-- what the sort leaves: the places in order -/
noncomputable def Out (le : Nat → Nat → Prop) (vs : List Value) (p : Array Nat) : Prop := PP vs.length p ∧ Sd le p vs.length
noncomputable def outOf (vs : List Value) (p : Array Nat) : List Value := p.toList.map fun i => vs.getD i Value.none
theorem out_id (vs : List Value) : outOf vs (List.range vs.length).toArray = vs := by
  apply List.ext_getElem
  · simp [outOf]
  · intro i h1 h2; simp [outOf, h2]
theorem listSort {lt : Nat → Nat → Bool} {le : Nat → Nat → Prop} (O : Ord lt le) {a : Addr} {vs : List Value} {n : Nat} {P : Fin → Shared → Prop} (ho : s.heap.get? a = some (seqObj "list" vs.toArray n)) (h64 : vs.length < 64) (κ : SortKind)
    (hk : 2 ≤ vs.length → ∀ h', (∀ b o, b ≠ a → s.heap.get? b = some o → h'.get? b = some o) → ∀ Q : SortKind → Shared → Prop, Q κ { s with heap := h' } → wpAny (MM w) A (keyKind' vs.toArray) Q E { s with heap := h' })
    (hc : ∀ h', (∀ b o, b ≠ a → s.heap.get? b = some o → h'.get? b = some o) → ∀ i j (C : Bool → Shared → Prop), i < vs.length → j < vs.length → C (lt i j) { s with heap := h' } → kas_ask P0' w A κ vs i j C { s with heap := h' })
    (h : ∀ p, Out le vs p → P (.done (.ret .none)) { s with heap := sortedHeap s.heap a vs (outOf vs p).toArray }) : wpAny (MM w) A (Builtin.«list.sort» ⟨[.ref a], []⟩) P E s := by
  rw [list_sort_plain]
  have ha : a < s.heap.objs.size := Heap.lt_size ho
  refine wpAny_bind (listItems_at ho rfl ?_)
  refine wpAny_bind (listUpdate_at ho rfl ?_ (by rw [List.size_toArray, sizeLine_eq]; lia) (Nat.zero_le _))
  obtain ⟨e1, ho1⟩ : ∃ e1, (s.heap.update a (Obj.mapSeq fun _ => #[])).get? a = some (seqObj "list" #[] e1) := ⟨_, get?_update_seq ho (fun _ => #[])⟩
  refine wpAny_bind (seqEpoch_at ho1 rfl ?_)
  refine wpAny_bind (wpAny_newTuple ?_ (by show vs.length ≤ _; rw [sizeLine_eq]; lia))
  refine wpAny_bind (wpAny_newList ?_ (Nat.zero_le _))
  refine wpAny_holding ?_
  have ho6 : (((s.heap.update a (Obj.mapSeq fun _ => #[])).push (seqObj "tuple" vs.toArray 0)).push (seqObj "list" #[] 0)).get? a = some (seqObj "list" #[] e1) := by
    rw [Heap.get?_push_ne _ _ _ (by rw [size_push', Heap.size_update]; exact Nat.ne_of_lt (Nat.lt_succ_of_lt ha)), Heap.get?_push_ne _ _ _ (by rw [Heap.size_update]; exact Nat.ne_of_lt ha)]
    exact ho1
  have keep : ∀ b o, b ≠ a → s.heap.get? b = some o → (((s.heap.update a (Obj.mapSeq fun _ => #[])).push (seqObj "tuple" vs.toArray 0)).push (seqObj "list" #[] 0)).get? b = some o := fun b o hb e =>
    Heap.get?_push_of_some _ (Heap.get?_push_of_some _ (by rw [Heap.get?_update_ne _ _ _ _ hb]; exact e))
  show wpAny (MM w) A _ P E { s with heap := ((s.heap.update a (Obj.mapSeq fun _ => #[])).push (seqObj "tuple" vs.toArray 0)).push (seqObj "list" #[] 0) }
  dsimp only
  by_cases h2 : vs.toArray.size < 2
  · rw [if_pos h2, if_pos h2]
    refine wpAny_bind (wpAny_pure ?_)
    rw [StateT.run_pure]
    refine wpAny_bind (wpAny_pure ?_)
    dsimp only
    refine wpAny_bind (seqEpoch_at ho6 rfl ?_)
    have hid : (arrOf (SortSt.mk' general' (vs.toArray.zip vs.toArray) #[] 7 none)).map (·.2) = vs.toArray := by
      show (vs.toArray.zip vs.toArray).map (·.2) = vs.toArray
      apply Array.toList_inj.mp
      simp only [Array.toList_map, Array.toList_zip]
      exact List.map_snd_zip (Nat.le_refl _)
    rw [hid]
    refine wpAny_bind (listUpdate_at ho6 rfl ?_ (Nat.zero_le _) (by show vs.length ≤ sizeLine + 1; rw [sizeLine_eq]; lia))
    simp only [bne_self_eq_false, Bool.false_eq_true, if_false]
    refine wpAny_pure ?_
    have := h (List.range vs.length).toArray ⟨List.Perm.refl _, fun i j hij hj => by
      have : i = j := by simp only [List.size_toArray] at h2; lia
      subst this; exact O.rfl' _⟩
    rw [out_id] at this
    exact this
  · rw [if_neg h2, if_neg h2]
    have hn2 : 2 ≤ vs.length := by simpa using h2
    refine wpAny_bind (hk hn2 _ keep _ ?_)
    refine wpAny_bind (wpAny_mono (kat_run (prog := P0') (w := w) (A := A) (E := E) (κ := κ) (ks := vs) (vs := vs) (Q := fun st' s' => s' = { s with heap := ((s.heap.update a (Obj.mapSeq fun _ => #[])).push (seqObj "tuple" vs.toArray 0)).push (seqObj "list" #[] 0) } ∧ ∃ p : Array Nat, Out le vs p ∧ arrOf st' = p.map (kas_item (vs.toArray.zip vs.toArray)) ∧ failedOf st' = none)
      (G := fun p s' => s' = { s with heap := ((s.heap.update a (Obj.mapSeq fun _ => #[])).push (seqObj "tuple" vs.toArray 0)).push (seqObj "list" #[] 0) } ∧ Out le vs p)
      rfl hn2 h64 (fun p st' s' a1 a2 a3 a4 => ⟨a4.1, p, a4.2, a2, a3⟩) (pw_wp (hc _ keep) (fun p hp => ⟨rfl, hp⟩) (sort_ok O (by lia)))) ?_ fun _ _ e => e)
    rintro ⟨⟨⟩, st'⟩ s' ⟨rfl, p, hp, har, hf⟩
    dsimp only
    have hout := kat_snds rfl har
    rw [hout]
    have hsz : (List.toArray (p.toList.map fun i => vs.getD i Value.none)).size = vs.length := by rw [List.size_toArray, List.length_map, Array.length_toList, hp.1.size]
    refine wpAny_bind (seqEpoch_at ho6 rfl ?_)
    refine wpAny_bind (listUpdate_at ho6 rfl ?_ (Nat.zero_le _) (Nat.le_trans (Nat.le_of_eq hsz) (by rw [sizeLine_eq]; lia)))
    rw [hf]
    simp only [bne_self_eq_false, Bool.false_eq_true, if_false]
    exact wpAny_pure (h p hp)
theorem sortedCall {lt : Nat → Nat → Bool} {le : Nat → Nat → Prop} (O : Ord lt le) {l : Addr} {vs : List Value} {Q : Value → Shared → Prop} (hl : s.heap.IsList l vs.toArray) (h64 : vs.length < 64) (κ : SortKind)
    (hk : 2 ≤ vs.length → ∀ h', (∀ b o, s.heap.get? b = some o → h'.get? b = some o) → ∀ Q : SortKind → Shared → Prop, Q κ { s with heap := h' } → wpAny (MM w) A.in1.in1 (keyKind' vs.toArray) Q E { s with heap := h' })
    (hc : ∀ h', (∀ b o, s.heap.get? b = some o → h'.get? b = some o) → ∀ i j (C : Bool → Shared → Prop), i < vs.length → j < vs.length → C (lt i j) { s with heap := h' } → kas_ask P0' w A.in1.in1 κ vs i j C { s with heap := h' })
    (h : ∀ h' p n, Out le vs p → (∀ b o, s.heap.get? b = some o → h'.get? b = some o) → s.heap.objs.size ≤ h'.objs.size → h'.get? (s.heap.objs.size + 1) = some (lobj (outOf vs p) n) → Q (.ref (s.heap.objs.size + 1)) { s with heap := h' }) :
    wpAny (MM w) A (PySem.call (.builtin "sorted") [.ref l]) Q E s := by
  refine Calls.call_function_entry kind_sorted plain_sorted entry_sorted (args_sorted1 _) ?_
  unfold Builtin.«sorted»
  refine wpAny_bind (m := checkCount "sorted" 1 1 _) (wpAny_pure ?_)
  refine wpAny_bind (collect_list hl ?_ (by rw [sizeLine_eq]; lia))
  refine wpAny_bind (wpAny_newList ?_ (by rw [sizeLine_eq]; lia))
  have hsz : ((s.heap.push (seqObj "list" #[] 0)).update s.heap.objs.size (Obj.mapSeq (· ++ vs.toArray))).objs.size = s.heap.objs.size + 1 := by
    rw [Heap.size_update, size_push']
  have hoL : (((s.heap.push (seqObj "list" #[] 0)).update s.heap.objs.size (Obj.mapSeq (· ++ vs.toArray))).push (seqObj "list" vs.toArray 0)).get? (s.heap.objs.size + 1) = some (seqObj "list" vs.toArray 0) := by
    rw [← hsz]; exact Heap.get?_push_size _ rfl
  have keep : ∀ b o, s.heap.get? b = some o → (((s.heap.push (seqObj "list" #[] 0)).update s.heap.objs.size (Obj.mapSeq (· ++ vs.toArray))).push (seqObj "list" vs.toArray 0)).get? b = some o := fun b o q => by
    have hlt : b < s.heap.objs.size := Heap.lt_size q
    rw [Heap.get?_push_ne _ _ _ (by rw [hsz]; exact Nat.ne_of_lt (Nat.lt_succ_of_lt hlt)), Heap.get?_update_ne _ _ _ _ (Nat.ne_of_lt hlt), Heap.get?_push_ne _ _ _ (Nat.ne_of_lt hlt)]
    exact q
  show wpAny _ _ _ _ _ { s with heap := ((s.heap.push (seqObj "list" #[] 0)).update s.heap.objs.size (Obj.mapSeq (· ++ vs.toArray))).push (seqObj "list" vs.toArray 0) }
  rw [hsz]
  refine wpAny_bind (wpAny_holding (wpAny_call_entry slot_list_sort ⟨_, hoL, rfl⟩ entry_list_sort ?body (args_list_sort _)))
  case body =>
    have away : ∀ b o, s.heap.get? b = some o → b ≠ s.heap.objs.size + 1 := fun b o e => Nat.ne_of_lt (Nat.lt_succ_of_lt (Heap.lt_size e))
    refine listSort O (s := { s with heap := ((s.heap.push (seqObj "list" #[] 0)).update s.heap.objs.size (Obj.mapSeq (· ++ vs.toArray))).push (seqObj "list" vs.toArray 0) }) hoL h64 κ
      (fun h2 h' hh => hk h2 h' fun b o e => hh b o (away b o e) (keep b o e)) (fun h' hh => hc h' fun b o e => hh b o (away b o e) (keep b o e)) fun p hp => ?_
    refine ⟨_, rfl, wpAny_pure ⟨_, rfl, ?_⟩⟩
    generalize hH : (((s.heap.push (seqObj "list" #[] 0)).update s.heap.objs.size (Obj.mapSeq (· ++ vs.toArray))).push (seqObj "list" vs.toArray 0)) = H at hoL keep
    have hlt : s.heap.objs.size + 1 < H.objs.size := Heap.lt_size hoL
    have u1 : ∃ e1, (H.update (s.heap.objs.size + 1) (Obj.mapSeq fun _ => #[])).get? (s.heap.objs.size + 1) = some (seqObj "list" #[] e1) := ⟨_, get?_update_seq hoL (fun _ => #[])⟩
    obtain ⟨e1, u1⟩ := u1
    have u2 : (((H.update (s.heap.objs.size + 1) (Obj.mapSeq fun _ => #[])).push (seqObj "tuple" vs.toArray 0)).push (seqObj "list" #[] 0)).get? (s.heap.objs.size + 1) = some (seqObj "list" #[] e1) := Heap.get?_push_of_some _ (Heap.get?_push_of_some _ u1)
    have u3 : ∃ e2, (sortedHeap H (s.heap.objs.size + 1) vs (outOf vs p).toArray).get? (s.heap.objs.size + 1) = some (lobj (outOf vs p) e2) := ⟨_, get?_update_seq u2 (fun _ => (outOf vs p).toArray)⟩
    obtain ⟨e2, u3⟩ := u3
    refine h _ p e2 hp (fun b o e => ?_) ?_ u3
    · unfold sortedHeap
      rw [Heap.get?_update_ne _ _ _ _ (away b o e)]
      exact Heap.get?_push_of_some _ (Heap.get?_push_of_some _ (by rw [Heap.get?_update_ne _ _ _ _ (away b o e)]; exact keep b o e))
    · exact Nat.le_of_lt (Nat.lt_of_succ_lt (Heap.lt_size u3))
end
end Mine
end
section
open PySem PySem.W PyProof.Rows PySem.Calls
set_option autoImplicit false
namespace Mine
section
variable {w : World} {A : Around} {s : Shared} {g : Gh} {α : List Addr}
noncomputable def partOk (d : D) : Bool := flatD d && eqOk 3 d
theorem oneLtList {E : Value → Shared → Prop} {l b : Addr} {vs ws : List Value} {n m : Nat} {xs ys : List D} {o : Ordering} {Q : Bool → Shared → Prop} (hl : s.heap.get? l = some (lobj vs n)) (hb : s.heap.get? b = some (lobj ws m))
    (hc : D.cmps xs ys = some o) (hx : xs.all scal = true) (hy : ys.all scal = true) (rx : Rds g α vs xs) (ry : Rds g α ws ys) (hu : A.units + 40 < cLine) (hq : Q (o == .lt) s) : wpAny (MM w) A (oneLt' true (.ref l) (.ref b)) Q E s := by
  rw [oneLt'_eq]
  simp only [if_true]
  refine wpAny_bind (wpAny_cRoomFor (by lia) ?_)
  refine wpAny_bind (wpAny_callSpecialIfBound?_slot (T := "list") ⟨_, hl, rfl⟩ F.slot_list_lt (call_meets F.slot_list_lt ⟨_, hl, rfl⟩ F.entry_list_lt (F.args_list_lt_2 _ _) (genListM dLt (ofType_eq rfl rfl) vs ws n m xs ys o hc hx hy rx ry (t := (o == .lt)) rfl) ⟨hl, hb, by lia, ?_⟩))
  exact wpAny_truthy_bool hq
theorem flatBool {E : Value → Shared → Prop} {a b : D} {va vb : Value} {o : Ordering} {Q : Bool → Shared → Prop} (hs : ∀ b o, g b = some o → s.heap.get? b = some o) (hu : A.units + 40 < cLine) (ha : flatD a = true) (hb : flatD b = true) (hc : D.cmp a b = some o) (ra : Rd g α va a) (rb : Rd g α vb b) (hq : Q (o == .lt) s) :
    wpAny (MM w) A (oneLt' false va vb) Q E s :=
  kat_one va vb (flatCmp (env := default) (.inl rfl) hs hu ha hb hc (t := (o == .lt)) rfl ra rb hq)
theorem partLt {E : Value → Shared → Prop} {k : Bool} {a b : D} {va vb : Value} {o : Ordering} {Q : Bool → Shared → Prop} (hs : ∀ b o, g b = some o → s.heap.get? b = some o) (hu : A.units + 40 < cLine) (ha : flatD a = true) (hb : flatD b = true) (hc : D.cmp a b = some o) (ra : Rd g α va a) (rb : Rd g α vb b) (hk : k = true → ∃ l, a = .list l) (hq : Q (o == .lt) s) :
    wpAny (MM w) A (oneLt' k va vb) Q E s := by
  cases k with
  | false => exact flatBool hs hu ha hb hc ra rb hq
  | true =>
    obtain ⟨l, rfl⟩ := hk rfl
    obtain ⟨m, rfl, hc⟩ := onList_inv hc
    obtain ⟨_, _, _, rfl, g1, r1⟩ := ra.list_
    obtain ⟨_, _, _, rfl, g2, r2⟩ := rb.list_
    exact oneLtList (hs _ _ g1) (hs _ _ g2) hc ha hb r1 r2 hu hq
theorem lexOk {fin : Bool} {C : Bool → Shared → Prop} (hs : ∀ b o, g b = some o → s.heap.get? b = some o) (hu : A.units + 40 < cLine) : ∀ (xs ys : List D) (vs ws : List Value) (i : Nat) (o : Ordering), Rds g α vs xs → Rds g α ws ys → xs.all partOk = true → ys.all partOk = true → D.cmps xs ys = some o →
    fin = decide (xs.length < ys.length) → (i = 0 → ∀ x ∈ xs.head?, ∃ l, x = .list l) → C (o == .lt) s → KatLex P0' w A true fin C (vs.zip ws) i s := by
  intro xs
  have nil : ∀ {xs ys : List D} {o : Ordering}, xs = [] ∨ ys = [] → D.cmps xs ys = some o → fin = decide (xs.length < ys.length) → C (o == .lt) s → C fin s := fun h hc hf hq =>
    hf ▸ Bool.eq_iff_iff.mpr (beq_iff_eq.trans ((cmps_end hc h ▸ o3_lt).trans decide_eq_true_iff.symm)) ▸ hq
  induction xs with
  | nil =>
    intro ys vs ws i o rx ry hx hy hc hf hi hq
    cases rx.nil_
    exact kat_nil (nil (.inl rfl) hc hf hq)
  | cons x xs ih =>
    intro ys vs ws i o rx ry hx hy hc hf hi hq
    obtain ⟨v, vs, rfl, rx0, rx⟩ := rx.cons_
    cases ys with
    | nil =>
      cases ry.nil_
      exact kat_nil (nil (.inr rfl) hc hf hq)
    | cons y ys =>
      obtain ⟨u, ws, rfl, ry0, ry⟩ := ry.cons_
      obtain ⟨hx, hxs⟩ := all_cons hx
      obtain ⟨hy, hys⟩ := all_cons hy
      have hx := (Bool.and_eq_true _ _).mp hx
      have hy := (Bool.and_eq_true _ _).mp hy
      have ku : A.units + 3 < cLine := Nat.lt_of_le_of_lt (Nat.add_le_add_left (by decide) _) hu
      obtain ⟨h1, h2⟩ | ⟨h1, h2⟩ := cmps_some hc
      · refine kat_cons (eqAt_of hs hx.2 hy.2 h1 rx0 ry0 ku P0' w _ _ (kat_yes (ih ys vs ws (i + 1) o rx ry hxs hys h2 ?_ (fun h => absurd h (Nat.succ_ne_zero i)) hq)))
        exact hf.trans (decide_eq_decide.mpr Nat.succ_lt_succ_iff)
      · refine kat_cons (eqAt_of hs hx.2 hy.2 h2 rx0 ry0 ku P0' w _ _ ?_)
        rw [beq_eq_false_iff_ne.mpr h1]
        exact kat_no (partLt hs hu hx.1 hy.1 h2 rx0 ry0 (fun hk => hi (beq_iff_eq.mp hk) x rfl) hq)
theorem tupOfList_is {d : D} (h : tupOfList d = true) : ∃ x r, d = .tup (.list x :: r) ∧ (D.list x :: r).all partOk = true := by
  obtain ⟨l, h⟩ := Option.isSome_iff_exists.mp h
  obtain ⟨xs, rfl, h⟩ := onTup_inv h
  cases xs with
  | nil => exact noSome h
  | cons d r =>
    obtain ⟨x, rfl, h⟩ := onList_inv h
    exact ⟨x, r, rfl, (iteSome h).1⟩
theorem tupsKind {h : Heap} (hs : ∀ b o, g b = some o → h.get? b = some o) : ∀ {xs : List D} {vs : List Value}, Rds g α vs xs → xs.all tupOfList = true → ∃ fs, fs.length = vs.length ∧ KatTups h vs fs ∧ ∀ v ∈ fs, ∃ a o, v = .ref a ∧ h.get? a = some o ∧ o.cls = .type "list"
  | [], vs, r, _ => by cases r.nil_; exact ⟨[], rfl, .nil, fun _ h => absurd h List.not_mem_nil⟩
  | d :: xs, vs, r, hx => by
    obtain ⟨v, vs, rfl, rv, r2⟩ := r.cons_
    obtain ⟨fs, hl, ht, hf⟩ := tupsKind hs r2 (all_cons hx).2
    obtain ⟨x, q, rfl, _⟩ := tupOfList_is (all_cons hx).1
    obtain ⟨_, _, _, rfl, ga, gr⟩ := rv.tup_
    obtain ⟨_, _, rfl, g0, _⟩ := gr.cons_
    obtain ⟨_, _, _, rfl, gb, _⟩ := g0.list_
    exact ⟨_ :: fs, congrArg (· + 1) hl, KatTups.cons (hs _ _ ga) rfl rfl rfl ht, fun v hv => (List.mem_cons.mp hv).elim (fun e => ⟨_, _, e, hs _ _ gb, rfl⟩) (hf v)⟩
end
section
variable {K : Gh} {w : World} {r : Nat} {mg mb : Str → Option Value} {sc : Scope} {σ : Sg} {μ μ1 μ2 μ3 : Mu}
theorem getD_at {α : Type} {xs : List α} {i : Nat} {a d : α} (h : xs[i]? = some a) : xs.getD i d = a := by simp [h]
theorem Rds.perm {g : Gh} {α : List Addr} {vs : List Value} {xs : List D} (rd : Rds g α vs xs) : ∀ (is : List Nat), (∀ i ∈ is, i < xs.length) → Rds g α (is.map fun i => vs.getD i Value.none) (is.map fun i => xs.getD i .nil)
  | [], _ => .nil
  | i :: is, h => by
    have hi := h i (by simp)
    have e : xs[i]? = some (xs[i]) := List.getElem?_eq_getElem hi
    obtain ⟨v, hv, hr⟩ := rd.at e
    simp only [List.map_cons]
    rw [getD_at hv, getD_at e]
    exact .cons hr (rd.perm is fun j hj => h j (by simp [hj]))
theorem sortedD {xs ys : List D} (ht : xs.all tupOfList = true) (hc : allCmp xs = true) (h64 : xs.length < 64) (hy : sortD xs = some ys) : Opn K w r sc σ μ [.list xs] (fun vs => PySem.call (.builtin "sorted") vs) (.list ys) μ := fun g s env α A vs S R h => by
  obtain ⟨v, rfl, hv⟩ := h.one
  obtain ⟨a, vs, n, rfl, ha, rd⟩ := hv.list_
  ·
    have hlen := rd.length
    have hu : A.in1.in1.units + 40 < cLine := by have := R.units; simp only [Around.in1_units]; lia
    refine sortedCall (dOrd hc) (isListOf (S.sub _ _ ha)) (by lia) (tuples' true) (fun h2 h' hh Q hq => ?_) (fun h' hh i j C hi hj hC => ?_) fun h' p m hp hk hz ho => ?_
    · have hs : ∀ b o, g b = some o → h'.get? b = some o := fun b o e => hh b o (S.sub b o e)
      obtain ⟨fs, hl, hkt, hf⟩ := tupsKind hs rd ht
      refine kat_kind (s := { s with heap := h' }) (T := .type "list") hkt (by lia) (fun v hv => ?_) (by rfl) ?_
      · obtain ⟨b, o, rfl, hb, hcl⟩ := hf v hv
        have : Looks (MM w) h' (typeOf (.ref b)) o.cls := (Looks.ld hb).andThen .now
        rw [hcl] at this
        exact this
      · exact hq
    · have hs : ∀ b o, g b = some o → h'.get? b = some o := fun b o e => hh b o (S.sub b o e)
      have ei : xs[i]? = some (xs[i]'(by lia)) := List.getElem?_eq_getElem _
      have ej : xs[j]? = some (xs[j]'(by lia)) := List.getElem?_eq_getElem _
      obtain ⟨v, hv, rv⟩ := rd.at ei
      obtain ⟨u, hu', ru⟩ := rd.at ej
      have ti := List.all_eq_true.mp ht _ (List.mem_of_getElem? ei)
      have tj := List.all_eq_true.mp ht _ (List.mem_of_getElem? ej)
      obtain ⟨o, hco⟩ := allCmp_mem hc (List.mem_of_getElem? ei) (List.mem_of_getElem? ej)
      have hlt : dlt xs i j = (o == .lt) := by
        unfold dlt; rw [ei, ej]; dsimp only; rw [hco]; cases o <;> rfl
      rw [hlt] at hC
      generalize xs[i]'(by lia) = di at *
      generalize xs[j]'(by lia) = dj at *
      obtain ⟨x, q, rfl, hx⟩ := tupOfList_is ti
      obtain ⟨y, q2, rfl, hy2⟩ := tupOfList_is tj
      unfold kas_ask
      rw [getD_at hv, getD_at hu']
      obtain ⟨_, _, _, rfl, g1, r1⟩ := rv.tup_
      obtain ⟨_, _, _, rfl, g2, r2⟩ := ru.tup_
      refine kat_lt (hs _ _ g1) rfl (hs _ _ g2) rfl ?_
      refine lexOk (s := { s with heap := h' }) hs hu _ _ _ _ 0 o r1 r2 hx hy2 hco ?_ (fun _ d hd => ⟨x, (Option.some.inj hd).symm⟩) hC
      rw [List.size_toArray, List.size_toArray, r1.length, r2.length]
    · obtain ⟨hp1, hp2⟩ := hp
      have hperm : (p.toList.map fun i => xs.getD i .nil).Perm xs := by
        have a : (p.toList.map fun i => xs.getD i .nil).Perm ((List.range vs.length).map fun i => xs.getD i .nil) := hp1.map _
        have b : ((List.range vs.length).map fun i => xs.getD i .nil) = xs := by
          apply List.ext_getElem
          · simp [hlen]
          · intro i h1 h2; simp [h2]
        rw [b] at a; exact a
      have hall : ∀ a ∈ xs, ∀ b ∈ xs, ∃ o, D.cmp a b = some o := fun a ha b hb => allCmp_mem hc ha hb
      obtain ⟨ys', hy', hs', hp'⟩ := sortD_ok hall
      rw [hy] at hy'; cases hy'
      have hsd : SrtD (p.toList.map fun i => xs.getD i .nil) := by
        unfold SrtD
        rw [List.pairwise_iff_getElem]
        intro i j hi hj hij
        simp only [List.length_map, Array.length_toList] at hi hj
        have hsz := hp1.size
        have := hp2 i j (by lia) (by lia)
        have bi := hp1.below (i := i) (by lia)
        have bj := hp1.below (i := j) (by lia)
        have qi : q0 p i = p[i] := by unfold q0; simp [hi]
        have qj : q0 p j = p[j] := by unfold q0; simp [hj]
        rw [qi, qj] at this
        rw [qi] at bi
        rw [qj] at bj
        unfold dle at this
        rw [List.getElem?_eq_getElem (by lia), List.getElem?_eq_getElem (by lia)] at this
        simp only [List.getElem_map, Array.getElem_toList]
        rw [getD_at (List.getElem?_eq_getElem (by lia)), getD_at (List.getElem?_eq_getElem (by lia))]
        exact this
      have hys : (p.toList.map fun i => xs.getD i .nil) = ys := srtD_unique hsd hs' (hperm.trans hp'.symm) fun a ha b hb => hall a (hperm.mem_iff.mp ha) b (hperm.mem_iff.mp hb)
      have rdo : Rds g α (outOf vs p) ys := by
        rw [← hys]
        exact rd.perm _ fun i hi => by have := List.mem_range.mp (hp1.mem_iff.mp hi); lia
      refine ⟨put g (s.heap.objs.size + 1) (lobj (outOf vs p) m), ?_, .list (put_self _ _ _) (rdo.mono ?_ fun _ _ e => e)⟩
      · exact Step.add S hk hz (Nat.le_succ _) ho rfl rfl
      · exact (Ext.put (n := s.heap.objs.size) (Nat.le_succ _) (S.fresh (Nat.le_succ _))).1
end
end Mine
end
section
open PySem PySem.W PyProof.Rows PySem.Calls
set_option autoImplicit false
namespace Mine
section
variable {K g : Gh} {h h' : Heap} {env : Env} {sc : Scope} {α : List Addr} {σ : Sg} {μ : Mu}
/-- an own list gets new contents -/
theorem St.upd (S : St K g h env sc α σ μ) {k : Nat} {a : Addr} {ds ds' : List D} {vs' : List Value} {n' : Nat} (hk : α[k]? = some a) (hμ : μ[k]? = some (some ds)) (ho : h'.get? a = some (lobj vs' n'))
    (hne : ∀ b o, b ≠ a → h.get? b = some o → h'.get? b = some o) (hs : h.objs.size ≤ h'.objs.size) (hr : Rds g [] vs' ds') : St K g h' env sc α σ (μ.set k (some ds')) := by
  obtain ⟨a0, vs0, n0, e0, _, _, hga⟩ := S.own k ds hμ
  rw [hk] at e0; cases e0
  have hm : a ∈ α := List.mem_of_getElem? hk
  have gk : ∀ b o, g b = some o → h'.get? b = some o := fun b o e => hne b o (fun q => by rw [q, hga] at e; cases e) (S.sub b o e)
  have sk : ∀ b, Stor env b → ∀ o, h.get? b = some o → h'.get? b = some o := fun b hb o e => hne b o (fun q => (S.stor b hb).2.1 (q ▸ hm)) e
  refine ⟨S.base, gk, S.kind, S.glb, S.seesG, S.seesL, S.seesC, ?_, fun x e => ?_, S.apart, S.locc, fun x d e => let ⟨v, p, q⟩ := S.vars x d e; ⟨v, p.keeps sk, q⟩,
    fun b e => let ⟨x, y, z⟩ := S.stor b e; ⟨x, y, Nat.lt_of_lt_of_le z hs⟩, fun j es e => ?_, S.nodup, fun b hb => Nat.lt_of_lt_of_le (S.lt b hb) hs, by rw [List.length_set]; exact S.len⟩
  · obtain ⟨m, o, es, ep, x, r⟩ := S.loc
    exact ⟨m, o, es, ep, sk _ (.inl rfl) o x, r⟩
  · obtain ⟨c, v, x, o, y, z⟩ := S.cel x e
    exact ⟨c, v, x, o, sk _ (.inr ⟨_, x⟩) o y, z⟩
  · by_cases q : k = j
    · subst q
      have hlt : k < μ.length := (List.getElem?_eq_some_iff.mp hμ).1
      rw [List.getElem?_set_self hlt] at e
      cases e
      exact ⟨a, vs', n', hk, ho, hr, hga⟩
    · rw [List.getElem?_set_ne q] at e
      obtain ⟨b, vs, n, x, y, z, u⟩ := S.own j es e
      refine ⟨b, vs, n, x, hne b _ (fun w => q ?_) y, z, u⟩
      have l1 : k < α.length := (List.getElem?_eq_some_iff.mp hk).1
      exact (List.getElem?_inj l1 S.nodup).mp (hk.trans (w ▸ x.symm))
/-- an own list stands still from now on -/
theorem St.freeze (S : St K g h env sc α σ μ) {k : Nat} {a : Addr} {ds : List D} {vs : List Value} {n : Nat} (hk : α[k]? = some a) (hμ : μ[k]? = some (some ds)) (ho : h.get? a = some (lobj vs n)) :
    St K (put g a (lobj vs n)) h env sc α σ (μ.set k none) ∧ (∀ b o, g b = some o → put g a (lobj vs n) b = some o) ∧ (∀ b, b ≠ a → put g a (lobj vs n) b = g b) := by
  obtain ⟨a0, vs0, n0, e0, _, _, hga⟩ := S.own k ds hμ
  rw [hk] at e0; cases e0
  have hm : a ∈ α := List.mem_of_getElem? hk
  have up : ∀ b o, g b = some o → put g a (lobj vs n) b = some o := fun b o e => by
    rw [put_ne _ _ (fun q => by rw [q, hga] at e; cases e)]; exact e
  refine ⟨⟨fun b o e => up _ _ (S.base b o e), fun b o e => ?_, S.kind, S.glb, S.seesG, S.seesL, S.seesC, S.loc, S.cel, S.apart, S.locc, fun x d e => let ⟨v, p, q⟩ := S.vars x d e; ⟨v, p, q.mono up fun _ _ e => e⟩,
    fun b e => ?_, fun j es e => ?_, S.nodup, S.lt, by rw [List.length_set]; exact S.len⟩, up, fun b hb => put_ne _ _ hb⟩
  · by_cases q : b = a
    · subst q; rw [put_self] at e; cases e; exact ho
    · rw [put_ne _ _ q] at e; exact S.sub b o e
  · obtain ⟨x, y, z⟩ := S.stor b e
    exact ⟨by rw [put_ne _ _ (fun (q : b = a) => y (q ▸ hm))]; exact x, y, z⟩
  · by_cases q : k = j
    · subst q
      have hlt : k < μ.length := (List.getElem?_eq_some_iff.mp hμ).1
      rw [List.getElem?_set_self hlt] at e
      cases e
    · rw [List.getElem?_set_ne q] at e
      obtain ⟨b, ws, m, x, y, z, u⟩ := S.own j es e
      have l1 : k < α.length := (List.getElem?_eq_some_iff.mp hk).1
      have hb : b ≠ a := fun w => q ((List.getElem?_inj l1 S.nodup).mp (hk.trans (w ▸ x.symm)))
      exact ⟨b, ws, m, x, y, z.mono up fun _ _ e => e, by rw [put_ne _ _ hb]; exact u⟩
/-- a cell or a name space of no name's is changed -/
theorem St.keepBut (S : St K g h env sc α σ μ) {C : Addr} (hC : g C = none) (hS : ¬ Stor env C) (hA : C ∉ α) (hk : ∀ b o, b ≠ C → h.get? b = some o → h'.get? b = some o) (hs : h.objs.size ≤ h'.objs.size) : St K g h' env sc α σ μ := by
  have gk : ∀ b o, g b = some o → h'.get? b = some o := fun b o e => hk b o (fun q => by rw [q, hC] at e; cases e) (S.sub b o e)
  have sk : ∀ b, Stor env b → ∀ o, h.get? b = some o → h'.get? b = some o := fun b hb o e => hk b o (fun q => hS (q ▸ hb)) e
  refine ⟨S.base, gk, S.kind, S.glb, S.seesG, S.seesL, S.seesC, ?_, fun x e => ?_, S.apart, S.locc, fun x d e => let ⟨v, p, q⟩ := S.vars x d e; ⟨v, p.keeps sk, q⟩,
    fun b e => let ⟨x, y, z⟩ := S.stor b e; ⟨x, y, Nat.lt_of_lt_of_le z hs⟩, fun j es e => ?_, S.nodup, fun b hb => Nat.lt_of_lt_of_le (S.lt b hb) hs, S.len⟩
  · obtain ⟨m, o, es, ep, x, r⟩ := S.loc
    exact ⟨m, o, es, ep, sk _ (.inl rfl) o x, r⟩
  · obtain ⟨c, v, x, o, y, z⟩ := S.cel x e
    exact ⟨c, v, x, o, sk _ (.inr ⟨_, x⟩) o y, z⟩
  · obtain ⟨b, vs, n, x, y, z, u⟩ := S.own j es e
    exact ⟨b, vs, n, x, hk b _ (fun w => hA (w ▸ List.mem_of_getElem? x)) y, z, u⟩
end
theorem Step.upd {K g : Gh} {s s' : Shared} {env : Env} {sc : Scope} {α : List Addr} {σ : Sg} {μ : Mu} (S : St K g s.heap env sc α σ μ) {k : Nat} {a : Addr} {ds ds' : List D} {vs' : List Value} {n' : Nat} (hk : α[k]? = some a) (hμ : μ[k]? = some (some ds)) (ho : s'.heap.get? a = some (lobj vs' n'))
    (hne : ∀ b o, b ≠ a → s.heap.get? b = some o → s'.heap.get? b = some o) (hs : s.heap.objs.size ≤ s'.heap.objs.size) (hr : Rds g [] vs' ds') (hg : s'.gens = s.gens) (hos : s'.os = s.os) : Step K g s g s' env sc α σ (μ.set k (some ds')) :=
  ⟨Ext.refl _ _, S.upd hk hμ ho hne hs hr, ⟨hs, fun b o e hb => hne b o (fun q => hb (q ▸ List.mem_of_getElem? hk)) e⟩, hg, hos⟩
theorem updKeep (h : Heap) (a : Addr) (f : Array Value → Array Value) : (∀ b o, b ≠ a → h.get? b = some o → (h.update a (Obj.mapSeq f)).get? b = some o) ∧ h.objs.size ≤ (h.update a (Obj.mapSeq f)).objs.size :=
  ⟨fun b o hb e => by rw [Heap.get?_update_ne _ _ _ _ hb]; exact e, by rw [Heap.size_update]; exact Nat.le_refl _⟩
theorem updAt {h : Heap} {a : Addr} {vs ws : List Value} {n : Nat} (ho : h.get? a = some (lobj vs n)) (f : Array Value → Array Value) (hf : f vs.toArray = ws.toArray) : ∃ m, (h.update a (Obj.mapSeq f)).get? a = some (lobj ws m) :=
  ⟨_, by have := get?_update_seq (c := "list") ho f; rw [hf] at this; exact this⟩
section
variable {w : World} {A : Around} {E : Value → Shared → Prop} {s : Shared}
theorem setItemX {l : Addr} {vs : List Value} {n : Nat} {k : Int} {t : Tok} {v : Value} {Q : Unit → Shared → Prop} (ho : s.heap.get? l = some (lobj vs n)) (h0 : 0 ≤ k) (hn : k.toNat < vs.length) (hf : vs.length ≤ 1000)
    (hQ : Q () { s with heap := s.heap.update l (Obj.mapSeq (·.setIfInBounds k.toNat v)) }) : wpAny (MM w) A (setItem (.ref l) (.int k t) v) Q E s := by
  have hl := isListOf ho
  have hfit : k < 2 ^ 63 := by
    have : (2 : Int) ^ 63 = 9223372036854775808 := by decide
    lia
  unfold setItem
  try with_reducible refine wpAny_holding ?_
  first | refine wpAny_bind (wpAny_pure ?_) | skip
  refine wpAny_bind (wpAny_sequenceKey hl.typeIs (by decide) ?_)
  refine wpAny_bind (wpAny_callSpecial?_slot (name := Str.ofString "__setitem__") hl.typeIs slot_list_setitem (wpAny_call_entry slot_list_setitem hl.typeIs entry_list_setitem ?_ (args_list_setitem _ _ _)))
  show wpAny _ _ (Builtin.List.listSubscript? (.int k t) >>= _) _ _ s
  refine wpAny_bind (wpAny_listSubscript_int (fitsIndex_of h0 hfit) ?_)
  clear hfit
  obtain ⟨j, rfl⟩ := Int.eq_ofNat_of_zero_le h0
  have hj : j < vs.toArray.size := by simpa using hn
  have hx' : vs.toArray[j]? = some vs.toArray[j] := Array.getElem?_eq_getElem hj
  show wpAny _ _ ((seqItemAt l j >>= fun r => pure (r.map (j, ·))) >>= _) _ _ s
  refine wpAny_bind (wpAny_bind (wpAny_seqItemAt ho rfl (wpAny_pure ?_)))
  rw [hx']
  show wpAny _ _ (setSeqItemAt l j v >>= _) _ _ s
  refine wpAny_bind (wpAny_setSeqItemAt ho rfl ?_)
  first
    | exact wpAny_bind (wpAny_pure (wpAny_pure ⟨.none, rfl, wpAny_pure hQ⟩))
    | exact wpAny_pure ⟨.none, rfl, wpAny_pure hQ⟩
end
section
variable {K : Gh} {w : World} {r : Nat} {mg mb : Str → Option Value} {sc : Scope} {σ : Sg} {μ μ1 μ2 μ3 : Mu}
/-- what is of this type, with no name space of its own -/
noncomputable def OfType (a : D) (μ : Mu) (T : String) : Prop := match a with
  | .str _ => T = "str"
  | .bytes _ => T = "bytes"
  | .own k => T = "list" ∧ ∃ ds, μ[k]? = some (some ds)
  | _ => False
theorem OfType.is {a : D} {T : String} (h : OfType a μ T) {g : Gh} {s : Shared} {env : Env} {α : List Addr} {v : Value} (S : St K g s.heap env sc α σ μ) (hv : Rd g α v a) :
    s.TypeIs v T ∧ ∀ x, v = .ref x → ∃ ob, s.heap.get? x = some ob ∧ ob.dict = none := by
  cases a with
  | str _ => cases (h : T = _); obtain ⟨_, rfl⟩ := hv.str_; exact ⟨PySem.typeIs_str _ _ _, fun x e => by cases e⟩
  | bytes _ => cases (h : T = _); obtain ⟨_, _, rfl, _⟩ := hv.bytes_; exact ⟨PySem.W.typeIs_bytes _ _ _, fun x e => by cases e⟩
  | own k =>
    obtain ⟨a, rfl, ha⟩ := hv.own_
    obtain ⟨rfl, ds, hd⟩ : T = "list" ∧ ∃ ds, μ[k]? = some (some ds) := h
    obtain ⟨b, vs, n, hb, ho, _, _⟩ := S.own _ _ hd
    cases ha.symm.trans hb
    exact ⟨⟨_, ho, rfl⟩, fun x e => by cases e; exact ⟨_, ho, rfl⟩⟩
  | _ => exact h.elim
theorem Ev.meth {o : Expr} {name : Str} {ap p : Pos} {args : List Expr} {T id : String} {a : D} {ds : List D} {d : D} (hb : BaseOk o) (hline : (ap.endLine == p.line) = true) (hs : ∀ e ∈ args, StarOk e) (hn : args.length < 30)
    (pa : PlainAttrs T) (slot : Slot T name id) (hty : typeOf (.builtin id) = pure (.type "method_descriptor")) (h1 : Ev K w r sc σ μ o a μ1) (hT : OfType a μ1 T) (ha : Evs K w r sc σ μ1 args ds μ2)
    (ho : Opn K w r sc σ μ2 (a :: ds) (fun vs => PySem.call (.builtin id) vs) d μ3) : Ev K w r sc σ μ (.Call (.Attribute o name ap) args [] p) d μ3 := fun g s env α A S R => by
  refine wpAny_Call_method (hb name env) ?_ hline pa slot hty (wpAny_mono (h1 g s env α A S R) (fun v s1 q => ?_) fun _ _ x => x)
  · rw [star_all p hs]
    have hk : (backToKw p (keywordEach [] env)).all (fun x => x.1.isSome) = true := rfl
    rw [hk]
    simp only [List.length_nil, List.isEmpty_nil, if_true, Nat.add_zero, Bool.true_and, decide_eq_true_eq]
    exact hn
  · obtain ⟨g1, P1, r1⟩ := q
    obtain ⟨t1, t2⟩ := hT.is P1.st r1
    refine ⟨t1, t2, callWith_builtin (star_plain p hs) (evalArgs_all (star_plain p hs) (wpAny_mono (ha g1 s1 env α A p P1.st R) (fun vs s2 q => ?_) fun _ _ x => x))⟩
    obtain ⟨g2, P2, r2⟩ := q
    refine wpAny_mono (ho g2 s2 env α A (v :: vs) P2.st R (.cons (r1.mono P2.ext.1 fun _ _ e => e) r2)) (fun u s3 q => ?_) fun _ _ x => x
    obtain ⟨g3, P3, r3⟩ := q
    exact ⟨g3, (P1.trans P2).trans P3, r3⟩
theorem appendD {k : Nat} {ds : List D} {x : D} (hk : μ[k]? = some (some ds)) (hx : D.plain x = true) (hl : ds.length ≤ 1000) : Opn K w r sc σ μ [.own k, x] (fun vs => PySem.call (.builtin "list.append") vs) .nil (μ.set k (some (ds ++ [x]))) := fun g s env α A vs S R h => by
  obtain ⟨v, u, rfl, hv, hu⟩ := h.two
  obtain ⟨a, rfl, ha⟩ := hv.own_
  ·
    obtain ⟨b, ws, n, hb, ho, hr, _⟩ := S.own _ _ hk
    rw [ha] at hb; cases hb
    refine wpAny_list_append_plain ⟨n, ho⟩ (fun h' hp hsb => ?_) (by rw [List.size_toArray, hr.length]; exact Nat.le_trans hl (by decide))
    obtain ⟨m, ho'⟩ := hp
    refine ⟨g, Step.upd (s' := { s with heap := h' }) S ha hk (vs' := ws ++ [u]) (n' := m) ?_ (fun b o hb e => hsb.extBut b o hb e) ?_ (hr.append (.cons (hu.plain hx) .nil)) rfl rfl, .nil⟩
    · rw [ho']; simp [lobj]
    · exact Nat.le_of_eq hsb.1.symm
theorem popD {k : Nat} {ds : List D} {x : D} (hk : μ[k]? = some (some ds)) (hx : ds.getLast? = some x) (hl : ds.length ≤ 1000) : Opn K w r sc σ μ [.own k] (fun vs => PySem.call (.builtin "list.pop") vs) x (μ.set k (some ds.dropLast)) := fun g s env α A vs S R h => by
  obtain ⟨v, rfl, hv⟩ := h.one
  obtain ⟨a, rfl, ha⟩ := hv.own_
  ·
    obtain ⟨b, ws, n, hb, ho, hr, _⟩ := S.own _ _ hk
    rw [ha] at hb; cases hb
    have hx' : ds[ds.length - 1]? = some x := by rw [← List.getLast?_eq_getElem?]; exact hx
    obtain ⟨y, hy, ry⟩ := hr.at hx'
    have hlen := hr.length
    have hy' : ws.toArray[ws.toArray.size - 1]? = some y := by simp only [List.size_toArray, List.getElem?_toArray, hlen]; exact hy
    refine call_meets F.slot_list_pop ⟨_, ho, rfl⟩ F.entry_list_pop (F.args_list_pop_1 _) (MeetsSeq.list_pop_last a ws.toArray n y hy' (by rw [List.size_toArray, hlen]; exact Nat.le_trans hl (by decide))) ⟨ho, ?_⟩
    obtain ⟨m, ho'⟩ := updAt (ws := ws.dropLast) ho (fun xs => xs.eraseIdxIfInBounds (ws.toArray.size - 1)) (by
      apply Array.toList_inj.mp
      have hp : 0 < ws.length := by rw [hlen]; cases ds <;> simp_all
      simp only [List.size_toArray]
      rw [Array.eraseIdxIfInBounds, dif_pos (by simpa using (by lia : ws.length - 1 < ws.length))]
      simp only [Array.toList_eraseIdx]
      rw [List.eraseIdx_length_sub_one])
    exact ⟨g, Step.upd S ha hk ho' (updKeep _ _ _).1 (updKeep _ _ _).2 hr.dropLast rfl rfl, ry.up⟩
end
end Mine
end
section
open PySem PySem.W PyProof.Rows PySem.Calls
open Builtin Builtin.Str
set_option autoImplicit false
namespace Mine
theorem forIn_run {σ : Type} {F : Nat → σ → Sem (ForInStep σ)} {g : Nat → σ} : ∀ (l : List Nat) (i : Nat), (∀ x j, i ≤ j → j < i + l.length → F x (g j) = pure (.yield (g (j + 1)))) → forIn l (g i) F = (pure (g (i + l.length)) : Sem σ)
  | [], i, h => by simp
  | x :: l, i, h => by
    rw [List.forIn_cons, h x i (Nat.le_refl _) (by simp)]
    simp only [pure_bind]
    rw [forIn_run l (i + 1) fun x j a b => h x j (by lia) (by simp at b ⊢; lia)]
    simp only [List.length_cons]
    congr 2; lia
theorem latin1_run (id : String) (b : Array UInt8) (hb : b.size ≤ 1000) : _codecs.runDecoder id _codecs.latin1Decoder none true b 0 [] = pure ((b.toList.map UInt8.toNat).toArray, b.size) := by
  unfold _codecs.runDecoder
  simp only [Std.Legacy.Range.forIn_eq_forIn_range']
  have hsz : ([:b.size] : Std.Legacy.Range).size = b.size := by simp [Std.Legacy.Range.size]
  rw [hsz]
  have key : ∀ F : Nat → Nat × Array Nat × _codecs.Faults → Sem (ForInStep (Nat × Array Nat × _codecs.Faults)), (∀ x j, 0 ≤ j → j < 0 + (List.range' 0 b.size).length → F x (j, ((b.toList.take j).map UInt8.toNat).toArray, {}) = pure (.yield (j + 1, ((b.toList.take (j + 1)).map UInt8.toNat).toArray, {}))) →
      (forIn (List.range' 0 b.size) (0, #[], {}) F >>= fun s => pure (s.2.1, s.1)) = (pure ((b.toList.map UInt8.toNat).toArray, b.size) : Sem _) := by
    intro F hF
    have := forIn_run (F := F) (g := fun i => ((i, ((b.toList.take i).map UInt8.toNat).toArray, ({} : _codecs.Faults)) : Nat × Array Nat × _codecs.Faults)) (List.range' 0 b.size) 0 hF
    simp only [List.take_zero, List.map_nil, List.length_range', Nat.zero_add] at this
    rw [this, pure_bind, List.take_of_length_le (by simp)]
  refine key _ fun x j h1 h2 => ?_
  simp only [List.length_range', Nat.zero_add] at h2
  have h3 : ¬ (((b.toList.take j).map UInt8.toNat).toArray.size > sizeLine) := by
    simp only [List.size_toArray, List.length_map, List.length_take, Array.length_toList]
    have : sizeLine = 16777216 := sizeLine_eq
    lia
  dsimp only
  rw [if_neg h3, if_neg (by lia)]
  simp only [_codecs.latin1Decoder]
  show pure _ = _
  congr 2
  simp [List.take_add_one, h2]
theorem decode_eq {c : UInt8} {cs : List UInt8} {t u : Tok} : «bytes.decode» ⟨[.bytes (c :: cs).toArray t, .str (Str.ofString "latin1") u], []⟩ = (mkStr (PySem.Str.ofString "utf-8") >>= fun _ => mkStr (PySem.Str.ofString "latin1") >>= fun e => mkStr (PySem.Str.ofString "bytes.decode") >>= fun d =>
    PySem.call (.builtin "_codecs.decode.text") [.bytes (c :: cs).toArray t, e, .none, d] >>= fun v => ret v) := by kernel_rfl
theorem road_latin {id : String} {b : Array UInt8} : _codecs.decodeRoad id b (PySem.Str.ofString "latin1") none [] = (_codecs.runDecoder id _codecs.latin1Decoder none true b 0 [] >>= fun r => mkStr ⟨r.1⟩) := by kernel_rfl
theorem args_decode2 (a b : Value) : argsOk "bytes.decode" ⟨[a, b], []⟩ := by unfold argsOk; kernel_rfl
theorem meets_text {b : Array UInt8} {t t1 t2 : Tok} {d : PySem.Str} (hb : b.size ≤ 1000) :
    Meets («_codecs.decode.text» ⟨[.bytes b t, .str (PySem.Str.ofString "latin1") t1, .none, .str d t2], []⟩) (fun _ R s => R (.ok (.ret (.str ⟨(b.toList.map UInt8.toNat).toArray⟩ s.toks))) { s with toks := s.toks + 1 }) := by
  refine .of_wp fun prog w A R s h => ?_
  show wpAny _ _ (Bytes.bytesLike _ (.bytes b t) >>= fun r => _) _ _ s
  refine wpAny_bind (wpAny_of_eq KBd.like_eq ?_)
  refine wpAny_bind (wpAny_of_eq KBd.held_eq ?_)
  show wpAny _ _ (_codecs.decodeRoad _ b (PySem.Str.ofString "latin1") none [] >>= fun v => _) _ _ s
  rw [road_latin, latin1_run _ _ hb]
  refine wpAny_bind (wpAny_bind (wpAny_pure ?_))
  refine wpAny_mkStr (wpAny_pure ⟨_, rfl, h⟩) ?_
  show ((b.toList.map UInt8.toNat).toArray).size ≤ sizeLine
  have : sizeLine = 16777216 := sizeLine_eq
  simp; lia
theorem meets_decode {c : UInt8} {cs : List UInt8} {t u : Tok} (hb : (c :: cs).toArray.size ≤ 1000) :
    Meets («bytes.decode» ⟨[.bytes (c :: cs).toArray t, .str (Str.ofString "latin1") u], []⟩) (fun _ R s => ∀ t' k, R (.ok (.ret (.str ⟨((c :: cs).toArray.toList.map UInt8.toNat).toArray⟩ t'))) { s with toks := k }) := by
  refine .of_wp fun prog w A R s h => ?_
  rw [decode_eq]
  refine wpAny_bind (wpAny_mkStr ?_ (by decide))
  refine wpAny_bind (wpAny_mkStr ?_ (by decide))
  refine wpAny_bind (wpAny_mkStr ?_ (by decide))
  exact wpAny_bind (call_function_meets KBd.kind_text KBd.plain_text KBd.entry_text (KBd.args_text _ _ _ _) (meets_text hb) (wpAny_pure ⟨_, rfl, h _ _⟩))
section
variable {K : Gh} {w : World} {r : Nat} {mg mb : Str → Option Value} {sc : Scope} {σ : Sg} {μ μ1 μ2 μ3 : Mu}
theorem decodeD {b : List Nat} (hz : b.length ≤ 1000) (h1 : b ≠ []) : Opn K w r sc σ μ [.bytes b, .str (Str.ofString "latin1")] (fun vs => PySem.call (.builtin "bytes.decode") vs) (.str ⟨b.toArray⟩) μ := fun g s env α A vs S R h => by
  obtain ⟨v, u, rfl, hv, hu⟩ := h.two
  obtain ⟨ba, t, rfl, e⟩ := hv.bytes_
  obtain ⟨t2, rfl⟩ := hu.str_
  subst e
  obtain ⟨_ | ⟨c, cs⟩⟩ := ba
  · exact absurd rfl h1
  · exact call_meets FB.slot_bytes_decode (PySem.W.typeIs_bytes _ _ _) FB.entry_bytes_decode (args_decode2 _ _) (meets_decode (Nat.le_trans (Nat.le_of_eq (List.length_map (as := c :: cs) UInt8.toNat).symm) hz)) fun t' k => done S (.str _ _) _
end
section
variable {w : World} {A : Around} {E : Value → Shared → Prop} {s : Shared}
theorem tlook {l : Addr} {vs : List Value} {n c : Nat} {x : Str} {t : Tok} {Q : Mapped → Shared → Prop} (ho : s.heap.get? l = some (lobj vs n)) (hv : vs[c]? = some (.str x t)) (hc : c < 256) (hq : ∀ k, Q (.text x) { s with toks := k }) : wpAny (MM w) A (tableLookup (.ref l) c) Q E s := by
  unfold tableLookup
  refine wpAny_bind (wpAny_attempt (wpAny_bind (wpAny_mkInt (wpAny_getItem_list (s := { s with toks := s.toks + 1 }) ⟨_, ho, rfl, n, rfl⟩ (Int.natCast_nonneg c) ?_ (x := .str x t) (by simpa using hv) ?_))))
  · have : (2 : Int) ^ 63 = 9223372036854775808 := by decide
    lia
  · dsimp only
    refine wpAny_bind (m := PySem.asInt? (.str x t)) (wpAny_pure ?_)
    refine wpAny_bind (m := PySem.asStr? (.str x t)) (wpAny_pure ?_)
    exact wpAny_pure (hq _)
end
end Mine
end
section
open PySem PySem.W PyProof.Rows PySem.Calls
open Builtin Builtin.Str
set_option autoImplicit false
namespace Mine
noncomputable abbrev TrSt := List Str × Nat × Bool × List (Nat × Option Nat) × Bool
noncomputable def TrInv (hm : Nat → Str) (dn : List Nat) (st : TrSt) : Prop :=
  st.1.reverse = dn.map hm ∧ st.2.1 ≤ dn.length * 1000 ∧ st.2.2.2.2 = false ∧ ∀ c a, st.2.2.2.1.lookup c = some a → ∃ d, a = some d ∧ hm c = ⟨#[d]⟩
theorem forIn_tr {w : World} {A : Around} {E : Value → Shared → Prop} {s : Shared} {hm : Nat → Str} {F : Nat → TrSt → Sem (ForInStep TrSt)} :
    ∀ (l dn : List Nat) (st : TrSt) (tk : Nat), (∀ c ∈ l, ∀ dn' st' tk' (R : ForInStep TrSt → Shared → Prop), dn'.length < dn.length + l.length → TrInv hm dn' st' → (∀ st'' k, TrInv hm (dn' ++ [c]) st'' → R (.yield st'') { s with toks := k }) → wpAny (MM w) A (F c st') R E { s with toks := tk' }) →
      TrInv hm dn st → ∀ {Q : TrSt → Shared → Prop}, (∀ st' k, TrInv hm (dn ++ l) st' → Q st' { s with toks := k }) → wpAny (MM w) A (forIn l st F) Q E { s with toks := tk }
  | [], dn, st, tk, hF, hi, Q, hq => by
    rw [List.forIn_nil]; exact wpAny_pure (hq _ _ (by simpa using hi))
  | c :: l, dn, st, tk, hF, hi, Q, hq => by
    rw [List.forIn_cons]
    refine wpAny_bind (hF c (by simp) dn st tk _ (by simp) hi fun st' k hi' => ?_)
    dsimp only
    refine forIn_tr l (dn ++ [c]) st' k (fun c' hc dn' st'' tk' R hlt => hF c' (by simp [hc]) dn' st'' tk' R (by simp at hlt ⊢; lia)) hi' fun st' k hi'' => hq st' k (by simpa using hi'')
theorem notLong {n : Nat} (h : n ≤ 1000000) : ¬ (tooLong n = true) := by
  unfold tooLong
  have : sizeLine = 16777216 := sizeLine_eq
  simp; lia
theorem foldl_cps : ∀ (l : List Str) (acc : Array Nat), (l.foldl (fun acc p => acc ++ p.cps) acc).toList = acc.toList ++ joinS l
  | [], acc => by simp [joinS]
  | x :: l, acc => by simp [joinS, foldl_cps l]
theorem joinS_len : ∀ (l : List Str) (m : Nat), (∀ x ∈ l, x.length ≤ m) → (joinS l).length ≤ l.length * m
  | [], m, h => by simp [joinS]
  | x :: l, m, h => by
    have a := joinS_len l m fun y hy => h y (by simp [hy])
    have b := h x (by simp)
    have e : x.cps.toList.length = x.length := by simp [Str.length]
    simp only [joinS, List.length_append, List.length_cons, Nat.add_mul]
    lia
noncomputable def trTail (l : Addr) (c : Nat) (pieces : List Str) (total : Nat) (fast : Bool) (known : List (Nat × Option Nat)) (drop : Bool) : Sem (ForInStep TrSt) := tableLookup (.ref l) c >>= fun x => match x with
  | .keep => pure (.yield (⟨#[c]⟩ :: pieces, total + 1, fast, known, drop))
  | .drop => pure (.yield (pieces, total, fast, known, true))
  | .char d => pure (.yield (⟨#[d]⟩ :: pieces, total + 1, fast, known, drop))
  | .text t => pure (.yield (t :: pieces, total + t.length, fast, known, drop))
noncomputable def trSlow (l : Addr) (c : Nat) (pieces : List Str) (total : Nat) (fast : Bool) (known : List (Nat × Option Nat)) (drop : Bool) : Sem (ForInStep TrSt) :=
  if drop = true then tableLookup (.ref l) c >>= fun x => match x with
    | .drop => pure (.yield (pieces, total, fast, known, drop))
    | _ => trTail l c pieces total fast known false
  else trTail l c pieces total fast known drop
noncomputable def trAns (l : Addr) (c : Nat) (pieces : List Str) (total : Nat) (fast : Bool) (known : List (Nat × Option Nat)) (drop : Bool) : Option (Option Nat) → Sem (ForInStep TrSt)
  | some (some d) => pure (.yield (⟨#[d]⟩ :: pieces, total + 1, fast, known, drop))
  | some none => pure (.yield (pieces, total, fast, known, drop))
  | none => rule "str.translate.fast-road-left" >>= fun _ => trSlow l c pieces total false known drop
noncomputable def trOf (c : Nat) : Mapped → Option (Option Nat)
  | .keep => some (some c)
  | .drop => some none
  | .char d => if d < 128 then some (some d) else none
  | .text t => if (t.length == 1 && t.cps.all fun x => decide (x < 128)) = true then some t.cps[0]? else none
noncomputable def trNew (l : Addr) (c : Nat) (pieces : List Str) (total : Nat) (fast : Bool) (known : List (Nat × Option Nat)) (drop : Bool) (ans : Option (Option Nat)) : Sem (ForInStep TrSt) := match ans with
  | some a => pure ans >>= fun a' => trAns l c pieces total fast ((c, a) :: known) drop a'
  | _ => pure ans >>= fun a' => trAns l c pieces total fast known drop a'
noncomputable def trFast (l : Addr) (c : Nat) (pieces : List Str) (total : Nat) (fast : Bool) (known : List (Nat × Option Nat)) (drop : Bool) : Option (Option Nat) → Sem (ForInStep TrSt)
  | some a => pure (some a) >>= fun ans => trAns l c pieces total fast known drop ans
  | none => tableLookup (.ref l) c >>= fun x => trNew l c pieces total fast known drop (trOf c x)
noncomputable def trBody (l : Addr) (c : Nat) (pieces : List Str) (total : Nat) (fast : Bool) (known : List (Nat × Option Nat)) (drop : Bool) : Sem (ForInStep TrSt) :=
  if fast = true then trFast l c pieces total fast known drop (known.lookup c) else trSlow l c pieces total fast known drop
noncomputable def trStep (l : Addr) (c : Nat) (st : TrSt) : Sem (ForInStep TrSt) :=
  if tooLong st.2.1 = true then (unsupported "str.translate:memory" : Sem Unit) >>= fun _ => trBody l c st.1 st.2.1 st.2.2.1 st.2.2.2.1 st.2.2.2.2 else trBody l c st.1 st.2.1 st.2.2.1 st.2.2.2.1 st.2.2.2.2
noncomputable def trEnd (st : TrSt) : Sem Fin := if tooLong st.2.1 = true then (unsupported "str.translate:memory" : Sem Unit) >>= fun _ => retStr ⟨st.1.reverse.foldl (fun acc p => acc ++ p.cps) #[]⟩ else retStr ⟨st.1.reverse.foldl (fun acc p => acc ++ p.cps) #[]⟩
theorem translate_eq (x : Str) (t : Tok) (l : Addr) : «str.translate» ⟨[.str x t, .ref l], []⟩ = if (x.length == 0) = true then (rule "str.translate.empty" >>= fun _ => strUnchanged (.str x t) x >>= fun v => ret v) else forIn x.cps (([], 0, x.cps.all fun x => decide (x < 128), [], false) : TrSt) (trStep l) >>= trEnd := by
  rfl
section
variable {w : World} {A : Around} {E : Value → Shared → Prop} {s : Shared} {l : Addr} {vs : List Value} {n c : Nat} {hm : Nat → Str} {pieces : List Str} {total : Nat} {known : List (Nat × Option Nat)} {dn : List Nat} {R : ForInStep TrSt → Shared → Prop} {fast : Bool} {u : Tok}
theorem trSlow_ok (ho : s.heap.get? l = some (lobj vs n)) (hv : vs[c]? = some (.str (hm c) u)) (hc : c < 256) (hi : TrInv hm dn (pieces, total, fast, known, false)) (h3 : (hm c).length ≤ 1000) (hR : ∀ st k, TrInv hm (dn ++ [c]) st → R (.yield st) { s with toks := k }) (tk : Nat) :
    wpAny (MM w) A (trSlow l c pieces total fast known false) R E { s with toks := tk } := by
  refine wpAny_bind (tlook (s := { s with toks := tk }) ho hv hc fun k => wpAny_pure (hR _ _ ⟨?_, ?_, rfl, hi.2.2.2⟩))
  · show (hm c :: pieces).reverse = _
    rw [List.reverse_cons, List.map_append, hi.1]; rfl
  · show total + (hm c).length ≤ _
    rw [List.length_append, Nat.add_mul]
    exact Nat.add_le_add hi.2.1 h3
theorem trDone (hi : TrInv hm dn (pieces, total, fast, known, false)) {d : Nat} (hd : hm c = ⟨#[d]⟩) : TrInv hm (dn ++ [c]) (⟨#[d]⟩ :: pieces, total + 1, fast, known, false) := by
  refine ⟨?_, ?_, rfl, hi.2.2.2⟩
  · show (⟨#[d]⟩ :: pieces).reverse = _
    rw [List.reverse_cons, List.map_append, hi.1, ← hd]; rfl
  · show total + 1 ≤ _
    rw [List.length_append, Nat.add_mul]
    exact Nat.add_le_add hi.2.1 (show 1 ≤ 1000 by decide)
theorem trOf_some {a : Option Nat} (h : trOf c (.text (hm c)) = some a) : ∃ d, a = some d ∧ hm c = ⟨#[d]⟩ := by
  obtain ⟨h1, h2⟩ := iteSome h
  have h1 := beq_iff_eq.mp ((Bool.and_eq_true _ _).mp h1).1
  generalize hm c = y at h1 h2
  obtain ⟨⟨_ | ⟨d, _ | ⟨e, ll⟩⟩⟩⟩ := y
  · cases h1
  · exact ⟨d, (Option.some.inj h2).symm, rfl⟩
  · cases Nat.succ.inj h1
theorem trBody_ok (ho : s.heap.get? l = some (lobj vs n)) (hv : vs[c]? = some (.str (hm c) u)) (hc : c < 256) (hi : TrInv hm dn (pieces, total, fast, known, false)) (h3 : (hm c).length ≤ 1000) (hR : ∀ st k, TrInv hm (dn ++ [c]) st → R (.yield st) { s with toks := k }) (tk : Nat) :
    wpAny (MM w) A (trBody l c pieces total fast known false) R E { s with toks := tk } := by
  cases fast with
  | false => exact trSlow_ok ho hv hc hi h3 hR tk
  | true =>
    show wpAny (MM w) A (trFast l c pieces total true known false (known.lookup c)) R E _
    cases hkn : known.lookup c with
    | some a =>
      obtain ⟨d, rfl, hd⟩ := hi.2.2.2 c a hkn
      exact wpAny_bind (wpAny_pure (wpAny_pure (hR _ _ (trDone hi hd))))
    | none =>
      refine wpAny_bind (tlook (s := { s with toks := tk }) ho hv hc fun k => ?_)
      cases e : trOf c (.text (hm c)) with
      | none => exact wpAny_bind (wpAny_pure (wpAny_bind (wpAny_rule (trSlow_ok (fast := false) ho hv hc ⟨hi.1, hi.2.1, rfl, hi.2.2.2⟩ h3 hR k))))
      | some a =>
        obtain ⟨d, rfl, hd⟩ := trOf_some e
        refine wpAny_bind (wpAny_pure (wpAny_pure (hR _ _ (trDone (known := (c, some d) :: known) ⟨hi.1, hi.2.1, rfl, fun c' a hl => ?_⟩ hd))))
        have hl : (match c' == c with | true => some (some d) | false => known.lookup c') = some a := hl
        cases e : c' == c with
        | true => rw [e] at hl; cases hl; exact ⟨d, rfl, beq_iff_eq.mp e ▸ hd⟩
        | false => rw [e] at hl; exact hi.2.2.2 c' a hl
end
theorem mul1000 {a n : Nat} (h : a ≤ n * 1000) (hn : n ≤ 1000) : a ≤ 1000000 := Nat.le_trans h (Nat.mul_le_mul_right 1000 hn)
theorem meets_translate {w : World} {A B : Around} {R : Result → Shared → Prop} {s : Shared} {l : Addr} {vs : List Value} {n : Nat} {hm : Nat → Str} {x : Str} {t : Tok} (ho : s.heap.get? l = some (lobj vs n)) (hx1 : 1 ≤ x.length) (hx2 : x.length ≤ 1000)
    (hm1 : ∀ c ∈ x.cps.toList, c < 256 ∧ (∃ u, vs[c]? = some (.str (hm c) u)) ∧ (hm c).length ≤ 1000) (h : ∀ t' k, R (.ok (.ret (.str ⟨(joinS (x.cps.toList.map hm)).toArray⟩ t'))) { s with toks := k }) :
    wpAny (MM w) A («str.translate» ⟨[.str x t, .ref l], []⟩) (fun f s' => match f with
      | .done fl => R (.ok fl) s'
      | .again c' => c'.quiet = true ∧ codeAny (MM w) B c' R s') (fun e s' => R (.error e) s') s := by
  rw [translate_eq, if_neg (fun q => absurd (beq_iff_eq.mp q) (Nat.ne_of_gt hx1)), ← Array.forIn_toList]
  refine wpAny_bind (forIn_tr (hm := hm) (s := s) x.cps.toList [] ([], 0, x.cps.all fun x => decide (x < 128), [], false) s.toks (fun c hc dn st tk R' hlt hi hR => ?_) ⟨rfl, Nat.le_refl _, rfl, fun c a (h : none = some a) => noSome h⟩ fun st k hi => ?_)
  · obtain ⟨pieces, total, fast, known, drop⟩ := st
    cases (hi.2.2.1 : drop = false)
    obtain ⟨hc1, ⟨u, hc2⟩, hc3⟩ := hm1 c hc
    have hdn : dn.length ≤ 1000 := Nat.le_trans (Nat.le_of_lt (Nat.lt_of_lt_of_eq hlt ((Nat.zero_add _).trans Array.length_toList))) hx2
    unfold trStep
    rw [if_neg (notLong (mul1000 hi.2.1 hdn))]
    exact trBody_ok ho hc2 hc1 hi hc3 hR tk
  · have hn : x.cps.toList.length ≤ 1000 := Nat.le_trans (Nat.le_of_eq Array.length_toList) hx2
    rw [List.nil_append] at hi
    unfold trEnd
    rw [if_neg (notLong (mul1000 hi.2.1 hn))]
    have e : (⟨List.foldl (fun acc p => acc ++ p.cps) #[] st.1.reverse⟩ : Str) = ⟨(joinS (x.cps.toList.map hm)).toArray⟩ := str_ext ((foldl_cps _ _).trans (congrArg joinS hi.1))
    rw [e]
    refine wpAny_bind (wpAny_mkStr (wpAny_pure (h _ _)) ?_)
    show (joinS (x.cps.toList.map hm)).toArray.size ≤ _
    rw [List.size_toArray]
    refine Nat.le_trans (joinS_len (x.cps.toList.map hm) 1000 fun y hy => ?_) ?_
    · obtain ⟨c, hc, rfl⟩ := List.mem_map.mp hy
      exact (hm1 c hc).2.2
    · rw [List.length_map]
      exact Nat.le_trans (mul1000 (Nat.le_refl _) hn) (by decide)
theorem strsRd {g : Gh} {α : List Addr} : ∀ {ds : List D} {vs : List Value} {l : List Str}, Rds g α vs ds → allStrs ds = some l → vs.length = l.length ∧ ∀ (i : Nat) y, l[i]? = some y → ∃ u, vs[i]? = some (.str y u)
  | [], vs, l, r, e => by cases r.nil_; cases e; exact ⟨rfl, fun _ _ h => noSome h⟩
  | d :: ds, vs, l, r, e => by
    obtain ⟨v, vs, rfl, h, r2⟩ := r.cons_
    obtain ⟨x, rfl, e2⟩ := onStr_inv e
    obtain ⟨l', e', rfl⟩ := mapSome e2
    obtain ⟨t, rfl⟩ := h.str_
    obtain ⟨a, b⟩ := strsRd r2 e'
    refine ⟨congrArg (· + 1) a, fun i y hy => ?_⟩
    cases i with
    | zero => cases hy; exact ⟨_, rfl⟩
    | succ i => exact b i y hy
section
variable {K : Gh} {w : World} {r : Nat} {mg mb : Str → Option Value} {sc : Scope} {σ : Sg} {μ μ1 μ2 μ3 : Mu}
theorem translateD {x : Str} {xs : List D} {hm : List Str} (hl : allStrs xs = some hm) (hx1 : 1 ≤ x.length) (hx2 : x.length ≤ 1000) (h256 : hm.length = 256) (hs : ∀ y ∈ hm, y.length ≤ 1000) (hc : ∀ c ∈ x.cps.toList, c < 256) :
    Opn K w r sc σ μ [.str x, .list xs] (fun vs => PySem.call (.builtin "str.translate") vs) (.str ⟨(joinS (x.cps.toList.map fun c => hm.getD c Str.empty)).toArray⟩) μ := fun g s env α A vs S R h => by
  obtain ⟨v, u, rfl, hv, hu⟩ := h.two
  obtain ⟨t, rfl⟩ := hv.str_
  obtain ⟨a, vs, n, rfl, ha, rd⟩ := hu.list_
  ·
    ·
      obtain ⟨e1, e2⟩ := strsRd rd hl
      have m : MeetsIn P0' w («str.translate» ⟨[.str x t, .ref a], []⟩) (fun A R s => s.heap.get? a = some (lobj vs n) ∧ ∀ t' k, R (.ok (.ret (.str ⟨(joinS (x.cps.toList.map fun c => hm.getD c Str.empty)).toArray⟩ t'))) { s with toks := k }) := by
        intro A R s hh
        refine meets_translate (B := A) hh.1 hx1 hx2 (fun c hcc => ?_) hh.2
        have c1 := hc c hcc
        have e : hm[c]? = some (hm[c]'(by lia)) := List.getElem?_eq_getElem (by lia)
        have e3 : hm.getD c Str.empty = hm[c]'(by lia) := by simp [e]
        rw [e3]
        exact ⟨c1, e2 c _ e, hs _ (List.mem_of_getElem? e)⟩
      exact call_meetsIn F.slot_str_translate (PySem.typeIs_str _ _ _) F.entry_str_translate (F.args_str_translate_2 _ _) m ⟨S.sub _ _ ha, fun t' k => done S (.str _ _) _⟩
end
end Mine
end
section
open PySem PySem.W PyProof.Rows PySem.Calls
open Builtin Builtin.Str
set_option autoImplicit false
namespace Mine
theorem plain_space {c : Nat} (h : plainSign c = true) : Unicode.isSpace c = false := by
  simp only [plainSign, Bool.and_eq_true, decide_eq_true_eq] at h
  have : ∀ c, c < 127 → 33 ≤ c → Unicode.isSpace c = false := by decide +kernel
  exact this c (by lia) h.1
theorem plain_break {c : Nat} (h : plainSign c = true) : Unicode.isLineBreak c = false := by
  simp only [plainSign, Bool.and_eq_true, decide_eq_true_eq] at h
  have : ∀ c, c < 127 → 33 ≤ c → Unicode.isLineBreak c = false := by decide +kernel
  exact this c (by lia) h.1
theorem rstrip_plain {x : Str} (h : x.cps.toList.all plainSign = true) (h1 : 1 ≤ x.length) : Txt.rstrip x = x := by
  unfold Txt.rstrip Txt.stripBy
  rw [if_pos]
  unfold stripSame
  have e0 : stripLo Unicode.isSpace false x = 0 := rfl
  rw [e0]
  simp only [beq_self_eq_true, Bool.true_and, beq_iff_eq, stripHi, if_true, List.drop_zero]
  have : (x.cps.toList.reverse.takeWhile Unicode.isSpace) = [] := by
    cases e : x.cps.toList.reverse with
    | nil => rfl
    | cons c l =>
      have hc : c ∈ x.cps.toList := by rw [← List.mem_reverse, e]; simp
      rw [List.takeWhile_cons, plain_space (List.all_eq_true.mp h c hc)]
      rfl
  rw [this]; simp
theorem ls_none (x : Str) : ∀ (l : List Nat), (∀ i ∈ l, Unicode.isLineBreak (x.cps.getD i 0) = false) → ∀ st : StrLaws.LsSt, Id.run (forIn (m := Id) l st (StrLaws.lsBody x)) = st
  | [], _, st => rfl
  | i :: l, h, st => by
    rw [List.forIn_cons]
    have e : StrLaws.lsBody x i st = pure (ForInStep.yield st) := by
      unfold StrLaws.lsBody
      rw [h i (by simp)]
      simp
    rw [e]
    exact ls_none x l (fun j hj => h j (by simp [hj])) st
theorem lines_plain {x : Str} (h : x.cps.toList.all plainSign = true) (h1 : 1 ≤ x.length) : lineCuts x = [(0, x.length)] := by
  unfold lineCuts
  rw [StrLaws.ls_eq, ls_none]
  · unfold StrLaws.lsEnd
    simp only
    rw [if_pos (by lia)]
    rfl
  · intro i hi
    have hi : i < x.length := by simpa using hi
    have hi2 : i < x.cps.size := hi
    have e : x.cps.getD i 0 = x.cps[i]'hi2 := by simp [Array.getD, hi2]
    rw [e]
    exact plain_break (List.all_eq_true.mp h _ (by rw [Array.mem_toList_iff]; exact Array.getElem_mem hi2))
theorem endswith_eq (x y : Str) : Txt.endswith x y = (decide (y.length ≤ x.length) && x.cps.toList.drop (x.length - y.length) == y.cps.toList) := by
  unfold Txt.endswith
  rw [StrLaws.subAt_eq, Nat.zero_add]
  by_cases h : y.length ≤ x.length
  · congr 2
    rw [List.take_of_length_le]
    simp [Str.length] at h ⊢
    lia
  · simp [h]
theorem join_empty {e : Str} (he : e.length = 0) (l : List Str) : (Txt.join e l).cps.toList = joinS l := by
  unfold Txt.join
  rw [StrLaws.glued_eq_join]
  have he' : e.cps.toList = [] := by
    have : e.cps.toList.length = 0 := by simpa [Str.length] using he
    exact List.length_eq_zero_iff.mp this
  have : ∀ l : List Str, (Str.join e l).cps.toList = joinS l := by
    intro l
    induction l with
    | nil => rfl
    | cons a l ih =>
      cases l with
      | nil => simp [Str.join, joinS]
      | cons b l =>
        show (a ++ e ++ Str.join e (b :: l)).cps.toList = _
        simp only [Str.cps_append, Array.toList_append, ih, he', List.append_nil]
        rfl
  exact this l
/-- the places of a sign -/
noncomputable def idxs (c : Nat) : Nat → List Nat → List Nat
  | _, [] => []
  | i, a :: r => if a == c then i :: idxs c (i + 1) r else idxs c (i + 1) r
theorem occ_one (x : Str) (c : Nat) : occurrences x ⟨#[c]⟩ 0 x.length (x.length + 1) = idxs c 0 x.cps.toList := by
  rw [StrLaws.occ_eq]
  have key : ∀ (k i : Nat) (st : Array Nat × Nat), i + k = x.length + 1 → st.2 ≤ i → st.1.size ≤ i → (forIn (m := Id) (List.range' i k) st (StrLaws.occBody x ⟨#[c]⟩ x.length (x.length + 1))).run.fst.toList = st.1.toList ++ idxs c i (x.cps.toList.drop i) := by
    intro k
    induction k with
    | zero =>
      intro i st h1 h2 h3
      rw [List.drop_eq_nil_of_le (by simp [Str.length] at h1 ⊢; lia)]
      simp [idxs]
    | succ k ih =>
      intro i st h1 h2 h3
      rw [List.range'_succ, List.forIn_cons]
      by_cases hi : i < x.length
      · have hd : x.cps.toList.drop i = x.cps.toList[i]'(by simpa [Str.length] using hi) :: x.cps.toList.drop (i + 1) := List.drop_eq_getElem_cons _
        have hs : subAt x ⟨#[c]⟩ i = (x.cps.toList[i]'(by simpa [Str.length] using hi) == c) := by
          rw [StrLaws.subAt_eq, hd]
          show ([_] == [c]) = _
          simp
        rw [hd]
        simp only [idxs]
        have e : StrLaws.occBody x ⟨#[c]⟩ x.length (x.length + 1) i st = pure (ForInStep.yield (if (x.cps.toList[i]'(by simpa [Str.length] using hi) == c) = true then (st.1.push i, i + 1) else st)) := by
          unfold StrLaws.occBody
          rw [hs]
          by_cases q : (x.cps.toList[i]'(by simpa [Str.length] using hi) == c) = true
          · rw [if_pos ⟨⟨⟨by lia, h2⟩, by show i + 1 ≤ _; lia⟩, q⟩, if_pos q]; rfl
          · rw [if_neg (fun z => q z.2), if_neg q]
        rw [e]
        simp only [pure_bind]
        by_cases q : (x.cps.toList[i]'(by simpa [Str.length] using hi) == c) = true
        · rw [if_pos q, if_pos q]
          have := ih (i + 1) (st.1.push i, i + 1) (by lia) (by simp) (by simp; lia)
          rw [this]; simp
        · rw [if_neg q, if_neg q]
          exact ih (i + 1) st (by lia) (by lia) (by lia)
      · have e : StrLaws.occBody x ⟨#[c]⟩ x.length (x.length + 1) i st = pure (ForInStep.yield st) := by
          unfold StrLaws.occBody
          rw [if_neg (fun z => by have := z.1.2; simp only [Str.length, List.size_toArray, List.length_cons, List.length_nil] at this hi; lia)]
        rw [e]
        simp only [pure_bind]
        have := ih (i + 1) st (by lia) (by lia) (by lia)
        rw [this, List.drop_eq_nil_of_le (i := i + 1) (by simp [Str.length] at hi ⊢; lia), List.drop_eq_nil_of_le (i := i) (by simp [Str.length] at hi ⊢; lia)]
        rfl
  have := key (x.length + 1) 0 (#[], 0) (by lia) (Nat.le_refl _) (by simp)
  simpa using this
theorem repl_none {c : Nat} {b : List Nat} : ∀ {l : List Nat} {i : Nat}, idxs c i l = [] → repl1 c b l = l
  | [], _, _ => rfl
  | a :: r, i, h => by
    simp only [idxs] at h
    split at h
    · cases h
    · next q => simp only [repl1, q, Bool.false_eq_true, if_false]; rw [repl_none h]; rfl
theorem parts_repl (x z : Str) (c : Nat) : ∀ (k i a : Nat), i + k = x.length → a ≤ i → (Str.join z (StrLaws.partsFrom x 1 a (idxs c i (x.cps.toList.drop i)))).cps.toList = (x.cps.toList.drop a).take (i - a) ++ repl1 c z.cps.toList (x.cps.toList.drop i) := by
  intro k
  induction k with
  | zero =>
    intro i a h1 h2
    rw [List.drop_eq_nil_of_le (i := i) (by simp [Str.length] at h1 ⊢; lia)]
    simp only [idxs, StrLaws.partsFrom, Str.join, repl1, List.append_nil]
    rw [StrLaws.strSub_toList, show x.length = i by lia]
  | succ k ih =>
    intro i a h1 h2
    have hi : i < x.cps.toList.length := by simp [Str.length] at h1 ⊢; lia
    have hd : x.cps.toList.drop i = x.cps.toList[i] :: x.cps.toList.drop (i + 1) := List.drop_eq_getElem_cons _
    rw [hd]
    simp only [idxs, repl1]
    have ht : (x.cps.toList.drop a).take (i + 1 - a) = (x.cps.toList.drop a).take (i - a) ++ [x.cps.toList[i]] := by
      rw [show i + 1 - a = (i - a) + 1 by lia, List.take_add_one]
      congr 1
      rw [List.getElem?_drop, show a + (i - a) = i by lia, List.getElem?_eq_getElem hi]
      rfl
    by_cases q : (x.cps.toList[i] == c) = true
    · rw [if_pos q, if_pos q]
      simp only [StrLaws.partsFrom]
      have ne : ∃ p r, StrLaws.partsFrom x 1 (i + 1) (idxs c (i + 1) (x.cps.toList.drop (i + 1))) = p :: r := StrLaws.partsFrom_ne _ _ _ _
      obtain ⟨p, rr, e⟩ := ne
      have := ih (i + 1) (i + 1) (by lia) (Nat.le_refl _)
      rw [e] at this ⊢
      show (strSub x a i ++ z ++ Str.join z (p :: rr)).cps.toList = _
      simp only [Str.cps_append, Array.toList_append, this, StrLaws.strSub_toList]
      simp
    · rw [if_neg q, if_neg q]
      rw [ih (i + 1) a (by lia) (by lia), ht]
      simp
theorem replace_eq (x z : Str) (c : Nat) : Txt.replace x ⟨#[c]⟩ z = ⟨(repl1 c z.cps.toList x.cps.toList).toArray⟩ := by
  apply str_ext
  unfold Txt.replace
  rw [occ_one]
  by_cases h : idxs c 0 x.cps.toList = []
  · rw [if_pos (by rw [h]; rfl)]
    simp only [repl_none h]
  · rw [if_neg]
    · rw [StrLaws.glued_eq_join, StrLaws.partsBetween_eq]
      have := parts_repl x z c x.length 0 0 (by lia) (Nat.le_refl _)
      simpa [Str.length] using this
    · simp only [Bool.or_eq_true, List.isEmpty_iff, Bool.and_eq_true, beq_iff_eq]
      rintro (e | ⟨e, _⟩)
      · exact h e
      · simp [Str.length] at e
section
variable {K : Gh} {w : World} {r : Nat} {mg mb : Str → Option Value} {sc : Scope} {σ : Sg} {μ μ1 μ2 μ3 : Mu}
theorem rstripD {x : Str} (h : x.cps.toList.all plainSign = true) (h1 : 1 ≤ x.length) (h2 : x.length ≤ 1000) : Opn K w r sc σ μ [.str x] (fun vs => PySem.call (.builtin "str.rstrip") vs) (.str x) μ := fun g s env α A vs S R hr => by
  obtain ⟨v, rfl, hv⟩ := hr.one
  obtain ⟨t, rfl⟩ := hv.str_
  · exact PySem.SC.rstrip (fun t' k => by rw [rstrip_plain h h1]; exact done S (.str _ _) _) (Nat.le_trans h2 (by decide))
theorem endswithD {x y : Str} : Opn K w r sc σ μ [.str x, .str y] (fun vs => PySem.call (.builtin "str.endswith") vs) (.bool (decide (y.length ≤ x.length) && x.cps.toList.drop (x.length - y.length) == y.cps.toList)) μ := fun g s env α A vs S R hv => by
  obtain ⟨v, u, rfl, hv, hu⟩ := hv.two
  obtain ⟨t, rfl⟩ := hv.str_
  obtain ⟨t2, rfl⟩ := hu.str_
  exact PySem.SC.endswith (by rw [endswith_eq]; exact done0 S (.bool _))
theorem splitlinesD {x : Str} (h : x.cps.toList.all plainSign = true) (h1 : 1 ≤ x.length) (h2 : x.length ≤ 1000) : Opn K w r sc σ μ [.str x] (fun vs => PySem.call (.builtin "str.splitlines") vs) (.list [.str x]) μ := fun g s env α A vs S R hr => by
  obtain ⟨v, rfl, hv⟩ := hr.one
  obtain ⟨t, rfl⟩ := hv.str_
  ·
    have e := lines_plain h h1
    refine call_meets F.slot_str_splitlines (PySem.typeIs_str _ _ _) F.entry_str_splitlines (F.args_str_splitlines_1 _) (meets_str_splitlines x t (Nat.le_trans h2 (by decide)) (by rw [e]; show 1 ≤ sizeLine; decide)) ?_
    rw [if_pos (by rw [e]; simp)]
    have st := Step.add (s' := { s with heap := s.heap.push (lobj [.str x t] 0) }) (o := lobj [.str x t] 0) S (push_keep _ _).1 (push_keep _ _).2 (Nat.le_refl _) (Heap.get?_push_size _ rfl) rfl rfl
    exact ⟨_, st, .list (put_self _ _ _) (.cons (.str _ _) .nil)⟩
theorem strVals {g : Gh} {α : List Addr} : ∀ {ds : List D} {vs : List Value} {l : List Str}, Rds g α vs ds → allStrs ds = some l → ∃ p : List (Str × Tok), vs = strValues p ∧ p.map (·.1) = l
  | [], vs, l, r, e => by cases r.nil_; cases e; exact ⟨[], rfl, rfl⟩
  | d :: ds, vs, l, r, e => by
    obtain ⟨v, vs, rfl, h, r2⟩ := r.cons_
    obtain ⟨x, rfl, e2⟩ := onStr_inv e
    obtain ⟨l', e', rfl⟩ := mapSome e2
    obtain ⟨t, rfl⟩ := h.str_
    obtain ⟨p, rfl, rfl⟩ := strVals r2 e'
    exact ⟨(x, t) :: p, rfl, rfl⟩
theorem joinOk_small {e : Str} (he : e.length = 0) {l : List Str} (hl : l.length ≤ 1000) (h : ∀ x ∈ l, x.length ≤ 1000) : JoinOk e l = true := by
  unfold JoinOk
  have : ∀ (l : List Str) (acc : Nat), (∀ x ∈ l, x.length ≤ 1000) → l.toArray.foldl (· + ·.length + e.length) acc ≤ acc + l.length * 1000 := by
    intro l
    induction l with
    | nil => intro acc _; simp
    | cons a l ih =>
      intro acc h
      have h1 := h a (by simp)
      have := ih (acc + a.length + e.length) fun x hx => h x (by simp [hx])
      simp only [List.foldl_toArray] at this ⊢
      simp only [List.foldl_cons, List.length_cons, Nat.add_mul]
      lia
  have := this l 0 h
  have b : l.length * 1000 ≤ 1000000 := by lia
  have := notLong (n := l.toArray.foldl (· + ·.length + e.length) 0) (by lia)
  simpa using this
theorem joinD {e : Str} {xs : List D} {l : List Str} (he : e.length = 0) (hl : allStrs xs = some l) (h1 : xs.length ≤ 1000) (h2 : ∀ x ∈ l, x.length ≤ 1000) : Opn K w r sc σ μ [.str e, .list xs] (fun vs => PySem.call (.builtin "str.join") vs) (.str ⟨(joinS l).toArray⟩) μ := fun g s env α A vs S R hv => by
  obtain ⟨v, u, rfl, hv, hu⟩ := hv.two
  obtain ⟨t, rfl⟩ := hv.str_
  obtain ⟨a, vs, n, rfl, ha, rd⟩ := hu.list_
  ·
    ·
      obtain ⟨p, rfl, ep⟩ := strVals rd hl
      have el : l.length = xs.length := by have := (strsRd rd hl).1; rw [← this]; exact rd.length
      refine PySem.SC.join (isListOf (S.sub _ _ ha)) ep (joinOk_small he (by lia) h2) fun t' k => ?_
      have : Txt.join e l = ⟨(joinS l).toArray⟩ := str_ext (by rw [join_empty he])
      rw [this]
      exact done S (.str _ _) _
end
end Mine
end
section
open PySem PySem.W PyProof.Rows PySem.Calls
open Builtin Builtin.Str
set_option autoImplicit false
namespace Mine
section
variable {K : Gh} {w : World} {r : Nat} {mg mb : Str → Option Value} {sc : Scope} {σ : Sg} {μ μ1 μ2 μ3 μ4 : Mu}
/-- a slice from a written number on: the tokens are no longer none -/
theorem Ev.sliceTok {v : Expr} {hi st : Option Expr} {i : Int} {ik : Nat} {ip sp p : Pos} {a d : D} {h t : Option Int} (h1 : Ev K w r sc σ μ v a μ1) (h3 : EvO K w r sc σ μ1 hi h μ2) (h4 : EvO K w r sc σ μ2 st t μ3) (h5 : sliceD a (some i) h t = some d) :
    ∀ g s env α A, St K g s.heap env sc α σ μ → Room r A → wpAny (MM w) A (eval (.Subscript v (.Slice (some (.Constant (.int i) ik ip)) hi st sp) p) env) (fun v s' => 1 ≤ s'.toks ∧ ∃ g', Step K g s g' s' env sc α σ μ3 ∧ Rd g' α v d) F0 s := fun g s env α A S R => by
  rw [eval_Subscript]
  refine wpAny_bind (wpAny_mono (h1 g s env α A S R) (fun va s1 q => ?_) fun _ _ x => x)
  obtain ⟨g1, P1, r1⟩ := q
  have h2 : wpAny (MM w) A (evalPart (some (.Constant (.int i) ik ip)) env) (fun v s' => 1 ≤ s'.toks ∧ ∃ g', Step K g1 s1 g' s' env sc α σ μ1 ∧ partV v (some i)) F0 s1 :=
    wpAny_Constant_int (k := ik) (pos := ip) ⟨Nat.le_add_left _ _, g1, Step.here P1.st rfl rfl rfl, _, rfl⟩
  refine wpAny_bind (wpAny_holding (wpAny_Slice (wpAny_mono h2 (fun vl s2 q => ?_) fun _ _ x => x)))
  obtain ⟨ht2, g2, P2, pl⟩ := q
  refine wpAny_mono (wpAny_toks_of ht2 (h3 g2 s2 env α A P2.st R)) (fun vu s3 q => ?_) fun _ _ x => x.2
  obtain ⟨ht3, g3, P3, pu⟩ := q
  refine wpAny_mono (wpAny_toks_of ht3 (h4 g3 s3 env α A P3.st R)) (fun vt s4 q => ?_) fun _ _ x => x.2
  obtain ⟨ht4, g4, P4, pt⟩ := q
  refine wpAny_bind (wpAny_standAt ?_)
  have P := ((P1.trans P2).trans P3).trans P4
  obtain ⟨T, id, hl, hT, hg⟩ := slice_get (w := w) (A := A) h5 P4.st (r1.mono ((P2.trans P3).trans P4).ext.1 fun _ _ e => e) pl pu pt
  obtain ⟨vs, es⟩ := subscripted_slice (lo := some (.Constant (.int i) ik ip)) (hi := hi) (st := st) (p := sp) (o := va) (v := .ref s4.heap.objs.size)
  refine wpAny_mono (wpAny_toks_of (n := 1) (by simpa using ht4) (subEnd (Q := fun v s' => ∃ g', Step K g s g' s' env sc α σ μ3 ∧ Rd g' α v d) es hl hT (wpAny_mono hg (fun v s5 q => ?_) fun _ _ x => x))) (fun v s5 q => q) fun _ _ x => x.2
  obtain ⟨g5, P5, r5⟩ := q
  exact ⟨g5, P.trans P5, r5⟩
theorem Ev.replaceLit {o : Expr} {name : Str} {ap p p1 p2 : Pos} {k1 k2 : Nat} {x b : Str} {c : Nat} (hn : name = Str.ofString "replace") (hb : BaseOk o) (hline : (ap.endLine == p.line) = true)
    (h1 : ∀ g s env α A, St K g s.heap env sc α σ μ → Room r A → wpAny (MM w) A (eval o env) (fun v s' => 1 ≤ s'.toks ∧ ∃ g', Step K g s g' s' env sc α σ μ1 ∧ Rd g' α v (.str x)) F0 s)
    (hx : x.length ≤ 1000) (hb2 : b.length ≤ 1000) (hcb : ((⟨#[c]⟩ : Str) == b) = false) :
    Ev K w r sc σ μ (.Call (.Attribute o name ap) [.Constant (.str ⟨#[c]⟩) k1 p1, .Constant (.str b) k2 p2] [] p) (.str ⟨(repl1 c b.cps.toList x.cps.toList).toArray⟩) μ1 := fun g s env α A S R => by
  subst hn
  refine wpAny_Call_method (hb _ env) rfl hline F.plainAttrs_str F.slot_str_replace F.type_str_replace (wpAny_mono (h1 g s env α A S R) (fun v s1 q => ?_) fun _ _ x => x)
  obtain ⟨ht, g1, P1, r1⟩ := q
  obtain ⟨t, rfl⟩ := r1.str_
  ·
    have hs : ∀ e ∈ [Expr.Constant (.str ⟨#[c]⟩) k1 p1, .Constant (.str b) k2 p2], StarOk e := by
      intro e he
      simp only [List.mem_cons, List.not_mem_nil, or_false] at he
      rcases he with rfl | rfl <;> exact fun _ _ => rfl
    refine ⟨PySem.typeIs_str _ _ _, (fun y e => nomatch e), callWith_builtin (star_plain p hs) (evalArgs_all (star_plain p hs) ?_)⟩
    refine wpAny_items_cons (wpAny_Constant_str (wpAny_items_cons (wpAny_Constant_str (wpAny_items_nil ?_))))
    refine PySem.SC.replace (t := t) (u := s1.toks) (v := s1.toks + 1) (Nat.ne_of_gt ht) (Nat.succ_ne_zero _) (Nat.ne_of_lt (Nat.lt_succ_self _)) hcb ?_ fun t' k => ?_
    · have : (x.length + 1) * b.length ≤ 1001 * 1000 := Nat.mul_le_mul (by lia) hb2
      lia
    · rw [replace_eq]
      exact ⟨g1, P1.trans (Step.here P1.st rfl rfl rfl), .str _ _⟩
end
/-- a hex figure's sign -/
noncomputable def hx (i : Nat) : Nat := if i < 10 then 48 + i else 55 + i
theorem hexVal_is {c x : Nat} (h : hexVal c = some x) : x < 16 ∧ c = hx x := by
  unfold hexVal at h
  split at h
  · cases h; unfold hx; split <;> lia
  · split at h
    · cases h; unfold hx; split <;> lia
    · cases h
theorem hex16_all (u : Tok) : ((List.range 16).map fun i => (List.range 16).map fun j => (int_private% "intFromText") (.str ⟨#[hx i, hx j]⟩ u) [hx i, hx j] 16) = (List.range 16).map fun i => (List.range 16).map fun j => mkInt ((16 * i + j : Nat) : Int) := by kernel_rfl!
theorem hex16 (i j : Nat) (hi : i < 16) (hj : j < 16) (u : Tok) : (int_private% "intFromText") (.str ⟨#[hx i, hx j]⟩ u) [hx i, hx j] 16 = mkInt ((16 * i + j : Nat) : Int) :=
  List.map_inj_left.mp (List.map_inj_left.mp (hex16_all u) i (List.mem_range.mpr hi)) j (List.mem_range.mpr hj)
theorem wp_hex {M : Model} {A : Around} {E : Value → Shared → Prop} {s : Shared} {Q : Value → Shared → Prop} {i j : Nat} (hi : i < 16) (hj : j < 16) {u : Tok} {x : List Nat} (hx' : x = [hx i, hx j]) (h : Q (.int ((16 * i + j : Nat) : Int) s.toks) { s with toks := s.toks + 1 }) :
    wpAny M A ((int_private% "intFromText") (.str ⟨#[hx i, hx j]⟩ u) x 16) Q E s := by
  subst hx'; rw [hex16 i j hi hj]; exact wpAny_mkInt h
theorem hx_small (i : Nat) (hi : i < 16) : hx i < 128 := by unfold hx; split <;> lia
theorem gives_hex {i j : Nat} (hi : i < 16) (hj : j < 16) (u v : Tok) : Gives (Builtin.«int.__new__» ⟨[.type "int", .str ⟨#[hx i, hx j]⟩ u, .int 16 v], []⟩) (.int ((16 * i + j : Nat) : Int)) :=
  .of_wp fun M A E s Q h => by
    obtain ⟨hp, g, d, tk, os⟩ := s
    have f1 := F.conv_sub_int
    have f2 := F.madeHere_int
    have f3 : (⟨#[hx i, hx j]⟩ : Str).cps.all (fun x => decide (x < 128)) = true := by simp [hx_small i hi, hx_small j hj]
    repeat (any_goals (first
      | assumption
      | ((with_reducible show wpAny _ _ ((int_private% "intFromText") _ _ _) _ _ _); refine wp_hex hi hj ?_ ?_)
      | (rw [if_pos f3])
      | wp_step))
    all_goals first | rfl | exact ⟨_, rfl, h⟩
theorem typeCall_int_2 (a b : Value) : checkTypeCall "int" ⟨[a, b], []⟩ = pure () := by kernel_rfl
theorem newCall_int_2 (a b : Value) : checkBuiltinCall "int.__new__" ⟨[.type "int", a, b], []⟩ = pure () := by kernel_rfl
theorem init_args_3 (obj a b : Value) : argsOk "object.__init__" ⟨[obj, a, b], []⟩ := by
  unfold argsOk; rw [signature?_of (id := "object.__init__") (n := ['_', '_', 't', 'i', 'n', 'i', '_', '_']) (o := ['t', 'c', 'e', 'j', 'b', 'o']) (by kernel_rfl) F.owner_object]; kernel_rfl
section
variable {K : Gh} {w : World} {r : Nat} {mg mb : Str → Option Value} {sc : Scope} {σ : Sg} {μ μ1 μ2 μ3 μ4 : Mu}
theorem intD {x : Str} {a b i j : Nat} (hx' : x.cps.toList = [a, b]) (ha : hexVal a = some i) (hb : hexVal b = some j) : Opn K w r sc σ μ [.str x, .int 16] (fun vs => PySem.call (.type "int") vs) (.int (16 * (i : Int) + j)) μ := fun g s env α A vs S R hr => by
  obtain ⟨v, u, rfl, hv, hu⟩ := hr.two
  obtain ⟨t, rfl⟩ := hv.str_
  obtain ⟨t2, rfl⟩ := hu.int_
  ·
    ·
      obtain ⟨i1, rfl⟩ := hexVal_is ha
      obtain ⟨j1, rfl⟩ := hexVal_is hb
      have e : x = ⟨#[hx i, hx j]⟩ := str_ext (by rw [hx'])
      subst e
      refine callType_new F.called_int F.newNe_int (typeCall_int_2 _ _) (newCall_int_2 _ _) (fun obj => init_args_3 obj _ _) F.entry_int_new (gives_hex i1 j1 t t2).meets (show (Made.int _).post _ s from ⟨rfl, ?_⟩)
      rw [show (16 * (i : Int) + j) = ((16 * i + j : Nat) : Int) by lia]
      exact done S (.int _ _) _
/-- the parts of a text with fields -/
noncomputable def EvJ (K : Gh) (w : World) (r : Nat) (sc : Scope) (σ : Sg) (μ : Mu) (es : List Expr) (l : List Str) (μ' : Mu) : Prop :=
  ∀ g s env α A out, St K g s.heap env sc α σ μ → Room r A → out.length + l.length * 1000 ≤ 100000 → wpAny (MM w) A (joinParts out (evalEach es env)) (fun v s' => ∃ g', Step K g s g' s' env sc α σ μ' ∧ Rd g' α v (.str ⟨(out.cps.toList ++ joinS l).toArray⟩)) F0 s
theorem EvJ.nil : EvJ K w r sc σ μ [] [] μ := fun g s env α A out S R hl => by
  refine joinParts_nil ?_ (by have : sizeLine = 16777216 := sizeLine_eq; simp at hl; lia)
  have : (⟨(out.cps.toList ++ joinS []).toArray⟩ : Str) = out := str_ext (by simp [joinS])
  rw [this]
  exact done S (.str _ _) _
theorem app_len (a b : Str) : (a ++ b).length = a.length + b.length := Str.length_append a b
theorem EvJ.const {x : Str} {k : Nat} {p : Pos} {es : List Expr} {l : List Str} (hx : x.length ≤ 1000) (h : EvJ K w r sc σ μ es l μ1) : EvJ K w r sc σ μ (.Constant (.str x) k p :: es) (x :: l) μ1 := fun g s env α A out S R hl => by
  show wpAny _ _ (joinParts out (eval (.Constant (.str x) k p) env :: evalEach es env)) _ _ _
  refine joinParts_cons (wpAny_Constant_str ?_)
  simp only [List.length_cons, Nat.add_mul] at hl
  refine ⟨by rw [app_len]; have : sizeLine = 16777216 := sizeLine_eq; lia, ?_⟩
  have := h g { s with toks := s.toks + 1 } env α A (out ++ x) S R (by rw [app_len]; lia)
  refine wpAny_mono this (fun v s' q => ?_) fun _ _ x => x
  obtain ⟨g', P, rr⟩ := q
  refine ⟨g', (Step.here (s' := { s with toks := s.toks + 1 }) S rfl rfl rfl).trans P, ?_⟩
  simpa [joinS, Str.cps_append] using rr
theorem EvJ.field {e : Expr} {p : Pos} {x : Str} {es : List Expr} {l : List Str} (he : Ev K w r sc σ μ e (.str x) μ1) (hx : x.length ≤ 1000) (h : EvJ K w r sc σ μ1 es l μ2) : EvJ K w r sc σ μ (.FormattedValue e 115 none p :: es) (x :: l) μ2 := fun g s env α A out S R hl => by
  show wpAny _ _ (joinParts out (eval (.FormattedValue e 115 none p) env :: evalEach es env)) _ _ _
  refine joinParts_cons (wpAny_FormattedValue_s (wpAny_mono (he g s env α A S R) (fun v s1 q => ?_) fun _ _ x => x))
  obtain ⟨g1, P1, r1⟩ := q
  have hz : x.length ≤ sizeLine := Nat.le_trans hx (by decide)
  obtain ⟨t, rfl⟩ := r1.str_
  ·
    refine PySem.SB.convS_str (fun t' k => PySem.SB.field_str (fun t'' k' => ?_) hz) hz
    simp only [List.length_cons, Nat.add_mul] at hl
    refine ⟨by rw [app_len]; have : sizeLine = 16777216 := sizeLine_eq; lia, ?_⟩
    have := h g1 { s1 with toks := k' } env α A (out ++ x) P1.st R (by rw [app_len]; lia)
    refine wpAny_mono this (fun v s' q => ?_) fun _ _ x => x
    obtain ⟨g', P, rr⟩ := q
    refine ⟨g', (P1.trans (Step.here (s' := { s1 with toks := k' }) P1.st rfl rfl rfl)).trans P, ?_⟩
    simpa [joinS, Str.cps_append] using rr
theorem Ev.joined {es : List Expr} {l : List Str} {p : Pos} (h2 : 2 ≤ es.length) (hl : l.length ≤ 10) (h : EvJ K w r sc σ μ es l μ1) : Ev K w r sc σ μ (.JoinedStr es p) (.str ⟨(joinS l).toArray⟩) μ1 := fun g s env α A S R => by
  match es, h2 with
  | v1 :: v2 :: rest, _ =>
    refine JoinedStr_many ?_
    have := h g s env α A Str.empty S R (by have : Str.empty.length = 0 := rfl; lia)
    have e : (⟨(Str.empty.cps.toList ++ joinS l).toArray⟩ : Str) = ⟨(joinS l).toArray⟩ := by simp [Str.empty]
    rw [e] at this
    exact this
end
end Mine
end
section
open PySem PySem.W PyProof.Rows PySem.Calls
open Builtin Builtin.Str
set_option autoImplicit false
namespace Mine
noncomputable def ownedIter (T : String) : Bool := ["enumerate", "zip", "dict_itemiterator", "dict_reverseitemiterator", "odict_iterator", "itertools.zip_longest", "itertools.pairwise"].contains T
/-- an iterator over these data -/
structure IterAt (w : World) (g : Gh) (α : List Addr) (I : Addr) (ds : List D) (J : Nat → Heap → Prop) : Prop where
  walk : ∀ A : Around, A.handled = none → ∃ fp P, Walks P0' w A I fp [I] ds.length P J ∧ (∀ b ∈ fp, b = I ∨ ∃ o, g b = some o) ∧ ∀ (i : Nat) v d, ds[i]? = some d → P i v → Rd g α v d
  goes : (∃ d ∈ ds, ∃ l, d = .tup l) → ∀ i h, J i h → ∃ o T, h.get? I = some o ∧ o.cls = .type T ∧ ownedIter T = false
section
variable {w : World} {g : Gh} {α : List Addr} {I : Addr} {ds : List D} {J : Nat → Heap → Prop}
theorem IterAt.frame (W : IterAt w g α I ds J) {i : Nat} {h h' : Heap} (hJ : J i h) (hI : ∀ o, h.get? I = some o → h'.get? I = some o) (hg : ∀ b o, g b = some o → h.get? b = some o) (hg' : ∀ b o, g b = some o → h'.get? b = some o) : J i h' := by
  obtain ⟨fp, P, X, hfp, _⟩ := W.walk { handled := none, depth := 0, frames := none, guards := none, units := 0 } rfl
  refine X.frame i h h' hJ fun b hb o e => ?_
  rcases hfp b hb with rfl | ⟨o', ho'⟩
  · exact hI o e
  · have := hg b o' ho'
    rw [this] at e; cases e
    exact hg' b _ ho'
theorem IterAt.mono {g' : Gh} (W : IterAt w g α I ds J) (hg : ∀ b o, g b = some o → g' b = some o) : IterAt w g' α I ds J :=
  ⟨fun A hA => let ⟨fp, P, X, hfp, hP⟩ := W.walk A hA; ⟨fp, P, X, fun b hb => (hfp b hb).imp id fun ⟨o, e⟩ => ⟨o, hg _ _ e⟩, fun i v d hd hv => (hP i v d hd hv).mono hg fun _ _ e => e⟩, W.goes⟩
theorem IterAt.next (W : IterAt w g α I ds J) {A : Around} (hA : A.handled = none) {E : Value → Shared → Prop} {s : Shared} {i : Nat} {d : D} {Q : Option Value → Shared → Prop} (hd : ds[i]? = some d) (hJ : J i s.heap)
    (hQ : ∀ v h' tk, Rd g α v d → J (i + 1) h' → s.heap.objs.size ≤ h'.objs.size → (∀ b o, b ≠ I → s.heap.get? b = some o → h'.get? b = some o) → Q (some v) { s with heap := h', toks := tk }) : wpAny (MM w) A (pyNext (.ref I)) Q E s := by
  obtain ⟨fp, P, X, hfp, hP⟩ := W.walk A hA
  refine wpAny_size (X.item i s _ E (List.getElem?_eq_some_iff.mp hd).1 hJ fun v h' tk hv hJ' hk hz => ?_)
  exact hQ v h' tk (hP i v d hd hv) hJ' hz fun b o hb e => hk b o (by simpa using hb) e
theorem IterAt.stop (W : IterAt w g α I ds J) {A : Around} (hA : A.handled = none) {E : Value → Shared → Prop} {s : Shared} {Q : Option Value → Shared → Prop} (hJ : J ds.length s.heap)
    (hQ : ∀ h' tk, s.heap.objs.size ≤ h'.objs.size → (∀ b o, b ≠ I → s.heap.get? b = some o → h'.get? b = some o) → Q none { s with heap := h', toks := tk }) : wpAny (MM w) A (pyNext (.ref I)) Q E s := by
  obtain ⟨fp, P, X, hfp, hP⟩ := W.walk A hA
  refine wpAny_size (X.done s _ E hJ fun h' tk hk hz => ?_)
  exact hQ h' tk hz fun b o hb e => hk b o (by simpa using hb) e
theorem IterAt.self (W : IterAt w g α I ds J) {A : Around} (hA : A.handled = none) {E : Value → Shared → Prop} {s : Shared} {i : Nat} {Q : Value → Shared → Prop} (hJ : J i s.heap) (hQ : Q (.ref I) s) : wpAny (MM w) A (pyIter (.ref I)) Q E s := by
  obtain ⟨fp, P, X, hfp, hP⟩ := W.walk A hA
  exact X.self i s Q E hJ hQ
theorem letOwned {es : List Expr} {k : Nat} {p : Pos} {v : Value} {A : Around} {E : Value → Shared → Prop} {s : Shared} {Q : Unit → Shared → Prop} {o : Obj} {T : String} (ho : s.heap.get? I = some o) (hc : o.cls = .type T) (hT : ownedIter T = false) (hQ : Q () s) :
    wpAny (MM w) A (letOwnedTupleGo (.Tuple es k p) (.ref I) v) Q E s := by
  unfold letOwnedTupleGo
  dsimp only
  cases v <;> first | exact wpAny_pure hQ | skip
  refine wpAny_bind (wpAny_load ho ?_)
  rw [hc]
  cases hd : o.data <;> first | exact wpAny_pure hQ | skip
  dsimp only
  unfold ownedIter at hT
  rw [hT]
  exact wpAny_pure hQ
end
theorem pushLt (h : Heap) (o : Obj) : h.objs.size < (h.push o).objs.size := by rw [Heap.size_push]; exact Nat.lt_succ_self _
theorem intsFrom_at : ∀ (n i : Nat) (lo : Int) (d : D), (intsFrom lo n)[i]? = some d → d = .int (lo + i)
  | 0, i, lo, d, h => by simp [intsFrom] at h
  | n + 1, 0, lo, d, h => by simp [intsFrom] at h; rw [← h]; simp
  | n + 1, i + 1, lo, d, h => by
    simp only [intsFrom, List.getElem?_cons_succ] at h
    rw [intsFrom_at n i _ d h]
    congr 1; lia
theorem intsFrom_len : ∀ (n : Nat) (lo : Int), (intsFrom lo n).length = n
  | 0, _ => rfl
  | n + 1, lo => by simp [intsFrom, intsFrom_len n]
section
variable {K : Gh} {w : World} {r : Nat} {mg mb : Str → Option Value} {sc : Scope} {σ : Sg} {μ μ1 μ2 μ3 μ4 : Mu}
/-- the iterator that an iterable gives, and where it stands -/
noncomputable def ItPost (K : Gh) (w : World) (sc : Scope) (σ : Sg) (g : Gh) (s : Shared) (env : Env) (α : List Addr) (ds : List D) (μ' : Mu) (it : Value) (s2 : Shared) : Prop :=
  ∃ g' I J, it = .ref I ∧ Step K g s g' s2 env sc α σ μ' ∧ s.heap.objs.size ≤ I ∧ I < s2.heap.objs.size ∧ g' I = none ∧ IterAt w g' α I ds J ∧ J 0 s2.heap
noncomputable def EvIt (K : Gh) (w : World) (r : Nat) (sc : Scope) (σ : Sg) (μ : Mu) (e : Expr) (ds : List D) (μ' : Mu) : Prop :=
  ∀ g s env α A, St K g s.heap env sc α σ μ → Room r A → wpAny (MM w) A (eval e env) (fun x s1 => wpAny (MM w) A (pyIter x) (ItPost K w sc σ g s env α ds μ') F0 s1) F0 s
theorem smallRange {lo hi : Int} (h1 : small lo = true) (h2 : small hi = true) : Builtin.Range.small lo hi 1 = true ∧ Builtin.Range.rangeSize lo hi 1 = ((hi - lo).toNat : Int) := by
  simp only [small, Bool.and_eq_true, decide_eq_true_eq] at h1 h2
  have e : Builtin.Range.rangeSize lo hi 1 = ((hi - lo).toNat : Int) := by
    rw [rangeSize_one]; split <;> lia
  refine ⟨?_, e⟩
  unfold Builtin.Range.small
  rw [e]
  have p63 : (2 : Int) ^ 63 = 9223372036854775808 := by decide
  simp only [Builtin.Range.rangeFitsLong, Bool.and_eq_true, decide_eq_true_eq, Bool.or_eq_true, beq_iff_eq, p63]
  refine ⟨⟨⟨⟨?_, ?_⟩, ?_⟩, ?_⟩, .inr ?_⟩ <;> (try simp only [show ((1 : Int) > 0) = True by simp, if_true, decide_eq_true_eq, Bool.and_eq_true]) <;> (try constructor) <;> lia
theorem iterOf {d : D} {ds : List D} (hi : itemsOf d = some ds) {g : Gh} {s : Shared} {env : Env} {α : List Addr} {A : Around} {v : Value} (S : St K g s.heap env sc α σ μ) (hv : Rd g α v d) :
    wpAny (MM w) A (pyIter v) (ItPost K w sc σ g s env α ds μ) F0 s := by
  cases hv <;> simp only [itemsOf, reduceCtorEq] at hi
  · rename_i x t
    split at hi
    · cases hi
      refine wpAny_pyIter_str fun o J W hJ => ?_
      refine ⟨g, s.heap.objs.size, J, rfl, Step.grow S (push_keep _ _).1 (push_keep _ _).2 rfl rfl, Nat.le_refl _, pushLt _ _, S.fresh (Nat.le_refl _), ⟨fun A' hA => ⟨[s.heap.objs.size], SignAt x, ?_, fun b hb => .inl (by simpa using hb), fun i v d hd hv => ?_⟩, ?_⟩, hJ⟩
      · have := W A' hA
        rw [List.length_map, Array.length_toList]
        exact this
      · obtain ⟨c, u, hc, rfl⟩ := hv
        simp only [List.getElem?_map, Array.getElem?_toList, hc, Option.map_some, Option.some.injEq] at hd
        rw [← hd]; exact .str _ _
      · rintro ⟨d, hd, l, rfl⟩
        simp at hd
    · cases hi
  · rename_i a vs n dss hg rr
    cases hi
    have ho := S.sub _ _ hg
    refine wpAny_pyIter_list (isListOf ho) ?_
    have hne : a ≠ s.heap.objs.size := Nat.ne_of_lt (Heap.lt_size ho)
    refine ⟨g, s.heap.objs.size, fun i h => h.IsListIter s.heap.objs.size a i ∧ h.IsList a vs.toArray, rfl, Step.grow S (push_keep _ _).1 (push_keep _ _).2 rfl rfl, Nat.le_refl _, pushLt _ _, S.fresh (Nat.le_refl _),
      ⟨fun A' hA => ⟨[s.heap.objs.size, a], fun i v => vs.toArray[i]? = some v, ?_, fun b hb => ?_, fun i v d hd hv => ?_⟩, fun _ i h hJ => ?_⟩, ?_⟩
    · have := Walks.list (prog := P0') (w := w) hA s.heap.objs.size a hne vs.toArray
      have e : vs.toArray.size = ds.length := by rw [List.size_toArray]; exact rr.length
      rw [e] at this
      exact this
    · simp only [List.mem_cons, List.not_mem_nil, or_false] at hb
      rcases hb with rfl | rfl
      · exact .inl rfl
      · exact .inr ⟨_, hg⟩
    · obtain ⟨u, hu, ru⟩ := rr.at hd
      have : vs[i]? = some v := by simpa using hv
      rw [hu] at this; cases this; exact ru
    · obtain ⟨o, h1, h2, h3⟩ := hJ.1
      exact ⟨o, _, h1, h2, by decide⟩
    · exact ⟨⟨_, Heap.get?_push_size _ rfl, rfl, rfl⟩, isListOf ((push_keep _ _).1 _ _ ho)⟩
  · rename_i a lo hi' x y z hg
    split at hi
    · next hsm =>
      cases hi
      simp only [Bool.and_eq_true] at hsm
      obtain ⟨s1, s2⟩ := smallRange hsm.1 hsm.2
      refine wpAny_pyIter_range (r := a) (S.sub _ _ hg) s1 ?_
      refine ⟨g, s.heap.objs.size, fun i h => IsRangeIter h s.heap.objs.size (lo + (i : Nat) * 1) (((hi' - lo).toNat : Int) - (i : Nat)) 1, rfl, Step.grow S (push_keep _ _).1 (push_keep _ _).2 rfl rfl, Nat.le_refl _, pushLt _ _, S.fresh (Nat.le_refl _),
        ⟨fun A' hA => ⟨[s.heap.objs.size], fun i v => ∃ t, v = .int (lo + i * 1) t, ?_, fun b hb => .inl (by simpa using hb), fun i v d hd hv => ?_⟩, ?_⟩, ?_⟩
      · rw [intsFrom_len]
        exact Walks.range (prog := P0') (w := w) hA s.heap.objs.size lo 1 (hi' - lo).toNat
      · obtain ⟨t, rfl⟩ := hv
        rw [intsFrom_at _ _ _ _ hd, Int.mul_one]
        exact .int _ _
      · rintro ⟨d, hd, l, rfl⟩
        obtain ⟨i, hi⟩ := List.getElem?_of_mem hd
        have := intsFrom_at _ _ _ _ hi
        cases this
      · show IsRangeIter _ _ _ _ _
        rw [s2]
        simp only [Int.natCast_zero, Int.zero_mul, Int.add_zero, Int.sub_zero]
        exact Heap.get?_push_size _ rfl
    · cases hi
theorem EvIt.of {e : Expr} {d : D} {ds : List D} (h : Ev K w r sc σ μ e d μ1) (hi : itemsOf d = some ds) : EvIt K w r sc σ μ e ds μ1 := fun g s env α A S R => by
  refine wpAny_mono (h g s env α A S R) (fun v s1 q => ?_) fun _ _ x => x
  obtain ⟨g1, P1, r1⟩ := q
  refine wpAny_mono (iterOf hi P1.st r1) (fun it s2 q => ?_) fun _ _ x => x
  obtain ⟨g2, I, J, rfl, P2, a, b, c, d, e⟩ := q
  exact ⟨g2, I, J, rfl, P1.trans P2, Nat.le_trans P1.kp.1 a, b, c, d, e⟩
end
end Mine
end
section
open PySem PySem.W PyProof.Rows PySem.Calls
open Builtin Builtin.Str
set_option autoImplicit false
namespace Mine
theorem nsUniq {h : Heap} {a : Addr} {m m' : Str → Option Value} (x : h.Ns a m) (y : h.Ns a m') : m = m' := by
  obtain ⟨o, es, ep, e, d, _, f⟩ := x
  obtain ⟨o', es', ep', e', d', _, f'⟩ := y
  rw [e] at e'; cases e'
  rw [d] at d'; cases d'
  funext n; rw [← f n, ← f' n]
section
variable {K : Gh} {w : World} {r : Nat} {mg mb : Str → Option Value} {sc : Scope} {σ σ' : Sg} {μ μ1 μ2 μ3 μ4 : Mu} {g : Gh} {α : List Addr} {env : Env} {A : Around}
/-- where the bound names lie -/
noncomputable def Wr (env : Env) (sc : Scope) (a : Addr) : Prop := a = env.locals ∨ ∃ x, kOf sc x = some .cell ∧ env.cells.lookup x = some a
/-- names were bound, nothing else was done -/
structure Bd (K g : Gh) (s : Shared) (env : Env) (sc : Scope) (α : List Addr) (σ' : Sg) (μ : Mu) (s' : Shared) : Prop where
  st : St K g s'.heap env sc α σ' μ
  gens : s'.gens = s.gens
  os : s'.os = s.os
  size : s.heap.objs.size ≤ s'.heap.objs.size
  keep : ∀ b o, ¬ Wr env sc b → s.heap.get? b = some o → s'.heap.get? b = some o
theorem Bd.trans {s s1 s2 : Shared} {σ1 σ2 : Sg} (x : Bd K g s env sc α σ1 μ s1) (y : Bd K g s1 env sc α σ2 μ s2) : Bd K g s env sc α σ2 μ s2 :=
  ⟨y.st, y.gens.trans x.gens, y.os.trans x.os, Nat.le_trans x.size y.size, fun b o h e => y.keep b o h (x.keep b o h e)⟩
theorem upd_ne {x y : Str} {d : D} (h : y ≠ x) : ∀ (σ : Sg), (upd σ x d).lookup y = σ.lookup y
  | [] => by
    show ([(x, d)] : Sg).lookup y = _
    rw [List.lookup_cons]
    have : (y == x) = false := by simpa using h
    rw [this]
  | (z, e) :: σ => by
    unfold upd
    split
    · next q =>
      have q' := beq_iff_eq.mp q
      subst q'
      rw [List.lookup_cons, List.lookup_cons]
      have : (y == z) = false := by simpa using h
      rw [this]
    · rw [List.lookup_cons, List.lookup_cons, upd_ne h σ]
theorem upd_self {x : Str} {d : D} : ∀ (σ : Sg), (upd σ x d).lookup x = some d
  | [] => by
    show ([(x, d)] : Sg).lookup x = _
    rw [List.lookup_cons]; simp
  | (z, e) :: σ => by
    unfold upd
    split
    · rw [List.lookup_cons]; simp
    · next q =>
      rw [List.lookup_cons]
      have : (x == z) = false := by
        simp only [beq_eq_false_iff_ne, ne_eq]
        rintro rfl
        exact q (by simp)
      rw [this]
      exact upd_self σ
theorem storeVar {s : Shared} {x : Str} {v : Value} {d : D} {Q : Unit → Shared → Prop} (S : St K g s.heap env sc α σ μ) (hv : isBind (kOf sc x) = true) (hr : Rd g α v d)
    (hQ : ∀ s', Bd K g s env sc α (upd σ x d) μ s' → Q () s') : wpAny (MM w) A (storeName env x v) Q F0 s := by
  have hcase : env.kindOf x = some .local ∨ (env.kindOf x = some .cell ∧ kOf sc x = some .cell) := by
    obtain h | h := isBind_inv hv
    · exact .inl (S.seesL x h)
    · exact .inr ⟨S.seesC x (.inl h), h⟩
  rcases hcase with hl | ⟨hl, hks⟩
  · obtain ⟨m, hm⟩ := S.loc
    refine wpAny_storeName_local hl hm (fun h' hn' hs' => hQ _ ⟨?_, rfl, rfl, Nat.le_of_eq hs'.1.symm, fun b o hb e => hs'.extBut b o (fun q => hb (.inl q)) e⟩) (by rw [S.kind]; rfl)
    have gk : ∀ b o, g b = some o → h'.get? b = some o := fun b o e => hs'.extBut b o (fun q => by rw [q, (S.stor _ (.inl rfl)).1] at e; cases e) (S.sub b o e)
    have ck : ∀ c w', c ≠ env.locals → s.heap.IsCell c w' → h'.IsCell c w' := fun c w' hc e => let ⟨o, ho, hd⟩ := e; ⟨o, hs'.extBut c o hc ho, hd⟩
    refine ⟨S.base, gk, S.kind, S.glb, S.seesG, S.seesL, S.seesC, ⟨_, hn'⟩, fun y e => ?_, S.apart, S.locc, fun y dy e => ?_, fun a e => ?_, fun k ds e => ?_, S.nodup, fun a ha => by show a < h'.objs.size; rw [hs'.1]; exact S.lt a ha, S.len⟩
    · obtain ⟨c, w', hc, hw⟩ := S.cel y e
      exact ⟨c, w', hc, ck c w' (S.locc y c hc) hw⟩
    · by_cases q : y = x
      · subst q
        rw [upd_self] at e; cases e
        exact ⟨v, .inl ⟨hl, _, hn', by simp⟩, hr⟩
      · rw [upd_ne q] at e
        obtain ⟨u, hu, ru⟩ := S.vars y dy e
        refine ⟨u, ?_, ru⟩
        rcases hu with ⟨k, m', hm', em⟩ | ⟨k, c, hc, ec⟩
        · rw [nsUniq hm' hm] at em
          exact .inl ⟨k, _, hn', by simp [q, em]⟩
        · exact .inr ⟨k, c, hc, ck c _ (S.locc y c hc) ec⟩
    · obtain ⟨a1, a2, a3⟩ := S.stor a e
      exact ⟨a1, a2, by show a < h'.objs.size; rw [hs'.1]; exact a3⟩
    · obtain ⟨a, vs, n, a1, a2, a3, a4⟩ := S.own k ds e
      exact ⟨a, vs, n, a1, hs'.extBut a _ (fun q => (S.stor _ (.inl rfl)).2.1 (q ▸ List.mem_of_getElem? a1)) a2, a3, a4⟩
  · obtain ⟨c, v0, hc, hcell⟩ := S.cel x hl
    have hcl := S.locc x c hc
    refine wpAny_storeName_cell S.kind hl hc hcell fun h' hc' hs' => hQ _ ⟨?_, rfl, rfl, Nat.le_of_eq hs'.1.symm, fun b o hb e => hs'.extBut b o (fun q => hb (.inr ⟨x, hks, q ▸ hc⟩)) e⟩
    have hst := S.stor c (.inr ⟨x, hc⟩)
    have gk : ∀ b o, g b = some o → h'.get? b = some o := fun b o e => hs'.extBut b o (fun q => by rw [q, hst.1] at e; cases e) (S.sub b o e)
    have ck : ∀ c' w', c' ≠ c → s.heap.IsCell c' w' → h'.IsCell c' w' := fun c' w' hc e => let ⟨o, ho, hd⟩ := e; ⟨o, hs'.extBut c' o hc ho, hd⟩
    have nk : ∀ m, s.heap.Ns env.locals m → h'.Ns env.locals m := fun m hm => hm.sameBut hs' (Ne.symm hcl)
    refine ⟨S.base, gk, S.kind, S.glb, S.seesG, S.seesL, S.seesC, let ⟨m, hm⟩ := S.loc; ⟨m, nk m hm⟩, fun y e => ?_, S.apart, S.locc, fun y dy e => ?_, fun a e => ?_, fun k ds e => ?_, S.nodup, fun a ha => by show a < h'.objs.size; rw [hs'.1]; exact S.lt a ha, S.len⟩
    · obtain ⟨c', w', hc2, hw⟩ := S.cel y e
      by_cases q : c' = c
      · subst q; exact ⟨c', _, hc2, hc'⟩
      · exact ⟨c', w', hc2, ck c' w' q hw⟩
    · by_cases q : y = x
      · subst q
        rw [upd_self] at e; cases e
        exact ⟨v, .inr ⟨hl, c, hc, hc'⟩, hr⟩
      · rw [upd_ne q] at e
        obtain ⟨u, hu, ru⟩ := S.vars y dy e
        refine ⟨u, ?_, ru⟩
        rcases hu with ⟨k, m', hm', em⟩ | ⟨k, c2, hc2, ec⟩
        · exact .inl ⟨k, m', nk m' hm', em⟩
        · exact .inr ⟨k, c2, hc2, ck c2 _ (fun z => q (S.apart y x c (z ▸ hc2) hc)) ec⟩
    · obtain ⟨a1, a2, a3⟩ := S.stor a e
      exact ⟨a1, a2, by show a < h'.objs.size; rw [hs'.1]; exact a3⟩
    · obtain ⟨a, vs, n, a1, a2, a3, a4⟩ := S.own k ds e
      exact ⟨a, vs, n, a1, hs'.extBut a _ (fun q => hst.2.1 (q ▸ List.mem_of_getElem? a1)) a2, a3, a4⟩
theorem bindNs_inv {sc : Scope} {e : Expr} {es : List Expr} {ds : List D} {σ σ' : Sg} (h : bindNs sc (e :: es) ds σ = some σ') : ∃ x p d r, e = .Name x p ∧ ds = d :: r ∧ isBind (kOf sc x) = true ∧ bindNs sc es r (upd σ x d) = some σ' := by
  cases ds with
  | nil => exact noSome h
  | cons d r =>
    obtain ⟨x, p, e, h⟩ := onName_inv h
    obtain ⟨a, b⟩ := iteSome h
    exact ⟨x, p, d, r, e, rfl, a, b⟩
theorem bindT_inv {sc : Scope} {t : Expr} {d : D} {σ σ' : Sg} (h : bindT sc t d σ = some σ') : (∃ x p, t = .Name x p ∧ isBind (kOf sc x) = true ∧ σ' = upd σ x d) ∨ ∃ es k p ds, t = .Tuple es k p ∧ d = .tup ds ∧ bindNs sc es ds σ = some σ' := by
  unfold bindT at h
  cases q : tupleOf t with
  | none =>
    rw [q] at h
    obtain ⟨x, p, e, h⟩ := onName_inv h
    obtain ⟨a, b⟩ := iteSome h
    exact .inl ⟨x, p, e, a, (Option.some.inj b).symm⟩
  | some es =>
    rw [q] at h
    obtain ⟨k, p, e⟩ := tupleOf_inv q
    obtain ⟨ds, e2, h⟩ := onTup_inv h
    exact .inr ⟨es, k, p, ds, e, e2, h⟩
theorem bindShape : ∀ (es : List Expr) (ds : List D) (σ σ' : Sg), bindNs sc es ds σ = some σ' → (assignEach es env).length = ds.length ∧ (assignEach es env).findIdx? (·.1) = none := by
  intro es
  induction es with
  | nil =>
    intro ds σ σ' h
    cases ds with
    | nil => exact ⟨rfl, rfl⟩
    | cons => exact noSome h
  | cons e es ih =>
    intro ds σ σ' h
    obtain ⟨x, p, d, r, rfl, rfl, hb, h⟩ := bindNs_inv h
    obtain ⟨a, b⟩ := ih r _ σ' h
    show ((false, assign (.Name x p) env) :: assignEach es env).length = _ ∧ ((false, assign (.Name x p) env) :: assignEach es env).findIdx? (·.1) = none
    refine ⟨congrArg (· + 1) a, ?_⟩
    rw [List.findIdx?_cons, b]; rfl
theorem bindNames : ∀ (es : List Expr) (ds : List D) (vs : List Value) (σ σ' : Sg) (s : Shared), bindNs sc es ds σ = some σ' → Rds g α vs ds → St K g s.heap env sc α σ μ → ∀ {Q : Unit → Shared → Prop}, (∀ s', Bd K g s env sc α σ' μ s' → Q () s') →
    wpAny (MM w) A (assignInOrder ((assignEach es env).map (·.2)) vs) Q F0 s := by
  intro es
  induction es with
  | nil =>
    intro ds vs σ σ' s h rd S Q hQ
    cases ds with
    | nil =>
      cases rd.nil_
      cases (h : some σ = some σ')
      exact wpAny_pure (hQ s ⟨S, rfl, rfl, Nat.le_refl _, fun _ _ _ e => e⟩)
    | cons => exact noSome h
  | cons e es ih =>
    intro ds vs σ σ' s h rd S Q hQ
    obtain ⟨x, p, d, r, rfl, rfl, hb, h⟩ := bindNs_inv h
    obtain ⟨v, vs, rfl, rv, rr⟩ := rd.cons_
    ·
      show wpAny _ _ (do holding vs (assign (.Name x p) env v); assignInOrder ((assignEach es env).map (·.2)) vs) _ _ _
      refine wpAny_bind (wpAny_holding (wpAny_assign_Name (storeVar S hb rv fun s1 B1 => ?_)))
      exact ih r vs _ σ' s1 h rr B1.st fun s2 B2 => hQ s2 (B1.trans B2)
theorem IterAt.letGo {I : Addr} {ds : List D} {J : Nat → Heap → Prop} {t : Expr} {d : D} {s : Shared} {v : Value} {i : Nat} {Q : Unit → Shared → Prop} {E : Value → Shared → Prop} (W : IterAt w g α I ds J) (hd : d ∈ ds) (hb : bindT sc t d σ = some σ') (hJ : J i s.heap) (hQ : Q () s) : wpAny (MM w) A (letOwnedTupleGo t (.ref I) v) Q E s := by
  obtain ⟨x, p, rfl, _⟩ | ⟨es, k, p, dt, rfl, hdt, _⟩ := bindT_inv hb
  · exact wpAny_pure hQ
  · obtain ⟨o, T, ho, hT, hown⟩ := W.goes ⟨d, hd, dt, hdt⟩ i s.heap hJ
    exact letOwned (w := w) ho hT hown hQ
theorem extKeep {h h' : Heap} (x : Heap.ExtBut h.objs.size h h') : ∀ b o, h.get? b = some o → h'.get? b = some o := fun b o e => x b o (Nat.ne_of_lt (Heap.lt_size e)) e
theorem bindTarget {t : Expr} {d : D} {s : Shared} {v : Value} {Q : Unit → Shared → Prop} (hA : A.handled = none) (h : bindT sc t d σ = some σ') (hr : Rd g α v d) (S : St K g s.heap env sc α σ μ) (hQ : ∀ s', Bd K g s env sc α σ' μ s' → Q () s') :
    wpAny (MM w) A (assign t env v) Q F0 s := by
  rcases bindT_inv h with ⟨x, p, rfl, hv, rfl⟩ | ⟨es, k, p, ds, rfl, rfl, h⟩
  · exact wpAny_assign_Name (storeVar S hv hr hQ)
  · obtain ⟨a, vs, n, rfl, hg, rr⟩ := hr.tup_
    ·
      obtain ⟨h1, h2⟩ := bindShape (env := env) es ds σ σ' h
      have ho := S.sub _ _ hg
      rw [arm_assign_Tuple]
      refine wpAny_bind (wpAny_standAt ?_)
      unfold unpack
      have hn : (assignEach es env).length = vs.toArray.size := by rw [h1, List.size_toArray]; exact rr.length.symm
      rw [hn, h2]
      refine wpAny_bind (wpAny_holding (wpAny_size (wpAny_unpackItems_tuple hA ⟨_, ho, rfl, n, rfl⟩ fun h' hx hz => ?_)))
      refine bindNames es ds vs σ σ' { s with heap := h' } h rr (S.keep (extKeep hx) hz) fun s' B => hQ s' ?_
      exact ⟨B.st, B.gens, B.os, Nat.le_trans hz B.size, fun b o hb e => B.keep b o hb (extKeep hx b o e)⟩
end
end Mine
end
section
open PySem PySem.W PyProof.Rows PySem.Calls
open Builtin Builtin.Str
set_option autoImplicit false
namespace Mine
theorem sub_ri_reversed : isSubtype (.type "range_iterator") (.type "reversed") = pure false := by rw [isSubtype_type]; kernel_rfl
noncomputable def riObj (a n c : Int) : Obj := { cls := .type "range_iterator", data := .fields #[rawInt a, rawInt n, rawInt c] }
section
variable {w : World} {A : Around} {E : Value → Shared → Prop} {s : Shared}
theorem call_range_reversed {l : Addr} {n : Int} {x y z : Tok} {Q : Value → Shared → Prop} (hl : s.heap.get? l = some (robj 0 n x y z)) (hn : small n = true)
    (h : Q (.ref s.heap.objs.size) { s with heap := s.heap.push (riObj ((n.toNat : Int) - 1) n.toNat (-1)) }) : wpAny (MM w) A (PySem.call (.builtin "range.__reversed__") [.ref l]) Q E s := by
  simp only [small, Bool.and_eq_true, decide_eq_true_eq] at hn
  refine wpAny_call_entry F.slot_range_reversed ⟨_, hl, rfl⟩ F.entry_range_reversed ?_ (F.args_range_reversed_1 _)
  unfold Builtin.«range.__reversed__»
  refine wpAny_bind (wpAny_of_eq (a := Value.ref l) rfl ?_)
  have hf : wpAny (MM w) A.in1 (Builtin.Range.rangeFields (.ref l)) (fun p s' => p = (0, n, 1) ∧ s' = s) E s := by
    unfold Builtin.Range.rangeFields
    first
      | exact wpAny_bind (wpAny_load hl (wpAny_pure ⟨rfl, rfl⟩))
      | (repeat (any_goals (first | assumption | wp_step))
         exact ⟨rfl, rfl⟩)
  refine wpAny_bind (wpAny_mono hf (fun p s' q => ?_) fun _ _ x => x)
  obtain ⟨rfl, rfl⟩ := q
  dsimp only
  have es : Builtin.Range.rangeSize 0 n 1 = (n.toNat : Int) := by rw [rangeSize_one]; split <;> lia
  rw [es]
  have p63 : (2 : Int) ^ 63 = 9223372036854775808 := by decide
  have hs : (Builtin.Range.rangeFitsLong 0 && Builtin.Range.rangeFitsLong n && Builtin.Range.rangeFitsLong 1 && Builtin.Range.rangeFitsLong (-1) && Builtin.Range.rangeFitsLong (0 - 1) && Builtin.Range.rangeFitsLong (n.toNat : Int)) = true := by
    simp only [Builtin.Range.rangeFitsLong, Bool.and_eq_true, decide_eq_true_eq, p63]
    refine ⟨⟨⟨⟨⟨?_, ?_⟩, ?_⟩, ?_⟩, ?_⟩, ?_⟩ <;> constructor <;> lia
  rw [hs]
  simp only [Bool.not_true, Bool.false_eq_true, if_false, if_true]
  refine wpAny_bind (wpAny_newObj_type (wpAny_pure ⟨_, rfl, ?_⟩))
  have e : (0 : Int) + ((n.toNat : Int) - 1) * 1 = (n.toNat : Int) - 1 := by lia
  rw [e]
  exact h
theorem code_reversed_range {l : Addr} {n : Int} {x y z : Tok} {Q₁ : Value → Shared → Prop} (hl : s.heap.get? l = some (robj 0 n x y z)) (hn : small n = true)
    (h : Q₁ (.ref s.heap.objs.size) { s with heap := s.heap.push (riObj ((n.toNat : Int) - 1) n.toNat (-1)) }) :
    codeAny (MM w) A (.call (.builtin "reversed.__new__") ⟨[.type "reversed", .ref l], []⟩) (wants Q₁ E) s := by
  have hT : s.TypeIs (.ref l) "range" := ⟨_, hl, rfl⟩
  refine codeAny_of_tree ?_
  show wpAny _ A.in1 (do checkBuiltinCall "reversed.__new__" ⟨[.type "reversed", .ref l], []⟩; again (.builtin "reversed.__new__" ⟨[.type "reversed", .ref l], []⟩)) _ _ s
  refine wpAny_bind (wpAny_of_eq (F.newCall_reversed_1 _) (wpAny_pure ⟨plainId_quiet F.plain_reversed_new _, codeAny_builtin F.entry_reversed_new ?_⟩))
  rw [Around.under_plainId F.plain_reversed_new _]
  unfold Builtin.«reversed.__new__»
  refine wpAny_bind (wpAny_of_eq (newClass_reversed _) ?_)
  try dsimp only
  refine wpAny_bind (wpAny_of_eq (a := ()) (by first | rfl | kernel_rfl) ?_)
  refine wpAny_bind (wpAny_of_eq (a := ()) (by first | rfl | kernel_rfl) ?_)
  try dsimp only
  refine wpAny_bind (wpAny_specialOf hT F.slot_range_reversed.lookup ?_)
  try dsimp only
  refine wpAny_bind (wpAny_of_eq (F.slot_range_reversed.bind _) ?_)
  try dsimp only
  first
  | rw [if_neg (show ¬ ((Value.builtin "range.__reversed__" == Value.none) = true) from Bool.false_ne_true)]
  | (show wpAny _ _ (if (Value.builtin "range.__reversed__" == Value.none) = true then _ else _) _ _ _; rw [if_neg (show ¬ ((Value.builtin "range.__reversed__" == Value.none) = true) from Bool.false_ne_true)])
  refine wpAny_bind (wpAny_rule ?_)
  refine wpAny_bind (m := runValue (.call (.builtin "range.__reversed__") ⟨[.ref l], []⟩)) (show wpAny _ _ (PySem.call (.builtin "range.__reversed__") [.ref l]) _ _ _ from call_range_reversed hl hn ?_)
  first
  | exact wpAny_pure h
  | exact wpAny_bind (wpAny_pure (wpAny_pure h))
theorem call_reversed_range {l : Addr} {n : Int} {x y z : Tok} {Q : Value → Shared → Prop} (hl : s.heap.get? l = some (robj 0 n x y z)) (hn : small n = true)
    (h : Q (.ref s.heap.objs.size) { s with heap := s.heap.push (riObj ((n.toNat : Int) - 1) n.toNat (-1)) }) : wpAny (MM w) A (PySem.call (.type "reversed") [.ref l]) Q E s := by
  refine callType_other (U := "range_iterator") (Q₁ := fun obj s₁ => obj = .ref s.heap.objs.size ∧ s₁ = { s with heap := s.heap.push (riObj ((n.toNat : Int) - 1) n.toNat (-1)) }) (by decide +kernel) F.create_reversed ⟨_, _, F.mro_reversed⟩ F.made_reversed sub_ri_reversed (F.typeCall_reversed_1 _) (code_reversed_range hl hn ⟨rfl, rfl⟩) ?_
  rintro obj s₁ ⟨rfl, rfl⟩
  exact ⟨⟨_, Heap.get?_push_size _ rfl, rfl⟩, h⟩
end
theorem rev_at (n i : Nat) (d : D) (h : (intsFrom 0 n).reverse[i]? = some d) : d = .int (((n : Int) - 1) + (i : Int) * (-1)) := by
  have hl : i < n := by have := (List.getElem?_eq_some_iff.mp h).1; simpa [intsFrom_len] using this
  rw [List.getElem?_reverse (by rw [intsFrom_len]; exact hl), intsFrom_len] at h
  rw [intsFrom_at _ _ _ _ h]
  congr 1; lia
section
variable {K : Gh} {w : World} {r : Nat} {mg mb : Str → Option Value} {sc : Scope} {σ σ' : Sg} {μ μ1 μ2 μ3 μ4 : Mu}
theorem EvIt.rev {f f2 : Str} {np np2 p p2 : Pos} {a : Expr} {n : Int} (T : Tops K mg mb) (hf : isGlob (kOf sc f) = true) (hg : GG f = some (.ty "reversed")) (hn1 : (f == ("__debug__" : Str)) = false) (hf2 : isGlob (kOf sc f2) = true) (hg2 : GG f2 = some (.ty "range")) (hn2 : (f2 == ("__debug__" : Str)) = false)
    (hs : StarOk a) (h : Ev K w r sc σ μ a (.int n) μ1) (hn : small n = true) : EvIt K w r sc σ μ (.Call (.Name f np) [.Call (.Name f2 np2) [a] [] p2] [] p) ((intsFrom 0 n.toNat).reverse) μ1 := fun g s env α A S R => by
  have hr : Ev K w r sc σ μ (.Call (.Name f2 np2) [a] [] p2) (.rng 0 n) μ1 := Ev.call_ty T hf2 hg2 hn2 (by intro e he; cases List.mem_singleton.mp he; exact hs) (Evs.cons (fun env => hs _ env) h Evs.nil) rangeD1
  obtain ⟨fv, q, hfv⟩ := T.has f _ hg
  obtain rfl : fv = .type "reversed" := hfv
  refine wpAny_Call_ofName (wpAny_Name (loadGlob T (fun b o e => S.sub _ _ (S.base _ _ e)) S.kind S.glb (S.seesG f hf) q ?_) hn1)
  have hst : ∀ e ∈ [Expr.Call (.Name f2 np2) [a] [] p2], StarOk e := by intro e he; cases List.mem_singleton.mp he; exact fun _ _ => rfl
  refine PySem.callWith_type (star_plain p hst) (evalArgs_all (star_plain p hst) (wpAny_items_cons (wpAny_mono (hr g s env α A S R) (fun v s1 q => ?_) fun _ _ x => x)))
  obtain ⟨g1, P1, r1⟩ := q
  refine wpAny_items_nil ?_
  obtain ⟨_, _, _, _, rfl, hgr⟩ := r1.rng_
  ·
    refine call_reversed_range (P1.st.sub _ _ hgr) hn ?_
    have W : IterAt w g1 α s1.heap.objs.size ((intsFrom 0 n.toNat).reverse) (fun i h => IsRangeIter h s1.heap.objs.size (((n.toNat : Int) - 1) + (i : Nat) * (-1)) ((n.toNat : Int) - (i : Nat)) (-1)) :=
      ⟨fun A' hA => ⟨[s1.heap.objs.size], fun i v => ∃ t, v = .int (((n.toNat : Int) - 1) + i * (-1)) t, by
          rw [List.length_reverse, intsFrom_len]
          exact Walks.range (prog := P0') (w := w) hA s1.heap.objs.size ((n.toNat : Int) - 1) (-1) n.toNat, fun b hb => .inl (by simpa using hb), fun i v d hd hv => by
          obtain ⟨t, rfl⟩ := hv
          rw [rev_at _ _ _ hd]
          exact .int _ _⟩, by
        rintro ⟨d, hd, l, rfl⟩
        obtain ⟨i, hi⟩ := List.getElem?_of_mem hd
        have := rev_at _ _ _ hi
        cases this⟩
    have hJ : IsRangeIter (s1.heap.push (riObj ((n.toNat : Int) - 1) n.toNat (-1))) s1.heap.objs.size (((n.toNat : Int) - 1) + ((0 : Nat) : Int) * (-1)) ((n.toNat : Int) - ((0 : Nat) : Int)) (-1) := by
      rw [show (((n.toNat : Int) - 1) + ((0 : Nat) : Int) * (-1)) = (n.toNat : Int) - 1 by simp, show ((n.toNat : Int) - ((0 : Nat) : Int)) = (n.toNat : Int) by simp]
      exact Heap.get?_push_size _ rfl
    refine W.self R.2.2 (s := { s1 with heap := s1.heap.push (riObj ((n.toNat : Int) - 1) n.toNat (-1)) }) (i := 0) hJ ?_
    exact ⟨g1, _, _, rfl, P1.trans (Step.grow P1.st (push_keep _ _).1 (push_keep _ _).2 rfl rfl), P1.kp.1, pushLt _ _, P1.st.fresh (Nat.le_refl _), W, hJ⟩
end
end Mine
end
section
open PySem PySem.W PyProof.Rows PySem.Calls
open Builtin Builtin.Str
set_option autoImplicit false
namespace Mine
/-! the closure of a comprehension -/
theorem closure_is {env : Env} : ∀ (names : List (Str × NameKind)) (cs : List (Str × Addr)), (∀ p ∈ names, p.2 = .free → ∃ c, env.cells.lookup p.1 = some c) → (∀ x c, cs.lookup x = some c → env.cells.lookup x = some c) →
    ∃ cl, (forIn names cs fun (p : Str × NameKind) (r : List (Str × Addr)) => (if (p.2 == NameKind.free) = true then (cellOf env p.1 >>= fun a => pure (ForInStep.yield ((p.1, a) :: r))) else pure (ForInStep.yield r) : Sem (ForInStep (List (Str × Addr))))) = pure cl ∧
      (∀ x c, cl.lookup x = some c → env.cells.lookup x = some c) ∧ (∀ x c, cs.lookup x = some c → cl.lookup x = some c) ∧ (∀ p ∈ names, p.2 = .free → ∃ c, cl.lookup p.1 = some c)
  | [], cs, _, h2 => ⟨cs, by rw [List.forIn_nil], h2, fun _ _ e => e, by simp⟩
  | p :: names, cs, h1, h2 => by
    rw [List.forIn_cons]
    by_cases hp : p.2 = .free
    · obtain ⟨c, hc⟩ := h1 p (by simp) hp
      have e : cellOf env p.1 = pure c := by unfold cellOf; rw [hc]
      rw [if_pos (by rw [hp]; rfl), e]
      simp only [pure_bind]
      have good : ∀ x c', ((p.1, c) :: cs : List (Str × Addr)).lookup x = some c' → env.cells.lookup x = some c' := fun x c' hx => by
        rw [List.lookup_cons] at hx
        split at hx
        · next q => cases hx; rw [beq_iff_eq.mp q]; exact hc
        · exact h2 x c' hx
      obtain ⟨cl, a1, a2, a3, a4⟩ := closure_is names ((p.1, c) :: cs) (fun q hq => h1 q (by simp [hq])) good
      refine ⟨cl, a1, a2, fun x c' hx => ?_, fun q hq hf => ?_⟩
      · by_cases q : x = p.1
        · subst q
          have := h2 _ _ hx
          rw [hc] at this; cases this
          exact a3 _ _ (by rw [List.lookup_cons]; simp)
        · refine a3 x c' ?_
          rw [List.lookup_cons]
          have : (x == p.1) = false := by simpa using q
          rw [this]; exact hx
      · rcases List.mem_cons.mp hq with rfl | hq
        · exact ⟨c, a3 _ _ (by rw [List.lookup_cons]; simp)⟩
        · exact a4 q hq hf
    · have hp' : ¬ ((p.2 == NameKind.free) = true) := by simpa using hp
      rw [if_neg hp']
      simp only [pure_bind]
      obtain ⟨cl, a1, a2, a3, a4⟩ := closure_is names cs (fun q hq => h1 q (by simp [hq])) h2
      exact ⟨cl, a1, a2, a3, fun q hq hf => by
        rcases List.mem_cons.mp hq with rfl | hq
        · exact absurd hf hp
        · exact a4 q hq hf⟩
theorem closureFor_is {env : Env} {scope : Scope} (h1 : ∀ p ∈ scope.names, p.2 = .free → ∃ c, env.cells.lookup p.1 = some c) :
    ∃ cl, closureFor scope env = pure cl ∧ (∀ x c, cl.lookup x = some c → env.cells.lookup x = some c) ∧ (∀ p ∈ scope.names, p.2 = .free → ∃ c, cl.lookup p.1 = some c) := by
  obtain ⟨cl, a1, a2, _, a4⟩ := closure_is (env := env) scope.names [] h1 (by simp)
  refine ⟨cl, ?_, a2, a4⟩
  unfold closureFor
  refine Eq.trans ?_ a1
  show (forIn scope.names [] _ >>= fun cs => pure cs) = _
  rw [bind_pure]
/-! its scope -/
theorem relabel_lookup {env : Env} (hk : env.scope.kind = .function) : ∀ (names : List (Str × NameKind)) (x : Str),
    (names.map fun (n, k) => if (k == NameKind.free && env.scope.kind == .function && env.kindOf n == some .cell) then (n, NameKind.cell) else (n, k)).lookup x = (names.lookup x).map fun k => if (k == NameKind.free && env.kindOf x == some .cell) then .cell else k
  | [], x => rfl
  | (n, k) :: names, x => by
    have ih := relabel_lookup hk names x
    rw [List.map_cons]
    have e : (match ((n, k) : Str × NameKind) with | (n, k) => if (k == NameKind.free && env.scope.kind == .function && env.kindOf n == some .cell) then (n, NameKind.cell) else (n, k)) = (n, if (k == NameKind.free && env.kindOf n == some .cell) then NameKind.cell else k) := by
      simp only [hk, beq_self_eq_true, Bool.and_true]
      split <;> rfl
    rw [e, List.lookup_cons, List.lookup_cons]
    by_cases q : x = n
    · subst q
      simp
    · have q' : (x == n) = false := by simpa using q
      rw [q']
      exact ih
structure CompOk (sc sc' : Scope) : Prop where
  kind : sc'.kind = .function
  cell : ∀ p ∈ sc'.names, p.2 ≠ .cell
  free : ∀ p ∈ sc'.names, p.2 = .free → kOf sc p.1 = some .cell
  self : ∀ p ∈ sc'.names, kOf sc' p.1 = some p.2
  dbg : ∀ p ∈ sc'.names, p.1 ≠ Str.ofString "__debug__"
theorem lookup_two {α : Type} {l : List (Str × α)} {x y : Str} {a b : α} (h : ((y, b) :: l).lookup x = some a) : (x = y ∧ a = b) ∨ l.lookup x = some a := by
  have h : (match x == y with | true => some b | false => l.lookup x) = some a := h
  cases q : x == y with
  | true => rw [q] at h; exact .inl ⟨beq_iff_eq.mp q, (Option.some.inj h).symm⟩
  | false => rw [q] at h; exact .inr h
theorem lookup_mem {α : Type} : ∀ {l : List (Str × α)} {x : Str} {a : α}, l.lookup x = some a → (x, a) ∈ l
  | [], x, a, h => noSome h
  | (y, b) :: l, x, a, h => by
    obtain ⟨rfl, rfl⟩ | h := lookup_two h
    · exact List.mem_cons_self ..
    · exact List.mem_cons_of_mem _ (lookup_mem h)
theorem compOk_is {sc sc' : Scope} (h : compOk sc sc' = true) : CompOk sc sc' := by
  unfold compOk at h
  simp only [Bool.and_eq_true, List.all_eq_true, beq_iff_eq, bne_iff_ne, ne_eq, Bool.or_eq_true] at h
  exact ⟨h.1, fun p hp => (h.2 p hp).1.1.1, fun p hp hf => ((h.2 p hp).1.1.2).resolve_left fun q => q hf, fun p hp => (h.2 p hp).1.2, fun p hp => (h.2 p hp).2⟩
theorem CompOk.noCell {sc sc' : Scope} (c : CompOk sc sc') (x : Str) : kOf sc' x ≠ some .cell := fun h => c.cell _ (lookup_mem h) rfl
theorem lookup_skip {α : Type} {l : List (Str × α)} {x y : Str} {b : α} (h : x ≠ y) : ((y, b) :: l).lookup x = l.lookup x := by
  rw [List.lookup_cons, beq_eq_false_iff_ne.mpr h]
theorem innerOf_lookup {sc' : Scope} : ∀ {σ : Sg} {x : Str} {d : D}, (innerOf sc' σ).lookup x = some d → σ.lookup x = some d ∧ kOf sc' x = some .free
  | [], x, d, h => noSome h
  | (y, e) :: σ, x, d, h => by
    have h : (List.filter (fun p => isFree (kOf sc' p.1)) ((y, e) :: σ)).lookup x = some d := h
    by_cases hf : isFree (kOf sc' y) = true
    · rw [List.filter_cons_of_pos (p := fun p : Str × D => isFree (kOf sc' p.1)) (a := (y, e)) hf] at h
      by_cases q : x = y
      · subst q
        rw [List.lookup_cons_self] at h ⊢
        exact ⟨h, beq_iff_eq.mp hf⟩
      · rw [lookup_skip q] at h ⊢
        exact innerOf_lookup (σ := σ) h
    · rw [List.filter_cons_of_neg (p := fun p : Str × D => isFree (kOf sc' p.1)) (a := (y, e)) hf] at h
      obtain ⟨a, b⟩ := innerOf_lookup (σ := σ) h
      exact ⟨(lookup_skip fun (q : x = y) => hf (beq_iff_eq.mpr (q ▸ b))).trans a, b⟩
section
variable {K : Gh} {w : World} {r : Nat} {mg mb : Str → Option Value} {sc sc' : Scope} {σ σ' : Sg} {μ μ1 μ2 μ3 μ4 : Mu} {g : Gh} {α : List Addr} {env : Env} {A : Around}
theorem kind_inner (hk : env.scope.kind = .function) (cl : List (Str × Addr)) (C : Addr) (x : Str) : (compEnvC sc' cl C env).kindOf x = (kOf sc' x).map fun k => if (k == NameKind.free && env.kindOf x == some .cell) then .cell else k :=
  relabel_lookup hk sc'.names x
/-- inside a comprehension -/
theorem St.inner {h h' : Heap} (S : St K g h env sc α σ μ) (c : CompOk sc sc') {cl : List (Str × Addr)} {C : Addr} (hcl1 : ∀ x c, cl.lookup x = some c → env.cells.lookup x = some c) (hcl2 : ∀ p ∈ sc'.names, p.2 = .free → ∃ c, cl.lookup p.1 = some c)
    (hk : ∀ b o, h.get? b = some o → h'.get? b = some o) (hs : h.objs.size ≤ h'.objs.size) (hC : h.objs.size ≤ C) (hN : h'.Ns C fun _ => none) : St K g h' (compEnvC sc' cl C env) sc' α (innerOf sc' σ) μ := by
  have hCl : ∀ a, Stor env a → a ≠ C := fun a e => Nat.ne_of_lt (Nat.lt_of_lt_of_le (S.stor a e).2.2 hC)
  refine ⟨S.base, fun b o e => hk b o (S.sub b o e), c.kind, S.glb, fun x hx => ?_, fun x hx => ?_, fun x hx => ?_, ⟨_, hN⟩, fun x hx => ?_, fun x y a hx hy => S.apart x y a (hcl1 _ _ hx) (hcl1 _ _ hy), fun x a hx => hCl a (.inr ⟨x, hcl1 _ _ hx⟩), fun x d hx => ?_, fun a ha => ?_,
    fun k ds e => (S.own k ds e).imp fun _ => .imp fun _ => .imp fun _ => .imp_right (.imp_left (hk _ _)), S.nodup, fun a ha => Nat.lt_of_lt_of_le (S.lt a ha) hs, S.len⟩
  · rw [kind_inner S.kind, beq_iff_eq.mp hx]; rfl
  · rw [kind_inner S.kind, hx]; rfl
  · rcases hx with hx | hx
    · exact absurd hx (c.noCell x)
    · rw [kind_inner S.kind, hx]
      have := S.seesC x (.inl (c.free _ (lookup_mem hx) rfl))
      rw [this]; rfl
  · rw [kind_inner S.kind] at hx
    obtain ⟨k, e1, e2⟩ := Option.map_eq_some_iff.mp hx
    have hfree : k = .free := by
      split at e2
      · next q => simp only [Bool.and_eq_true, beq_iff_eq] at q; exact q.1
      · subst e2; exact absurd e1 (c.noCell x)
    subst hfree
    obtain ⟨a, ha⟩ := hcl2 _ (lookup_mem e1) rfl
    obtain ⟨a', v, ha', hv⟩ := S.cel x (S.seesC x (.inl (c.free _ (lookup_mem e1) rfl)))
    rw [hcl1 _ _ ha] at ha'; cases ha'
    exact ⟨a, v, ha, hv.keeps hk⟩
  · obtain ⟨a, b⟩ := innerOf_lookup hx
    obtain ⟨v, hv, rv⟩ := S.vars x d a
    have hcell := S.seesC x (.inl (c.free _ (lookup_mem b) rfl))
    refine ⟨v, .inr ⟨?_, ?_⟩, rv⟩
    · rw [kind_inner S.kind, b, hcell]; rfl
    · obtain ⟨a', ha'⟩ := hcl2 _ (lookup_mem b) rfl
      rcases hv with ⟨e, _⟩ | ⟨_, a'', ha'', hv⟩
      · rw [hcell] at e; cases e
      · rw [hcl1 _ _ ha'] at ha''; cases ha''
        exact ⟨a', ha', hv.keeps hk⟩
  · rcases ha with rfl | ⟨x, hx⟩
    · exact ⟨S.fresh hC, fun hm => Nat.lt_irrefl _ (Nat.lt_of_lt_of_le (S.lt _ hm) hC), hN.lt⟩
    · obtain ⟨a1, a2, a3⟩ := S.stor a (.inr ⟨x, hcl1 _ _ hx⟩)
      exact ⟨a1, a2, Nat.lt_of_lt_of_le a3 hs⟩
/-- back outside -/
theorem St.outer {g' : Gh} {h h' : Heap} {env' : Env} {sc' : Scope} {σ' : Sg} (S : St K g h env sc α σ μ) (S' : St K g' h' env' sc' α σ' μ1) (hx : Ext h.objs.size g g') (hk : ∀ a, Stor env a → ∀ o, h.get? a = some o → h'.get? a = some o) (hs : h.objs.size ≤ h'.objs.size) : St K g' h' env sc α σ μ1 := by
  refine ⟨S'.base, S'.sub, S.kind, S.glb, S.seesG, S.seesL, S.seesC, ?_, fun x e => ?_, S.apart, S.locc, fun x d e => let ⟨v, p, q⟩ := S.vars x d e; ⟨v, p.keeps hk, q.mono hx.1 fun _ _ e => e⟩,
    fun a e => let ⟨x, y, z⟩ := S.stor a e; ⟨by rw [hx.2 a z]; exact x, y, Nat.lt_of_lt_of_le z hs⟩, S'.own, S.nodup, fun a ha => Nat.lt_of_lt_of_le (S.lt a ha) hs, S'.len⟩
  · obtain ⟨m, o, es, ep, x, rr⟩ := S.loc
    exact ⟨m, o, es, ep, hk _ (.inl rfl) o x, rr⟩
  · obtain ⟨c, v, x, o, y, z⟩ := S.cel x e
    exact ⟨c, v, x, o, hk _ (.inr ⟨_, x⟩) o y, z⟩
end
end Mine
end
section
open PySem PySem.W PyProof.Rows PySem.Calls
open Builtin Builtin.Str
set_option autoImplicit false
namespace Mine
/-- the state of a comprehension: its names, and the list that it fills -/
structure CS (K g : Gh) (s : Shared) (cenv : Env) (sc' : Scope) (α : List Addr) (σ : Sg) (μ : Mu) (L : Addr) (acc : List D) : Prop where
  st : St K g s.heap cenv sc' α σ μ
  acc : ∃ ws n, s.heap.get? L = some (lobj ws n) ∧ Rds g α ws acc
  free : g L = none
  own : L ∉ α
  sto : ¬ Stor cenv L
structure CR (xs : List Addr) (K g : Gh) (s : Shared) (g' : Gh) (s' : Shared) (cenv : Env) (sc' : Scope) (α : List Addr) (σ' : Sg) (μ' : Mu) (L : Addr) (acc' : List D) : Prop where
  ext : Ext s.heap.objs.size g g'
  cs : CS K g' s' cenv sc' α σ' μ' L acc'
  size : s.heap.objs.size ≤ s'.heap.objs.size
  kp : ∀ b o, b ∉ α → b ≠ L → b ≠ cenv.locals → b ∉ xs → s.heap.get? b = some o → s'.heap.get? b = some o
  gens : s'.gens = s.gens
  os : s'.os = s.os
section
variable {K : Gh} {w : World} {r : Nat} {mg mb : Str → Option Value} {sc sc' : Scope} {σ σ' : Sg} {μ μ1 μ2 μ3 μ4 : Mu} {g : Gh} {α : List Addr} {env cenv : Env} {A : Around} {s : Shared} {L : Addr} {acc : List D}
theorem CR.trans {xs : List Addr} {g1 g2 : Gh} {s1 s2 : Shared} {σ1 σ2 : Sg} {acc1 acc2 : List D} (x : CR xs K g s g1 s1 cenv sc' α σ1 μ1 L acc1) (y : CR xs K g1 s1 g2 s2 cenv sc' α σ2 μ2 L acc2) : CR xs K g s g2 s2 cenv sc' α σ2 μ2 L acc2 :=
  ⟨x.ext.trans y.ext x.size, y.cs, Nat.le_trans x.size y.size, fun b o h1 h2 h3 h4 e => y.kp b o h1 h2 h3 h4 (x.kp b o h1 h2 h3 h4 e), y.gens.trans x.gens, y.os.trans x.os⟩
theorem CR.weak {xs : List Addr} {g1 : Gh} {s1 : Shared} {σ1 : Sg} {acc1 : List D} (x : CR [] K g s g1 s1 cenv sc' α σ1 μ1 L acc1) : CR xs K g s g1 s1 cenv sc' α σ1 μ1 L acc1 :=
  ⟨x.ext, x.cs, x.size, fun b o h1 h2 h3 _ e => x.kp b o h1 h2 h3 (by simp) e, x.gens, x.os⟩
theorem CR.refl {xs : List Addr} (c : CS K g s cenv sc' α σ μ L acc) : CR xs K g s g s cenv sc' α σ μ L acc := ⟨Ext.refl _ _, c, Nat.le_refl _, fun _ _ _ _ _ _ e => e, rfl, rfl⟩
theorem CS.keep {s' : Shared} (c : CS K g s cenv sc' α σ μ L acc) (hst : St K g s'.heap cenv sc' α σ' μ) (hL : ∀ o, s.heap.get? L = some o → s'.heap.get? L = some o) : CS K g s' cenv sc' α σ' μ L acc :=
  ⟨hst, let ⟨ws, n, a, b⟩ := c.acc; ⟨ws, n, hL _ a, b⟩, c.free, c.own, c.sto⟩
/-- one expression within a comprehension -/
theorem CR.ofStep {g1 : Gh} {s1 : Shared} {μ1 : Mu} (c : CS K g s cenv sc' α σ μ L acc) (P : Step K g s g1 s1 cenv sc' α σ μ1) : CR [] K g s g1 s1 cenv sc' α σ μ1 L acc := by
  obtain ⟨ws, n, a, b⟩ := c.acc
  refine ⟨P.ext, ⟨P.st, ⟨ws, n, P.kp.2 _ _ a c.own, b.mono P.ext.1 fun _ _ e => e⟩, ?_, c.own, c.sto⟩, P.kp.1, fun b o h1 _ _ _ e => P.kp.2 b o e h1, P.gens, P.os⟩
  rw [P.ext.2 L (Heap.lt_size a)]; exact c.free
theorem emit {elt : Expr} {d : D} (he : Ev K w r sc' σ μ elt d μ1) (hl : acc.length ≤ 1000) (c : CS K g s cenv sc' α σ μ L acc) (R : Room r A) :
    wpAny (MM w) A (eval elt cenv >>= fun x => PySem.call (.builtin "list.append") [.ref L, x] >>= fun _ => pure ()) (fun _ s' => ∃ g', CR [] K g s g' s' cenv sc' α σ μ1 L (acc ++ [d])) F0 s := by
  refine wpAny_bind (wpAny_mono (he g s cenv α A c.st R) (fun v s1 q => ?_) fun _ _ x => x)
  obtain ⟨g1, P, rv⟩ := q
  have C1 := CR.ofStep c P
  obtain ⟨ws, n, hL, rw'⟩ := C1.cs.acc
  refine wpAny_bind (wpAny_list_append_plain ⟨n, hL⟩ (fun h' hp hsb => wpAny_pure ⟨g1, ?_⟩) (by rw [List.size_toArray, rw'.length]; exact Nat.le_trans hl (by decide)))
  obtain ⟨m, ho'⟩ := hp
  refine C1.trans ⟨Ext.refl _ _, ⟨C1.cs.st.keepBut (C := L) C1.cs.free C1.cs.sto C1.cs.own (fun b o hb e => hsb.extBut b o hb e) (Nat.le_of_eq hsb.1.symm), ⟨ws ++ [v], m, ?_, rw'.append (.cons rv .nil)⟩, C1.cs.free, C1.cs.own, C1.cs.sto⟩, Nat.le_of_eq hsb.1.symm, fun b o _ h2 _ _ e => hsb.extBut b o h2 e, rfl, rfl⟩
  show h'.get? L = _
  rw [ho']; simp [lobj]
theorem compGen {c : Code} {t : Expr} {ip : Pos} {B : Sem Unit} {I : Addr} {n : Nat} {Inv : Nat → Shared → Prop} {R : Result → Shared → Prop} (hq : c.quiet = true)
    (hturn : (MM w).den c = (standAt ip >>= fun _ => pyNext (.ref I) >>= fun r => match r with
      | none => pure (.done .next)
      | some v => letOwnedTupleGo t (.ref I) v >>= fun _ => assign t cenv v >>= fun _ => B >>= fun _ => again c).onRaise (fun x => do noteFrame x cenv; theTreesLotGoes x))
    (hu : A.under c = A)
    (hstep : ∀ i s', i < n → Inv i s' → wpAny (MM w) A (pyNext (.ref I)) (fun r s1 => ∃ v, r = some v ∧ wpAny (MM w) A (letOwnedTupleGo t (.ref I) v) (fun _ s2 => wpAny (MM w) A (PySem.assign t cenv v) (fun _ s3 => wpAny (MM w) A B (fun _ s4 => Inv (i + 1) s4) F0 s3) F0 s2) F0 s1) F0 s')
    (hend : ∀ s', Inv n s' → wpAny (MM w) A (pyNext (.ref I)) (fun r s1 => r = none ∧ R (.ok .next) s1) F0 s') (h0 : Inv 0 s) : codeAny (MM w) A c R s := by
  refine codeAny_loop hq (fun k s' => ∃ i, i ≤ n ∧ k = n - i ∧ Inv i s') (fun k s' hK => ?_) n ⟨0, Nat.zero_le _, rfl, h0⟩
  obtain ⟨i, hi, rfl, hI⟩ := hK
  rw [hturn, hu]
  refine wpAny_noted (wpAny_bind (wpAny_standAt ?_))
  obtain hlt | rfl := Nat.lt_or_eq_of_le hi
  · refine wpAny_bind (wpAny_mono (hstep i s' hlt hI) (fun r s1 q => ?_) fun _ _ x => x.elim)
    obtain ⟨v, rfl, q⟩ := q
    refine wpAny_bind (wpAny_mono q (fun _ s2 q => wpAny_bind (wpAny_mono q (fun _ s3 q => wpAny_bind (wpAny_mono q (fun _ s4 q => ?_) fun _ _ x => x.elim)) fun _ _ x => x.elim)) fun _ _ x => x.elim)
    exact wpAny_pure ⟨rfl, n - (i + 1), Nat.sub_lt_sub_left hlt (Nat.lt_succ_self i), i + 1, hlt, rfl, q⟩
  · refine wpAny_bind (wpAny_mono (hend s' hI) (fun r s1 q => ?_) fun _ _ x => x.elim)
    obtain ⟨rfl, q⟩ := q
    exact wpAny_pure q
theorem notWr (hnc : ∀ x, kOf sc' x ≠ some .cell) {b : Addr} (hb : b ≠ cenv.locals) : ¬ Wr cenv sc' b := fun h => by
  obtain h | ⟨x, hx, _⟩ := h
  · exact hb h
  · exact hnc x hx
theorem LC_cons {bind : D → Sg → Option Sg} {step : Sg → Mu → List D → List D × Sg × Mu → Prop} {ds : List D} {i : Nat} {y : List D × Sg × Mu} (hlt : i < ds.length) (h : LC bind step (ds.drop i) σ μ acc y) : ∃ d σ1 x, ds[i]? = some d ∧ bind d σ = some σ1 ∧ step σ1 μ acc x ∧ LC bind step (ds.drop (i + 1)) x.2.1 x.2.2 x.1 y := by
  rw [List.drop_eq_getElem_cons hlt] at h
  obtain ⟨σ1, x, h1, h2, h3⟩ := h
  exact ⟨_, σ1, x, List.getElem?_eq_getElem hlt, h1, h2, h3⟩
theorem CR.bump {I : Addr} {g' : Gh} {s' : Shared} {μ' : Mu} {h1 : Heap} {tk : Nat} {acc' : List D} (X : CR [I] K g s g' s' cenv sc' α σ' μ' L acc') (hIg' : g' I = none) (hIS : ¬ Stor cenv I) (hIα : I ∉ α) (hIL : I ≠ L) (hz : s'.heap.objs.size ≤ h1.objs.size) (hk : ∀ b o, b ≠ I → s'.heap.get? b = some o → h1.get? b = some o) : CR [I] K g s g' { s' with heap := h1, toks := tk } cenv sc' α σ' μ' L acc' :=
  X.trans ⟨Ext.refl _ _, X.cs.keep (X.cs.st.keepBut hIg' hIS hIα hk hz) fun o e => hk L o (Ne.symm hIL) e, hz, fun b o _ _ _ h4 e => hk b o (fun q => h4 (q ▸ List.mem_singleton_self _)) e, rfl, rfl⟩
theorem compLoop {elt t : Expr} {gens : List Comprehension} {pos ip : Pos} {dep : Nat} {B : Sem Unit} {I : Addr} {ds : List D} {J : Nat → Heap → Prop} {step : Sg → Mu → List D → List D × Sg × Mu → Prop} {R : Result → Shared → Prop} {accF : List D} {σF : Sg} {μF : Mu}
    (hturn : compTurn (.ListComp elt gens sc' pos) dep (.ref I) (.ref L) cenv = (standAt ip >>= fun _ => pyNext (.ref I) >>= fun r => match r with
      | none => pure (.done .next)
      | some v => letOwnedTupleGo t (.ref I) v >>= fun _ => assign t cenv v >>= fun _ => B >>= fun _ => again (.compLoop (.ListComp elt gens sc' pos) dep (.ref I) (.ref L) cenv)))
    (hA : A.handled = none) (hnc : ∀ x, kOf sc' x ≠ some .cell) (W : IterAt w g α I ds J) (hJ : J 0 s.heap) (hIs : I < s.heap.objs.size) (hIg : g I = none) (hIα : I ∉ α) (hIS : ¬ Stor cenv I) (hIL : I ≠ L)
    (c : CS K g s cenv sc' α σ μ L acc) (hl : LC (bindT sc' t) step ds σ μ acc (accF, σF, μF))
    (hB : ∀ g' s' σ' μ' acc' x, Ext s.heap.objs.size g g' → CS K g' s' cenv sc' α σ' μ' L acc' → step σ' μ' acc' x → wpAny (MM w) A B (fun _ s'' => ∃ g'', CR [] K g' s' g'' s'' cenv sc' α x.2.1 x.2.2 L x.1) F0 s')
    (hR : ∀ g' s', CR [I] K g s g' s' cenv sc' α σF μF L accF → R (.ok .next) s') : codeAny (MM w) A (.compLoop (.ListComp elt gens sc' pos) dep (.ref I) (.ref L) cenv) R s := by
  have hIC : I ≠ cenv.locals := fun e => hIS (.inl e)
  have hLC : L ≠ cenv.locals := fun e => c.sto (.inl e)
  refine compGen (n := ds.length) (Inv := fun i s' => ∃ g' σ' μ' acc', LC (bindT sc' t) step (ds.drop i) σ' μ' acc' (accF, σF, μF) ∧ CR [I] K g s g' s' cenv sc' α σ' μ' L acc' ∧ J i s'.heap) rfl (congrArg (fun m : Sem Fin => m.onRaise (fun x => do noteFrame x cenv; theTreesLotGoes x)) hturn) rfl (fun i s' hlt hI => ?_) (fun s' hI => ?_) ⟨g, σ, μ, acc, hl, CR.refl c, hJ⟩
  · obtain ⟨g', σ', μ', acc', hlo, X, hJi⟩ := hI
    obtain ⟨d, σ1, x, hd, hb1, hst, hlo⟩ := LC_cons hlt hlo
    refine (W.mono X.ext.1).next hA hd hJi fun v h1 tk rv hJ1 hz hk => ⟨v, rfl, W.letGo (List.mem_of_getElem? hd) hb1 hJ1 ?_⟩
    have X1 := X.bump (tk := tk) ((X.ext.2 I hIs).trans hIg) hIS hIα hIL hz hk
    refine bindTarget hA hb1 rv X1.cs.st fun s2 Bd2 => ?_
    have C2 : CS K g' s2 cenv sc' α σ1 μ' L acc' := X1.cs.keep Bd2.st fun o e => Bd2.keep L o (notWr hnc hLC) e
    have X2 := X1.trans ⟨Ext.refl _ _, C2, Bd2.size, fun b o _ _ h3 _ e => Bd2.keep b o (notWr hnc h3) e, Bd2.gens, Bd2.os⟩
    have hJ2 : J (i + 1) s2.heap := (W.mono X.ext.1).frame hJ1 (fun o e => Bd2.keep I o (notWr hnc hIC) e) X1.cs.st.sub C2.st.sub
    refine wpAny_mono (hB g' s2 σ1 μ' acc' x X.ext C2 hst) (fun _ s3 q => ?_) fun _ _ x => x
    obtain ⟨g3, X3⟩ := q
    exact ⟨g3, _, _, _, hlo, X2.trans X3.weak, (W.mono X.ext.1).frame hJ2 (fun o e => X3.kp I o hIα hIL hIC List.not_mem_nil e) C2.st.sub (fun b o e => X3.cs.st.sub b o (X3.ext.1 b o e))⟩
  · obtain ⟨g', σ', μ', acc', hlo, X, hJi⟩ := hI
    rw [List.drop_length] at hlo
    cases (hlo : (accF, σF, μF) = (acc', σ', μ'))
    exact (W.mono X.ext.1).stop hA hJi fun h1 tk hz hk => ⟨rfl, hR g' _ (X.bump ((X.ext.2 I hIs).trans hIg) hIS hIα hIL hz hk)⟩
end
end Mine
end
section
open PySem PySem.W PyProof.Rows PySem.Calls
open Builtin Builtin.Str
set_option autoImplicit false
namespace Mine
theorem turn_one (elt t it : Expr) (sc' : Scope) (pos : Pos) (I L : Addr) (cenv : Env) : compTurn (.ListComp elt [⟨t, it, [], 0⟩] sc' pos) 0 (.ref I) (.ref L) cenv = (standAt it.pos >>= fun _ => pyNext (.ref I) >>= fun r => match r with
    | none => pure (.done .next)
    | some v => letOwnedTupleGo t (.ref I) v >>= fun _ => assign t cenv v >>= fun _ => (eval elt cenv >>= fun x => PySem.call (.builtin "list.append") [.ref L, x] >>= fun _ => pure ()) >>= fun _ => again (.compLoop (.ListComp elt [⟨t, it, [], 0⟩] sc' pos) 0 (.ref I) (.ref L) cenv)) := by rfl
theorem turn_two1 (elt t it t2 it2 : Expr) (sc' : Scope) (pos : Pos) (I L : Addr) (cenv : Env) : compTurn (.ListComp elt [⟨t, it, [], 0⟩, ⟨t2, it2, [], 0⟩] sc' pos) 1 (.ref I) (.ref L) cenv = (standAt it2.pos >>= fun _ => pyNext (.ref I) >>= fun r => match r with
    | none => pure (.done .next)
    | some v => letOwnedTupleGo t2 (.ref I) v >>= fun _ => assign t2 cenv v >>= fun _ => (eval elt cenv >>= fun x => PySem.call (.builtin "list.append") [.ref L, x] >>= fun _ => pure ()) >>= fun _ => again (.compLoop (.ListComp elt [⟨t, it, [], 0⟩, ⟨t2, it2, [], 0⟩] sc' pos) 1 (.ref I) (.ref L) cenv)) := by rfl
theorem turn_two0 (elt t it t2 it2 : Expr) (sc' : Scope) (pos : Pos) (I L : Addr) (cenv : Env) : compTurn (.ListComp elt [⟨t, it, [], 0⟩, ⟨t2, it2, [], 0⟩] sc' pos) 0 (.ref I) (.ref L) cenv = (standAt it.pos >>= fun _ => pyNext (.ref I) >>= fun r => match r with
    | none => pure (.done .next)
    | some v => letOwnedTupleGo t (.ref I) v >>= fun _ => assign t cenv v >>= fun _ => (eval it2 cenv >>= fun x => standAt it2.pos >>= fun _ => foldedSetIterable it2 cenv x >>= fun x => holding [x] (pyIter x) >>= fun j => runOwn (.compStart (.ListComp elt [⟨t, it, [], 0⟩, ⟨t2, it2, [], 0⟩] sc' pos) 1 j (.ref L) cenv) cenv >>= fun _ => pure ()) >>= fun _ => again (.compLoop (.ListComp elt [⟨t, it, [], 0⟩, ⟨t2, it2, [], 0⟩] sc' pos) 0 (.ref I) (.ref L) cenv)) := by
  have e : compTurn (.ListComp elt [⟨t, it, [], 0⟩, ⟨t2, it2, [], 0⟩] sc' pos) 0 (.ref I) (.ref L) cenv = (standAt it.pos >>= fun _ => pyNext (.ref I) >>= fun r => match r with
    | none => pure (.done .next)
    | some v => letOwnedTupleGo t (.ref I) v >>= fun _ => assign t cenv v >>= fun _ => eval it2 cenv >>= fun x => standAt it2.pos >>= fun _ => foldedSetIterable it2 cenv x >>= fun x => holding [x] (pyIter x) >>= fun j => runOwn (.compStart (.ListComp elt [⟨t, it, [], 0⟩, ⟨t2, it2, [], 0⟩] sc' pos) 1 j (.ref L) cenv) cenv >>= fun _ => again (.compLoop (.ListComp elt [⟨t, it, [], 0⟩, ⟨t2, it2, [], 0⟩] sc' pos) 0 (.ref I) (.ref L) cenv)) := by rfl
  rw [e]
  simp only [bind_assoc, pure_bind]
section
variable {w : World} {A : Around} {s : Shared}
theorem compStart_ {elt : Expr} {gens : List Comprehension} {sc' : Scope} {pos : Pos} {dep : Nat} {I L : Addr} {cenv : Env} {R : Result → Shared → Prop} (ha : ((clausesOf (.ListComp elt gens sc' pos))[dep]?).elim false (·.is_async != 0) = false)
    (h0 : codeAny (MM w) A (.compLoop (.ListComp elt gens sc' pos) dep (.ref I) (.ref L) cenv) R s) (hself : ∀ (E : Value → Shared → Prop) (Q : Value → Shared → Prop), Q (.ref I) s → wpAny (MM w) A (pyIter (.ref I)) Q E s) :
    codeAny (MM w) A (.compStart (.ListComp elt gens sc' pos) dep (.ref I) (.ref L) cenv) R s := by
  refine codeAny_of_tree ?_
  show wpAny _ _ ((compStart (.ListComp elt gens sc' pos) dep (.ref I) (.ref L) cenv).onRaise (fun x => do noteFrame x cenv; standAt theWindowsPlace)) _ _ s
  refine wpAny_notedAt ?_
  unfold compStart
  rw [ha]
  simp only [Bool.false_eq_true, if_false]
  refine wpAny_bind (wpAny_askSetting (wpAny_ite ?_))
  have last : ∀ E, wpAny (MM w) A (pyIter (.ref I) >>= fun it' => again (.compLoop (.ListComp elt gens sc' pos) dep it' (.ref L) cenv)) (fun fin s' => match fin with
      | .done f => R (.ok f) s'
      | .again c' => c'.quiet = true ∧ codeAny (MM w) A c' R s') E s := fun E => wpAny_bind (hself E _ (wpAny_pure ⟨rfl, h0⟩))
  split
  · first
      | exact wpAny_bind (wpAny_pure (wpAny_pure (And.intro rfl h0)))
      | exact wpAny_pure (And.intro rfl h0)
  · refine wpAny_bind (wpAny_rule ?_)
    cases (clausesOf (.ListComp elt gens sc' pos))[dep]? with
    | none => exact last _
    | some g => exact wpAny_bind (wpAny_standAt (last _))
end
section
variable {K : Gh} {w : World} {r : Nat} {mg mb : Str → Option Value} {sc sc' : Scope} {σ σ' : Sg} {μ μ1 μ2 μ3 μ4 : Mu}
/-- an element is added -/
noncomputable def stepOf (f : Sg → Mu → D × Mu → Prop) (σ' : Sg) (μ' : Mu) (acc : List D) (x : List D × Sg × Mu) : Prop := ∃ y, f σ' μ' y ∧ acc.length ≤ 1000 ∧ x = (acc ++ [y.1], σ', y.2)
/-- what the body of a comprehension makes, from its first iterator on -/
noncomputable def CRun (K : Gh) (w : World) (r : Nat) (sc' : Scope) (e : Expr) (ds : List D) (σ : Sg) (μ : Mu) (accF : List D) (μF : Mu) : Prop :=
  ∀ g s cenv α A I J L R, St K g s.heap cenv sc' α σ μ → Room r A → I < s.heap.objs.size → g I = none → I ∉ α → ¬ Stor cenv I → I ≠ L → IterAt w g α I ds J → J 0 s.heap → CS K g s cenv sc' α σ μ L [] →
    (∀ g' s' σF, CR [I] K g s g' s' cenv sc' α σF μF L accF → R (.ok .next) s') → codeAny (MM w) A (.compStart e 0 (.ref I) (.ref L) cenv) R s
theorem CRun.one {elt t it : Expr} {pos : Pos} {ds accF : List D} {σF : Sg} {μF : Mu} {f : Sg → Mu → D × Mu → Prop} (hnc : ∀ x, kOf sc' x ≠ some .cell)
    (hl : LC (bindT sc' t) (stepOf f) ds σ μ [] (accF, σF, μF))
    (he : ∀ σ' μ' y, f σ' μ' y → Ev K w r sc' σ' μ' elt y.1 y.2) : CRun K w r sc' (.ListComp elt [⟨t, it, [], 0⟩] sc' pos) ds σ μ accF μF := by
  intro g s cenv α A I J L R S Rm hIs hIg hIα hIS hIL W hJ c hR
  refine compStart_ rfl (compLoop (turn_one elt t it sc' pos I L cenv) Rm.2.2 hnc W hJ hIs hIg hIα hIS hIL c hl (fun g' s' σ' μ' acc' x _ c' hx => ?_) fun g' s' X => hR g' s' σF X) fun E Q hQ => W.self Rm.2.2 hJ hQ
  obtain ⟨y, hy, hlen, rfl⟩ := hx
  exact emit (he σ' μ' y hy) hlen c' Rm
theorem CRun.two {elt t it t2 it2 : Expr} {pos : Pos} {ds accF : List D} {σF : Sg} {μF : Mu} {f : Sg → Mu → D × Mu → Prop} {fi : Sg → Mu → List D × Mu → Prop} (hnc : ∀ x, kOf sc' x ≠ some .cell) (hns : SetOk it2)
    (hl : LC (bindT sc' t) (fun σ' μ' acc x => ∃ x2, fi σ' μ' x2 ∧ LC (bindT sc' t2) (stepOf f) x2.1 σ' x2.2 acc x) ds σ μ [] (accF, σF, μF))
    (hi : ∀ σ' μ' y, fi σ' μ' y → EvIt K w r sc' σ' μ' it2 y.1 y.2) (he : ∀ σ' μ' y, f σ' μ' y → Ev K w r sc' σ' μ' elt y.1 y.2) : CRun K w r sc' (.ListComp elt [⟨t, it, [], 0⟩, ⟨t2, it2, [], 0⟩] sc' pos) ds σ μ accF μF := by
  intro g s cenv α A I J L R S Rm hIs hIg hIα hIS hIL W hJ c hR
  refine compStart_ rfl (compLoop (turn_two0 elt t it t2 it2 sc' pos I L cenv) Rm.2.2 hnc W hJ hIs hIg hIα hIS hIL c hl (fun g' s' σ' μ' acc' x _ c' hx => ?_) fun g' s' X => hR g' s' σF X) fun E Q hQ => W.self Rm.2.2 hJ hQ
  obtain ⟨x2, hx2, hx⟩ := hx
  obtain ⟨accI, σI, μI⟩ := x
  refine wpAny_bind (wpAny_mono (hi σ' μ' x2 hx2 g' s' cenv α A c'.st Rm) (fun v s1 q => ?_) fun _ _ x => x)
  refine wpAny_bind (wpAny_standAt (wpAny_bind (wpAny_of_eq (hns cenv v) (wpAny_bind (wpAny_holding (wpAny_mono q (fun j s2 q => ?_) fun _ _ x => x))))))
  obtain ⟨g2, I2, J2, rfl, P, hI2, hI2', hg2, W2, hJ2⟩ := q
  have X2 := CR.ofStep c' P
  have hI2α : I2 ∉ α := fun hm => Nat.lt_irrefl _ (Nat.lt_of_lt_of_le (c'.st.lt I2 hm) hI2)
  have hI2S : ¬ Stor cenv I2 := fun h => Nat.lt_irrefl _ (Nat.lt_of_lt_of_le (c'.st.stor I2 h).2.2 hI2)
  have hI2L : I2 ≠ L := fun h => by
    obtain ⟨ws, n, hL, _⟩ := c'.acc
    exact Nat.lt_irrefl _ (Nat.lt_of_lt_of_le (h ▸ Heap.lt_size hL) hI2)
  refine wpAny_bind (wpAny_runOwn ?_)
  have loop2 := compLoop (R := fun r t' => match r with
      | .ok f => wpAny (MM w) A (pure () : Sem Unit) (fun _ s'' => ∃ g'', CR [] K g' s' g'' s'' cenv sc' α σI μI L accI) F0 t'
      | .error e => cameBackBy (MM w) A cenv F0 e t') (turn_two1 elt t it t2 it2 sc' pos I2 L cenv) Rm.2.2 hnc W2 hJ2 hI2' hg2 hI2α hI2S hI2L X2.cs hx (fun g' s' σ' μ' acc' x _ c' hx => by
      obtain ⟨y, hy, hlen, rfl⟩ := hx
      exact emit (he σ' μ' y hy) hlen c' Rm) fun g3 s3 X3 => wpAny_pure ⟨g3, ?_⟩
  · have hA : A.mark none = A := rfl
    rw [hA]
    exact compStart_ rfl loop2 fun E Q hQ => W2.self Rm.2.2 hJ2 hQ
  · have Y := (CR.weak (xs := [I2]) X2).trans X3
    exact ⟨Y.ext, Y.cs, Y.size, fun b o h1 h2 h3 _ e => Y.kp b o h1 h2 h3 (by
      simp only [List.mem_singleton]
      exact fun h => Nat.lt_irrefl _ (Nat.lt_of_lt_of_le (h ▸ Heap.lt_size e) hI2)) e, Y.gens, Y.os⟩
/-- a whole comprehension -/
theorem compCore {elt it t : Expr} {gens : List Comprehension} {pos pos' : Pos} {ds accF : List D} {μF : Mu} {use : Option (Value → Sem Unit)} {Q : Value → Shared → Prop} {g : Gh} {s : Shared} {env : Env} {α : List Addr} {A : Around}
    (hok : CompOk sc sc') (hns : SetOk it) (hit : EvIt K w r sc σ μ it ds μ1) (hrun : CRun K w r sc' (.ListComp elt (⟨t, it, [], 0⟩ :: gens) sc' pos) ds (innerOf sc' σ) μ1 accF μF) (S : St K g s.heap env sc α σ μ) (Rm : Room r A)
    (hQ : ∀ g' s' L C ws n, Step K g s g' s' env sc α σ μF → s.heap.objs.size ≤ L → L ≠ C → s'.heap.get? L = some (lobj ws n) → g' L = none → Rds g' α ws accF → s.heap.objs.size ≤ C → g' C = none → (∃ m, s'.heap.Ns C m) → compPost (MM w) A F0 use Q (.ref L) C (.ok .next) s') :
    wpAny (MM w) A (comprehension (.ListComp elt (⟨t, it, [], 0⟩ :: gens) sc' pos) sc' env pos' (newList []) false (eval it env) use) Q F0 s := by
  obtain ⟨cl, hclos, hcl1, hcl2⟩ := closureFor_is (env := env) (scope := sc') fun p hp hf => by
    obtain ⟨c, v, hc, _⟩ := S.cel p.1 (S.seesC p.1 (.inl (hok.free p hp hf)))
    exact ⟨c, hc⟩
  refine wpAny_comprehension_free rfl (fun x => hns env x) hclos hok.kind (fun p hp hl => by have := hok.self p hp; rw [hl] at this; exact this) ?_
  refine wpAny_mono (hit g s env α A S Rm) (fun x s1 q => wpAny_mono q (fun it' s2 q => ?_) fun _ _ x => x) fun _ _ x => x
  obtain ⟨g2, I, J, rfl, P, hI, hI', hgI, W, hJ⟩ := q
  refine wpAny_newList ?_ (Nat.zero_le _)
  refine wpAny_newFunctionEnv hok.cell (by intro y hy; simp at hy) (fun h3 hns3 hsb3 => ?_) hok.kind
  dsimp only at hns3 hsb3 ⊢
  generalize hH : s2.heap.push { cls := .type "list", dict := none, data := .seq ([] : List Value).toArray } = H2 at hns3 hsb3 ⊢
  have hC : H2.objs.size = s2.heap.objs.size + 1 := by rw [← hH, Heap.size_push]
  have k23 : ∀ b o, s2.heap.get? b = some o → h3.get? b = some o := fun b o e => hsb3.extBut b o (by rw [hC]; exact Nat.ne_of_lt (Nat.lt_succ_of_lt (Heap.lt_size e))) (Heap.get?_push_of_some _ (hH ▸ Heap.get?_push_of_some _ e))
  have z3 : h3.objs.size = H2.objs.size + 1 := by rw [hsb3.1, Heap.size_push]
  have z23 : s2.heap.objs.size ≤ h3.objs.size := by lia
  have hL3 : h3.get? s2.heap.objs.size = some (lobj [] 0) := hsb3.extBut _ _ (by rw [hC]; exact Nat.ne_of_lt (Nat.lt_succ_self _)) (Heap.get?_push_of_some _ (hH ▸ Heap.get?_push_size _ rfl))
  have Sin : St K g2 h3 (compEnvC sc' cl H2.objs.size env) sc' α (innerOf sc' σ) μ1 := P.st.inner hok hcl1 hcl2 k23 z23 (by lia) (by simpa using hns3)
  have notS : ∀ a, s2.heap.objs.size ≤ a → ¬ Stor env a := fun a ha h => Nat.lt_irrefl _ (Nat.lt_of_lt_of_le (P.st.stor a h).2.2 ha)
  have notA : ∀ a, s2.heap.objs.size ≤ a → a ∉ α := fun a ha h => Nat.lt_irrefl _ (Nat.lt_of_lt_of_le (P.st.lt a h) ha)
  have storIn : ∀ a, Stor (compEnvC sc' cl H2.objs.size env) a → a = H2.objs.size ∨ Stor env a := fun a h => by
    rcases h with h | ⟨x, hx⟩
    · exact .inl h
    · exact .inr (.inr ⟨x, hcl1 _ _ hx⟩)
  have hIα : I ∉ α := fun hm => Nat.lt_irrefl _ (Nat.lt_of_lt_of_le (S.lt I hm) hI)
  have hIS : ¬ Stor (compEnvC sc' cl H2.objs.size env) I := fun h => by
    rcases storIn I h with h | h
    · exact absurd (Nat.lt_of_lt_of_le hI' (Nat.le_succ _)) (by rw [h, hC]; exact Nat.lt_irrefl _)
    · exact Nat.lt_irrefl _ (Nat.lt_of_lt_of_le (S.stor I h).2.2 hI)
  have cs : CS K g2 { s2 with heap := h3, toks := s2.toks + ([] : List (Str × Value)).length } (compEnvC sc' cl H2.objs.size env) sc' α (innerOf sc' σ) μ1 s2.heap.objs.size [] :=
    ⟨Sin, ⟨[], 0, hL3, .nil⟩, P.st.fresh (Nat.le_refl _), notA _ (Nat.le_refl _), fun h => by
      rcases storIn _ h with h | h
      · exact absurd h (by rw [hC]; exact Nat.ne_of_lt (Nat.lt_succ_self _))
      · exact notS _ (Nat.le_refl _) h⟩
  refine hrun g2 _ (compEnvC sc' cl H2.objs.size env) α A I J s2.heap.objs.size _ Sin Rm (Nat.lt_of_lt_of_le hI' z23) hgI hIα hIS (Nat.ne_of_lt hI') W
    (W.frame hJ (fun o e => k23 _ _ e) P.st.sub Sin.sub) cs fun g' s' σF X => ?_
  have hext : Ext s2.heap.objs.size g2 g' := ⟨X.ext.1, fun b hb => X.ext.2 b (by show b < h3.objs.size; lia)⟩
  have kp : ∀ b o, b ∉ α → b ≠ I → b < s2.heap.objs.size → s2.heap.get? b = some o → s'.heap.get? b = some o := fun b o h1 h2 h3' e => X.kp b o h1 (Nat.ne_of_lt h3') (by show b ≠ H2.objs.size; rw [hC]; exact Nat.ne_of_lt (Nat.lt_succ_of_lt h3')) (by simpa using h2) (k23 b o e)
  have z : s2.heap.objs.size ≤ s'.heap.objs.size := Nat.le_trans z23 X.size
  have Sout : St K g' s'.heap env sc α σ μF := P.st.outer X.cs.st hext (fun a ha o e => kp a o (P.st.stor a ha).2.1 (fun h => by subst h; exact Nat.lt_irrefl _ (Nat.lt_of_lt_of_le (S.stor a ha).2.2 hI)) (Heap.lt_size e) e) z
  have P' : Step K g s g' s' env sc α σ μF := by
    refine ⟨P.ext.trans hext P.kp.1, Sout, ⟨Nat.le_trans P.kp.1 z, fun b o e hb => ?_⟩, X.gens.trans P.gens, X.os.trans P.os⟩
    have hlt := Heap.lt_size e
    exact kp b o hb (Nat.ne_of_lt (Nat.lt_of_lt_of_le hlt hI)) (Nat.lt_of_lt_of_le hlt P.kp.1) (P.kp.2 b o e hb)
  obtain ⟨ws, n, hL, rd⟩ := X.cs.acc
  exact hQ g' s' s2.heap.objs.size H2.objs.size ws n P' P.kp.1 (by rw [hC]; exact Nat.ne_of_lt (Nat.lt_succ_self _)) hL X.cs.free rd (by rw [hC]; exact Nat.le_succ_of_le P.kp.1) (X.cs.st.stor _ (.inl rfl)).1 X.cs.st.loc
theorem EvL.comp {elt it t : Expr} {gens : List Comprehension} {pos : Pos} {ds accF : List D} {μF : Mu} (hok : CompOk sc sc') (hns : SetOk it) (hit : EvIt K w r sc σ μ it ds μ1)
    (hrun : CRun K w r sc' (.ListComp elt (⟨t, it, [], 0⟩ :: gens) sc' pos) ds (innerOf sc' σ) μ1 accF μF) : EvL K w r sc σ μ (.ListComp elt (⟨t, it, [], 0⟩ :: gens) sc' pos) accF μF := fun g s env α A S Rm => by
  rw [eval_ListComp]
  refine compCore hok hns hit hrun S Rm fun g' s' L C ws n P hL hLC ho hg rd hC hgC hN => ?_
  obtain ⟨m, hN⟩ := hN
  refine ⟨m, hN, fun h' hsb => ⟨g', L, ws, n, rfl, ?_, hL, fun hm => Nat.lt_irrefl _ (Nat.lt_of_lt_of_le (S.lt L hm) hL), hsb.extBut L _ hLC ho, hg, rd⟩⟩
  have cS : ¬ Stor env C := fun h => Nat.lt_irrefl _ (Nat.lt_of_lt_of_le (S.stor C h).2.2 hC)
  have cA : C ∉ α := fun h => Nat.lt_irrefl _ (Nat.lt_of_lt_of_le (S.lt C h) hC)
  exact ⟨P.ext, P.st.keepBut hgC cS cA (fun b o hb e => hsb.extBut b o hb e) (Nat.le_of_eq hsb.1.symm), ⟨by show _ ≤ h'.objs.size; rw [hsb.1]; exact P.kp.1, fun b o e hb => hsb.extBut b o (fun h => by subst h; exact Nat.lt_irrefl _ (Nat.lt_of_lt_of_le (Heap.lt_size e) hC)) (P.kp.2 b o e hb)⟩, P.gens, P.os⟩
end
end Mine
end
section
open PySem PySem.W PyProof.Rows PySem.Calls
open Builtin Builtin.Str
set_option autoImplicit false
namespace Mine
section
variable {K : Gh} {w : World} {r : Nat} {mg mb : Str → Option Value} {sc sc' : Scope} {σ σ' : Sg} {μ μ1 μ2 μ3 μ4 : Mu}
theorem truthStep {d : D} {t : Bool} (h : truthD μ d = some t) {g : Gh} {s : Shared} {env : Env} {α : List Addr} {A : Around} {v : Value} (S : St K g s.heap env sc α σ μ) (hv : Rd g α v d) :
    wpAny (MM w) A (truthy v) (fun b s' => b = t ∧ Step K g s g s' env sc α σ μ) F0 s := by
  refine wpAny_mono (truthD_sound h S hv) (fun b s' q => ?_) fun _ _ x => x
  obtain ⟨rfl, k, rfl⟩ := q
  exact ⟨rfl, Step.here S rfl rfl rfl⟩
/-- the rest of an «and» -/
noncomputable def EvB (K : Gh) (w : World) (r : Nat) (sc : Scope) (σ : Sg) (μ : Mu) (es : List Expr) (d : D) (μ' : Mu) : Prop :=
  ∀ g s env α A p, St K g s.heap env sc α σ μ → Room r A → wpAny (MM w) A (boolOp p .And (evalEach es env)) (fun v s' => ∃ g', Step K g s g' s' env sc α σ μ' ∧ Rd g' α v d) F0 s
theorem EvB.last {e : Expr} {d : D} (h : Ev K w r sc σ μ e d μ1) : EvB K w r sc σ μ [e] d μ1 := fun g s env α A p S R => h g s env α A S R
theorem EvB.no {e x : Expr} {es : List Expr} {d : D} (h : Ev K w r sc σ μ e d μ1) (ht : truthD μ1 d = some false) : EvB K w r sc σ μ (e :: x :: es) d μ1 := fun g s env α A p S R => by
  show wpAny _ _ (eval e env >>= fun v => standAt p >>= fun _ => holding [v] (truthy v) >>= fun t => match BoolOp.And, t with | .And, false | .Or, true => pure v | _, _ => boolOp p .And (evalEach (x :: es) env)) _ _ _
  refine wpAny_bind (wpAny_mono (h g s env α A S R) (fun v s1 q => ?_) fun _ _ x => x)
  obtain ⟨g1, P1, r1⟩ := q
  refine wpAny_bind (wpAny_standAt (wpAny_bind (wpAny_holding (wpAny_mono (truthStep ht P1.st r1) (fun b s2 q => ?_) fun _ _ x => x))))
  obtain ⟨rfl, P2⟩ := q
  exact wpAny_pure ⟨g1, P1.trans P2, r1⟩
theorem EvB.yes {e x : Expr} {es : List Expr} {d d' : D} (h : Ev K w r sc σ μ e d μ1) (ht : truthD μ1 d = some true) (h2 : EvB K w r sc σ μ1 (x :: es) d' μ2) : EvB K w r sc σ μ (e :: x :: es) d' μ2 := fun g s env α A p S R => by
  show wpAny _ _ (eval e env >>= fun v => standAt p >>= fun _ => holding [v] (truthy v) >>= fun t => match BoolOp.And, t with | .And, false | .Or, true => pure v | _, _ => boolOp p .And (evalEach (x :: es) env)) _ _ _
  refine wpAny_bind (wpAny_mono (h g s env α A S R) (fun v s1 q => ?_) fun _ _ x => x)
  obtain ⟨g1, P1, r1⟩ := q
  refine wpAny_bind (wpAny_standAt (wpAny_bind (wpAny_holding (wpAny_mono (truthStep ht P1.st r1) (fun b s2 q => ?_) fun _ _ x => x))))
  obtain ⟨rfl, P2⟩ := q
  refine wpAny_mono (h2 g1 s2 env α A p P2.st R) (fun v s3 q => ?_) fun _ _ x => x
  obtain ⟨g3, P3, r3⟩ := q
  exact ⟨g3, (P1.trans P2).trans P3, r3⟩
theorem Ev.and {es : List Expr} {p : Pos} {d : D} (h : EvB K w r sc σ μ es d μ1) : Ev K w r sc σ μ (.BoolOp .And es p) d μ1 := fun g s env α A S R => h g s env α A p S R
/-! tests -/
theorem EvT.value {e : Expr} {d : D} {t : Bool} (h : Ev K w r sc σ μ e d μ1) (ht : truthD μ1 d = some t) (he : ∀ env whole, isTrue e env whole = (do let v ← whole; standAt e.pos; holding [v] (truthy v))) : EvT K w r sc σ μ e t μ1 := fun g s env α A S R => by
  refine wpAny_isTrue_value (wpAny_mono (h g s env α A S R) (fun v s1 q => ?_) fun _ _ x => x) (he _ _)
  obtain ⟨g1, P1, r1⟩ := q
  refine wpAny_mono (truthStep ht P1.st r1) (fun b s2 q => ?_) fun _ _ x => x
  exact ⟨q.1, g1, P1.trans q.2⟩
theorem EvT.not {x : Expr} {p : Pos} {t : Bool} (h : EvT K w r sc σ μ x t μ1) : EvT K w r sc σ μ (.UnaryOp .Not x p) (!t) μ1 := fun g s env α A S R => by
  refine wpAny_isTrue_Not (wpAny_mono (h g s env α A S R) (fun b s1 q => ?_) fun _ _ x => x)
  obtain ⟨rfl, q⟩ := q
  exact ⟨rfl, q⟩
theorem EvT.compare {l rr : Expr} {op : CmpOp} {p : Pos} {a b : D} {t : Bool} (hs : behindInMarks op rr = false) (h1 : Ev K w r sc σ μ l a μ1) (h2 : Ev K w r sc σ μ1 rr b μ2) (h3 : cmpD μ2 op a b = some t) : EvT K w r sc σ μ (.Compare l [op] [rr] p) t μ2 := fun g s env α A S R => by
  refine wpAny_isTrue_Compare1 (wpAny_mono (h1 g s env α A S R) (fun va s1 q => ?_) fun _ _ x => x) hs
  obtain ⟨g1, P1, r1⟩ := q
  refine wpAny_mono (h2 g1 s1 env α A P1.st R) (fun vb s2 q => ?_) fun _ _ x => x
  obtain ⟨g2, P2, r2⟩ := q
  refine wpAny_mono (cmpD_sound (K := K) (w := w) (r := r) (sc := sc) (σ := σ) h3 va vb g2 s2 env α A P2.st R ?_) (fun v s3 q => ?_) fun _ _ x => x
  · intro p hp
    simp only [List.mem_cons, List.not_mem_nil, or_false] at hp
    rcases hp with rfl | rfl
    · exact r1.mono P2.ext.1 fun _ _ e => e
    · exact r2
  · obtain ⟨g3, P3, r3⟩ := q
    (first | obtain ⟨_, rfl⟩ := r3.int_ | obtain ⟨_, rfl⟩ := r3.str_ | obtain rfl := r3.bool_ | obtain rfl := r3.nil_ | cases r3)
    exact wpAny_truthy_bool ⟨rfl, g3, (P1.trans P2).trans P3⟩
/-- the tests of a chain -/
noncomputable def EvTs (K : Gh) (w : World) (r : Nat) (sc : Scope) (σ : Sg) (μ : Mu) (op : BoolOp) (es : List Expr) (t : Bool) (μ' : Mu) : Prop :=
  ∀ g s env α A, St K g s.heap env sc α σ μ → Room r A → wpAny (MM w) A (allTrue op es env) (fun v s' => v = t ∧ ∃ g', Step K g s g' s' env sc α σ μ') F0 s
theorem EvTs.nil {op : BoolOp} : EvTs K w r sc σ μ op [] (op == .And) μ := fun g s env α A S R => wpAny_pure ⟨rfl, g, Step.here S rfl rfl rfl⟩
theorem EvTs.stop {op : BoolOp} {x : Expr} {es : List Expr} {t : Bool} (h : EvT K w r sc σ μ x t μ1) (ht : t = (op != .And)) : EvTs K w r sc σ μ op (x :: es) t μ1 := fun g s env α A S R => by
  show wpAny _ _ (isTrue x env (eval x env) >>= fun b => match op, b with | .And, false => pure false | .Or, true => pure true | _, _ => allTrue op es env) _ _ _
  refine wpAny_bind (wpAny_mono (h g s env α A S R) (fun b s1 q => ?_) fun _ _ x => x)
  obtain ⟨rfl, q⟩ := q
  subst ht
  cases op <;> exact wpAny_pure ⟨rfl, q⟩
theorem EvTs.go {op : BoolOp} {x : Expr} {es : List Expr} {t t' : Bool} (h : EvT K w r sc σ μ x t μ1) (ht : t = (op == .And)) (h2 : EvTs K w r sc σ μ1 op es t' μ2) : EvTs K w r sc σ μ op (x :: es) t' μ2 := fun g s env α A S R => by
  show wpAny _ _ (isTrue x env (eval x env) >>= fun b => match op, b with | .And, false => pure false | .Or, true => pure true | _, _ => allTrue op es env) _ _ _
  refine wpAny_bind (wpAny_mono (h g s env α A S R) (fun b s1 q => ?_) fun _ _ x => x)
  obtain ⟨rfl, g1, P1⟩ := q
  subst ht
  have := wpAny_mono (Q' := fun v s' => v = t' ∧ ∃ g', Step K g s g' s' env sc α σ μ2) (h2 g1 s1 env α A P1.st R) (fun v s2 q => ⟨q.1, let ⟨g2, P2⟩ := q.2; ⟨g2, P1.trans P2⟩⟩) fun _ _ x => x
  cases op <;> exact this
theorem EvT.chain {op : BoolOp} {es : List Expr} {p : Pos} {t : Bool} (h : EvTs K w r sc σ μ op es t μ1) : EvT K w r sc σ μ (.BoolOp op es p) t μ1 := fun g s env α A S R => wpAny_isTrue_BoolOp (h g s env α A S R)
/-- type(x) is not T -/
theorem EvT.typeIsNot {f i : Str} {np ip cp p : Pos} {x : Expr} {nm k : String} {d : D} (T : Tops K mg mb) (hf : isGlob (kOf sc f) = true) (hg : GG f = some (.ty "type")) (hn1 : (f == ("__debug__" : Str)) = false) (hf2 : isGlob (kOf sc i) = true) (hg2 : GG i = some (.ty nm)) (hn2 : (i == ("__debug__" : Str)) = false)
    (hs : StarOk x) (h : Ev K w r sc σ μ x d μ1) (hk : tyName d = some k) : EvT K w r sc σ μ (.Compare (.Call (.Name f np) [x] [] cp) [.IsNot] [.Name i ip] p) (k != nm) μ1 := fun g s env α A S R => by
  have hst : ∀ e ∈ [x], StarOk e := by intro e he; cases List.mem_singleton.mp he; exact hs
  refine wpAny_isTrue_Compare1 ?_ rfl
  obtain ⟨fv, q, hfv⟩ := T.has f _ hg
  obtain rfl : fv = .type "type" := hfv
  refine wpAny_Call_ofName (wpAny_Name (loadGlob T (fun b o e => S.sub _ _ (S.base _ _ e)) S.kind S.glb (S.seesG f hf) q ?_) hn1)
  refine PySem.callWith_type (star_plain cp hst) (evalArgs_all (star_plain cp hst) (wpAny_items_cons (wpAny_mono (h g s env α A S R) (fun v s1 q => ?_) fun _ _ x => x) (hs _ _)))
  obtain ⟨g1, P1, r1⟩ := q
  refine wpAny_items_nil ?_
  have hty : s1.TypeIs v k ∧ (Value.type k == Value.type "builtin_function_or_method") = false := by
    cases d with
    | bool => obtain rfl := r1.bool_; cases hk; exact ⟨PySem.typeIs_bool _ _, by decide⟩
    | int => obtain ⟨_, rfl⟩ := r1.int_; cases hk; exact ⟨PySem.typeIs_int _ _ _, by decide⟩
    | str => obtain ⟨_, rfl⟩ := r1.str_; cases hk; exact ⟨PySem.typeIs_str _ _ _, by decide⟩
    | _ => exact noSome hk
  refine call_type_of hty.1 hty.2 ?_
  obtain ⟨iv, q2, hiv⟩ := T.has i _ hg2
  obtain rfl : iv = .type nm := hiv
  refine wpAny_Name (loadGlob T (fun b o e => P1.st.sub _ _ (P1.st.base _ _ e)) P1.st.kind P1.st.glb (P1.st.seesG i hf2) q2 ?_) hn2
  refine wpAny_isNot_plain rfl (wpAny_truthy_bool ⟨?_, g1, P1⟩)
  by_cases hkn : k = nm
  · subst hkn; simp
  · have : (Value.type k == Value.type nm) = false := by
      simp only [beq_eq_false_iff_ne, ne_eq, Value.type.injEq]; exact hkn
    rw [this]
    simpa using hkn
end
end Mine
end
section
open PySem PySem.W PyProof.Rows PySem.Calls
open Builtin Builtin.Str
set_option autoImplicit false
namespace Mine
structure SS (K g : Gh) (s : Shared) (g' : Gh) (s' : Shared) (env : Env) (sc : Scope) (α α' : List Addr) (σ' : Sg) (μ' : Mu) : Prop where
  up : ∀ b o, g b = some o → g' b = some o
  same : ∀ b, b < s.heap.objs.size → b ∉ α → g' b = g b
  st : St K g' s'.heap env sc α' σ' μ'
  size : s.heap.objs.size ≤ s'.heap.objs.size
  kp : ∀ b o, b ∉ α → ¬ Stor env b → s.heap.get? b = some o → s'.heap.get? b = some o
  pre : ∃ β, α' = α ++ β ∧ ∀ a ∈ β, s.heap.objs.size ≤ a
  gens : s'.gens = s.gens
  os : s'.os = s.os
noncomputable def FlIs (g : Gh) (α : List Addr) (f : Fl) (fl : Flow) : Prop := match f with
  | .next => fl = .next
  | .brk => fl = .brk
  | .cont => fl = .cont
  | .ret d => ∃ v, fl = .ret v ∧ Rd g α v d
theorem FlIs.toNext {g : Gh} {α : List Addr} {f : Fl} (h : FlIs g α f .next) : f = .next := by
  cases f with
  | next => rfl
  | brk => cases (h : Flow.next = .brk)
  | cont => cases (h : Flow.next = .cont)
  | ret d => obtain ⟨_, e, _⟩ : ∃ v, Flow.next = .ret v ∧ Rd g α v d := h; cases e
/-- how a loop's body ends, for the loop -/
noncomputable def FlGo (P : Shared → Prop) (End : Flow → Shared → Prop) (fl : Flow) (s : Shared) : Prop := match fl with
  | .next => P s
  | .cont => P s
  | .brk => End .next s
  | .ret v => End (.ret v) s
section
variable {K : Gh} {w : World} {r : Nat} {mg mb : Str → Option Value} {sc sc' : Scope} {σ σ' σ1 σ2 : Sg} {μ μ1 μ2 μ3 μ4 : Mu} {α α1 α2 : List Addr} {g g1 g2 : Gh} {s s1 s2 : Shared} {env : Env} {A : Around}
theorem SS.trans (X : SS K g s g1 s1 env sc α α1 σ1 μ1) (Y : SS K g1 s1 g2 s2 env sc α1 α2 σ2 μ2) : SS K g s g2 s2 env sc α α2 σ2 μ2 := by
  have step : ∀ b, b < s.heap.objs.size → b ∉ α → b ∉ α1 := fun b hb h1 hm => by
    obtain ⟨β, rfl, hβ⟩ := X.pre
    rcases List.mem_append.mp hm with hm | hm
    · exact h1 hm
    · exact Nat.lt_irrefl _ (Nat.lt_of_lt_of_le hb (hβ b hm))
  refine ⟨fun b o e => Y.up b o (X.up b o e), fun b h1 h2 => (Y.same b (Nat.lt_of_lt_of_le h1 X.size) (step b h1 h2)).trans (X.same b h1 h2), Y.st, Nat.le_trans X.size Y.size, fun b o h1 h2 e => Y.kp b o (step b (Heap.lt_size e) h1) h2 (X.kp b o h1 h2 e), ?_, Y.gens.trans X.gens, Y.os.trans X.os⟩
  · obtain ⟨β, rfl, hβ⟩ := X.pre
    obtain ⟨γ, rfl, hγ⟩ := Y.pre
    refine ⟨β ++ γ, by simp, fun a ha => ?_⟩
    rcases List.mem_append.mp ha with ha | ha
    · exact hβ a ha
    · exact Nat.le_trans X.size (hγ a ha)
theorem SS.ofStep (P : Step K g s g1 s1 env sc α σ μ1) : SS K g s g1 s1 env sc α α σ μ1 :=
  ⟨P.ext.1, fun b h _ => P.ext.2 b h, P.st, P.kp.1, fun b o h _ e => P.kp.2 b o e h, ⟨[], by simp, by simp⟩, P.gens, P.os⟩
theorem Wr.stor {a : Addr} (h : Wr env sc a) : Stor env a := by
  rcases h with h | ⟨x, _, hx⟩
  · exact .inl h
  · exact .inr ⟨x, hx⟩
theorem SS.ofBd (B : Bd K g s env sc α σ1 μ s1) : SS K g s g s1 env sc α α σ1 μ :=
  ⟨fun _ _ e => e, fun _ _ _ => rfl, B.st, B.size, fun b o _ h e => B.keep b o (fun q => h q.stor) e, ⟨[], by simp, by simp⟩, B.gens, B.os⟩
theorem SS.refl (S : St K g s.heap env sc α σ μ) : SS K g s g s env sc α α σ μ := ⟨fun _ _ e => e, fun _ _ _ => rfl, S, Nat.le_refl _, fun _ _ _ _ e => e, ⟨[], by simp, by simp⟩, rfl, rfl⟩
/-- a fresh address is changed last -/
theorem SS.sameBut {C : Addr} {h' : Heap} (X : SS K g s g1 s1 env sc α α1 σ1 μ1) (hC : s.heap.objs.size ≤ C) (hg : g1 C = none) (hA : C ∉ α1) (hS : ¬ Stor env C) (hb : Heap.SameBut C s1.heap h') : SS K g s g1 { s1 with heap := h' } env sc α α1 σ1 μ1 :=
  ⟨X.up, X.same, X.st.keepBut hg hS hA (fun b o q e => hb.extBut b o q e) (Nat.le_of_eq hb.1.symm), by show _ ≤ h'.objs.size; rw [hb.1]; exact X.size, fun b o h1 h2 e => hb.extBut b o (fun q => Nat.lt_irrefl _ (Nat.lt_of_lt_of_le (q ▸ Heap.lt_size e) hC)) (X.kp b o h1 h2 e), X.pre, X.gens, X.os⟩
/-- a piece of a body -/
noncomputable def Ex (K : Gh) (w : World) (r : Nat) (sc : Scope) (σ : Sg) (μ : Mu) (t : Env → Sem Flow) (f : Fl) (σ' : Sg) (μ' : Mu) : Prop :=
  ∀ g s env α A, St K g s.heap env sc α σ μ → Room r A → wpAny (MM w) A (t env) (fun fl s' => ∃ g' α', SS K g s g' s' env sc α α' σ' μ' ∧ FlIs g' α' f fl) F0 s
theorem notInter (S : St K g s.heap env sc α σ μ) : interactive env = false := by unfold interactive; rw [S.kind]; rfl
theorem Ex.expr {f : Expr} {args : List Expr} {ks : List Keyword} {p q : Pos} (h : Ev K w r sc σ μ (.Call f args ks p) .nil μ1) : Ex K w r sc σ μ (exec (.Expr (.Call f args ks p) q)) .next σ μ1 := fun g s env α A S R => by
  refine wpAny_Expr (wpAny_mono (h g s env α A S R) (fun v s1 q => ?_) fun _ _ x => x) (notInter S) rfl
  obtain ⟨g1, P1, r1⟩ := q
  cases r1.nil_
  exact ⟨g1, α, SS.ofStep P1, rfl⟩
theorem Ex.ret {e : Expr} {d : D} {p : Pos} (h : Ev K w r sc σ μ e d μ1) : Ex K w r sc σ μ (exec (.Return (some e) p)) (.ret d) σ μ1 := fun g s env α A S R => by
  refine wpAny_Return_some (wpAny_mono (h g s env α A S R) (fun v s1 q => ?_) fun _ _ x => x)
  obtain ⟨g1, P1, r1⟩ := q
  exact ⟨g1, α, SS.ofStep P1, v, rfl, r1⟩
theorem Ex.cont {p : Pos} : Ex K w r sc σ μ (exec (.Continue p)) .cont σ μ := fun g s env α A S R => wpAny_Continue ⟨g, α, SS.refl S, rfl⟩
theorem Ex.brk {p : Pos} : Ex K w r sc σ μ (exec (.Break p)) .brk σ μ := fun g s env α A S R => wpAny_Break ⟨g, α, SS.refl S, rfl⟩
theorem Ex.assign {x : Str} {np p : Pos} {e : Expr} {d : D} (hx : isBind (kOf sc x) = true) (h : Ev K w r sc σ μ e d μ1) (hs : ∀ env, swapsWith e (some (.Name x np)) p.line env = pure false) : Ex K w r sc σ μ (exec (.Assign [.Name x np] e p)) .next (upd σ x d) μ1 := fun g s env α A S R => by
  refine wpAny_Assign_Name (wpAny_mono (h g s env α A S R) (fun v s1 q => ?_) fun _ _ x => x) (hs env)
  obtain ⟨g1, P1, r1⟩ := q
  exact storeVar P1.st hx r1 fun s2 B => ⟨g1, α, (SS.ofStep P1).trans (SS.ofBd B), rfl⟩
theorem Ex.aug {x : Str} {np p : Pos} {e : Expr} {o v d : D} (hx : isBind (kOf sc x) = true) (ho : σ.lookup x = some o) (h : Ev K w r sc σ μ e v μ1)
    (hop : ∀ (g : Gh) (s : Shared) (α : List Addr) (vo vv : Value), Rd g α vo o → Rd g α vv v → ∀ (A : Around) (Q : Value → Shared → Prop), (∀ u k, Rd g α u d → Q u { s with toks := k }) → wpAny (MM w) A (inplaceOp .Add vo vv) Q F0 s) :
    Ex K w r sc σ μ (exec (.AugAssign (.Name x np) .Add e p)) .next (upd σ x d) μ1 := fun g s env α A S R => by
  obtain ⟨vo, qo, ro⟩ := S.vars x o ho
  refine wpAny_AugAssign_Name (loadVar (h := s.heap) S.kind qo (wpAny_mono (h g s env α A S R) (fun v s1 q => ?_) fun _ _ x => x))
  obtain ⟨g1, P1, r1⟩ := q
  refine hop g1 s1 α vo v (ro.mono P1.ext.1 fun _ _ e => e) r1 A _ fun u k ru => ?_
  have P2 := P1.trans (Step.here (s' := { s1 with toks := k }) P1.st rfl rfl rfl)
  exact storeVar P2.st hx ru fun s2 B => ⟨g1, α, (SS.ofStep P2).trans (SS.ofBd B), rfl⟩
theorem Ex.setitem {x : Str} {np ip p : Pos} {i e : Expr} {k : Nat} {j : Int} {ds : List D} {d : D} (hx : isVar (kOf sc x) = true) (hn : (x == ("__debug__" : Str)) = false) (h1 : Ev K w r sc σ μ e d μ1) (hk : σ.lookup x = some (.own k)) (h2 : Ev K w r sc σ μ1 i (.int j) μ2) (hμ : μ2[k]? = some (some ds)) (h0 : 0 ≤ j) (hj : j.toNat < ds.length) (hd : D.plain d = true) (hl : ds.length ≤ 1000)
    (hs : ∀ env, swapsWith e (some (.Subscript (.Name x np) i ip)) p.line env = pure false) : Ex K w r sc σ μ (exec (.Assign [.Subscript (.Name x np) i ip] e p)) .next σ (μ2.set k (some (ds.set j.toNat d))) := fun g s env α A S R => by
  refine wpAny_Assign_Subscript (wpAny_mono (h1 g s env α A S R) (fun v s1 q => ?_) fun _ _ x => x) (hs env)
  obtain ⟨g1, P1, r1⟩ := q
  refine wpAny_mono (Ev.name (w := w) (r := r) (μ := μ1) hx hk hn g1 s1 env α A P1.st R) (fun vo s2 q => ?_) fun _ _ x => x
  obtain ⟨g2, P2, r2⟩ := q
  refine wpAny_mono (h2 g2 s2 env α A P2.st R) (fun vi s3 q => ?_) fun _ _ x => x
  obtain ⟨g3, P3, r3⟩ := q
  obtain ⟨_, rfl⟩ := r3.int_
  obtain ⟨a, rfl, ha⟩ := r2.own_
  ·
    obtain ⟨b, ws, n, hb, ho, hr, _⟩ := P3.st.own _ _ hμ
    cases ha.symm.trans hb
    refine setItemX ho h0 (by rw [hr.length]; exact hj) (by rw [hr.length]; exact hl) ?_
    obtain ⟨m, ho'⟩ := updAt (ws := ws.set j.toNat v) ho (·.setIfInBounds j.toNat v) (by simp)
    have rv : Rd g3 [] v d := (r1.mono (P2.trans P3).ext.1 fun _ _ e => e).plain hd
    have U := Step.upd (s' := { s3 with heap := s3.heap.update a (Obj.mapSeq (·.setIfInBounds j.toNat v)) }) P3.st ha hμ ho' (updKeep _ _ _).1 (updKeep _ _ _).2 (hr.set rv j.toNat) rfl rfl
    exact ⟨g3, α, SS.ofStep (((P1.trans P2).trans P3).trans U), rfl⟩
theorem St.less {K g : Gh} {h : Heap} {env : Env} {sc : Scope} {α : List Addr} {σ σ' : Sg} {μ : Mu} (S : St K g h env sc α σ μ) (hs : ∀ x d, σ'.lookup x = some d → σ.lookup x = some d) : St K g h env sc α σ' μ :=
  ⟨S.base, S.sub, S.kind, S.glb, S.seesG, S.seesL, S.seesC, S.loc, S.cel, S.apart, S.locc, fun x d e => S.vars x d (hs x d e), S.stor, S.own, S.nodup, S.lt, S.len⟩
theorem Ex.less {t : Env → Sem Flow} {f : Fl} (hs : ∀ x d, σ'.lookup x = some d → σ.lookup x = some d) (h : Ex K w r sc σ' μ t f σ2 μ2) : Ex K w r sc σ μ t f σ2 μ2 := fun g s env α A S R => h g s env α A (S.less hs) R
theorem Ex.nil : Ex K w r sc σ μ (execs []) .next σ μ := fun g s env α A S R => wpAny_execs_nil ⟨g, α, SS.refl S, rfl⟩
theorem Ex.seq {st : Stmt} {rest : List Stmt} {f : Fl} (h1 : Ex K w r sc σ μ (exec st) .next σ1 μ1) (h2 : Ex K w r sc σ1 μ1 (execs rest) f σ2 μ2) : Ex K w r sc σ μ (execs (st :: rest)) f σ2 μ2 := fun g s env α A S R => by
  refine wpAny_execs_cons (wpAny_mono (h1 g s env α A S R) (fun fl s1 q => ?_) fun _ _ x => x)
  obtain ⟨g1, α1, X, hf⟩ := q
  cases (hf : fl = .next)
  refine wpAny_mono (h2 g1 s1 env α1 A X.st R) (fun fl s2 q => ?_) fun _ _ x => x
  obtain ⟨g2, α2, Y, hf⟩ := q
  exact ⟨g2, α2, X.trans Y, hf⟩
theorem Ex.stop {st : Stmt} {rest : List Stmt} {f : Fl} (h1 : Ex K w r sc σ μ (exec st) f σ1 μ1) (hf : f ≠ .next) : Ex K w r sc σ μ (execs (st :: rest)) f σ1 μ1 := fun g s env α A S R => by
  refine wpAny_execs_cons (wpAny_mono (h1 g s env α A S R) (fun fl s1 q => ?_) fun _ _ x => x)
  obtain ⟨g1, α1, X, hf'⟩ := q
  cases fl <;> first
    | exact ⟨g1, α1, X, hf'⟩
    | exact absurd hf'.toNext hf
theorem Ex.cond {t : Expr} {b o : List Stmt} {p : Pos} {c : Bool} {f : Fl} (ht : EvT K w r sc σ μ t c μ1) (h : Ex K w r sc σ μ1 (execs (if c then b else o)) f σ2 μ2) : Ex K w r sc σ μ (exec (.If t b o p)) f σ2 μ2 := fun g s env α A S R => by
  refine wpAny_If (wpAny_mono (ht g s env α A S R) (fun v s1 q => ?_) fun _ _ x => x)
  obtain ⟨rfl, g1, P1⟩ := q
  have X := SS.ofStep P1
  have := wpAny_mono (Q' := fun fl s' => ∃ g' α', SS K g s g' s' env sc α α' σ2 μ2 ∧ FlIs g' α' f fl) (h g1 s1 env α A P1.st R) (fun fl s2 q => by
    obtain ⟨g2, α2, Y, hf⟩ := q
    exact ⟨g2, α2, X.trans Y, hf⟩) fun _ _ x => x
  cases v <;> exact this
theorem SS.bump {I : Addr} {h1 : Heap} {tk : Nat} (X : SS K g s g1 s1 env sc α α1 σ1 μ1) (hC : s.heap.objs.size ≤ I) (hg : g1 I = none) (hA : I ∉ α1) (hS : ¬ Stor env I) (hz : s1.heap.objs.size ≤ h1.objs.size) (hk : ∀ b o, b ≠ I → s1.heap.get? b = some o → h1.get? b = some o) : SS K g s g1 { s1 with heap := h1, toks := tk } env sc α α1 σ1 μ1 :=
  ⟨X.up, X.same, X.st.keepBut hg hS hA hk hz, Nat.le_trans X.size hz, fun b o a1 a2 e => hk b o (fun q => Nat.lt_irrefl _ (Nat.lt_of_lt_of_le (q ▸ Heap.lt_size e) hC)) (X.kp b o a1 a2 e), X.pre, X.gens, X.os⟩
/-- the end of a loop's body, taken as the loop takes it -/
theorem FlIs.go {g3 : Gh} {α3 : List Addr} {x : Fl × Sg × Mu} {fl : Flow} {N : Sg → Mu → Prop} {y : Fl × Sg × Mu} {P : Shared → Prop} {End : Flow → Shared → Prop} (hf : FlIs g3 α3 x.1 fl) (hl : match x.1 with
      | .next => N x.2.1 x.2.2
      | .cont => N x.2.1 x.2.2
      | .brk => y = (.next, x.2.1, x.2.2)
      | .ret d => y = (.ret d, x.2.1, x.2.2)) (hN : N x.2.1 x.2.2 → P s) (hE : ∀ fl, (y.2 = x.2 → FlIs g3 α3 y.1 fl → End fl s)) : FlGo P End fl s := by
  obtain ⟨fx, σx, μx⟩ := x
  cases fx with
  | next => cases (hf : fl = _); exact hN hl
  | cont => cases (hf : fl = _); exact hN hl
  | brk => cases (hf : fl = _); cases (hl : y = _); exact hE .next rfl rfl
  | ret d => obtain ⟨v, rfl, rv⟩ : ∃ v, fl = .ret v ∧ Rd g3 α3 v d := hf; cases (hl : y = _); exact hE (.ret v) rfl ⟨v, rfl, rv⟩
noncomputable def SSFl (K g : Gh) (s : Shared) (env : Env) (sc : Scope) (α : List Addr) (f : Fl) (σ2 : Sg) (μ2 : Mu) (fl : Flow) (s' : Shared) : Prop := ∃ g' α', SS K g s g' s' env sc α α' σ2 μ2 ∧ FlIs g' α' f fl
/-- a loop's turns -/
theorem whileGen {t : Expr} {b : List Stmt} {Inv : Nat → Shared → Prop} {End : Flow → Shared → Prop} (hstep : ∀ n s', Inv n s' → wpAny (MM w) A (isTrue t env (eval t env)) (fun c s2 => if c = true then wpAny (MM w) A (execs b env) (FlGo (fun s3 => ∃ m, m < n ∧ Inv m s3) End) F0 s2 else End .next s2) F0 s') {n : Nat} (h0 : Inv n s) {p : Pos} :
    wpAny (MM w) A (exec (.While t b [] p) env) End F0 s := by
  refine wpAny_While (codeAny_whileLoop Inv (fun n s' hI => ?_) n h0)
  refine wpAny_mono (hstep n s' hI) (fun c s2 q => ?_) fun _ _ x => x.elim
  cases c with
  | false => exact wpAny_execs_nil q
  | true =>
    refine wpAny_mono q (fun fl s3 q => ?_) fun _ _ x => x.elim
    cases fl <;> exact q
theorem Ex.whileS {t : Expr} {b : List Stmt} {p : Pos} {f : Fl} {test : Sg → Mu → Bool × Mu → Prop} {body : Sg → Mu → Fl × Sg × Mu → Prop} {k : Nat} (ht : ∀ σ μ x, test σ μ x → EvT K w r sc σ μ t x.1 x.2) (hb : ∀ σ μ x, body σ μ x → Ex K w r sc σ μ (execs b) x.1 x.2.1 x.2.2)
    (h : LW test body k σ μ (f, σ2, μ2)) : Ex K w r sc σ μ (exec (.While t b [] p)) f σ2 μ2 := fun g s env α A S R => by
  refine whileGen (Inv := fun n s' => ∃ g' α' σ' μ', SS K g s g' s' env sc α α' σ' μ' ∧ LW test body n σ' μ' (f, σ2, μ2)) (End := SSFl K g s env sc α f σ2 μ2) (fun n s' hI => ?_) (n := k) ⟨g, α, σ, μ, SS.refl S, h⟩
  obtain ⟨g1, α1, σ1, μ1, X, hl⟩ := hI
  cases n with
  | zero => exact hl.elim
  | succ n =>
    obtain ⟨tv, htv, hl⟩ := hl
    refine wpAny_mono (ht σ1 μ1 tv htv g1 s' env α1 A X.st R) (fun v s2 q => ?_) fun _ _ x => x
    obtain ⟨rfl, g2, P2⟩ := q
    have X2 := X.trans (SS.ofStep P2)
    by_cases htt : tv.1 = true
    · rw [if_pos htt] at hl ⊢
      obtain ⟨x, hx, hl⟩ := hl
      refine wpAny_mono (hb σ1 tv.2 x hx g2 s2 env α1 A P2.st R) (fun fl s3 q => ?_) fun _ _ x => x
      obtain ⟨g3, α3, Y, hf⟩ := q
      have X3 := X2.trans Y
      exact hf.go (N := fun σ μ => LW test body n σ μ (f, σ2, μ2)) hl (fun hl => ⟨n, Nat.lt_succ_self _, g3, α3, _, _, X3, hl⟩) fun fl e hf => ⟨g3, α3, by cases x; cases e; exact X3, hf⟩
    · rw [if_neg htt] at hl ⊢
      cases hl
      exact ⟨g2, α1, X2, rfl⟩
end
end Mine
end
section
open PySem PySem.W PyProof.Rows PySem.Calls
open Builtin Builtin.Str
set_option autoImplicit false
namespace Mine
section
variable {K : Gh} {w : World} {r : Nat} {mg mb : Str → Option Value} {sc sc' : Scope} {σ σ' σ1 σ2 : Sg} {μ μ1 μ2 μ3 μ4 : Mu} {α α1 α2 : List Addr} {g g1 g2 : Gh} {s s1 s2 : Shared} {env : Env} {A : Around}
theorem forTurn_eq (t it : Expr) (I : Addr) (b : List Stmt) (env : Env) : forTurn t (.ref I) b [] env = (standAt t.pos >>= fun _ => (pyNext (.ref I)).onRaise (fun _ => standAt { t.pos with line := 0 }) >>= fun r => match r with
    | none => again (.block [] env)
    | some v => letOwnedTupleGo t (.ref I) v >>= fun _ => assign t env v >>= fun _ => execs b env >>= fun f => match f with
      | .next | .cont => again (.forLoop t (.ref I) b [] env)
      | .brk => pure (.done .next)
      | .ret v => pure (.done (.ret v))) := by rfl
theorem forGen {t it : Expr} {I : Addr} {b : List Stmt} {n : Nat} {Inv : Nat → Shared → Prop} {End : Flow → Shared → Prop}
    (hstep : ∀ i s', i < n → Inv i s' → wpAny (MM w) A (pyNext (.ref I)) (fun r s1 => ∃ v, r = some v ∧ wpAny (MM w) A (letOwnedTupleGo t (.ref I) v) (fun _ s2 => wpAny (MM w) A (PySem.assign t env v) (fun _ s3 => wpAny (MM w) A (execs b env) (FlGo (Inv (i + 1)) End) F0 s3) F0 s2) F0 s1) F0 s')
    (hend : ∀ s', Inv n s' → wpAny (MM w) A (pyNext (.ref I)) (fun r s1 => r = none ∧ End .next s1) F0 s') (h0 : Inv 0 s) :
    codeAny (MM w) A (.forLoop t (.ref I) b [] env) (fun r s' => match r with | .ok fl => End fl s' | .error e => cameBackBy (MM w) A env F0 e s') s := by
  refine codeAny_loop' rfl (fun k s' => ∃ i, i ≤ n ∧ k = n - i ∧ Inv i s') (fun k s' hK => ?_) n ⟨0, Nat.zero_le _, rfl, h0⟩
  obtain ⟨i, hi, rfl, hI⟩ := hK
  show wpAny _ _ ((forTurn t (.ref I) b [] env).onRaise (fun x => do noteFrame x env; theTreesLotGoes x)) _ _ s'
  refine wpAny_noted ?_
  rw [forTurn_eq t it]
  refine wpAny_bind (wpAny_standAt (wpAny_bind (wpAny_onRaise ?_)))
  obtain hlt | rfl := Nat.lt_or_eq_of_le hi
  · refine wpAny_mono (hstep i s' hlt hI) (fun r s1 q => ?_) fun _ _ x => x.elim
    obtain ⟨v, rfl, q⟩ := q
    refine wpAny_bind (wpAny_mono q (fun _ s2 q => wpAny_bind (wpAny_mono q (fun _ s3 q => wpAny_bind (wpAny_mono q (fun fl s4 q => ?_) fun _ _ x => x.elim)) fun _ _ x => x.elim)) fun _ _ x => x.elim)
    have go : Inv (i + 1) s4 → ∃ m, m < n - i ∧ ∃ i, i ≤ n ∧ m = n - i ∧ Inv i s4 := fun q => ⟨n - (i + 1), Nat.sub_lt_sub_left hlt (Nat.lt_succ_self i), i + 1, hlt, rfl, q⟩
    cases fl with
    | next => exact wpAny_pure (.inl ⟨rfl, go q⟩)
    | cont => exact wpAny_pure (.inl ⟨rfl, go q⟩)
    | brk => exact wpAny_pure q
    | ret v => exact wpAny_pure q
  · refine wpAny_mono (hend s' hI) (fun r s1 q => ?_) fun _ _ x => x.elim
    obtain ⟨rfl, q⟩ := q
    exact wpAny_pure (.inr ⟨rfl, codeAny_block (wpAny_execs_nil q)⟩)
/-- where a loop stands -/
structure FI (K g : Gh) (s : Shared) (env : Env) (sc : Scope) (α : List Addr) (g2 : Gh) (I : Addr) (j : Heap → Prop) (l : Sg → Mu → Prop) (s' : Shared) (g' : Gh) (α' : List Addr) (σ' : Sg) (μ' : Mu) : Prop where
  ss : SS K g s g' s' env sc α α' σ' μ'
  lf : l σ' μ'
  nI : I ∉ α'
  gI : g' I = none
  up : ∀ b o, g2 b = some o → g' b = some o
  sz : I < s'.heap.objs.size
  j : j s'.heap
section
variable {I : Addr} {ds : List D} {J : Nat → Heap → Prop} {l l' : Sg → Mu → Prop} {i : Nat} {s' s3 : Shared} {g' g3 : Gh} {α' α3 : List Addr} {σ3 : Sg} {μ' : Mu} {t : Expr} {d : D}
theorem FI.next (hIS : ¬ Stor env I) (W : IterAt w g2 α I ds J) (F : FI K g s env sc α g2 I (J (i + 1)) l s' g' α' σ1 μ1) (Y : SS K g' s' g3 s3 env sc α' α3 σ3 μ3) (hl : l' σ3 μ3) : FI K g s env sc α g2 I (J (i + 1)) l' s3 g3 α3 σ3 μ3 := by
  refine ⟨F.ss.trans Y, hl, fun hm => ?_, (Y.same I F.sz F.nI).trans F.gI, fun b o e => Y.up b o (F.up b o e), Nat.lt_of_lt_of_le F.sz Y.size, W.frame F.j (fun o e => Y.kp I o F.nI hIS e) (fun b o e => F.ss.st.sub b o (F.up b o e)) (fun b o e => Y.st.sub b o (Y.up b o (F.up b o e)))⟩
  obtain ⟨β, rfl, hβ⟩ := Y.pre
  exact (List.mem_append.mp hm).elim F.nI fun hm => Nat.lt_irrefl _ (Nat.lt_of_lt_of_le F.sz (hβ I hm))
theorem FI.turn (hI : s.heap.objs.size ≤ I) (hIS : ¬ Stor env I) (hA : A.handled = none) (W : IterAt w g2 α I ds J) (F : FI K g s env sc α g2 I (J i) l s' g' α' σ1 μ1) (hd : ds[i]? = some d) (hb : bindT sc t d σ1 = some σ2) {Q : Shared → Prop} (hQ : ∀ s3, FI K g s env sc α g2 I (J (i + 1)) (fun _ _ => True) s3 g' α' σ2 μ1 → Q s3) :
    wpAny (MM w) A (pyNext (.ref I)) (fun r s1 => ∃ v, r = some v ∧ wpAny (MM w) A (letOwnedTupleGo t (.ref I) v) (fun _ s2 => wpAny (MM w) A (PySem.assign t env v) (fun _ s3 => Q s3) F0 s2) F0 s1) F0 s' := by
  refine W.next hA hd F.j fun v h1 tk rv hJ1 hz hk => ⟨v, rfl, W.letGo (List.mem_of_getElem? hd) hb hJ1 ?_⟩
  have hα : ∀ (k : Nat) a, α[k]? = some a → α'[k]? = some a := fun k a e => by
    obtain ⟨β, rfl, _⟩ := F.ss.pre
    rw [List.getElem?_append_left (List.getElem?_eq_some_iff.mp e).1]; exact e
  have F1 : FI K g s env sc α g2 I (J (i + 1)) (fun _ _ => True) { s' with heap := h1, toks := tk } g' α' σ1 μ1 := ⟨F.ss.bump hI F.gI F.nI hIS hz hk, trivial, F.nI, F.gI, F.up, Nat.lt_of_lt_of_le F.sz hz, hJ1⟩
  exact bindTarget hA hb (rv.mono F.up hα) F1.ss.st fun s2 B => hQ s2 (F1.next hIS W (SS.ofBd B) trivial)
theorem FI.stop (hI : s.heap.objs.size ≤ I) (hIS : ¬ Stor env I) (hA : A.handled = none) (W : IterAt w g2 α I ds J) (F : FI K g s env sc α g2 I (J ds.length) l s' g' α' σ1 μ1) {Q : Shared → Prop} (hQ : ∀ s3, SS K g s g' s3 env sc α α' σ1 μ1 → Q s3) :
    wpAny (MM w) A (pyNext (.ref I)) (fun r s1 => r = none ∧ Q s1) F0 s' := W.stop hA F.j fun _ _ hz hk => ⟨rfl, hQ _ (F.ss.bump hI F.gI F.nI hIS hz hk)⟩
end
theorem LF_cons {bind : D → Sg → Option Sg} {body : Sg → Mu → Fl × Sg × Mu → Prop} {ds : List D} {i : Nat} {y : Fl × Sg × Mu} (hlt : i < ds.length) (h : LF bind body (ds.drop i) σ μ y) : ∃ d σ1 x, ds[i]? = some d ∧ bind d σ = some σ1 ∧ body σ1 μ x ∧ (match x.1 with
      | .next => LF bind body (ds.drop (i + 1)) x.2.1 x.2.2 y
      | .cont => LF bind body (ds.drop (i + 1)) x.2.1 x.2.2 y
      | .brk => y = (.next, x.2.1, x.2.2)
      | .ret d => y = (.ret d, x.2.1, x.2.2)) := by
  rw [List.drop_eq_getElem_cons hlt] at h
  obtain ⟨σ1, x, h1, h2, h3⟩ := h
  exact ⟨_, σ1, x, List.getElem?_eq_getElem hlt, h1, h2, h3⟩
theorem Ex.forS {t it : Expr} {b : List Stmt} {p : Pos} {f : Fl} {ds : List D} {body : Sg → Mu → Fl × Sg × Mu → Prop} (hns : SetOk it) (hit : EvIt K w r sc σ μ it ds μ1) (hb : ∀ σ μ x, body σ μ x → Ex K w r sc σ μ (execs b) x.1 x.2.1 x.2.2)
    (h : LF (bindT sc t) body ds σ μ1 (f, σ2, μ2)) : Ex K w r sc σ μ (exec (.For t it b [] p)) f σ2 μ2 := fun g s env α A S R => by
  refine wpAny_For (wpAny_mono (hit g s env α A S R) (fun x s1 q => wpAny_mono q (fun it' s2 q => ?_) fun _ _ x => x) fun _ _ x => x) (fun x => hns env x)
  obtain ⟨g2, I, J, rfl, P, hI, hI', hgI, W, hJ⟩ := q
  have hIS : ¬ Stor env I := fun h => Nat.lt_irrefl _ (Nat.lt_of_lt_of_le (S.stor I h).2.2 hI)
  have hIα : I ∉ α := fun h => Nat.lt_irrefl _ (Nat.lt_of_lt_of_le (S.lt I h) hI)
  refine forGen (it := it) (n := ds.length) (Inv := fun i s' => ∃ g' α' σ' μ', FI K g s env sc α g2 I (J i) (fun σ μ => LF (bindT sc t) body (ds.drop i) σ μ (f, σ2, μ2)) s' g' α' σ' μ') (End := SSFl K g s env sc α f σ2 μ2) (fun i s' hlt F => ?_) (fun s' F => ?_) ⟨g2, α, σ, μ1, SS.ofStep P, h, hIα, hgI, fun _ _ e => e, hI', hJ⟩
  · obtain ⟨g', α', σ', μ', F⟩ := F
    obtain ⟨d, σ1, x, hd, hb1, hx, hl⟩ := LF_cons hlt F.lf
    refine F.turn hI hIS R.2.2 W hd hb1 fun s3 F3 => ?_
    refine wpAny_mono (hb σ1 μ' x hx g' s3 env α' A F3.ss.st R) (fun fl s4 q => ?_) fun _ _ x => x
    obtain ⟨g4, α4, Y, hf⟩ := q
    exact hf.go (N := fun σ μ => LF (bindT sc t) body (ds.drop (i + 1)) σ μ (f, σ2, μ2)) hl (fun hl => ⟨g4, α4, _, _, F3.next hIS W Y hl⟩) fun fl e hf => ⟨g4, α4, by cases x; cases e; exact F3.ss.trans Y, hf⟩
  · obtain ⟨g', α', σ', μ', F⟩ := F
    have hl := F.lf
    rw [List.drop_length] at hl
    cases (hl : (f, σ2, μ2) = _)
    exact F.stop hI hIS R.2.2 W fun s3 X => ⟨g', α', X, rfl⟩
/-- a fresh list is bound: as an own list, or one that stands still -/
theorem storeL {x : Str} {L : Addr} {ws : List Value} {n : Nat} {ds : List D} (ow : Bool) (hx : isBind (kOf sc x) = true) (S : St K g s.heap env sc α σ μ) (P : Step K g s g1 s1 env sc α σ μ1) (hL : s.heap.objs.size ≤ L) (ho : s1.heap.get? L = some (lobj ws n)) (hg : g1 L = none) (rd : Rds g1 α ws ds) (hp : ow = true → D.plains ds = true) :
    wpAny (MM w) A (storeName env x (.ref L)) (fun _ s2 => (∃ g2 α2, SS K g s g2 s2 env sc α α2 (upd σ x (if ow then .own μ1.length else .list ds)) (if ow then μ1 ++ [some ds] else μ1) ∧ (∀ b, b ≠ L → g2 b = g1 b) ∧ (∀ a ∈ α2, a ∈ α ∨ a = L)) ∧ ∀ b o, ¬ Stor env b → s1.heap.get? b = some o → s2.heap.get? b = some o) F0 s1 := by
  have hLS : ¬ Stor env L := fun h => Nat.lt_irrefl _ (Nat.lt_of_lt_of_le (S.stor L h).2.2 hL)
  have hLα : L ∉ α := fun h => Nat.lt_irrefl _ (Nat.lt_of_lt_of_le (S.lt L h) hL)
  have X0 := SS.ofStep P
  cases ow with
  | false =>
    simp only [Bool.false_eq_true, if_false]
    have up : ∀ b o, g1 b = some o → put g1 L (lobj ws n) b = some o := fun b o e => by rw [put_ne _ _ (fun q => by rw [q, hg] at e; cases e)]; exact e
    have S1 : St K (put g1 L (lobj ws n)) s1.heap env sc α σ μ1 := by
      refine P.st.more up (fun b o e => ?_) (fun a ha => ?_) fun a ha e => ?_
      · by_cases q : b = L
        · subst q; rw [put_self] at e; cases e; exact ho
        · rw [put_ne _ _ q] at e; exact P.st.sub b o e
      · rw [put_ne _ _ (fun (q : a = L) => hLS (q ▸ ha))]; exact (P.st.stor a ha).1
      · rw [put_ne _ _ (fun (q : a = L) => hLα (q ▸ ha))]; exact e
    refine storeVar (d := .list ds) S1 hx (.list (put_self _ _ _) (rd.mono up fun _ _ e => e)) fun s2 B => ⟨⟨put g1 L (lobj ws n), α, ?_, fun b hb => put_ne _ _ hb, fun a ha => .inl ha⟩, fun b o hb e => B.keep b o (fun q => hb q.stor) e⟩
    exact ⟨fun b o e => up b o (X0.up b o e), fun b h1 h2 => by rw [put_ne _ _ (fun (q : b = L) => Nat.lt_irrefl _ (Nat.lt_of_lt_of_le (q ▸ h1) hL))]; exact X0.same b h1 h2, B.st, Nat.le_trans X0.size B.size,
      fun b o h1 h2 e => B.keep b o (fun q => h2 q.stor) (X0.kp b o h1 h2 e), ⟨[], by simp, by simp⟩, B.gens.trans X0.gens, B.os.trans X0.os⟩
  | true =>
    simp only [if_true]
    have hα : ∀ (k : Nat) a, α[k]? = some a → (α ++ [L])[k]? = some a := fun k a e => by rw [List.getElem?_append_left (List.getElem?_eq_some_iff.mp e).1]; exact e
    have S1 : St K g1 s1.heap env sc (α ++ [L]) σ (μ1 ++ [some ds]) := by
      have Q := P.st
      refine ⟨Q.base, Q.sub, Q.kind, Q.glb, Q.seesG, Q.seesL, Q.seesC, Q.loc, Q.cel, Q.apart, Q.locc, fun y d e => let ⟨v, a, b⟩ := Q.vars y d e; ⟨v, a, b.mono (fun _ _ e => e) hα⟩, fun a ha => ?_, fun k es e => ?_, ?_, fun a ha => ?_, by simp [Q.len]⟩
      · obtain ⟨a1, a2, a3⟩ := Q.stor a ha
        refine ⟨a1, fun hm => ?_, a3⟩
        rcases List.mem_append.mp hm with hm | hm
        · exact a2 hm
        · simp only [List.mem_singleton] at hm; exact hLS (hm ▸ ha)
      · by_cases hk : k < μ1.length
        · rw [List.getElem?_append_left hk] at e
          obtain ⟨a, vs, m, x1, x2, x3, x4⟩ := Q.own k es e
          exact ⟨a, vs, m, hα k a x1, x2, x3, x4⟩
        · have hk' : k = μ1.length := by
            have := (List.getElem?_eq_some_iff.mp e).1
            simp at this; lia
          subst hk'
          simp at e; subst e
          refine ⟨L, ws, n, ?_, ho, rd.plain (hp rfl), hg⟩
          rw [← Q.len]; simp
      · rw [List.nodup_append]
        exact ⟨Q.nodup, by simp, fun a ha b hb => by simp at hb; subst hb; exact fun q => hLα (q ▸ ha)⟩
      · rcases List.mem_append.mp ha with ha | ha
        · exact Q.lt a ha
        · simp only [List.mem_singleton] at ha; subst ha; exact Heap.lt_size ho
    have ro : Rd g1 (α ++ [L]) (.ref L) (.own μ1.length) := .own (by rw [← P.st.len]; simp)
    refine storeVar (d := .own μ1.length) S1 hx ro fun s2 B => ⟨⟨g1, α ++ [L], ?_, fun b hb => rfl, fun a ha => by simpa using ha⟩, fun b o hb e => B.keep b o (fun q => hb q.stor) e⟩
    exact ⟨X0.up, X0.same, B.st, Nat.le_trans X0.size B.size, fun b o h1 h2 e => B.keep b o (fun q => h2 q.stor) (X0.kp b o h1 h2 e), ⟨[L], rfl, by simpa using hL⟩, B.gens.trans X0.gens, B.os.trans X0.os⟩
theorem Ex.assignL {x : Str} {np p : Pos} {e : Expr} {ds : List D} (ow : Bool) (hx : isBind (kOf sc x) = true) (h : EvL K w r sc σ μ e ds μ1) (hp : ow = true → D.plains ds = true) (hs : ∀ env, swapsWith e (some (.Name x np)) p.line env = pure false) :
    Ex K w r sc σ μ (exec (.Assign [.Name x np] e p)) .next (upd σ x (if ow then .own μ1.length else .list ds)) (if ow then μ1 ++ [some ds] else μ1) := fun g s env α A S R => by
  refine wpAny_Assign_Name (wpAny_mono (h g s env α A S R) (fun v s1 q => ?_) fun _ _ x => x) (hs env)
  obtain ⟨g1, L, ws, n, rfl, P, hL, hLα, ho, hg, rd⟩ := q
  refine wpAny_mono (storeL ow hx S P hL ho hg rd hp) (fun _ s2 q => ?_) fun _ _ x => x
  obtain ⟨⟨g2, α2, X, _, _⟩, _⟩ := q
  exact ⟨g2, α2, X, rfl⟩
theorem swaps_comp (elt : Expr) (gens : List Comprehension) (sc' : Scope) (pos : Pos) (x : Str) (np : Pos) (line : Nat) (env : Env) : ∃ b, swapsWith (.ListComp elt gens sc' pos) (some (.Name x np)) line env = pure b := ⟨_, rfl⟩
theorem Ex.assignC {x : Str} {np p : Pos} {elt it t : Expr} {gens : List Comprehension} {pos : Pos} {ds accF : List D} {μF : Mu} (ow : Bool) (hx : isBind (kOf sc x) = true) (hok : CompOk sc sc') (hns : SetOk it) (hit : EvIt K w r sc σ μ it ds μ1)
    (hrun : CRun K w r sc' (.ListComp elt (⟨t, it, [], 0⟩ :: gens) sc' pos) ds (innerOf sc' σ) μ1 accF μF) (hp : ow = true → D.plains accF = true) :
    Ex K w r sc σ μ (exec (.Assign [.Name x np] (.ListComp elt (⟨t, it, [], 0⟩ :: gens) sc' pos) p)) .next (upd σ x (if ow then .own μF.length else .list accF)) (if ow then μF ++ [some accF] else μF) := fun g s env α A S R => by
  obtain ⟨b, hb⟩ := swaps_comp elt (⟨t, it, [], 0⟩ :: gens) sc' pos x np p.line env
  cases b with
  | false =>
    refine wpAny_Assign_Name (wpAny_mono (EvL.comp hok hns hit hrun g s env α A S R) (fun v s1 q => ?_) fun _ _ x => x) hb
    obtain ⟨g1, L, ws, n, rfl, P, hL, hLα, ho, hg, rd⟩ := q
    refine wpAny_mono (storeL ow hx S P hL ho hg rd hp) (fun _ s2 q => ?_) fun _ _ x => x
    obtain ⟨⟨g2, α2, X, _, _⟩, _⟩ := q
    exact ⟨g2, α2, X, rfl⟩
  | true =>
    rw [exec_Assign_Name_used _ _ _ _ hb]
    refine wpAny_bind (wpAny_standAt (wpAny_bind ?_))
    show wpAny _ _ (comprehension (.ListComp elt (⟨t, it, [], 0⟩ :: gens) sc' pos) sc' env it.pos (newList []) false (eval it env) (some (PySem.assign (.Name x np) env)) >>= fun _ => pure ()) _ _ _
    refine wpAny_bind (compCore hok hns hit hrun S R fun g1 s1 L C ws n P hL hLC ho hg rd hC hgC hN => ?_)
    have hCS : ¬ Stor env C := fun h => Nat.lt_irrefl _ (Nat.lt_of_lt_of_le (S.stor C h).2.2 hC)
    have hCα : C ∉ α := fun h => Nat.lt_irrefl _ (Nat.lt_of_lt_of_le (S.lt C h) hC)
    refine wpAny_assign_Name (wpAny_mono (storeL ow hx S P hL ho hg rd hp) (fun _ s2 q => ?_) fun _ _ x => x)
    obtain ⟨⟨g2, α2, X, h1, h2⟩, hk⟩ := q
    obtain ⟨m, hN⟩ := hN
    refine ⟨m, hN.at' fun o e => hk C o hCS e, fun h' hsb => wpAny_pure (wpAny_pure ⟨g2, α2, X.sameBut hC (by rw [h1 C (Ne.symm hLC)]; exact hgC) (fun hm => ?_) hCS hsb, rfl⟩)⟩
    rcases h2 C hm with h | h
    · exact hCα h
    · exact hLC h.symm
/-- an own list is laid into another one, and stands still from then on -/
theorem Ex.appendOwn {rn y : Str} {m : Str} {rp yp ap p q : Pos} {j k : Nat} {ds cs : List D} (hm : m = Str.ofString "append") (hjk : j ≠ k) (hr : isVar (kOf sc rn) = true) (hy : isVar (kOf sc y) = true) (hn1 : (rn == ("__debug__" : Str)) = false) (hn2 : (y == ("__debug__" : Str)) = false) (hline : (ap.endLine == p.line) = true) (hl : ds.length ≤ 1000)
    (h1 : σ.lookup rn = some (.own j)) (h2 : σ.lookup y = some (.own k)) (hj : μ[j]? = some (some ds)) (hk : μ[k]? = some (some cs)) :
    Ex K w r sc σ μ (exec (.Expr (.Call (.Attribute (.Name rn rp) m ap) [.Name y yp] [] p) q)) .next σ ((μ.set k none).set j (some (ds ++ [.list cs]))) := fun g s env α A S R => by
  subst hm
  obtain ⟨vr, qr, rr⟩ := S.vars rn _ h1
  obtain ⟨vy, qy, ry⟩ := S.vars y _ h2
  obtain ⟨aj, rfl, haj⟩ := rr.own_
  obtain ⟨ak, rfl, hak⟩ := ry.own_
  ·
    ·
      obtain ⟨b, wj, nj, hbj, hoj, rj, hgj⟩ := S.own _ _ hj
      cases haj.symm.trans hbj
      obtain ⟨b, wk, nk, hbk, hok, rk, hgk⟩ := S.own _ _ hk
      cases hak.symm.trans hbk
      obtain ⟨F1, F2, F3⟩ := S.freeze hak hk hok
      have hne : aj ≠ ak := fun q => hjk ((List.getElem?_inj (List.getElem?_eq_some_iff.mp haj).1 S.nodup).mp (haj.trans (q ▸ hak.symm)))
      have hj' : (μ.set k none)[j]? = some (some ds) := by rw [List.getElem?_set_ne (Ne.symm hjk)]; exact hj
      refine wpAny_Expr (wpAny_Call_method ((rfl : attributeBase _ _ env (eval _ env) = _)) rfl hline F.plainAttrs_list F.slot_list_append F.type_list_append (wpAny_Name (loadVar (h := s.heap) S.kind qr ⟨⟨_, hoj, rfl⟩, (fun x e => by cases e; exact ⟨_, hoj, rfl⟩), ?_⟩) hn1)) (notInter S) rfl
      have hst : ∀ e ∈ [Expr.Name y yp], StarOk e := by intro e he; cases List.mem_singleton.mp he; exact fun _ _ => rfl
      refine callWith_builtin (star_plain p hst) (evalArgs_all (star_plain p hst) (wpAny_items_cons (wpAny_Name (loadVar (h := s.heap) S.kind qy (wpAny_items_nil ?_)) hn2)))
      refine wpAny_list_append_plain ⟨nj, hoj⟩ (fun h' hp hsb => ?_) (by rw [List.size_toArray, rj.length]; exact Nat.le_trans hl (by decide))
      obtain ⟨m', ho'⟩ := hp
      refine ⟨put g ak (lobj wk nk), α, ⟨F2, fun b _ hb => F3 b (fun q => hb (q ▸ List.mem_of_getElem? hak)), ?_, Nat.le_of_eq hsb.1.symm, fun b o hb _ e => hsb.extBut b o (fun q => hb (q ▸ List.mem_of_getElem? haj)) e, ⟨[], by simp, by simp⟩, rfl, rfl⟩, rfl⟩
      refine F1.upd (vs' := wj ++ [.ref ak]) (n' := m') haj hj' ?_ (fun b o hb e => hsb.extBut b o hb e) (Nat.le_of_eq hsb.1.symm) ((rj.mono F2 fun _ _ e => e).append (.cons (.list (put_self _ _ _) (rk.mono F2 fun _ _ e => e)) .nil))
      show h'.get? aj = _
      rw [ho']; simp [lobj]
end
end Mine
end
section
open PySem PySem.W PyProof.Rows PySem.Calls
set_option autoImplicit false
namespace Mine
section
variable {K : Gh} {w : World} {r : Nat} {mg mb : Str → Option Value} {sc sc' : Scope} {σ σ' σ1 σ2 : Sg} {μ μ1 μ2 μ3 μ4 : Mu}
theorem lenF_sound {a d : D} (h : lenF μ a = some d) : Opn K w r sc σ μ [a] (fun vs => PySem.call (.builtin "len") vs) d μ := by
  cases a with
  | list xs => obtain ⟨hl, g⟩ := iteSomeP h; cases g; exact len_list hl
  | str s => obtain ⟨hl, g⟩ := iteSomeP h; cases g; exact len_strD hl
  | own k => obtain ⟨ds, hk, g⟩ := bindSome h; obtain ⟨hl, g⟩ := iteSomeP g; cases g; exact len_own (ownOf_is hk) hl
  | _ => exact noSome h
theorem chrF_sound {a d : D} (h : chrF a = some d) : Opn K w r sc σ μ [a] (fun vs => PySem.call (.builtin "chr") vs) d μ := by
  obtain ⟨i, rfl, g⟩ := onInt_inv h
  obtain ⟨h0, g⟩ := iteSomeP g
  obtain ⟨h1, g⟩ := iteSomeP g
  cases g; exact chrD h0 h1
theorem ordF_sound {a d : D} (h : ordF a = some d) : Opn K w r sc σ μ [a] (fun vs => PySem.call (.builtin "ord") vs) d μ := by
  obtain ⟨s, rfl, g⟩ := onStr_inv h
  obtain ⟨c, hx, g⟩ := one?_inv g
  cases g; exact ordD hx
theorem sumF_sound {a d : D} (h : sumF a = some d) : Opn K w r sc σ μ [a] (fun vs => PySem.call (.builtin "sum") vs) d μ := by
  obtain ⟨s, rfl, g⟩ := onList_inv h
  obtain ⟨l, hl, rfl⟩ := mapSome g
  exact sumD hl
theorem sortedF_sound {a d : D} (h : sortedF a = some d) : Opn K w r sc σ μ [a] (fun vs => PySem.call (.builtin "sorted") vs) d μ := by
  obtain ⟨s, rfl, g⟩ := onList_inv h
  obtain ⟨hc, g⟩ := iteSome g
  obtain ⟨ys, hy, rfl⟩ := mapSome g
  have c1 := (Bool.and_eq_true _ _).mp hc
  have c2 := (Bool.and_eq_true _ _).mp c1.1
  exact sortedD c2.1 c2.2 (of_decide_eq_true c1.2) hy
theorem biD_sound {id : String} {ds : List D} {d : D} (h : biD μ id ds = some d) : Opn K w r sc σ μ ds (fun vs => PySem.call (.builtin id) vs) d μ := by
  obtain ⟨rfl, h⟩ | h := iteOr h
  · obtain ⟨a, rfl, g⟩ := arg1_inv h; exact lenF_sound g
  obtain ⟨rfl, h⟩ | h := iteOr h
  · obtain ⟨a, rfl, g⟩ := arg1_inv h; exact chrF_sound g
  obtain ⟨rfl, h⟩ | h := iteOr h
  · obtain ⟨a, rfl, g⟩ := arg1_inv h; exact ordF_sound g
  obtain ⟨rfl, h⟩ | h := iteOr h
  · obtain ⟨a, rfl, g⟩ := arg1_inv h; exact sumF_sound g
  obtain ⟨rfl, h⟩ | h := iteOr h
  · obtain ⟨a, rfl, g⟩ := arg1_inv h; exact sortedF_sound g
  exact noSome h
theorem rangeF_sound {ds : List D} {d : D} (h : rangeF ds = some d) : Opn K w r sc σ μ ds (fun vs => PySem.call (.type "range") vs) d μ := by
  cases ds with
  | nil => exact noSome h
  | cons a rest => cases rest with
    | nil =>
      obtain ⟨x, rfl, g⟩ := onInt_inv (h : onInt a rng1 = some d)
      obtain ⟨_, g⟩ := iteSomeP g
      obtain ⟨_, g⟩ := iteSomeP g
      cases g; exact rangeD1
    | cons b rest =>
      obtain ⟨x, rfl, g⟩ := onInt_inv (h : onInt a _ = some d)
      clear h
      obtain ⟨y, e, g2⟩ := arg1_inv g
      cases e
      obtain ⟨z, rfl, g3⟩ := onInt_inv g2
      obtain ⟨_, k1⟩ := iteSomeP g3
      obtain ⟨_, k2⟩ := iteSomeP k1
      obtain ⟨_, k3⟩ := iteSomeP k2
      obtain ⟨_, k4⟩ := iteSomeP k3
      cases k4; exact rangeD2
theorem bytesF_sound {a d : D} (h : bytesF a = some d) : Opn K w r sc σ μ [a] (fun vs => PySem.call (.type "bytes") vs) d μ := by
  obtain ⟨s, rfl, g⟩ := onList_inv h
  obtain ⟨hl, g⟩ := iteSomeP g
  obtain ⟨l, h1, g⟩ := bindSome g
  obtain ⟨m, h2, rfl⟩ := mapSome g
  exact bytesD hl h1 h2
theorem hex2_inv {l : List Nat} {d : D} (h : hex2 l = some d) : ∃ (a b x y : Nat), l = [a, b] ∧ hexVal a = some x ∧ hexVal b = some y ∧ d = .int (16 * (x : Int) + y) := by
  cases l with
  | nil => exact noSome h
  | cons a rest =>
    obtain ⟨b, e, g⟩ := one?_inv h
    obtain ⟨x, hx, g⟩ := bindSome g
    obtain ⟨y, hy, g⟩ := mapSome g
    exact ⟨a, b, x, y, congrArg (a :: ·) e, hx, hy, g.symm⟩
theorem intF_sound {a b d : D} (h : intF a b = some d) : Opn K w r sc σ μ [a, b] (fun vs => PySem.call (.type "int") vs) d μ := by
  obtain ⟨s, rfl, g2⟩ := onStr_inv h
  clear h
  obtain ⟨k, rfl, g3⟩ := onInt_inv g2
  clear g2
  obtain ⟨rfl, g4⟩ := iteSomeP g3
  obtain ⟨a, b, x, y, e, hx, hy, rfl⟩ := hex2_inv g4
  exact intD e hx hy
theorem tyD_sound {nm : String} {ds : List D} {d : D} (h : tyD nm ds = some d) : Opn K w r sc σ μ ds (fun vs => PySem.call (.type nm) vs) d μ := by
  obtain ⟨rfl, h⟩ | h := iteOr h
  · exact rangeF_sound h
  obtain ⟨rfl, h⟩ | h := iteOr h
  · obtain ⟨a, rfl, g⟩ := arg1_inv h; exact bytesF_sound g
  obtain ⟨rfl, h⟩ | h := iteOr h
  · obtain ⟨a, b, rfl, g⟩ := arg2_inv h; exact intF_sound g
  exact noSome h
/-- a method that is found by its type -/
noncomputable def MethIs (K : Gh) (w : World) (r : Nat) (sc : Scope) (σ : Sg) (μ : Mu) (a : D) (name : Str) (ds : List D) (d : D) (μ' : Mu) : Prop :=
  ∃ T id, PlainAttrs T ∧ Slot T name id ∧ typeOf (.builtin id) = pure (.type "method_descriptor") ∧ OfType a μ T ∧ Opn K w r sc σ μ (a :: ds) (fun vs => PySem.call (.builtin id) vs) d μ'
theorem MethIs.str {s : Str} {name : Str} {id : String} {ds : List D} {d : D} (h1 : Slot "str" name id) (h2 : typeOf (.builtin id) = pure (.type "method_descriptor")) (h : Opn K w r sc σ μ (.str s :: ds) (fun vs => PySem.call (.builtin id) vs) d μ) : MethIs K w r sc σ μ (.str s) name ds d μ := ⟨"str", id, F.plainAttrs_str, h1, h2, rfl, h⟩
theorem decodeF_sound {a e d : D} (h : decodeF a e = some d) : MethIs K w r sc σ μ a (Str.ofString "decode") [e] d μ := by
  obtain ⟨b, rfl, g⟩ := onBytes_inv h
  clear h
  obtain ⟨s, rfl, g2⟩ := onStr_inv g
  clear g
  obtain ⟨hc, g⟩ := iteSome g2
  cases g
  have c1 := (Bool.and_eq_true _ _).mp hc
  have c2 := (Bool.and_eq_true _ _).mp c1.1
  cases beq_iff_eq.mp c2.1
  exact ⟨"bytes", "bytes.decode", FB.plainAttrs_bytes, FB.slot_bytes_decode, FB.type_bytes_decode, rfl, decodeD (of_decide_eq_true c2.2) (fun q => by rw [q] at c1; exact absurd c1.2 Bool.false_ne_true)⟩
theorem translateF_sound {a e d : D} (h : translateF a e = some d) : MethIs K w r sc σ μ a (Str.ofString "translate") [e] d μ := by
  obtain ⟨b, rfl, g⟩ := onStr_inv h
  clear h
  obtain ⟨s, rfl, g2⟩ := onList_inv g
  clear g
  obtain ⟨hm, h1, g⟩ := bindSome g2
  obtain ⟨hc, g⟩ := iteSome g
  cases g
  simp only [Bool.and_eq_true, decide_eq_true_eq, List.all_eq_true] at hc
  obtain ⟨⟨⟨⟨c1, c2⟩, c3⟩, c4⟩, c5⟩ := hc
  exact .str F.slot_str_translate F.type_str_translate (translateD h1 c1 c2 c3 c4 c5)
theorem plainF_inv {f : Str → D} {a d : D} (h : plainF f a = some d) : ∃ s, a = .str s ∧ d = f s ∧ s.cps.toList.all plainSign = true ∧ 1 ≤ s.length ∧ s.length ≤ 1000 := by
  obtain ⟨s, e, g⟩ := onStr_inv h
  obtain ⟨hc, g⟩ := iteSome g
  have c1 := (Bool.and_eq_true _ _).mp hc
  have c2 := (Bool.and_eq_true _ _).mp c1.1
  exact ⟨s, e, (Option.some.inj g).symm, c1.2, of_decide_eq_true c2.1, of_decide_eq_true c2.2⟩
theorem endsF_sound {a e d : D} (h : endsF a e = some d) : MethIs K w r sc σ μ a (Str.ofString "endswith") [e] d μ := by
  obtain ⟨b, rfl, g⟩ := onStr_inv h
  clear h
  obtain ⟨s, rfl, g2⟩ := onStr_inv g
  clear g
  cases g2
  exact .str F.slot_str_endswith F.type_str_endswith endswithD
theorem joinF_sound {a e d : D} (h : joinF a e = some d) : MethIs K w r sc σ μ a (Str.ofString "join") [e] d μ := by
  obtain ⟨b, rfl, g⟩ := onStr_inv h
  clear h
  obtain ⟨s, rfl, g2⟩ := onList_inv g
  clear g
  obtain ⟨he, g⟩ := iteSomeP g2
  obtain ⟨l, h1, g⟩ := bindSome g
  obtain ⟨hl, g⟩ := iteSomeP g
  obtain ⟨hall, g⟩ := iteSome g
  cases g
  exact .str F.slot_str_join F.type_str_join (joinD he h1 hl fun x hx => of_decide_eq_true (List.all_eq_true.mp hall x hx))
theorem methD_sound {a : D} {name : Str} {ds : List D} {d : D} (h : methD a name ds = some d) : MethIs K w r sc σ μ a name ds d μ ∧ ds.length ≤ 2 := by
  obtain ⟨hn, h⟩ | h := iteOr h
  · cases beq_iff_eq.mp hn; obtain ⟨e, rfl, g⟩ := arg1_inv h; exact ⟨decodeF_sound g, Nat.le_succ _⟩
  obtain ⟨hn, h⟩ | h := iteOr h
  · cases beq_iff_eq.mp hn; obtain ⟨e, rfl, g⟩ := arg1_inv h; exact ⟨translateF_sound g, Nat.le_succ _⟩
  obtain ⟨hn, h⟩ | h := iteOr h
  · cases beq_iff_eq.mp hn; obtain ⟨rfl, g⟩ := none0_inv h; obtain ⟨s, rfl, rfl, c1, c2, c3⟩ := plainF_inv g
    exact ⟨.str F.slot_str_splitlines F.type_str_splitlines (splitlinesD c1 c2 c3), Nat.zero_le _⟩
  obtain ⟨hn, h⟩ | h := iteOr h
  · cases beq_iff_eq.mp hn; obtain ⟨rfl, g⟩ := none0_inv h; obtain ⟨s, rfl, rfl, c1, c2, c3⟩ := plainF_inv g
    exact ⟨.str F.slot_str_rstrip F.type_str_rstrip (rstripD c1 c2 c3), Nat.zero_le _⟩
  obtain ⟨hn, h⟩ | h := iteOr h
  · cases beq_iff_eq.mp hn; obtain ⟨e, rfl, g⟩ := arg1_inv h; exact ⟨endsF_sound g, Nat.le_succ _⟩
  obtain ⟨hn, h⟩ | h := iteOr h
  · cases beq_iff_eq.mp hn; obtain ⟨e, rfl, g⟩ := arg1_inv h; exact ⟨joinF_sound g, Nat.le_succ _⟩
  exact noSome h
theorem methO_sound {k : Nat} {es ds : List D} {name : Str} {d : D} {μ' : Mu} (hk : μ[k]? = some (some es)) (h : methO es name ds k μ = some (d, μ')) : MethIs K w r sc σ μ (.own k) name ds d μ' ∧ ds.length ≤ 2 := by
  cases ds with
  | nil =>
    obtain ⟨hc, g⟩ := iteSome h
    have c1 := (Bool.and_eq_true _ _).mp hc
    cases beq_iff_eq.mp c1.1
    obtain ⟨x, hx, g⟩ := mapSome g
    cases g
    exact ⟨⟨"list", "list.pop", F.plainAttrs_list, F.slot_list_pop, F.type_list_pop, ⟨rfl, _, hk⟩, popD hk hx (of_decide_eq_true c1.2)⟩, Nat.zero_le _⟩
  | cons x rest => cases rest with
    | nil =>
      obtain ⟨hc, g⟩ := iteSome h
      have c1 := (Bool.and_eq_true _ _).mp hc
      have c2 := (Bool.and_eq_true _ _).mp c1.1
      cases beq_iff_eq.mp c2.1
      cases g
      exact ⟨⟨"list", "list.append", F.plainAttrs_list, F.slot_list_append, F.type_list_append, ⟨rfl, _, hk⟩, appendD hk c2.2 (of_decide_eq_true c1.2)⟩, Nat.le_succ _⟩
    | cons => exact noSome h
theorem methE_sound {a : D} {name : Str} {ds : List D} {d : D} {μ' : Mu} (h : methE a name ds μ = some (d, μ')) : MethIs K w r sc σ μ a name ds d μ' ∧ ds.length ≤ 2 := by
  unfold methE at h
  cases e : onOwn a some with
  | some k =>
    rw [e] at h
    obtain ⟨k', rfl, e⟩ := onOwn_inv e
    cases e
    obtain ⟨es, hk, g⟩ := bindSome h
    exact methO_sound (ownOf_is hk) g
  | none =>
    rw [e] at h
    obtain ⟨x, h1, h2⟩ := mapSome h
    cases h2
    exact methD_sound h1
/-- what the table's functions do -/
structure TblOk (K : Gh) (w : World) (r : Nat) (T : Tbl) : Prop where
  fn : ∀ a F, T.fn.lookup a = some F → ∃ o fd, K a = some o ∧ o.data = .func fd ∧ ∀ ds d, D.plains ds = true → F ds d → ∀ sc σ μ, Opn K w r sc σ μ ds (fun vs => PySem.call (.ref a) vs) d μ
  mt : ∀ a F, T.mt.lookup a = some F → ∃ o fd, K a = some o ∧ o.data = .func fd ∧ ∀ cs ds d cs', D.plains ds = true → F cs ds d cs' → ∀ sc σ μ k, μ[k]? = some (some cs) → Opn K w r sc σ μ (.own k :: ds) (fun vs => PySem.call (.ref a) vs) d (μ.set k (some cs'))
theorem callF_sound {T : Tbl} (hT : TblOk K w r T) {a : Nat} {ds : List D} {d : D} {μ' : Mu} (h : CallF T a ds μ d μ') : ∃ o fd, K a = some o ∧ o.data = .func fd ∧ Opn K w r sc σ μ ds (fun vs => PySem.call (.ref a) vs) d μ' := by
  rcases h with ⟨hp, F, hF, hx, rfl⟩ | ⟨k, rest, cs, cs', F, rfl, hp, hk, hF, hx, rfl⟩
  · obtain ⟨o, fd, h1, h2, h3⟩ := hT.fn a F hF
    exact ⟨o, fd, h1, h2, h3 ds d hp hx sc σ _⟩
  · obtain ⟨o, fd, h1, h2, h3⟩ := hT.mt a F hF
    exact ⟨o, fd, h1, h2, h3 cs rest d cs' hp hx sc σ μ k hk⟩
end
end Mine
end
section
open PySem PySem.W PyProof.Rows PySem.Calls
set_option autoImplicit false
namespace Mine
noncomputable def NoDbg (sc : Scope) : Prop := ∀ x k, kOf sc x = some k → (x == ("__debug__" : Str)) = false
theorem NoDbg.v {sc : Scope} (h : NoDbg sc) {x : Str} (hv : isVar (kOf sc x) = true) : (x == ("__debug__" : Str)) = false := by
  cases e : kOf sc x with
  | none => rw [e] at hv; cases hv
  | some k => exact h x k e
theorem NoDbg.g {sc : Scope} (h : NoDbg sc) {x : Str} (hv : isGlob (kOf sc x) = true) : (x == ("__debug__" : Str)) = false := by
  cases e : kOf sc x with
  | none => rw [e] at hv; cases hv
  | some k => exact h x k e
theorem CompOk.noDbg {sc sc' : Scope} (c : CompOk sc sc') : NoDbg sc' := fun x k hk => by
  have := c.dbg _ (lookup_mem hk)
  simpa using this
section
variable {K : Gh} {w : World} {r : Nat} {mg mb : Str → Option Value} {T : Tbl}
/-- the parts of a comprehension -/
structure LParts (K : Gh) (w : World) (r : Nat) (sc : Scope) (σ : Sg) (μ : Mu) (elt : Expr) (gens : List Comprehension) (sc' : Scope) (pos : Pos) (acc : List D) (μF : Mu) : Prop where
  ex : ∃ t it gens' ds μ1, gens = ⟨t, it, [], 0⟩ :: gens' ∧ SetOk it ∧ EvIt K w r sc σ μ it ds μ1 ∧ CRun K w r sc' (.ListComp elt (⟨t, it, [], 0⟩ :: gens') sc' pos) ds (innerOf sc' σ) μ1 acc μF
  ok : CompOk sc sc'
theorem usubD {sc : Scope} {σ : Sg} {μ : Mu} {i : Int} (va : Value) : Op K w r sc σ μ [(va, .int i)] (unaryOp .USub va) (.int (-i)) μ := by
  refine Op.of1 fun g s env α A S R ra => ?_
  obtain ⟨t, rfl⟩ := ra.int_
  · exact PyProof.Rows.neg_int (done S (.int _ _) _)
theorem addOp {o v d : D} (h : (∃ a b, o = .int a ∧ v = .int b ∧ d = .int (a + b)) ∨ (∃ a b : Str, o = .str a ∧ v = .str b ∧ d = .str (a ++ b) ∧ a.length ≤ 1000 ∧ b.length ≤ 1000)) (g : Gh) (s : Shared) (α : List Addr) (vo vv : Value) (ho : Rd g α vo o) (hv : Rd g α vv v) (A : Around) (Q : Value → Shared → Prop) (hq : ∀ u k, Rd g α u d → Q u { s with toks := k }) :
    wpAny (MM w) A (inplaceOp .Add vo vv) Q F0 s := by
  rcases h with ⟨a, b, rfl, rfl, rfl⟩ | ⟨a, b, rfl, rfl, rfl, h1, h2⟩
  · obtain ⟨_, rfl⟩ := ho.int_; obtain ⟨_, rfl⟩ := hv.int_
    exact PyProof.Rows.iadd_int (hq _ _ (.int _ _))
  · obtain ⟨_, rfl⟩ := ho.str_; obtain ⟨_, rfl⟩ := hv.str_
    exact PyProof.Rows.iadd_str (fun t' k => hq _ _ (.str _ _)) (by have : sizeLine = 16777216 := sizeLine_eq; lia)
end
/-! steps: what is so of each world, heap and table -/
structure ShpIs (e : Expr) : Prop where
  set : SetOk e
  star : StarOk e
  sub : SubOk e
  mark : ∀ op, behindInMarks op e = false
  swap : ∀ x i p line env, swapsWith e (some (.Subscript x i p)) line env = pure false
theorem sConst {c : Const} {k : Nat} {p : Pos} : ShpIs (.Constant c k p) := ⟨fun _ _ => rfl, fun _ _ => rfl, fun _ _ => rfl, fun _ => rfl, fun _ _ _ _ _ => rfl⟩
theorem sName {x : Str} {p : Pos} : ShpIs (.Name x p) := ⟨fun _ _ => rfl, fun _ _ => rfl, fun _ _ => rfl, fun _ => rfl, fun _ _ _ _ _ => rfl⟩
theorem sBin {l r : Expr} {op : Operator} {p : Pos} : ShpIs (.BinOp l op r p) := ⟨fun _ _ => rfl, fun _ _ => rfl, fun _ _ => rfl, fun _ => rfl, fun _ _ _ _ _ => rfl⟩
theorem sUn {x : Expr} {op : UnaryOp} {p : Pos} : ShpIs (.UnaryOp op x p) := ⟨fun _ _ => rfl, fun _ _ => rfl, fun _ _ => rfl, fun _ => rfl, fun _ _ _ _ _ => rfl⟩
theorem sCmp {l : Expr} {o : List CmpOp} {r : List Expr} {p : Pos} : ShpIs (.Compare l o r p) := ⟨fun _ _ => rfl, fun _ _ => rfl, fun _ _ => rfl, fun _ => rfl, fun _ _ _ _ _ => rfl⟩
theorem sSub {l r : Expr} {p : Pos} : ShpIs (.Subscript l r p) := ⟨fun _ _ => rfl, fun _ _ => rfl, fun _ _ => rfl, fun _ => rfl, fun _ _ _ _ _ => rfl⟩
theorem sTup {es : List Expr} {k : Nat} {p : Pos} : ShpIs (.Tuple es k p) := ⟨fun _ _ => rfl, fun _ _ => rfl, fun _ _ => rfl, fun _ => rfl, fun _ _ _ _ _ => rfl⟩
theorem sList {es : List Expr} {p : Pos} : ShpIs (.List es p) := ⟨fun _ _ => rfl, fun _ _ => rfl, fun _ _ => rfl, fun _ => rfl, fun _ _ _ _ _ => rfl⟩
theorem sLC {e : Expr} {g : List Comprehension} {s : Scope} {p : Pos} : ShpIs (.ListComp e g s p) := ⟨fun _ _ => rfl, fun _ _ => rfl, fun _ _ => rfl, fun _ => rfl, fun _ _ _ _ _ => rfl⟩
theorem sCall {f : Expr} {es : List Expr} {k : List Keyword} {p : Pos} : ShpIs (.Call f es k p) := ⟨fun _ _ => rfl, fun _ _ => rfl, fun _ _ => rfl, fun _ => rfl, fun _ _ _ _ _ => rfl⟩
theorem sBool {op : BoolOp} {es : List Expr} {p : Pos} : ShpIs (.BoolOp op es p) := ⟨fun _ _ => rfl, fun _ _ => rfl, fun _ _ => rfl, fun _ => rfl, fun _ _ _ _ _ => rfl⟩
theorem sJoin {es : List Expr} {p : Pos} : ShpIs (.JoinedStr es p) := ⟨fun _ _ => rfl, fun _ _ => rfl, fun _ _ => rfl, fun _ => rfl, fun _ _ _ _ _ => rfl⟩
noncomputable def Sound (T : Tbl) (sc : Scope) (P : Gh → World → Nat → Prop) : Prop := ∀ (K : Gh) (w : World) (r : Nat) (mg mb : Str → Option Value), Tops K mg mb → TblOk K w r T → NoDbg sc → P K w r
noncomputable def IsLC (K : Gh) (w : World) (r : Nat) (sc : Scope) (σ : Sg) (μ : Mu) (e : Expr) (ds : List D) (μ' : Mu) : Prop := ∃ elt gens sc' pos, e = .ListComp elt gens sc' pos ∧ LParts K w r sc σ μ elt gens sc' pos ds μ'
noncomputable def NoSwap (e : Expr) : Prop := ∀ x p line env, swapsWith e (some (.Name x p)) line env = pure false
noncomputable def XE (T : Tbl) (n : Nat) (sc : Scope) (σ : Sg) (μ : Mu) (e : Expr) (x : D × Mu) : Prop := ShpIs e ∧ Sound T sc fun K w r => Ev K w r sc σ μ e x.1 x.2 ∧ (NoSwap e ∨ ∃ ds, x.1 = .list ds ∧ IsLC K w r sc σ μ e ds x.2)
noncomputable def XL (T : Tbl) (n : Nat) (sc : Scope) (σ : Sg) (μ : Mu) (e : Expr) (x : List D × Mu) : Prop := ShpIs e ∧ Sound T sc fun K w r => EvL K w r sc σ μ e x.1 x.2 ∧ (NoSwap e ∨ IsLC K w r sc σ μ e x.1 x.2)
noncomputable def XIt (T : Tbl) (n : Nat) (sc : Scope) (σ : Sg) (μ : Mu) (e : Expr) (x : List D × Mu) : Prop := SetOk e ∧ Sound T sc fun K w r => EvIt K w r sc σ μ e x.1 x.2
noncomputable def XJ (T : Tbl) (n : Nat) (sc : Scope) (σ : Sg) (μ : Mu) (es : List Expr) (x : List Str × Mu) : Prop := Sound T sc fun K w r => EvJ K w r sc σ μ es x.1 x.2
noncomputable def XB (T : Tbl) (n : Nat) (sc : Scope) (σ : Sg) (μ : Mu) (e : Expr) (es : List Expr) (x : D × Mu) : Prop := Sound T sc fun K w r => EvB K w r sc σ μ (e :: es) x.1 x.2
noncomputable def XO (T : Tbl) (n : Nat) (sc : Scope) (σ : Sg) (μ : Mu) (e : Option Expr) (x : Option Int × Mu) : Prop := Sound T sc fun K w r => EvO K w r sc σ μ e x.1 x.2
noncomputable def XEs (T : Tbl) (n : Nat) (sc : Scope) (σ : Sg) (μ : Mu) (es : List Expr) (x : List D × Mu) : Prop := (∀ e ∈ es, StarOk e) ∧ x.1.length = es.length ∧ Sound T sc fun K w r => Evs K w r sc σ μ es x.1 x.2
noncomputable def XT (T : Tbl) (n : Nat) (sc : Scope) (σ : Sg) (μ : Mu) (e : Expr) (x : Bool × Mu) : Prop := Sound T sc fun K w r => EvT K w r sc σ μ e x.1 x.2
noncomputable def XTs (T : Tbl) (n : Nat) (sc : Scope) (σ : Sg) (μ : Mu) (op : BoolOp) (es : List Expr) (x : Bool × Mu) : Prop := Sound T sc fun K w r => EvTs K w r sc σ μ op es x.1 x.2
noncomputable def XS (T : Tbl) (ow : List Str) (n : Nat) (sc : Scope) (σ : Sg) (μ : Mu) (st : Stmt) (x : Fl × Sg × Mu) : Prop := Sound T sc fun K w r => Ex K w r sc σ μ (exec st) x.1 x.2.1 x.2.2
noncomputable def XSs (T : Tbl) (ow : List Str) (n : Nat) (sc : Scope) (σ : Sg) (μ : Mu) (sts : List Stmt) (x : Fl × Sg × Mu) : Prop := Sound T sc fun K w r => Ex K w r sc σ μ (execs sts) x.1 x.2.1 x.2.2
section
variable {T : Tbl} {n : Nat} {sc : Scope} {σ σ1 σ2 : Sg} {μ μ1 μ2 μ3 μ4 : Mu} {ow : List Str}
theorem XE.mk' {e : Expr} {x : D × Mu} (h0 : ShpIs e) (h1 : NoSwap e) (h : Sound T sc fun K w r => Ev K w r sc σ μ e x.1 x.2) : XE T n sc σ μ e x := ⟨h0, fun K w r mg mb Tp hT hd => ⟨h K w r mg mb Tp hT hd, .inl h1⟩⟩
theorem XE.ev {e : Expr} {x : D × Mu} (h : XE T n sc σ μ e x) : Sound T sc fun K w r => Ev K w r sc σ μ e x.1 x.2 := fun K w r mg mb Tp hT hd => (h.2 K w r mg mb Tp hT hd).1
theorem XL.trans {e : Expr} {x y : List D × Mu} (h : XL T n sc σ μ e x) (q : some x = some y) : XL T n sc σ μ e y := by cases q; exact h
theorem xInt {i : Int} {k : Nat} {p : Pos} : XE T (n + 1) sc σ μ (.Constant (.int i) k p) (.int i, μ) := .mk' sConst (fun _ _ _ _ => rfl) fun _ _ _ _ _ _ _ _ => Ev.const_int
theorem xStr {i : Str} {k : Nat} {p : Pos} : XE T (n + 1) sc σ μ (.Constant (.str i) k p) (.str i, μ) := .mk' sConst (fun _ _ _ _ => rfl) fun _ _ _ _ _ _ _ _ => Ev.const_str
theorem xBool {i : Bool} {k : Nat} {p : Pos} : XE T (n + 1) sc σ μ (.Constant (.bool i) k p) (.bool i, μ) := .mk' sConst (fun _ _ _ _ => rfl) fun _ _ _ _ _ _ _ _ => Ev.const_bool
theorem xName {x : Str} {p : Pos} {d : D} (hv : isVar (kOf sc x) = true) (h : σ.lookup x = some d) : XE T (n + 1) sc σ μ (.Name x p) (d, μ) := .mk' sName (fun _ _ _ _ => rfl) fun _ _ _ _ _ _ _ hd => Ev.name hv h (hd.v hv)
theorem xGlob {x : Str} {p : Pos} {d : D} (hv : isVar (kOf sc x) = false) (hg : isGlob (kOf sc x) = true) (h : GG x = some (.dat d)) : XE T (n + 1) sc σ μ (.Name x p) (d, μ) := .mk' sName (fun _ _ _ _ => rfl) fun _ _ _ _ _ Tp _ hd => Ev.glob Tp hg h (hd.g hg)
theorem xBin {l r : Expr} {op : Operator} {p : Pos} {a b d : D} (h1 : XE T n sc σ μ l (a, μ1)) (h2 : XE T n sc σ μ1 r (b, μ2)) (h3 : binD op a b = some d) : XE T (n + 1) sc σ μ (.BinOp l op r p) (d, μ2) := .mk' sBin (fun _ _ _ _ => rfl) fun _ _ _ _ _ Tp hT hd => Ev.binop (h1.ev _ _ _ _ _ Tp hT hd) (h2.ev _ _ _ _ _ Tp hT hd) (binD_sound h3)
theorem xNeg {x : Expr} {p : Pos} {i : Int} (h1 : XE T n sc σ μ x (.int i, μ1)) : XE T (n + 1) sc σ μ (.UnaryOp .USub x p) (.int (-i), μ1) := .mk' sUn (fun _ _ _ _ => rfl) fun _ _ _ _ _ Tp hT hd => Ev.unary (h1.ev _ _ _ _ _ Tp hT hd) usubD
theorem xCmp {l r : Expr} {op : CmpOp} {p : Pos} {a b : D} {t : Bool} (hn : true = true) (h1 : XE T n sc σ μ l (a, μ1)) (h2 : XE T n sc σ μ1 r (b, μ2)) (h3 : cmpD μ2 op a b = some t) : XE T (n + 1) sc σ μ (.Compare l [op] [r] p) (.bool t, μ2) := .mk' sCmp (fun _ _ _ _ => rfl) fun _ _ _ _ _ Tp hT hd => Ev.compare (h2.1.mark _) (h1.ev _ _ _ _ _ Tp hT hd) (h2.ev _ _ _ _ _ Tp hT hd) (cmpD_sound h3)
theorem xItem {v i : Expr} {p : Pos} {a b d : D} (hi : true = true) (h1 : XE T n sc σ μ v (a, μ1)) (h2 : XE T n sc σ μ1 i (b, μ2)) (h3 : subD μ2 a b = some d) : XE T (n + 1) sc σ μ (.Subscript v i p) (d, μ2) := .mk' sSub (fun _ _ _ _ => rfl) fun _ _ _ _ _ Tp hT hd => Ev.item h2.1.sub (h1.ev _ _ _ _ _ Tp hT hd) (h2.ev _ _ _ _ _ Tp hT hd) (subD_sound h3)
theorem xO0 : XO T (n + 1) sc σ μ none (none, μ) := fun _ _ _ _ _ _ _ _ => EvO.none
theorem xO1 {e : Expr} {i : Int} (h : XE T n sc σ μ e (.int i, μ1)) : XO T (n + 1) sc σ μ (some e) (some i, μ1) := fun _ _ _ _ _ Tp hT hd => EvO.some (h.ev _ _ _ _ _ Tp hT hd)
theorem xSlice {v : Expr} {lo hi st : Option Expr} {sp p : Pos} {a d : D} {l h t : Option Int} (h1 : XE T n sc σ μ v (a, μ1)) (h2 : XO T n sc σ μ1 lo (l, μ2)) (h3 : XO T n sc σ μ2 hi (h, μ3)) (h4 : XO T n sc σ μ3 st (t, μ4)) (h5 : sliceD a l h t = some d) : XE T (n + 1) sc σ μ (.Subscript v (.Slice lo hi st sp) p) (d, μ4) := .mk' sSub (fun _ _ _ _ => rfl) fun _ _ _ _ _ Tp hT hd => Ev.slice (h1.ev _ _ _ _ _ Tp hT hd) (h2 _ _ _ _ _ Tp hT hd) (h3 _ _ _ _ _ Tp hT hd) (h4 _ _ _ _ _ Tp hT hd) h5
theorem xEs0 : XEs T (n + 1) sc σ μ [] ([], μ) := ⟨fun _ h => absurd h List.not_mem_nil, rfl, fun _ _ _ _ _ _ _ _ => Evs.nil⟩
theorem xEs {e : Expr} {es : List Expr} {d : D} {ds : List D} (h1 : XE T n sc σ μ e (d, μ1)) (h2 : XEs T n sc σ μ1 es (ds, μ2)) : XEs T (n + 1) sc σ μ (e :: es) (d :: ds, μ2) :=
  ⟨fun x hx => (List.mem_cons.mp hx).elim (fun e => e ▸ h1.1.star) (h2.1 x), congrArg (· + 1) h2.2.1, fun _ _ _ _ _ Tp hT hd => Evs.cons (fun env => h1.1.star _ env) (h1.ev _ _ _ _ _ Tp hT hd) (h2.2.2 _ _ _ _ _ Tp hT hd)⟩
theorem xTup {es : List Expr} {k : Nat} {p : Pos} {ds : List D} (h : XEs T n sc σ μ es (ds, μ1)) (hl : ds.length ≤ 1000) : XE T (n + 1) sc σ μ (.Tuple es k p) (.tup ds, μ1) := .mk' sTup (fun _ _ _ _ => rfl) fun _ _ _ _ _ Tp hT hd => Ev.tuple (h.2.2 _ _ _ _ _ Tp hT hd) hl
theorem lList {es : List Expr} {p : Pos} {ds : List D} (h : XEs T n sc σ μ es (ds, μ1)) (hl : ds.length ≤ 1000) : XL T (n + 1) sc σ μ (.List es p) (ds, μ1) := ⟨sList, fun _ _ _ _ _ Tp hT hd => ⟨EvL.list (h.2.2 _ _ _ _ _ Tp hT hd) hl, .inl fun _ _ _ _ => rfl⟩⟩
theorem xOfL {e : Expr} {ds : List D} (h : XL T n sc σ μ e (ds, μ1)) : XE T (n + 1) sc σ μ e (.list ds, μ1) := ⟨h.1, fun _ _ _ _ _ Tp hT hd =>
  let q := h.2 _ _ _ _ _ Tp hT hd
  ⟨EvL.still q.1, q.2.elim .inl fun q => .inr ⟨ds, rfl, q⟩⟩⟩
theorem xList {es : List Expr} {p : Pos} {ds : List D} (h : XL T n sc σ μ (.List es p) (ds, μ1)) : XE T (n + 1) sc σ μ (.List es p) (.list ds, μ1) := xOfL h
theorem xLC {a : Expr} {b : List Comprehension} {c : Scope} {p : Pos} {ds : List D} (h : XL T n sc σ μ (.ListComp a b c p) (ds, μ1)) : XE T (n + 1) sc σ μ (.ListComp a b c p) (.list ds, μ1) := xOfL h
theorem xBi {f : Str} {np p : Pos} {args : List Expr} {id : String} {ds : List D} {d : D} (hg : isGlob (kOf sc f) = true) (hG : GG f = some (.bi id)) (h : XEs T n sc σ μ args (ds, μ1)) (h2 : biD μ1 id ds = some d) : XE T (n + 1) sc σ μ (.Call (.Name f np) args [] p) (d, μ1) := .mk' sCall (fun _ _ _ _ => rfl) fun _ _ _ _ _ Tp hT hd => Ev.call_bi Tp hg hG (hd.g hg) h.1 (h.2.2 _ _ _ _ _ Tp hT hd) (biD_sound h2)
theorem xTy {f : Str} {np p : Pos} {args : List Expr} {id : String} {ds : List D} {d : D} (hg : isGlob (kOf sc f) = true) (hG : GG f = some (.ty id)) (h : XEs T n sc σ μ args (ds, μ1)) (h2 : tyD id ds = some d) : XE T (n + 1) sc σ μ (.Call (.Name f np) args [] p) (d, μ1) := .mk' sCall (fun _ _ _ _ => rfl) fun _ _ _ _ _ Tp hT hd => Ev.call_ty Tp hg hG (hd.g hg) h.1 (h.2.2 _ _ _ _ _ Tp hT hd) (tyD_sound h2)
theorem xFn {f : Str} {np p : Pos} {args : List Expr} {a : Nat} {ds : List D} {d : D} (hg : isGlob (kOf sc f) = true) (hG : GG f = some (.fn a)) (h : XEs T n sc σ μ args (ds, μ1)) (h2 : CallF T a ds μ1 d μ2) : XE T (n + 1) sc σ μ (.Call (.Name f np) args [] p) (d, μ2) := .mk' sCall (fun _ _ _ _ => rfl) fun K w r mg mb Tp hT hd => by
  obtain ⟨o, fd, c1, c2, c3⟩ := callF_sound (sc := sc) (σ := σ) hT h2
  exact Ev.call_fn Tp hg hG (hd.g hg) h.1 (h.2.2 _ _ _ _ _ Tp hT hd) c1 c2 c3
theorem xMeth {o : Expr} {m : Str} {ap p : Pos} {args : List Expr} {a : D} {ds : List D} {d : D} (hb : BaseOk o ∧ ((ap.endLine == p.line) && (m != Str.ofString "replace")) = true) (h1 : XE T n sc σ μ o (a, μ1)) (ho : ownOk a μ1 = true) (h2 : XEs T n sc σ μ1 args (ds, μ2)) (h3 : methE a m ds μ2 = some (d, μ3)) : XE T (n + 1) sc σ μ (.Call (.Attribute o m ap) args [] p) (d, μ3) := .mk' sCall (fun _ _ _ _ => rfl) fun K w r mg mb Tp hT hd => by
  obtain ⟨hb, hl⟩ := hb
  have hl := ((Bool.and_eq_true _ _).mp hl).1
  obtain ⟨⟨T', id, m1, m2, m3, m4, m5⟩, hlen⟩ := methE_sound (K := K) (w := w) (r := r) (sc := sc) (σ := σ) h3
  have m4' : OfType a μ1 T' := by
    cases a <;> try exact m4
    refine ⟨m4.1, ?_⟩
    obtain ⟨cs, hcs⟩ := Option.isSome_iff_exists.mp (ho : (ownOf μ1 _).isSome = true)
    exact ⟨cs, ownOf_is hcs⟩
  exact Ev.meth hb hl h2.1 (by have h9 : ds.length ≤ 2 := hlen; have := h2.2.1; dsimp only at this; lia) m1 m2 m3 (h1.ev _ _ _ _ _ Tp hT hd) m4' (h2.2.2 _ _ _ _ _ Tp hT hd) m5
/-- a sign that stands for another text, in a slice from a written number on -/
theorem xRepl {v : Expr} {hi : Option Expr} {i : Int} {ik k1 k2 : Nat} {ip sp p1 p2 ap p q : Pos} {a : D} {x b y : Str} {c : Nat} {h : Option Int} (hy : y = ⟨#[c]⟩) (hb : (ap.endLine == p.line) = true) (h1 : XE T n sc σ μ v (a, μ1)) (h3 : XO T n sc σ μ1 hi (h, μ2)) (h5 : sliceD a (some i) h none = some (.str x)) (hx : x.length ≤ 1000) (hb2 : b.length ≤ 1000) (hne : ((⟨#[c]⟩ : Str) == b) = false) :
    XE T (n + 1) sc σ μ (.Call (.Attribute (.Subscript v (.Slice (some (.Constant (.int i) ik ip)) hi none sp) q) (Str.ofString "replace") ap) [.Constant (.str y) k1 p1, .Constant (.str b) k2 p2] [] p) (.str ⟨(repl1 c b.cps.toList x.cps.toList).toArray⟩, μ2) := .mk' sCall (fun _ _ _ _ => rfl) fun K w r mg mb Tp hT hd => by
  subst hy
  exact Ev.replaceLit rfl (fun _ _ => rfl) hb (Ev.sliceTok (h1.ev _ _ _ _ _ Tp hT hd) (h3 _ _ _ _ _ Tp hT hd) EvO.none h5) hx hb2 hne
theorem xAndT {x y : Expr} {r : List Expr} {p : Pos} {a : D} {q : D × Mu} (h1 : XE T n sc σ μ x (a, μ1)) (h2 : truthD μ1 a = some true) (h3 : XB T n sc σ μ1 y r q) : XE T (n + 1) sc σ μ (.BoolOp .And (x :: y :: r) p) q := .mk' sBool (fun _ _ _ _ => rfl) fun _ _ _ _ _ Tp hT hd => Ev.and (EvB.yes (h1.ev _ _ _ _ _ Tp hT hd) h2 (h3 _ _ _ _ _ Tp hT hd))
theorem bLast {x : Expr} {q : D × Mu} (h : XE T n sc σ μ x q) : XB T (n + 1) sc σ μ x [] q := fun _ _ _ _ _ Tp hT hd => EvB.last (h.ev _ _ _ _ _ Tp hT hd)
theorem bT {x y : Expr} {r : List Expr} {a : D} {q : D × Mu} (h1 : XE T n sc σ μ x (a, μ1)) (h2 : truthD μ1 a = some true) (h3 : XB T n sc σ μ1 y r q) : XB T (n + 1) sc σ μ x (y :: r) q := fun _ _ _ _ _ Tp hT hd => EvB.yes (h1.ev _ _ _ _ _ Tp hT hd) h2 (h3 _ _ _ _ _ Tp hT hd)
theorem j0 : XJ T (n + 1) sc σ μ [] ([], μ) := fun _ _ _ _ _ _ _ _ => EvJ.nil
theorem jC {s : Str} {k : Nat} {p : Pos} {r : List Expr} {l : List Str} (hs : s.length ≤ 1000) (h : XJ T n sc σ μ r (l, μ1)) : XJ T (n + 1) sc σ μ (.Constant (.str s) k p :: r) (s :: l, μ1) := fun _ _ _ _ _ Tp hT hd => EvJ.const hs (h _ _ _ _ _ Tp hT hd)
theorem jF {y : Str} {yp p : Pos} {r : List Expr} {s : Str} {l : List Str} (h1 : XE T n sc σ μ (.Name y yp) (.str s, μ1)) (hs : s.length ≤ 1000) (h : XJ T n sc σ μ1 r (l, μ2)) : XJ T (n + 1) sc σ μ (.FormattedValue (.Name y yp) 115 none p :: r) (s :: l, μ2) := fun _ _ _ _ _ Tp hT hd => EvJ.field (h1.ev _ _ _ _ _ Tp hT hd) hs (h _ _ _ _ _ Tp hT hd)
theorem xJoin {es : List Expr} {p : Pos} {l : List Str} (h : XJ T n sc σ μ es (l, μ1)) (h1 : l.length ≤ 10) (h2 : 2 ≤ es.length) : XE T (n + 1) sc σ μ (.JoinedStr es p) (.str ⟨(joinS l).toArray⟩, μ1) := .mk' sJoin (fun _ _ _ _ => rfl) fun _ _ _ _ _ Tp hT hd => Ev.joined h2 h1 (h _ _ _ _ _ Tp hT hd)
theorem itGen {e : Expr} {d : D} {l : List D} (hr : true = true) (h : XE T n sc σ μ e (d, μ1)) (hi : itemsOf d = some l) : XIt T (n + 1) sc σ μ e (l, μ1) := ⟨h.1.set, fun _ _ _ _ _ Tp hT hd => EvIt.of (h.ev _ _ _ _ _ Tp hT hd) hi⟩
theorem itRev {f f2 : Str} {np np2 p p2 : Pos} {a : Expr} {k : Int} (hg : (isGlob (kOf sc f) && isGlob (kOf sc f2)) = true) (h1 : GG f = some (.ty "reversed")) (h2 : GG f2 = some (.ty "range")) (h : XE T n sc σ μ a (.int k, μ1)) (hk : small k = true) :
    XIt T (n + 1) sc σ μ (.Call (.Name f np) [.Call (.Name f2 np2) [a] [] p2] [] p) ((intsFrom 0 k.toNat).reverse, μ1) := ⟨sCall.set, fun _ _ _ _ _ Tp hT hd => by
  simp only [Bool.and_eq_true] at hg
  exact EvIt.rev Tp hg.1 h1 (hd.g hg.1) hg.2 h2 (hd.g hg.2) h.1.star (h.ev _ _ _ _ _ Tp hT hd) hk⟩
/-! tests -/
theorem tCmp {l r : Expr} {op : CmpOp} {p : Pos} {a b : D} {t : Bool} (hl : (op != .IsNot) = true) (hn : true = true) (h1 : XE T n sc σ μ l (a, μ1)) (h2 : XE T n sc σ μ1 r (b, μ2)) (h3 : cmpD μ2 op a b = some t) : XT T (n + 1) sc σ μ (.Compare l [op] [r] p) (t, μ2) := fun _ _ _ _ _ Tp hT hd => EvT.compare (h2.1.mark _) (h1.ev _ _ _ _ _ Tp hT hd) (h2.ev _ _ _ _ _ Tp hT hd) h3
theorem tName {x : Str} {p : Pos} {d : D} {t : Bool} (h : XE T n sc σ μ (.Name x p) (d, μ1)) (ht : truthD μ1 d = some t) : XT T (n + 1) sc σ μ (.Name x p) (t, μ1) := fun _ _ _ _ _ Tp hT hd => EvT.value (h.ev _ _ _ _ _ Tp hT hd) ht fun _ _ => rfl
theorem tCall {f : Expr} {as : List Expr} {ks : List Keyword} {p : Pos} {d : D} {t : Bool} (h : XE T n sc σ μ (.Call f as ks p) (d, μ1)) (ht : truthD μ1 d = some t) : XT T (n + 1) sc σ μ (.Call f as ks p) (t, μ1) := fun _ _ _ _ _ Tp hT hd => EvT.value (h.ev _ _ _ _ _ Tp hT hd) ht fun _ _ => rfl
theorem tNot {x : Expr} {p : Pos} {t : Bool} (h : XT T n sc σ μ x (t, μ1)) : XT T (n + 1) sc σ μ (.UnaryOp .Not x p) (!t, μ1) := fun _ _ _ _ _ Tp hT hd => EvT.not (h _ _ _ _ _ Tp hT hd)
theorem tChain {op : BoolOp} {es : List Expr} {p : Pos} {q : Bool × Mu} (h : XTs T n sc σ μ op es q) : XT T (n + 1) sc σ μ (.BoolOp op es p) q := fun _ _ _ _ _ Tp hT hd => EvT.chain (h _ _ _ _ _ Tp hT hd)
theorem tsA0 : XTs T (n + 1) sc σ μ .And [] (true, μ) := fun _ _ _ _ _ _ _ _ => EvTs.nil
theorem tsO0 : XTs T (n + 1) sc σ μ .Or [] (false, μ) := fun _ _ _ _ _ _ _ _ => EvTs.nil
theorem tsAT {x : Expr} {r : List Expr} {q : Bool × Mu} (h : XT T n sc σ μ x (true, μ1)) (h2 : XTs T n sc σ μ1 .And r q) : XTs T (n + 1) sc σ μ .And (x :: r) q := fun _ _ _ _ _ Tp hT hd => EvTs.go (h _ _ _ _ _ Tp hT hd) rfl (h2 _ _ _ _ _ Tp hT hd)
theorem tsAF {x : Expr} {r : List Expr} (h : XT T n sc σ μ x (false, μ1)) : XTs T (n + 1) sc σ μ .And (x :: r) (false, μ1) := fun _ _ _ _ _ Tp hT hd => EvTs.stop (h _ _ _ _ _ Tp hT hd) rfl
theorem tsOF {x : Expr} {r : List Expr} {q : Bool × Mu} (h : XT T n sc σ μ x (false, μ1)) (h2 : XTs T n sc σ μ1 .Or r q) : XTs T (n + 1) sc σ μ .Or (x :: r) q := fun _ _ _ _ _ Tp hT hd => EvTs.go (h _ _ _ _ _ Tp hT hd) rfl (h2 _ _ _ _ _ Tp hT hd)
theorem tsOT {x : Expr} {r : List Expr} (h : XT T n sc σ μ x (true, μ1)) : XTs T (n + 1) sc σ μ .Or (x :: r) (true, μ1) := fun _ _ _ _ _ Tp hT hd => EvTs.stop (h _ _ _ _ _ Tp hT hd) rfl
theorem tType {f i : Str} {np ip cp p : Pos} {x : Expr} {nm k : String} {d : D} (hg : (isGlob (kOf sc f) && isGlob (kOf sc i)) = true) (h1 : GG f = some (.ty "type")) (h2 : GG i = some (.ty nm)) (h : XE T n sc σ μ x (d, μ1)) (hk : tyName d = some k) : XT T (n + 1) sc σ μ (.Compare (.Call (.Name f np) [x] [] cp) [.IsNot] [.Name i ip] p) (k != nm, μ1) := fun _ _ _ _ _ Tp hT hd => by
  simp only [Bool.and_eq_true] at hg
  exact EvT.typeIsNot Tp hg.1 h1 (hd.g hg.1) hg.2 h2 (hd.g hg.2) h.1.star (h.ev _ _ _ _ _ Tp hT hd) hk
/-! statements -/
theorem sLess {sts : List Stmt} {r : Fl × Sg × Mu} (hs : ∀ x d, σ1.lookup x = some d → σ.lookup x = some d) (h : XSs T ow n sc σ1 μ sts r) : XSs T ow n sc σ μ sts r := fun _ _ _ _ _ Tp hT hd => Ex.less hs (h _ _ _ _ _ Tp hT hd)
theorem sNil : XSs T ow (n + 1) sc σ μ [] (.next, σ, μ) := fun _ _ _ _ _ _ _ _ => Ex.nil
theorem sNext {st : Stmt} {rest : List Stmt} {r : Fl × Sg × Mu} (h1 : XS T ow n sc σ μ st (.next, σ1, μ1)) (h2 : XSs T ow n sc σ1 μ1 rest r) : XSs T ow (n + 1) sc σ μ (st :: rest) r := fun _ _ _ _ _ Tp hT hd => Ex.seq (h1 _ _ _ _ _ Tp hT hd) (h2 _ _ _ _ _ Tp hT hd)
theorem sRet {st : Stmt} {rest : List Stmt} {d : D} (h1 : XS T ow n sc σ μ st (.ret d, σ1, μ1)) : XSs T ow (n + 1) sc σ μ (st :: rest) (.ret d, σ1, μ1) := fun _ _ _ _ _ Tp hT hd => Ex.stop (h1 _ _ _ _ _ Tp hT hd) nofun
theorem sCont {st : Stmt} {rest : List Stmt} (h1 : XS T ow n sc σ μ st (.cont, σ1, μ1)) : XSs T ow (n + 1) sc σ μ (st :: rest) (.cont, σ1, μ1) := fun _ _ _ _ _ Tp hT hd => Ex.stop (h1 _ _ _ _ _ Tp hT hd) nofun
theorem sBrk {st : Stmt} {rest : List Stmt} (h1 : XS T ow n sc σ μ st (.brk, σ1, μ1)) : XSs T ow (n + 1) sc σ μ (st :: rest) (.brk, σ1, μ1) := fun _ _ _ _ _ Tp hT hd => Ex.stop (h1 _ _ _ _ _ Tp hT hd) nofun
theorem tRet {e : Expr} {p : Pos} {d : D} (h : XE T n sc σ μ e (d, μ1)) : XS T ow (n + 1) sc σ μ (.Return (some e) p) (.ret d, σ, μ1) := fun _ _ _ _ _ Tp hT hd => Ex.ret (h.ev _ _ _ _ _ Tp hT hd)
theorem tContS {p : Pos} : XS T ow (n + 1) sc σ μ (.Continue p) (.cont, σ, μ) := fun _ _ _ _ _ _ _ _ => Ex.cont
theorem tBrkS {p : Pos} : XS T ow (n + 1) sc σ μ (.Break p) (.brk, σ, μ) := fun _ _ _ _ _ _ _ _ => Ex.brk
theorem tSet {x : Str} {np p : Pos} {e : Expr} {d : D} (hb : isBind (kOf sc x) = true) (ho : ow.contains x = false) (h : XE T n sc σ μ e (d, μ1)) : XS T ow (n + 1) sc σ μ (.Assign [.Name x np] e p) (.next, upd σ x d, μ1) := fun K w r mg mb Tp hT hd => by
  obtain ⟨q, hl | ⟨ds, hds, elt, gens, sc', pos, he, ⟨t, it, gens'', ds', ν, hg, k3, k4, k5⟩, ok⟩⟩ := h.2 K w r mg mb Tp hT hd
  · exact Ex.assign hb q fun env => hl x np p.line env
  · subst he hg
    have hds : d = .list ds := hds
    subst hds
    exact Ex.assignC (K := K) (w := w) (r := r) (np := np) (p := p) false hb ok k3 k4 k5 nofun
theorem tOwn {x : Str} {np p : Pos} {e : Expr} {ds : List D} (hb : isBind (kOf sc x) = true) (ho : ow.contains x = true) (h : XL T n sc σ μ e (ds, μ1)) (hp : D.plains ds = true) : XS T ow (n + 1) sc σ μ (.Assign [.Name x np] e p) (.next, upd σ x (.own μ1.length), μ1 ++ [some ds]) := fun K w r mg mb Tp hT hd => by
  obtain ⟨q, hl | ⟨elt, gens, sc', pos, he, ⟨t, it, gens'', ds', ν, hg, k3, k4, k5⟩, ok⟩⟩ := h.2 K w r mg mb Tp hT hd
  · exact Ex.assignL (K := K) (w := w) (r := r) (np := np) (p := p) true hb q (fun _ => hp) fun env => hl x np p.line env
  · subst he hg
    exact Ex.assignC (K := K) (w := w) (r := r) (np := np) (p := p) true hb ok k3 k4 k5 fun _ => hp
theorem tSetI {x : Str} {np ip p : Pos} {i e : Expr} {v : D} {k : Nat} {j : Int} {ds : List D} (hv : isVar (kOf sc x) = true) (h1 : XE T n sc σ μ e (v, μ1)) (hk : σ.lookup x = some (.own k)) (h2 : XE T n sc σ μ1 i (.int j, μ2)) (hμ : μ2[k]? = some (some ds)) (h0 : 0 ≤ j) (hj : j.toNat < ds.length) (hp : (D.plain v && decide (ds.length ≤ 1000)) = true) :
    XS T ow (n + 1) sc σ μ (.Assign [.Subscript (.Name x np) i ip] e p) (.next, σ, μ2.set k (some (ds.set j.toNat v))) := fun K w r mg mb Tp hT hd => by
  simp only [Bool.and_eq_true, decide_eq_true_eq] at hp
  exact Ex.setitem hv (hd.v hv) (h1.ev _ _ _ _ _ Tp hT hd) hk (h2.ev _ _ _ _ _ Tp hT hd) hμ h0 hj hp.1 hp.2 fun env => h1.1.swap _ _ _ _ env
theorem tAugI {x : Str} {np p : Pos} {e : Expr} {a b : Int} (hb : isBind (kOf sc x) = true) (ho : σ.lookup x = some (.int a)) (h : XE T n sc σ μ e (.int b, μ1)) : XS T ow (n + 1) sc σ μ (.AugAssign (.Name x np) .Add e p) (.next, upd σ x (.int (a + b)), μ1) := fun _ _ _ _ _ Tp hT hd => Ex.aug hb ho (h.ev _ _ _ _ _ Tp hT hd) (addOp (.inl ⟨_, _, rfl, rfl, rfl⟩))
theorem tAugS {x : Str} {np p : Pos} {e : Expr} {a b : Str} (hb : isBind (kOf sc x) = true) (ho : σ.lookup x = some (.str a)) (h : XE T n sc σ μ e (.str b, μ1)) (hl : (decide (a.length ≤ 1000) && decide (b.length ≤ 1000)) = true) : XS T ow (n + 1) sc σ μ (.AugAssign (.Name x np) .Add e p) (.next, upd σ x (.str (a ++ b)), μ1) := fun _ _ _ _ _ Tp hT hd => by
  simp only [Bool.and_eq_true, decide_eq_true_eq] at hl
  exact Ex.aug hb ho (h.ev _ _ _ _ _ Tp hT hd) (addOp (.inr ⟨_, _, rfl, rfl, rfl, hl.1, hl.2⟩))
theorem tIf {t : Expr} {b o : List Stmt} {p : Pos} {c : Bool} {q : Fl × Sg × Mu} (h : XT T n sc σ μ t (c, μ1)) (h2 : XSs T ow n sc σ μ1 (if c then b else o) q) : XS T ow (n + 1) sc σ μ (.If t b o p) q := fun _ _ _ _ _ Tp hT hd => Ex.cond (h _ _ _ _ _ Tp hT hd) (h2 _ _ _ _ _ Tp hT hd)
theorem tExpr {f : Expr} {args : List Expr} {ks : List Keyword} {p q : Pos} (h : XE T n sc σ μ (.Call f args ks p) (.nil, μ1)) : XS T ow (n + 1) sc σ μ (.Expr (.Call f args ks p) q) (.next, σ, μ1) := fun _ _ _ _ _ Tp hT hd => Ex.expr (h.ev _ _ _ _ _ Tp hT hd)
theorem tAppOwn {rn y m : Str} {rp yp ap p q : Pos} {j k : Nat} {ds cs : List D} (h1 : σ.lookup rn = some (.own j)) (h2 : σ.lookup y = some (.own k)) (hj : μ[j]? = some (some ds)) (hk : μ[k]? = some (some cs)) (hc : (m == Str.ofString "append" && decide (j ≠ k) && isVar (kOf sc rn) && isVar (kOf sc y) && (ap.endLine == p.line) && decide (ds.length ≤ 1000)) = true) :
    XS T ow (n + 1) sc σ μ (.Expr (.Call (.Attribute (.Name rn rp) m ap) [.Name y yp] [] p) q) (.next, σ, (μ.set k none).set j (some (ds ++ [.list cs]))) := fun K w r mg mb Tp hT hd => by
  simp only [Bool.and_eq_true, beq_iff_eq, decide_eq_true_eq, ne_eq] at hc
  obtain ⟨⟨⟨⟨⟨c1, c2⟩, c3⟩, c4⟩, c5⟩, c6⟩ := hc
  exact Ex.appendOwn c1 c2 c3 c4 (hd.v c3) (hd.v c4) (by simpa using c5) c6 h1 h2 hj hk
theorem tWhile {t : Expr} {b : List Stmt} {p : Pos} {q : Fl × Sg × Mu} (h : LW (fun σ μ => XT T n sc σ μ t) (fun σ μ => XSs T ow n sc σ μ b) 200 σ μ q) : XS T ow (n + 1) sc σ μ (.While t b [] p) q := fun K w r mg mb Tp hT hd =>
  Ex.whileS (fun σ μ x hx => hx K w r mg mb Tp hT hd) (fun σ μ x hx => hx K w r mg mb Tp hT hd) h
theorem tFor {t i : Expr} {b : List Stmt} {p : Pos} {l : List D} {q : Fl × Sg × Mu} (h1 : XIt T n sc σ μ i (l, μ1)) (h : LF (bindT sc t) (fun σ μ => XSs T ow n sc σ μ b) l σ μ1 q) : XS T ow (n + 1) sc σ μ (.For t i b [] p) q := fun K w r mg mb Tp hT hd =>
  Ex.forS h1.1 (h1.2 K w r mg mb Tp hT hd) (fun σ μ x hx => hx K w r mg mb Tp hT hd) h
/-! comprehensions -/
theorem lOne {elt t it : Expr} {sc' : Scope} {p : Pos} {ds acc : List D} {σF : Sg} {μF : Mu} (hok : compOk sc sc' = true) (hit : XIt T n sc σ μ it (ds, μ1)) (hl : LC (bindT sc' t) (stepOf fun σ' μ' => XE T n sc' σ' μ' elt) ds (innerOf sc' σ) μ1 [] (acc, σF, μF)) : XL T (n + 1) sc σ μ (.ListComp elt [⟨t, it, [], 0⟩] sc' p) (acc, μF) := ⟨sLC, fun K w r mg mb Tp hT hd => by
  have ok := compOk_is hok
  have run : CRun K w r sc' (.ListComp elt [⟨t, it, [], 0⟩] sc' p) ds (innerOf sc' σ) μ1 acc μF := CRun.one ok.noCell hl fun σ' μ' y hy => hy.ev K w r mg mb Tp hT ok.noDbg
  have hi := hit.2 K w r mg mb Tp hT hd
  exact ⟨EvL.comp ok hit.1 hi run, .inr ⟨_, _, _, _, rfl, ⟨t, it, [], ds, μ1, rfl, hit.1, hi, run⟩, ok⟩⟩⟩
theorem lTwo {elt t it t2 it2 : Expr} {sc' : Scope} {p : Pos} {ds acc : List D} {σF : Sg} {μF : Mu} (hok : compOk sc sc' = true) (hns : SetOk it2) (hit : XIt T n sc σ μ it (ds, μ1)) (hl : LC (bindT sc' t) (fun σ' μ' acc x => ∃ x2, XIt T n sc' σ' μ' it2 x2 ∧ LC (bindT sc' t2) (stepOf fun σ' μ' => XE T n sc' σ' μ' elt) x2.1 σ' x2.2 acc x) ds (innerOf sc' σ) μ1 [] (acc, σF, μF)) :
    XL T (n + 1) sc σ μ (.ListComp elt [⟨t, it, [], 0⟩, ⟨t2, it2, [], 0⟩] sc' p) (acc, μF) := ⟨sLC, fun K w r mg mb Tp hT hd => by
  have ok := compOk_is hok
  have run : CRun K w r sc' (.ListComp elt [⟨t, it, [], 0⟩, ⟨t2, it2, [], 0⟩] sc' p) ds (innerOf sc' σ) μ1 acc μF := CRun.two ok.noCell hns hl (fun σ' μ' y hy => hy.2 K w r mg mb Tp hT ok.noDbg) fun σ' μ' y hy => hy.ev K w r mg mb Tp hT ok.noDbg
  have hi := hit.2 K w r mg mb Tp hT hd
  exact ⟨EvL.comp ok hit.1 hi run, .inr ⟨_, _, _, _, rfl, ⟨t, it, _, ds, μ1, rfl, hit.1, hi, run⟩, ok⟩⟩⟩
/-! what the table's functions answer -/
noncomputable abbrev Calls (T : Tbl) (a : Nat) (ds : List D) (d : D) : Prop := ∀ μ, CallF T a ds μ d μ
noncomputable abbrev CallsM (T : Tbl) (a : Nat) (cs ds : List D) (d : D) (cs' : List D) : Prop := ∀ (μ : Mu) (k : Nat), μ[k]? = some (some cs) → CallF T a (.own k :: ds) μ d (μ.set k (some cs'))
theorem cFn {a : Nat} {F : List D → D → Prop} {ds : List D} {d : D} (hl : T.fn.lookup a = some F) (hp : D.plains ds = true) (hF : F ds d) : CallF T a ds μ d μ := .inl ⟨hp, F, hl, hF, rfl⟩
theorem cMt {a k : Nat} {F : List D → List D → D → List D → Prop} {cs cs' ds : List D} {d : D} (hl : T.mt.lookup a = some F) (hp : D.plains ds = true) (hk : μ[k]? = some (some cs)) (hF : F cs ds d cs') : CallF T a (.own k :: ds) μ d (μ.set k (some cs')) := .inr ⟨k, ds, cs, cs', F, rfl, hp, hk, hl, hF, rfl⟩
theorem loopMap {bind : D → Sg → Option Sg} {R : Sg → Mu → D × Mu → Prop} {B : D → Sg} {f : D → D} : ∀ (ds : List D) (σ : Sg) (acc : List D), (∀ d ∈ ds, bind d σ = some (B d)) → (∀ d' ∈ ds, ∀ d ∈ ds, bind d (B d') = some (B d)) → (∀ d ∈ ds, R (B d) μ (f d, μ)) → acc.length + ds.length ≤ 1000 →
    ∃ σ', LC bind (stepOf R) ds σ μ acc (acc ++ ds.map f, σ', μ)
  | [], σ, acc, _, _, _, _ => ⟨σ, by rw [List.map_nil, List.append_nil]; rfl⟩
  | d :: ds, σ, acc, h0, h1, h2, hl => by
    simp only [List.length_cons] at hl
    obtain ⟨σ', h⟩ := loopMap (bind := bind) (R := R) (B := B) (f := f) ds (B d) (acc ++ [f d]) (fun e he => h1 d (by simp) e (by simp [he])) (fun e' he' e he => h1 e' (by simp [he']) e (by simp [he])) (fun e he => h2 e (by simp [he])) (by simp; lia)
    refine ⟨σ', B d, (acc ++ [f d], B d, μ), h0 d (by simp), ⟨(f d, μ), h2 d (by simp), by lia, rfl⟩, ?_⟩
    rw [List.append_assoc] at h
    exact h
theorem lComp {elt t it : Expr} {sc' : Scope} {p : Pos} {ds : List D} {B : D → Sg} {f : D → D} (hok : compOk sc sc' = true) (hit : XIt T n sc σ μ it (ds, μ1)) (h0 : ∀ d ∈ ds, bindT sc' t d (innerOf sc' σ) = some (B d)) (h1 : ∀ d' ∈ ds, ∀ d ∈ ds, bindT sc' t d (B d') = some (B d)) (h2 : ∀ d ∈ ds, XE T n sc' (B d) μ1 elt (f d, μ1)) (hl : ds.length ≤ 1000) :
    XL T (n + 1) sc σ μ (.ListComp elt [⟨t, it, [], 0⟩] sc' p) (ds.map f, μ1) := by
  obtain ⟨σ', h⟩ := loopMap (μ := μ1) (R := fun σ' μ' => XE T n sc' σ' μ' elt) ds (innerOf sc' σ) [] h0 h1 h2 (by simpa using hl)
  rw [List.nil_append] at h
  exact lOne hok hit h
end
end Mine
end
section
open PySem PySem.W PyProof.Rows PySem.Calls
set_option autoImplicit false
namespace Mine
/-! entering a function -/
theorem bindL_get {ko : Str → Option NameKind} : ∀ (bs : List (Str × Value)) (m : Str → Option Value) (x : Str) (v : Value), (bs.map (·.1)).Nodup → ko x = some .local → ((x, v) ∈ bs ∨ (x ∉ bs.map (·.1) ∧ m x = some v)) → bindL ko bs m x = some v
  | [], m, x, v, _, _, h => by simpa [bindL] using h
  | (n, u) :: bs, m, x, v, hn, hk, h => by
    simp only [List.map_cons, List.nodup_cons] at hn
    unfold bindL
    refine bindL_get bs _ x v hn.2 hk ?_
    by_cases q : x = n
    · subst q
      have hnot : x ∉ bs.map (·.1) := hn.1
      rcases h with h | ⟨h, _⟩
      · rcases List.mem_cons.mp h with h | h
        · cases h; exact .inr ⟨hnot, by rw [if_pos hk]; simp⟩
        · exact absurd (List.mem_map.mpr ⟨_, h, rfl⟩) hnot
      · simp at h
    · rcases h with h | ⟨h1, h2⟩
      · rcases List.mem_cons.mp h with h | h
        · cases h; exact absurd rfl q
        · exact .inl h
      · refine .inr ⟨fun hm => h1 (by simp only [List.map_cons]; exact List.mem_cons_of_mem _ hm), ?_⟩
        split
        · simp [q, h2]
        · exact h2
theorem bindC_get {ko : Str → Option NameKind} : ∀ (bs : List (Str × Value)) (m : Str → Option Value) (x : Str) (v : Value), (bs.map (·.1)).Nodup → ko x = some .cell → ((x, v) ∈ bs ∨ (x ∉ bs.map (·.1) ∧ m x = some v)) → bindC ko bs m x = some v
  | [], m, x, v, _, _, h => by simpa [bindC] using h
  | (n, u) :: bs, m, x, v, hn, hk, h => by
    simp only [List.map_cons, List.nodup_cons] at hn
    unfold bindC
    refine bindC_get bs _ x v hn.2 hk ?_
    by_cases q : x = n
    · subst q
      have hnot : x ∉ bs.map (·.1) := hn.1
      rcases h with h | ⟨h, _⟩
      · rcases List.mem_cons.mp h with h | h
        · cases h; exact .inr ⟨hnot, by rw [if_neg (by rw [hk]; simp)]; simp⟩
        · exact absurd (List.mem_map.mpr ⟨_, h, rfl⟩) hnot
      · simp at h
    · rcases h with h | ⟨h1, h2⟩
      · rcases List.mem_cons.mp h with h | h
        · cases h; exact absurd rfl q
        · exact .inl h
      · refine .inr ⟨fun hm => h1 (by simp only [List.map_cons]; exact List.mem_cons_of_mem _ hm), ?_⟩
        split
        · exact h2
        · simp [q, h2]
theorem cells_some : ∀ (names : List (Str × NameKind)) (n : Nat) (acc : List (Str × Addr)) (x : Str), ((acc.lookup x).isSome = true ∨ (x, NameKind.cell) ∈ names) → ((cellsFrom n names acc).lookup x).isSome = true
  | [], n, acc, x, h => by
    rcases h with h | h
    · exact h
    · cases h
  | (y, k) :: names, n, acc, x, h => by
    unfold cellsFrom
    split
    · next hk =>
      refine cells_some names (n + 1) _ x ?_
      by_cases q : x = y
      · subst q; left; rw [List.lookup_cons]; simp
      · rcases h with h | h
        · left; rw [List.lookup_cons]
          have : (x == y) = false := by simpa using q
          rw [this]; exact h
        · rcases List.mem_cons.mp h with h | h
          · cases h; exact absurd rfl q
          · exact .inr h
    · next hk =>
      refine cells_some names n _ x ?_
      rcases h with h | h
      · exact .inl h
      · rcases List.mem_cons.mp h with h | h
        · cases h; exact absurd rfl hk
        · exact .inr h
/-- what a function's scope must be like -/
noncomputable def fnOk (sc : Scope) (args : List Str) : Bool := (sc.kind == .function) && !sc.isCoroutine && !sc.isGenerator && sc.names.all (fun p => (p.2 != .free) && (p.1 != Str.ofString "__debug__")) && args.all (fun x => isBind (kOf sc x)) && decide args.Nodup
structure FnOk (sc : Scope) (args : List Str) : Prop where
  kind : sc.kind = .function
  co : sc.isCoroutine = false
  gen : sc.isGenerator = false
  free : ∀ x, kOf sc x ≠ some .free
  dbg : NoDbg sc
  par : ∀ x ∈ args, kOf sc x = some .local ∨ kOf sc x = some .cell
  nodup : args.Nodup
theorem fnOk_is {sc : Scope} {args : List Str} (h : fnOk sc args = true) : FnOk sc args := by
  unfold fnOk at h
  simp only [Bool.and_eq_true, beq_iff_eq, Bool.not_eq_true', List.all_eq_true, bne_iff_ne, ne_eq, decide_eq_true_eq] at h
  obtain ⟨⟨⟨⟨⟨h1, h2⟩, h3⟩, h4⟩, h5⟩, h6⟩ := h
  refine ⟨h1, h2, h3, fun x hx => (h4 _ (lookup_mem hx)).1 rfl, fun x k hk => ?_, fun x hx => ?_, h6⟩
  · have := (h4 _ (lookup_mem hk)).2
    simpa using this
  · have := h5 x hx
    exact isBind_inv this
section
variable {K : Gh} {w : World} {r : Nat} {mg mb : Str → Option Value} {T : Tbl}
/-- a function of the module -/
structure FnIs (K : Gh) (a : Addr) (o : Obj) (fd : FuncData) (i : Nat) : Prop where
  at' : K a = some o
  data : o.data = .func fd
  body : fd.body = .stmts (fBody (st i))
  scope : fd.scope = fScope (st i)
  clo : fd.closure = []
  glob : fd.globals = mainNs
  blt : fd.builtins = builtinsNs
  code : ∃ c oc vs t, fd.code = .ref c ∧ K c = some oc ∧ oc.data = .fields vs ∧ vs[1]? = some (.str fd.qualname t)
  ok : FnOk (fScope (st i)) (fArgs (st i))
/-- the arguments are laid to the names -/
noncomputable def BindsAt (w : World) (fd : FuncData) (vals : List Value) (binds : List (Str × Value)) (s : Shared) : Prop := ∀ (A : Around) (E : Value → Shared → Prop) (Q : List (Str × Value) → Shared → Prop), Q binds s → wpAny (MM w) A (bindArgs fd ⟨vals, []⟩) Q E s
theorem zip_lookup {xs : List Str} {ds : List D} {x : Str} {d : D} (h : ((xs.zip ds).reverse).lookup x = some d) : (x, d) ∈ xs.zip ds := List.mem_reverse.mp (lookup_mem h)
theorem zip_at {α : List Addr} {g : Gh} : ∀ {xs : List Str} {ds : List D} {vs : List Value} {x : Str} {d : D}, Rds g α vs ds → (x, d) ∈ xs.zip ds → ∃ v, (x, v) ∈ xs.zip vs ∧ Rd g α v d
  | [], _, _, x, d, _, h => absurd h List.not_mem_nil
  | y :: xs, [], _, x, d, _, h => absurd h List.not_mem_nil
  | y :: xs, e :: ds, vs, x, d, r, h => by
    obtain ⟨v, vs, rfl, rv, rr⟩ := r.cons_
    obtain h | h := List.mem_cons.mp h
    · cases h; exact ⟨_, List.mem_cons_self .., rv⟩
    · obtain ⟨v, a, b⟩ := zip_at rr h
      exact ⟨v, List.mem_cons_of_mem _ a, b⟩
theorem zip_fst : ∀ (xs : List Str) (vs : List Value), ((xs.zip vs).map (·.1)).Sublist xs
  | [], _ => by simp
  | _ :: _, [] => by simp
  | x :: xs, v :: vs => by simpa using (zip_fst xs vs)
/-- the state as the body begins -/
theorem enterSt {a : Addr} {o : Obj} {fd : FuncData} {i : Nat} (F : FnIs K a o fd i) {g : Gh} {s s1 : Shared} {vs : List Value} {ds : List D} {α0 : List Addr} {μ0 : Mu} (hb : ∀ b o, K b = some o → g b = some o) (hs : ∀ b o, g b = some o → s.heap.get? b = some o)
    (rd : Rds g α0 vs ds) (hα : ∀ a ∈ α0, a < s.heap.objs.size) (hnd : α0.Nodup) (hlen : α0.length = μ0.length) (hown : ∀ (k : Nat) cs, μ0[k]? = some (some cs) → ∃ a ws n, α0[k]? = some a ∧ s.heap.get? a = some (lobj ws n) ∧ Rds g [] ws cs ∧ g a = none)
    (X : InCallC s (callEnvC fd s.heap.objs.size a).locals (bindL (callEnvC fd s.heap.objs.size a).kindOf ((fArgs (st i)).zip vs) fun _ => none) (callEnvC fd s.heap.objs.size a).cells (bindC (callEnvC fd s.heap.objs.size a).kindOf ((fArgs (st i)).zip vs) fun _ => none) s1) :
    St K g s1.heap (callEnvC fd s.heap.objs.size a) (fScope (st i)) α0 (sg i ds) μ0 ∧ (∀ b, Stor (callEnvC fd s.heap.objs.size a) b → s.heap.objs.size ≤ b) ∧ s.heap.objs.size ≤ s1.heap.objs.size := by
  have hL : (callEnvC fd s.heap.objs.size a).locals = s.heap.objs.size := rfl
  have hko : ∀ x, (callEnvC fd s.heap.objs.size a).kindOf x = kOf (fScope (st i)) x := fun x => by
    show fd.scope.names.lookup x = _
    rw [F.scope]; rfl
  have hsz : s.heap.objs.size < s1.heap.objs.size := X.toInCall.ns.lt
  have sto : ∀ b, Stor (callEnvC fd s.heap.objs.size a) b → s.heap.objs.size ≤ b := fun b h => by
    rcases h with h | ⟨x, hx⟩
    · exact Nat.le_of_eq (h ▸ hL.symm)
    · exact Nat.le_of_lt (hL ▸ X.above x b (lookup_mem hx))
  have fresh : ∀ b, s.heap.objs.size ≤ b → g b = none := fun b h => by
    cases e : g b with
    | none => rfl
    | some o => exact absurd (Heap.lt_size (hs b o e)) (Nat.not_lt.mpr h)
  refine ⟨⟨hb, fun b o e => X.toInCall.keep b o (hs b o e), ?_, ⟨F.glob, F.blt⟩, fun x hx => ?_, fun x hx => ?_, fun x hx => ?_, ⟨_, X.toInCall.ns⟩, fun x hx => ?_, fun x y c hx hy => ?_, fun x c hx => ?_, fun x d hx => ?_, fun b h => ?_, fun k cs e => ?_, hnd, fun b hb => Nat.lt_of_lt_of_le (hα b hb) (Nat.le_of_lt hsz), hlen⟩, sto, Nat.le_of_lt hsz⟩
  · show fd.scope.kind = _; rw [F.scope]; exact F.ok.kind
  · rw [hko]; exact beq_iff_eq.mp hx
  · rw [hko]; exact hx
  · rw [hko]
    rcases hx with hx | hx
    · exact hx
    · exact absurd hx (F.ok.free x)
  · rw [hko] at hx
    have := cells_some (fScope (st i)).names (s.heap.objs.size + 1) [] x (.inr (lookup_mem hx))
    obtain ⟨c, hc⟩ := Option.isSome_iff_exists.mp this
    have hc' : (callEnvC fd s.heap.objs.size a).cells.lookup x = some c := by
      show (cellsFrom (s.heap.objs.size + 1) fd.scope.names []).lookup x = some c
      rw [F.scope]; exact hc
    exact ⟨c, _, hc', X.cell x c hc'⟩
  · have h1 := lookup_mem hx
    have h2 := lookup_mem hy
    exact name_of_addr X.apart h1 h2
  · exact Nat.ne_of_gt (X.above x c (lookup_mem hx))
  · obtain ⟨v, hv, rv⟩ := zip_at rd (zip_lookup hx)
    refine ⟨v, ?_, rv⟩
    have hmem : x ∈ fArgs (st i) := (List.of_mem_zip hv).1
    have hnd' : (((fArgs (st i)).zip vs).map (·.1)).Nodup := (zip_fst _ _).nodup F.ok.nodup
    rcases F.ok.par x hmem with hl | hl
    · exact .inl ⟨by rw [hko]; exact hl, _, X.toInCall.ns, bindL_get _ _ x v hnd' (by rw [hko]; exact hl) (.inl hv)⟩
    · have := cells_some (fScope (st i)).names (s.heap.objs.size + 1) [] x (.inr (lookup_mem hl))
      obtain ⟨c, hc⟩ := Option.isSome_iff_exists.mp this
      have hc' : (callEnvC fd s.heap.objs.size a).cells.lookup x = some c := by
        show (cellsFrom (s.heap.objs.size + 1) fd.scope.names []).lookup x = some c
        rw [F.scope]; exact hc
      have hcell := X.cell x c hc'
      rw [bindC_get _ _ x v hnd' (by rw [hko]; exact hl) (.inl hv)] at hcell
      exact .inr ⟨by rw [hko]; exact hl, c, hc', hcell⟩
  · refine ⟨fresh b (sto b h), fun hm => Nat.lt_irrefl _ (Nat.lt_of_lt_of_le (hα b hm) (sto b h)), ?_⟩
    rcases h with h | ⟨x, hx⟩
    · rw [h]; exact hsz
    · obtain ⟨o, ho, _⟩ := X.cell x b hx; exact Heap.lt_size ho
  · obtain ⟨b, ws, n, x1, x2, x3, x4⟩ := hown k cs e
    exact ⟨b, ws, n, x1, X.toInCall.keep _ _ x2, x3, x4⟩
theorem callAt (Tp : Tops K mg mb) {a : Addr} {o : Obj} {fd : FuncData} {i : Nat} (F : FnIs K a o fd i) {s : Shared} {A : Around} {vals vs : List Value} {Q : Value → Shared → Prop} (hK : ∀ b o, K b = some o → s.heap.get? b = some o) (hroom : A.depth < recursionLimit) (hbind : BindsAt w fd vals ((fArgs (st i)).zip vs) s)
    (h : ∀ s1, InCallC s (callEnvC fd s.heap.objs.size a).locals (bindL (callEnvC fd s.heap.objs.size a).kindOf ((fArgs (st i)).zip vs) fun _ => none) (callEnvC fd s.heap.objs.size a).cells (bindC (callEnvC fd s.heap.objs.size a).kindOf ((fArgs (st i)).zip vs) fun _ => none) s1 →
      wpAny (MM w) (A.deeper (callEnvC fd s.heap.objs.size a)) (execs (fBody (st i)) (callEnvC fd s.heap.objs.size a)) (fun f s' => Q (match f with | .ret v => v | _ => .none) s') F0 s1) : wpAny (MM w) A (PySem.call (.ref a) vals) Q F0 s := by
  have hcd : s.heap.CodeRec fd.code fd.qualname := by
    obtain ⟨c, oc, vs', t, h1, h2, h3, h4⟩ := F.code
    exact ⟨c, oc, vs', t, h1, hK _ _ h2, h3, h4⟩
  refine wpAny_call (codeAny_call_function hroom (hK _ _ F.at') F.data (by rw [F.scope]; exact F.ok.co) (by rw [F.scope]; exact F.ok.gen) F.body hcd ?_)
  refine hbind _ _ _ ?_
  rw [F.clo]
  refine wpAny_newFunctionEnv_cells (by rw [F.scope]; exact F.ok.kind) (fun x hx => ?_) fun env he s' X => ?_
  · rw [F.scope]
    have hm : x.1 ∈ fArgs (st i) := (List.of_mem_zip (a := x.1) (b := x.2) hx).1
    rcases F.ok.par x.1 hm with hl | hl
    · exact .inl hl
    · exact .inr ⟨hl, cells_some _ _ _ _ (.inr (lookup_mem hl))⟩
  · subst he
    refine ⟨(Tp.lim _ hK).keeps X.toInCall.keep, codeAny_func (wpAny_mono (h s' X) (fun f s'' q => ?_) fun _ _ x => x.elim)⟩
    exact q
end
end Mine
end
section
open PySem PySem.W PyProof.Rows PySem.Calls
set_option autoImplicit false
namespace Mine
noncomputable def outM (x : Fl × Sg × Mu) : Option D := match x.1 with
  | .next => some .nil
  | .ret d => if D.plain d = true then some d else none
  | _ => none
theorem outD_inv {x : Fl × Sg × Mu} {d : D} (h : outD x = some d) : (x.1 = .next ∧ d = .nil) ∨ (x.1 = .ret d ∧ D.plain d = true) ∨ ∃ k cs, x.1 = .ret (.own k) ∧ x.2.2[k]? = some (some cs) ∧ d = .list cs := by
  unfold outD at h
  cases e : x.1 with
  | next => rw [e] at h; exact .inl ⟨rfl, (Option.some.inj h).symm⟩
  | ret d' =>
    rw [e] at h
    cases q : onOwn d' some with
    | none =>
      have h : (match onOwn d' some with | some k => (ownOf x.2.2 k).map D.list | none => if D.plain d' = true then some d' else none) = some d := h
      rw [q] at h
      obtain ⟨h1, h2⟩ := iteSome h
      cases h2
      exact .inr (.inl ⟨rfl, h1⟩)
    | some k =>
      obtain ⟨k', rfl, q⟩ := onOwn_inv q
      cases q
      obtain ⟨cs, h1, h2⟩ := mapSome h
      exact .inr (.inr ⟨k, cs, rfl, ownOf_is h1, h2.symm⟩)
  | _ => rw [e] at h; exact noSome h
theorem outM_inv {x : Fl × Sg × Mu} {d : D} (h : outM x = some d) : (x.1 = .next ∧ d = .nil) ∨ (x.1 = .ret d ∧ D.plain d = true) := by
  unfold outM at h
  cases e : x.1 with
  | next => rw [e] at h; exact .inl ⟨rfl, (Option.some.inj h).symm⟩
  | ret d' => rw [e] at h; obtain ⟨h1, h2⟩ := iteSome h; cases h2; exact .inr ⟨rfl, h1⟩
  | _ => rw [e] at h; exact noSome h
noncomputable def flVal (f : Flow) : Value := match f with | .ret v => v | _ => .none
noncomputable def RunF (T : Tbl) (ow : List Str) (i : Nat) (ds : List D) (d : D) : Prop := ∃ x, XSs T ow 40 (fScope (st i)) (sg i ds) [] (fBody (st i)) x ∧ outD x = some d
noncomputable def RunM (T : Tbl) (i : Nat) (cs : List D) (ds : List D) (d : D) (cs' : List D) : Prop := ∃ x, XSs T [] 40 (fScope (st i)) (sg i (.own 0 :: ds)) [some cs] (fBody (st i)) x ∧ outM x = some d ∧ x.2.2[0]? = some (some cs')
section
variable {K : Gh} {w : World} {r : Nat} {mg mb : Str → Option Value} {T : Tbl}
theorem Room.deep {A : Around} {env : Env} (h : Room (r + 1) A) : Room r (A.deeper env) := by
  obtain ⟨h1, h2, h3⟩ := h
  refine ⟨?_, ?_, h3⟩
  · show A.depth + 1 + r < _; lia
  · show A.units + 3 + 5 * r + 300 < _; lia
theorem Room.low {A : Around} {r' : Nat} (h : Room r' A) (hr : r ≤ r') : Room r A := by
  obtain ⟨h1, h2, h3⟩ := h
  exact ⟨by lia, by lia, h3⟩
/-- back in the caller, nothing of whose was touched but these -/
structure Bk (xs : List Addr) (g : Gh) (s : Shared) (g' : Gh) (s' : Shared) : Prop where
  up : ∀ b o, g b = some o → g' b = some o
  same : ∀ b, b < s.heap.objs.size → g' b = g b
  kp : ∀ b o, b ∉ xs → s.heap.get? b = some o → s'.heap.get? b = some o
  hz : s.heap.objs.size ≤ s'.heap.objs.size
  gens : s'.gens = s.gens
  os : s'.os = s.os
section
variable {g g' : Gh} {s s1 s' : Shared} {env env' : Env} {sc sc' : Scope} {α α' xs : List Addr} {σ σ' : Sg} {μ μ' : Mu}
theorem Bk.step (B : Bk [] g s g' s') (S : St K g s.heap env sc α σ μ) (sub : ∀ b o, g' b = some o → s'.heap.get? b = some o) : Step K g s g' s' env sc α σ μ :=
  ⟨⟨B.up, B.same⟩, (S.keep (fun b o => B.kp b o List.not_mem_nil) B.hz).more B.up sub (fun a ha => (B.same a (S.stor a ha).2.2).trans (S.stor a ha).1) (fun a ha e => (B.same a (S.lt a ha)).trans e), ⟨B.hz, fun b o e _ => B.kp b o List.not_mem_nil e⟩, B.gens, B.os⟩
theorem Bk.put {b : Addr} {o : Obj} (B : Bk xs g s g' s') (hb : s.heap.objs.size ≤ b) (e4 : g' b = none) : Bk xs g s (put g' b o) s' :=
  ⟨fun c o e => by rw [put_ne _ _ (fun (q : c = b) => by rw [q] at e; rw [B.up b _ e] at e4; cases e4)]; exact B.up c o e, fun c hc => (put_ne _ _ (fun (q : c = b) => Nat.lt_irrefl _ (Nat.lt_of_lt_of_le (q ▸ hc) hb))).trans (B.same c hc), B.kp, B.hz, B.gens, B.os⟩
theorem putSub {h : Heap} {b : Addr} {o : Obj} (sub : ∀ b o, g b = some o → h.get? b = some o) (ho : h.get? b = some o) : ∀ c x, put g b o c = some x → h.get? c = some x := fun c x e => by
  by_cases q : c = b
  · subst q; rw [put_self] at e; cases e; exact ho
  · rw [put_ne _ _ q] at e; exact sub c x e
theorem pureBack {x : Fl × Sg × Mu} {fl : Flow} {d : D} (B : Bk [] g s g' s') (S : St K g s.heap env sc α σ μ) (Y : St K g' s'.heap env' sc' α' x.2.1 x.2.2) (hα : ∀ b ∈ α', s.heap.objs.size ≤ b) (hf : FlIs g' α' x.1 fl) (h2 : outD x = some d) :
    ∃ g', Step K g s g' s' env sc α σ μ ∧ Rd g' α (flVal fl) d := by
  obtain ⟨e, rfl⟩ | ⟨e, hp⟩ | ⟨k, cs, e, hk, rfl⟩ := outD_inv h2
  · rw [e] at hf; cases (hf : fl = _); exact ⟨g', B.step S Y.sub, .nil⟩
  · rw [e] at hf
    obtain ⟨v, rfl, hf⟩ : ∃ v, fl = .ret v ∧ Rd g' α' v d := hf
    exact ⟨g', B.step S Y.sub, hf.plain hp⟩
  · rw [e] at hf
    obtain ⟨v, rfl, hf⟩ : ∃ v, fl = .ret v ∧ Rd g' α' v (.own k) := hf
    obtain ⟨b, rfl, hb⟩ := hf.own_
    obtain ⟨b2, ws, n, e1, e2, e3, e4⟩ := Y.own _ _ hk
    cases hb.symm.trans e1
    have B2 := B.put (o := lobj ws n) (hα b (List.mem_of_getElem? hb)) e4
    exact ⟨_, B2.step S (putSub Y.sub e2), .list (put_self _ _ _) ((e3.mono (fun c o e => by rw [put_ne _ _ (fun q => by rw [q, e4] at e; cases e)]; exact e) fun _ _ e => e).up)⟩
theorem Bk.of {L : Addr} {m : Str → Option Value} {cl : List (Str × Addr)} {n : Str → Option Value} (X : InCallC s L m cl n s1) (Y : SS K g s1 g' s' env' sc' xs α' σ' μ') (sto : ∀ b, Stor env' b → s.heap.objs.size ≤ b) (hz1 : s.heap.objs.size ≤ s1.heap.objs.size) (hx : ∀ b ∈ xs, g' b = g b) : Bk xs g s g' s' := by
  obtain ⟨hh, tk, hs1⟩ := X.toInCall.same
  refine ⟨Y.up, fun b hb => ?_, fun b o h e => Y.kp b o h (fun q => Nat.lt_irrefl _ (Nat.lt_of_lt_of_le (Heap.lt_size e) (sto b q))) (X.toInCall.keep b o e), Nat.le_trans hz1 Y.size, Y.gens.trans (by rw [hs1]), Y.os.trans (by rw [hs1])⟩
  by_cases q : b ∈ xs
  · exact hx b q
  · exact Y.same b (Nat.lt_of_lt_of_le hb hz1) q
end
theorem Room.here {A : Around} (h : Room (r + 1) A) : A.depth < recursionLimit := Nat.lt_of_le_of_lt (Nat.le_add_right _ _) h.1
theorem pureCall (Tp : Tops K mg mb) (hT : TblOk K w r T) (ow : List Str) {a : Addr} {o : Obj} {fd : FuncData} {i : Nat} (F : FnIs K a o fd i) {ds ds2 : List D} {d : D} (hp : D.plains ds2 = true)
    (hbind : ∀ (g : Gh) (s : Shared) (vals : List Value), (∀ b o, K b = some o → g b = some o) → (∀ b o, g b = some o → s.heap.get? b = some o) → Rds g [] vals ds → ∃ vs, Rds g [] vs ds2 ∧ BindsAt w fd vals ((fArgs (st i)).zip vs) s) (hp0 : D.plains ds = true)
    (h : RunF T ow i ds2 d) (sc : Scope) (σ : Sg) (μ : Mu) : Opn K w (r + 1) sc σ μ ds (fun vs => PySem.call (.ref a) vs) d μ := fun g s env α A vals S Rm rd => by
  obtain ⟨vs, rd2, hb⟩ := hbind g s vals S.base S.sub (rd.plain hp0)
  refine callAt Tp F (fun b o e => S.sub b o (S.base b o e)) Rm.here hb fun s1 X => ?_
  obtain ⟨Sin, sto, hz1⟩ := enterSt F S.base S.sub (α0 := []) (μ0 := []) rd2 (fun a h => absurd h List.not_mem_nil) List.nodup_nil rfl (fun k cs h => noSome h) X
  obtain ⟨x, h1, h2⟩ := h
  refine wpAny_mono (h1 K w r mg mb Tp hT F.ok.dbg g s1 _ [] _ Sin Rm.deep) (fun fl s' q => ?_) fun _ _ x => x
  obtain ⟨g', α', Y, hf⟩ := q
  refine pureBack (Bk.of X Y sto hz1 fun b h => absurd h List.not_mem_nil) S Y.st (fun b hb => ?_) hf h2
  obtain ⟨β, rfl, hβ⟩ := Y.pre
  exact Nat.le_trans hz1 (hβ b hb)
theorem mutStep {g g' : Gh} {s s' : Shared} {env env' : Env} {sc sc' : Scope} {α α' : List Addr} {σ σ' : Sg} {μ μ' : Mu} {k : Nat} {a : Addr} {cs cs' : List D} {ws : List Value} {n : Nat} (S : St K g s.heap env sc α σ μ) (B : Bk [a] g s g' s') (Y : St K g' s'.heap env' sc' α' σ' μ') (hk : μ[k]? = some (some cs)) (hak : α[k]? = some a)
    (f2 : s'.heap.get? a = some (lobj ws n)) (f3 : Rds g' [] ws cs') (f4 : g' a = none) : Step K g s g' s' env sc α σ (μ.set k (some cs')) := by
  have hm : a ∈ α := List.mem_of_getElem? hak
  have kp : ∀ b o, b ≠ a → s.heap.get? b = some o → s'.heap.get? b = some o := fun b o hb e => B.kp b o (fun q => hb (List.mem_singleton.mp q)) e
  have sk : ∀ b, Stor env b → ∀ o, s.heap.get? b = some o → s'.heap.get? b = some o := fun b hb o e => kp b o (fun q => (S.stor b hb).2.1 (q ▸ hm)) e
  refine ⟨⟨B.up, B.same⟩, ⟨Y.base, Y.sub, S.kind, S.glb, S.seesG, S.seesL, S.seesC, ?_, fun x e => ?_, S.apart, S.locc, fun x d e => (S.vars x d e).imp fun v => .imp (VarIs.keeps · sk) (Rd.mono B.up fun _ _ e => e),
    fun b e => ⟨(B.same b (S.stor b e).2.2).trans (S.stor b e).1, (S.stor b e).2.1, Nat.lt_of_lt_of_le (S.stor b e).2.2 B.hz⟩, fun j es e => ?_, S.nodup, fun b hb => Nat.lt_of_lt_of_le (S.lt b hb) B.hz, by rw [List.length_set]; exact S.len⟩, ⟨B.hz, fun b o e hb => kp b o (fun q => hb (q ▸ hm)) e⟩, B.gens, B.os⟩
  · obtain ⟨m, o, es, ep, x, rr⟩ := S.loc
    exact ⟨m, o, es, ep, sk _ (.inl rfl) o x, rr⟩
  · obtain ⟨c, v, x, o, y, z⟩ := S.cel x e
    exact ⟨c, v, x, o, sk _ (.inr ⟨_, x⟩) o y, z⟩
  · by_cases q : k = j
    · subst q
      rw [List.getElem?_set_self (List.getElem?_eq_some_iff.mp hk).1] at e
      cases e
      exact ⟨a, ws, n, hak, f2, f3, f4⟩
    · rw [List.getElem?_set_ne q] at e
      obtain ⟨b, vs, n, x, y, z, u⟩ := S.own j es e
      have hb : b ≠ a := fun w => q ((List.getElem?_inj (List.getElem?_eq_some_iff.mp hak).1 S.nodup).mp (hak.trans (w ▸ x.symm)))
      exact ⟨b, vs, n, x, kp b _ hb y, z.mono B.up fun _ _ e => e, (B.same b (S.lt b (List.mem_of_getElem? x))).trans u⟩
theorem mutCall (Tp : Tops K mg mb) (hT : TblOk K w r T) {a : Addr} {o : Obj} {fd : FuncData} {i : Nat} (F : FnIs K a o fd i) {cs ds cs' : List D} {d : D} (hp : D.plains ds = true)
    (hbind : ∀ (s : Shared) (vals : List Value), vals.length = ds.length + 1 → BindsAt w fd vals ((fArgs (st i)).zip vals) s)
    (h : RunM T i cs ds d cs') (sc : Scope) (σ : Sg) (μ : Mu) (k : Nat) (hk : μ[k]? = some (some cs)) : Opn K w (r + 1) sc σ μ (.own k :: ds) (fun vs => PySem.call (.ref a) vs) d (μ.set k (some cs')) := fun g s env α A vals S Rm rd => by
  have hlen := rd.length
  obtain ⟨v, vs, rfl, rv, rr⟩ := rd.cons_
  obtain ⟨ak, rfl, hak⟩ := rv.own_
  obtain ⟨b2, wk, nk, e1, e2, e3, e4⟩ := S.own _ _ hk
  cases hak.symm.trans e1
  refine callAt Tp F (fun b o e => S.sub b o (S.base b o e)) Rm.here (hbind s _ hlen) fun s1 X => ?_
  obtain ⟨Sin, sto, hz1⟩ := enterSt F S.base S.sub (α0 := [ak]) (μ0 := [some cs]) (show Rds g [ak] (.ref ak :: vs) (.own 0 :: ds) from .cons (.own rfl) (rr.plain hp)) (fun a h => List.mem_singleton.mp h ▸ Heap.lt_size e2) (List.nodup_cons.mpr ⟨List.not_mem_nil, List.nodup_nil⟩) rfl (fun k' cs0 hh => by
    cases k' with
    | zero => cases hh; exact ⟨ak, wk, nk, rfl, e2, e3, e4⟩
    | succ k' => exact noSome hh) X
  obtain ⟨x, h1, h2, hμ0⟩ := h
  refine wpAny_mono (h1 K w r mg mb Tp hT F.ok.dbg g s1 _ [ak] _ Sin Rm.deep) (fun fl s' q => ?_) fun _ _ x => x
  obtain ⟨g', α', Y, hf⟩ := q
  obtain ⟨b3, ws, n, f1, f2, f3, f4⟩ := Y.st.own _ _ hμ0
  have hb3 : ak = b3 := by
    obtain ⟨β, rfl, _⟩ := Y.pre
    exact Option.some.inj f1
  subst hb3
  have P := mutStep S (Bk.of X Y sto hz1 fun b h => List.mem_singleton.mp h ▸ f4.trans e4.symm) Y.st hk hak f2 f3 f4
  obtain ⟨e, rfl⟩ | ⟨e, hpd⟩ := outM_inv h2
  · rw [e] at hf; cases (hf : fl = _); exact ⟨g', P, .nil⟩
  · rw [e] at hf
    obtain ⟨v, rfl, hf⟩ : ∃ v, fl = .ret v ∧ Rd g' α' v d := hf
    exact ⟨g', P, hf.plain hpd⟩
end
end Mine
end
section
open PySem PySem.W PyProof.Rows
set_option autoImplicit false
namespace Mine
noncomputable def KK (w : World) : Gh := fun b => (Hf w.params).get? b
noncomputable def esOf (o : Obj) : Array DictEntry := match o.data with
  | .dict es _ => es
  | _ => #[]
noncomputable def fdOf (o : Obj) : FuncData := match o.data with
  | .func fd => fd
  | _ => default
noncomputable def mgT (P : Params) (x : Str) : Option Value := nsFind (esOf (o3f P)) x
noncomputable def mbT (P : Params) (x : Str) : Option Value := nsFind (esOf (boot_o_0 P)) x
noncomputable def keysOk (es : Array DictEntry) : Bool := es.toList.all fun e => match e.key with
  | .str _ _ => true
  | _ => false
theorem keysOk_is {es : Array DictEntry} (h : keysOk es = true) : StrKeys es := fun e he => by
  have := List.all_eq_true.mp h e (by simpa using he)
  cases hk : e.key <;> rw [hk] at this <;> simp at this
  exact ⟨_, _, rfl⟩
theorem k0 (P : Params) : (Hf P).get? 0 = some (boot_o_0 P) := by kernel_rfl
theorem k2 (P : Params) : (Hf P).get? 2 = some (boot_o_2 P) := by kernel_rfl
theorem k3 (P : Params) : (Hf P).get? 3 = some (o3f P) := by kernel_rfl
theorem k57 (P : Params) : (Hf P).get? 57 = some (o575 P) := by kernel_rfl
theorem keys3 (P : Params) : keysOk (esOf (o3f P)) = true := by kernel_rfl
theorem keys0 (P : Params) : keysOk (esOf (boot_o_0 P)) = true := by kernel_rfl
noncomputable def gOk (P : Params) (p : Str × GV) : Bool := match p.2 with
  | .fn a => mgT P p.1 == some (.ref a)
  | .bi id => (mgT P p.1 == none) && (mbT P p.1 == some (.builtin id))
  | .ty n => (mgT P p.1 == none) && (mbT P p.1 == some (.type n))
  | .dat (.list l) => mgT P p.1 == some (.ref 57)
  | .dat (.str s) => (match mgT P p.1 with
    | some (.str x _) => x == s
    | _ => false)
  | .dat _ => false
theorem gAll (P : Params) : globs.all (gOk P) = true := by kernel_rfl
noncomputable def strsOk : List Value → List D → Bool
  | [], [] => true
  | .str x _ :: vs, .str y :: ds => (x == y) && strsOk vs ds
  | _, _ => false
theorem strsOk_is {g : Gh} {α : List Addr} : ∀ {vs : List Value} {ds : List D}, strsOk vs ds = true → Rds g α vs ds
  | [], [], _ => .nil
  | [], _ :: _, h => by simp [strsOk] at h
  | v :: vs, [], h => by cases v <;> simp [strsOk] at h
  | v :: vs, d :: ds, h => by
    cases v <;> cases d <;> simp only [strsOk, Bool.and_eq_true, beq_iff_eq, reduceCtorEq, Bool.false_eq_true] at h
    obtain ⟨rfl, h⟩ := h
    exact .cons (.str _ _) (strsOk_is h)
noncomputable def listOf' (o : Obj) : List Value := match o.data with
  | .seq xs _ => xs.toList
  | _ => []
theorem map57 (P : Params) : strsOk (listOf' (o575 P)) hdrMap = true := by kernel_rfl
noncomputable def nOf (o : Obj) : Nat := match o.data with
  | .seq _ n => n
  | _ => 0
theorem lobj57 (P : Params) : o575 P = lobj (listOf' (o575 P)) (nOf (o575 P)) := by kernel_rfl
theorem globs_list {x : Str} {l : List D} (h : (x, GV.dat (.list l)) ∈ globs) : l = hdrMap := by
  unfold globs at h
  simp only [List.mem_cons, List.not_mem_nil, or_false, Prod.mk.injEq, reduceCtorEq, and_false, false_or, GV.dat.injEq, D.list.injEq] at h
  exact h.2
theorem tops (w : World) : Tops (KK w) (mgT w.params) (mbT w.params) where
  ng h hh := ⟨_, esOf (o3f w.params), _, hh 3 _ (k3 w.params), rfl, keysOk_is (keys3 _), fun _ => rfl⟩
  nb h hh := ⟨_, esOf (boot_o_0 w.params), _, hh 0 _ (k0 w.params), rfl, keysOk_is (keys0 _), fun _ => rfl⟩
  lim h hh := ⟨fun x => nsFind #[] x, ⟨_, #[], _, hh 2 _ (k2 w.params), rfl, fun e he => by simp at he, fun _ => rfl⟩, rfl⟩
  has x gv hx := by
    have hm : (x, gv) ∈ globs := lookup_mem hx
    have := List.all_eq_true.mp (gAll w.params) _ hm
    unfold gOk at this
    cases gv with
    | fn a => exact ⟨_, .inl (by simpa using this), rfl⟩
    | bi id => simp only [Bool.and_eq_true, beq_iff_eq] at this; exact ⟨_, .inr this, rfl⟩
    | ty n => simp only [Bool.and_eq_true, beq_iff_eq] at this; exact ⟨_, .inr this, rfl⟩
    | dat d =>
      cases d <;> simp only [Bool.false_eq_true] at this
      · rename_i s
        cases hv : mgT w.params x with
        | none => rw [hv] at this; simp at this
        | some v =>
          rw [hv] at this
          cases v <;> simp only [Bool.false_eq_true, beq_iff_eq] at this
          subst this
          exact ⟨_, .inl rfl, .str _ _⟩
      · rename_i l
        have hl := globs_list hm
        subst hl
        exact ⟨.ref 57, .inl (by simpa using this), .list (n := nOf (o575 w.params)) (by show (Hf w.params).get? 57 = _; rw [k57]; exact congrArg some (lobj57 _)) (strsOk_is (map57 _))⟩
end Mine
end
section
open PySem PySem.W PyProof.Rows
set_option autoImplicit false
namespace Mine
noncomputable def fieldsOf (o : Obj) : Array Value := match o.data with
  | .fields vs => vs
  | _ => #[]
noncomputable def tokOf (o : Obj) : Tok := match ((fieldsOf o)[1]? : Option Value) with
  | some (Value.str _ t) => t
  | _ => 0
theorem bindsOf {w : World} {fd : FuncData} {vals : List Value} {bs : List (Str × Value)} {s : Shared} (h : bindArgs fd ⟨vals, []⟩ = pure bs) : BindsAt w fd vals bs s := fun A E Q hq => by rw [h]; exact wpAny_pure hq
theorem f21 (w : World) : FnIs (KK w) 21 (o211 w.params) (fdOf (o211 w.params)) 1 where
  at' := by show (Hf w.params).get? 21 = _; kernel_rfl
  data := by kernel_rfl
  body := by kernel_rfl
  scope := by kernel_rfl
  clo := by kernel_rfl
  glob := by kernel_rfl
  blt := by kernel_rfl
  code := ⟨20, o201 w.params, fieldsOf (o201 w.params), tokOf (o201 w.params), by kernel_rfl, by show (Hf w.params).get? 20 = _; kernel_rfl, by kernel_rfl, by kernel_rfl⟩
  ok := fnOk_is (by kernel_rfl)
theorem b21e (P : Params) (v0 v1 : Value) : bindArgs (fdOf (o211 P)) ⟨[v0, v1], []⟩ = pure ((fArgs (st 1)).zip [v0, v1]) := by kernel_rfl
theorem b21 (w : World) (s : Shared) (vals : List Value) (h : vals.length = 2) : BindsAt w (fdOf (o211 w.params)) vals ((fArgs (st 1)).zip vals) s := by
  match vals, h with
  | [v0, v1], _ => exact bindsOf (b21e _ v0 v1)
theorem f28 (w : World) : FnIs (KK w) 28 (o281 w.params) (fdOf (o281 w.params)) 2 where
  at' := by show (Hf w.params).get? 28 = _; kernel_rfl
  data := by kernel_rfl
  body := by kernel_rfl
  scope := by kernel_rfl
  clo := by kernel_rfl
  glob := by kernel_rfl
  blt := by kernel_rfl
  code := ⟨27, o271 w.params, fieldsOf (o271 w.params), tokOf (o271 w.params), by kernel_rfl, by show (Hf w.params).get? 27 = _; kernel_rfl, by kernel_rfl, by kernel_rfl⟩
  ok := fnOk_is (by kernel_rfl)
theorem b28e (P : Params) (v0 : Value) : bindArgs (fdOf (o281 P)) ⟨[v0], []⟩ = pure ((fArgs (st 2)).zip [v0]) := by kernel_rfl
theorem b28 (w : World) (s : Shared) (vals : List Value) (h : vals.length = 1) : BindsAt w (fdOf (o281 w.params)) vals ((fArgs (st 2)).zip vals) s := by
  match vals, h with
  | [v0], _ => exact bindsOf (b28e _ v0)
theorem f35 (w : World) : FnIs (KK w) 35 (o351 w.params) (fdOf (o351 w.params)) 3 where
  at' := by show (Hf w.params).get? 35 = _; kernel_rfl
  data := by kernel_rfl
  body := by kernel_rfl
  scope := by kernel_rfl
  clo := by kernel_rfl
  glob := by kernel_rfl
  blt := by kernel_rfl
  code := ⟨34, o341 w.params, fieldsOf (o341 w.params), tokOf (o341 w.params), by kernel_rfl, by show (Hf w.params).get? 34 = _; kernel_rfl, by kernel_rfl, by kernel_rfl⟩
  ok := fnOk_is (by kernel_rfl)
theorem b35e (P : Params) (v0 : Value) : bindArgs (fdOf (o351 P)) ⟨[v0], []⟩ = pure ((fArgs (st 3)).zip [v0]) := by kernel_rfl
theorem b35 (w : World) (s : Shared) (vals : List Value) (h : vals.length = 1) : BindsAt w (fdOf (o351 w.params)) vals ((fArgs (st 3)).zip vals) s := by
  match vals, h with
  | [v0], _ => exact bindsOf (b35e _ v0)
theorem f42 (w : World) : FnIs (KK w) 42 (o421 w.params) (fdOf (o421 w.params)) 4 where
  at' := by show (Hf w.params).get? 42 = _; kernel_rfl
  data := by kernel_rfl
  body := by kernel_rfl
  scope := by kernel_rfl
  clo := by kernel_rfl
  glob := by kernel_rfl
  blt := by kernel_rfl
  code := ⟨41, o411 w.params, fieldsOf (o411 w.params), tokOf (o411 w.params), by kernel_rfl, by show (Hf w.params).get? 41 = _; kernel_rfl, by kernel_rfl, by kernel_rfl⟩
  ok := fnOk_is (by kernel_rfl)
theorem b42e (P : Params) (v0 v1 v2 : Value) : bindArgs (fdOf (o421 P)) ⟨[v0, v1, v2], []⟩ = pure ((fArgs (st 4)).zip [v0, v1, v2]) := by kernel_rfl
theorem b42 (w : World) (s : Shared) (vals : List Value) (h : vals.length = 3) : BindsAt w (fdOf (o421 w.params)) vals ((fArgs (st 4)).zip vals) s := by
  match vals, h with
  | [v0, v1, v2], _ => exact bindsOf (b42e _ v0 v1 v2)
theorem f49 (w : World) : FnIs (KK w) 49 (o491 w.params) (fdOf (o491 w.params)) 5 where
  at' := by show (Hf w.params).get? 49 = _; kernel_rfl
  data := by kernel_rfl
  body := by kernel_rfl
  scope := by kernel_rfl
  clo := by kernel_rfl
  glob := by kernel_rfl
  blt := by kernel_rfl
  code := ⟨48, o481 w.params, fieldsOf (o481 w.params), tokOf (o481 w.params), by kernel_rfl, by show (Hf w.params).get? 48 = _; kernel_rfl, by kernel_rfl, by kernel_rfl⟩
  ok := fnOk_is (by kernel_rfl)
theorem b49e (P : Params) (v0 v1 : Value) : bindArgs (fdOf (o491 P)) ⟨[v0, v1], []⟩ = pure ((fArgs (st 5)).zip [v0, v1]) := by kernel_rfl
theorem b49 (w : World) (s : Shared) (vals : List Value) (h : vals.length = 2) : BindsAt w (fdOf (o491 w.params)) vals ((fArgs (st 5)).zip vals) s := by
  match vals, h with
  | [v0, v1], _ => exact bindsOf (b49e _ v0 v1)
theorem f72 (w : World) : FnIs (KK w) 72 (o72f w.params) (fdOf (o72f w.params)) 19 where
  at' := by show (Hf w.params).get? 72 = _; kernel_rfl
  data := by kernel_rfl
  body := by kernel_rfl
  scope := by kernel_rfl
  clo := by kernel_rfl
  glob := by kernel_rfl
  blt := by kernel_rfl
  code := ⟨71, o71f w.params, fieldsOf (o71f w.params), tokOf (o71f w.params), by kernel_rfl, by show (Hf w.params).get? 71 = _; kernel_rfl, by kernel_rfl, by kernel_rfl⟩
  ok := fnOk_is (by kernel_rfl)
theorem b72e (P : Params) (v0 : Value) : bindArgs (fdOf (o72f P)) ⟨[v0], []⟩ = pure ((fArgs (st 19)).zip [v0]) := by kernel_rfl
theorem b72 (w : World) (s : Shared) (vals : List Value) (h : vals.length = 1) : BindsAt w (fdOf (o72f w.params)) vals ((fArgs (st 19)).zip vals) s := by
  match vals, h with
  | [v0], _ => exact bindsOf (b72e _ v0)
theorem f80 (w : World) : FnIs (KK w) 80 (o80f w.params) (fdOf (o80f w.params)) 20 where
  at' := by show (Hf w.params).get? 80 = _; kernel_rfl
  data := by kernel_rfl
  body := by kernel_rfl
  scope := by kernel_rfl
  clo := by kernel_rfl
  glob := by kernel_rfl
  blt := by kernel_rfl
  code := ⟨79, o79f w.params, fieldsOf (o79f w.params), tokOf (o79f w.params), by kernel_rfl, by show (Hf w.params).get? 79 = _; kernel_rfl, by kernel_rfl, by kernel_rfl⟩
  ok := fnOk_is (by kernel_rfl)
theorem f93 (w : World) : FnIs (KK w) 93 (o93f w.params) (fdOf (o93f w.params)) 24 where
  at' := by show (Hf w.params).get? 93 = _; kernel_rfl
  data := by kernel_rfl
  body := by kernel_rfl
  scope := by kernel_rfl
  clo := by kernel_rfl
  glob := by kernel_rfl
  blt := by kernel_rfl
  code := ⟨92, o92f w.params, fieldsOf (o92f w.params), tokOf (o92f w.params), by kernel_rfl, by show (Hf w.params).get? 92 = _; kernel_rfl, by kernel_rfl, by kernel_rfl⟩
  ok := fnOk_is (by kernel_rfl)
theorem f100 (w : World) : FnIs (KK w) 100 (o100f w.params) (fdOf (o100f w.params)) 26 where
  at' := by show (Hf w.params).get? 100 = _; kernel_rfl
  data := by kernel_rfl
  body := by kernel_rfl
  scope := by kernel_rfl
  clo := by kernel_rfl
  glob := by kernel_rfl
  blt := by kernel_rfl
  code := ⟨99, o99f w.params, fieldsOf (o99f w.params), tokOf (o99f w.params), by kernel_rfl, by show (Hf w.params).get? 99 = _; kernel_rfl, by kernel_rfl, by kernel_rfl⟩
  ok := fnOk_is (by kernel_rfl)
theorem b100e (P : Params) (v0 v1 : Value) : bindArgs (fdOf (o100f P)) ⟨[v0, v1], []⟩ = pure ((fArgs (st 26)).zip [v0, v1]) := by kernel_rfl
theorem b100 (w : World) (s : Shared) (vals : List Value) (h : vals.length = 2) : BindsAt w (fdOf (o100f w.params)) vals ((fArgs (st 26)).zip vals) s := by
  match vals, h with
  | [v0, v1], _ => exact bindsOf (b100e _ v0 v1)
theorem f105 (w : World) : FnIs (KK w) 105 (o105f w.params) (fdOf (o105f w.params)) 28 where
  at' := by show (Hf w.params).get? 105 = _; kernel_rfl
  data := by kernel_rfl
  body := by kernel_rfl
  scope := by kernel_rfl
  clo := by kernel_rfl
  glob := by kernel_rfl
  blt := by kernel_rfl
  code := ⟨104, o104f w.params, fieldsOf (o104f w.params), tokOf (o104f w.params), by kernel_rfl, by show (Hf w.params).get? 104 = _; kernel_rfl, by kernel_rfl, by kernel_rfl⟩
  ok := fnOk_is (by kernel_rfl)
theorem b105e (P : Params) (v0 : Value) : bindArgs (fdOf (o105f P)) ⟨[v0], []⟩ = pure ((fArgs (st 28)).zip [v0]) := by kernel_rfl
theorem b105 (w : World) (s : Shared) (vals : List Value) (h : vals.length = 1) : BindsAt w (fdOf (o105f w.params)) vals ((fArgs (st 28)).zip vals) s := by
  match vals, h with
  | [v0], _ => exact bindsOf (b105e _ v0)
theorem f112 (w : World) : FnIs (KK w) 112 (o112f w.params) (fdOf (o112f w.params)) 29 where
  at' := by show (Hf w.params).get? 112 = _; kernel_rfl
  data := by kernel_rfl
  body := by kernel_rfl
  scope := by kernel_rfl
  clo := by kernel_rfl
  glob := by kernel_rfl
  blt := by kernel_rfl
  code := ⟨111, o111f w.params, fieldsOf (o111f w.params), tokOf (o111f w.params), by kernel_rfl, by show (Hf w.params).get? 111 = _; kernel_rfl, by kernel_rfl, by kernel_rfl⟩
  ok := fnOk_is (by kernel_rfl)
theorem b112e (P : Params) (v0 : Value) : bindArgs (fdOf (o112f P)) ⟨[v0], []⟩ = pure ((fArgs (st 29)).zip [v0]) := by kernel_rfl
theorem b112 (w : World) (s : Shared) (vals : List Value) (h : vals.length = 1) : BindsAt w (fdOf (o112f w.params)) vals ((fArgs (st 29)).zip vals) s := by
  match vals, h with
  | [v0], _ => exact bindsOf (b112e _ v0)
theorem f117 (w : World) : FnIs (KK w) 117 (o117f w.params) (fdOf (o117f w.params)) 30 where
  at' := by show (Hf w.params).get? 117 = _; kernel_rfl
  data := by kernel_rfl
  body := by kernel_rfl
  scope := by kernel_rfl
  clo := by kernel_rfl
  glob := by kernel_rfl
  blt := by kernel_rfl
  code := ⟨116, o116f w.params, fieldsOf (o116f w.params), tokOf (o116f w.params), by kernel_rfl, by show (Hf w.params).get? 116 = _; kernel_rfl, by kernel_rfl, by kernel_rfl⟩
  ok := fnOk_is (by kernel_rfl)
theorem b117e (P : Params) (v0 v1 : Value) : bindArgs (fdOf (o117f P)) ⟨[v0, v1], []⟩ = pure ((fArgs (st 30)).zip [v0, v1]) := by kernel_rfl
theorem b117 (w : World) (s : Shared) (vals : List Value) (h : vals.length = 2) : BindsAt w (fdOf (o117f w.params)) vals ((fArgs (st 30)).zip vals) s := by
  match vals, h with
  | [v0, v1], _ => exact bindsOf (b117e _ v0 v1)
theorem f124 (w : World) : FnIs (KK w) 124 (o124f w.params) (fdOf (o124f w.params)) 31 where
  at' := by show (Hf w.params).get? 124 = _; kernel_rfl
  data := by kernel_rfl
  body := by kernel_rfl
  scope := by kernel_rfl
  clo := by kernel_rfl
  glob := by kernel_rfl
  blt := by kernel_rfl
  code := ⟨123, o123f w.params, fieldsOf (o123f w.params), tokOf (o123f w.params), by kernel_rfl, by show (Hf w.params).get? 123 = _; kernel_rfl, by kernel_rfl, by kernel_rfl⟩
  ok := fnOk_is (by kernel_rfl)
theorem b124e (P : Params) (v0 : Value) : bindArgs (fdOf (o124f P)) ⟨[v0], []⟩ = pure ((fArgs (st 31)).zip [v0]) := by kernel_rfl
theorem b124 (w : World) (s : Shared) (vals : List Value) (h : vals.length = 1) : BindsAt w (fdOf (o124f w.params)) vals ((fArgs (st 31)).zip vals) s := by
  match vals, h with
  | [v0], _ => exact bindsOf (b124e _ v0)
theorem f129 (w : World) : FnIs (KK w) 129 (o129f w.params) (fdOf (o129f w.params)) 32 where
  at' := by show (Hf w.params).get? 129 = _; kernel_rfl
  data := by kernel_rfl
  body := by kernel_rfl
  scope := by kernel_rfl
  clo := by kernel_rfl
  glob := by kernel_rfl
  blt := by kernel_rfl
  code := ⟨128, o128f w.params, fieldsOf (o128f w.params), tokOf (o128f w.params), by kernel_rfl, by show (Hf w.params).get? 128 = _; kernel_rfl, by kernel_rfl, by kernel_rfl⟩
  ok := fnOk_is (by kernel_rfl)
theorem b129e (P : Params) (v0 : Value) : bindArgs (fdOf (o129f P)) ⟨[v0], []⟩ = pure ((fArgs (st 32)).zip [v0]) := by kernel_rfl
theorem b129 (w : World) (s : Shared) (vals : List Value) (h : vals.length = 1) : BindsAt w (fdOf (o129f w.params)) vals ((fArgs (st 32)).zip vals) s := by
  match vals, h with
  | [v0], _ => exact bindsOf (b129e _ v0)
theorem f134 (w : World) : FnIs (KK w) 134 (o134f w.params) (fdOf (o134f w.params)) 33 where
  at' := by show (Hf w.params).get? 134 = _; kernel_rfl
  data := by kernel_rfl
  body := by kernel_rfl
  scope := by kernel_rfl
  clo := by kernel_rfl
  glob := by kernel_rfl
  blt := by kernel_rfl
  code := ⟨133, o133f w.params, fieldsOf (o133f w.params), tokOf (o133f w.params), by kernel_rfl, by show (Hf w.params).get? 133 = _; kernel_rfl, by kernel_rfl, by kernel_rfl⟩
  ok := fnOk_is (by kernel_rfl)
theorem b134e (P : Params) (v0 : Value) : bindArgs (fdOf (o134f P)) ⟨[v0], []⟩ = pure ((fArgs (st 33)).zip [v0]) := by kernel_rfl
theorem b134 (w : World) (s : Shared) (vals : List Value) (h : vals.length = 1) : BindsAt w (fdOf (o134f w.params)) vals ((fArgs (st 33)).zip vals) s := by
  match vals, h with
  | [v0], _ => exact bindsOf (b134e _ v0)
theorem f139 (w : World) : FnIs (KK w) 139 (o139f w.params) (fdOf (o139f w.params)) 34 where
  at' := by show (Hf w.params).get? 139 = _; kernel_rfl
  data := by kernel_rfl
  body := by kernel_rfl
  scope := by kernel_rfl
  clo := by kernel_rfl
  glob := by kernel_rfl
  blt := by kernel_rfl
  code := ⟨138, o138f w.params, fieldsOf (o138f w.params), tokOf (o138f w.params), by kernel_rfl, by show (Hf w.params).get? 138 = _; kernel_rfl, by kernel_rfl, by kernel_rfl⟩
  ok := fnOk_is (by kernel_rfl)
theorem b139e (P : Params) (v0 v1 : Value) : bindArgs (fdOf (o139f P)) ⟨[v0, v1], []⟩ = pure ((fArgs (st 34)).zip [v0, v1]) := by kernel_rfl
theorem b139 (w : World) (s : Shared) (vals : List Value) (h : vals.length = 2) : BindsAt w (fdOf (o139f w.params)) vals ((fArgs (st 34)).zip vals) s := by
  match vals, h with
  | [v0, v1], _ => exact bindsOf (b139e _ v0 v1)
theorem f144 (w : World) : FnIs (KK w) 144 (o144f w.params) (fdOf (o144f w.params)) 35 where
  at' := by show (Hf w.params).get? 144 = _; kernel_rfl
  data := by kernel_rfl
  body := by kernel_rfl
  scope := by kernel_rfl
  clo := by kernel_rfl
  glob := by kernel_rfl
  blt := by kernel_rfl
  code := ⟨143, o143f w.params, fieldsOf (o143f w.params), tokOf (o143f w.params), by kernel_rfl, by show (Hf w.params).get? 143 = _; kernel_rfl, by kernel_rfl, by kernel_rfl⟩
  ok := fnOk_is (by kernel_rfl)
theorem b144e (P : Params) (v0 : Value) : bindArgs (fdOf (o144f P)) ⟨[v0], []⟩ = pure ((fArgs (st 35)).zip [v0]) := by kernel_rfl
theorem b144 (w : World) (s : Shared) (vals : List Value) (h : vals.length = 1) : BindsAt w (fdOf (o144f w.params)) vals ((fArgs (st 35)).zip vals) s := by
  match vals, h with
  | [v0], _ => exact bindsOf (b144e _ v0)
theorem f149 (w : World) : FnIs (KK w) 149 (o149f w.params) (fdOf (o149f w.params)) 36 where
  at' := by show (Hf w.params).get? 149 = _; kernel_rfl
  data := by kernel_rfl
  body := by kernel_rfl
  scope := by kernel_rfl
  clo := by kernel_rfl
  glob := by kernel_rfl
  blt := by kernel_rfl
  code := ⟨148, o148f w.params, fieldsOf (o148f w.params), tokOf (o148f w.params), by kernel_rfl, by show (Hf w.params).get? 148 = _; kernel_rfl, by kernel_rfl, by kernel_rfl⟩
  ok := fnOk_is (by kernel_rfl)
theorem b149e (P : Params) (v0 : Value) : bindArgs (fdOf (o149f P)) ⟨[v0], []⟩ = pure ((fArgs (st 36)).zip [v0]) := by kernel_rfl
theorem b149 (w : World) (s : Shared) (vals : List Value) (h : vals.length = 1) : BindsAt w (fdOf (o149f w.params)) vals ((fArgs (st 36)).zip vals) s := by
  match vals, h with
  | [v0], _ => exact bindsOf (b149e _ v0)
theorem f154 (w : World) : FnIs (KK w) 154 (o154f w.params) (fdOf (o154f w.params)) 37 where
  at' := by show (Hf w.params).get? 154 = _; kernel_rfl
  data := by kernel_rfl
  body := by kernel_rfl
  scope := by kernel_rfl
  clo := by kernel_rfl
  glob := by kernel_rfl
  blt := by kernel_rfl
  code := ⟨153, o153f w.params, fieldsOf (o153f w.params), tokOf (o153f w.params), by kernel_rfl, by show (Hf w.params).get? 153 = _; kernel_rfl, by kernel_rfl, by kernel_rfl⟩
  ok := fnOk_is (by kernel_rfl)
theorem b154e (P : Params) (v0 : Value) : bindArgs (fdOf (o154f P)) ⟨[v0], []⟩ = pure ((fArgs (st 37)).zip [v0]) := by kernel_rfl
theorem b154 (w : World) (s : Shared) (vals : List Value) (h : vals.length = 1) : BindsAt w (fdOf (o154f w.params)) vals ((fArgs (st 37)).zip vals) s := by
  match vals, h with
  | [v0], _ => exact bindsOf (b154e _ v0)
theorem f161 (w : World) : FnIs (KK w) 161 (o161f w.params) (fdOf (o161f w.params)) 38 where
  at' := by show (Hf w.params).get? 161 = _; kernel_rfl
  data := by kernel_rfl
  body := by kernel_rfl
  scope := by kernel_rfl
  clo := by kernel_rfl
  glob := by kernel_rfl
  blt := by kernel_rfl
  code := ⟨160, o160f w.params, fieldsOf (o160f w.params), tokOf (o160f w.params), by kernel_rfl, by show (Hf w.params).get? 160 = _; kernel_rfl, by kernel_rfl, by kernel_rfl⟩
  ok := fnOk_is (by kernel_rfl)
theorem b161e (P : Params) (v0 v1 : Value) : bindArgs (fdOf (o161f P)) ⟨[v0, v1], []⟩ = pure ((fArgs (st 38)).zip [v0, v1]) := by kernel_rfl
theorem b161 (w : World) (s : Shared) (vals : List Value) (h : vals.length = 2) : BindsAt w (fdOf (o161f w.params)) vals ((fArgs (st 38)).zip vals) s := by
  match vals, h with
  | [v0, v1], _ => exact bindsOf (b161e _ v0 v1)
theorem f166 (w : World) : FnIs (KK w) 166 (o166f w.params) (fdOf (o166f w.params)) 39 where
  at' := by show (Hf w.params).get? 166 = _; kernel_rfl
  data := by kernel_rfl
  body := by kernel_rfl
  scope := by kernel_rfl
  clo := by kernel_rfl
  glob := by kernel_rfl
  blt := by kernel_rfl
  code := ⟨165, o165f w.params, fieldsOf (o165f w.params), tokOf (o165f w.params), by kernel_rfl, by show (Hf w.params).get? 165 = _; kernel_rfl, by kernel_rfl, by kernel_rfl⟩
  ok := fnOk_is (by kernel_rfl)
theorem b166e (P : Params) (v0 : Value) : bindArgs (fdOf (o166f P)) ⟨[v0], []⟩ = pure ((fArgs (st 39)).zip [v0]) := by kernel_rfl
theorem b166 (w : World) (s : Shared) (vals : List Value) (h : vals.length = 1) : BindsAt w (fdOf (o166f w.params)) vals ((fArgs (st 39)).zip vals) s := by
  match vals, h with
  | [v0], _ => exact bindsOf (b166e _ v0)
theorem f173 (w : World) : FnIs (KK w) 173 (o173f w.params) (fdOf (o173f w.params)) 40 where
  at' := by show (Hf w.params).get? 173 = _; kernel_rfl
  data := by kernel_rfl
  body := by kernel_rfl
  scope := by kernel_rfl
  clo := by kernel_rfl
  glob := by kernel_rfl
  blt := by kernel_rfl
  code := ⟨172, o172f w.params, fieldsOf (o172f w.params), tokOf (o172f w.params), by kernel_rfl, by show (Hf w.params).get? 172 = _; kernel_rfl, by kernel_rfl, by kernel_rfl⟩
  ok := fnOk_is (by kernel_rfl)
theorem b173e (P : Params) (v0 : Value) : bindArgs (fdOf (o173f P)) ⟨[v0], []⟩ = pure ((fArgs (st 40)).zip [v0]) := by kernel_rfl
theorem b173 (w : World) (s : Shared) (vals : List Value) (h : vals.length = 1) : BindsAt w (fdOf (o173f w.params)) vals ((fArgs (st 40)).zip vals) s := by
  match vals, h with
  | [v0], _ => exact bindsOf (b173e _ v0)
theorem f178 (w : World) : FnIs (KK w) 178 (o178f w.params) (fdOf (o178f w.params)) 41 where
  at' := by show (Hf w.params).get? 178 = _; kernel_rfl
  data := by kernel_rfl
  body := by kernel_rfl
  scope := by kernel_rfl
  clo := by kernel_rfl
  glob := by kernel_rfl
  blt := by kernel_rfl
  code := ⟨177, o177f w.params, fieldsOf (o177f w.params), tokOf (o177f w.params), by kernel_rfl, by show (Hf w.params).get? 177 = _; kernel_rfl, by kernel_rfl, by kernel_rfl⟩
  ok := fnOk_is (by kernel_rfl)
theorem b178e (P : Params) (v0 : Value) : bindArgs (fdOf (o178f P)) ⟨[v0], []⟩ = pure ((fArgs (st 41)).zip [v0]) := by kernel_rfl
theorem b178 (w : World) (s : Shared) (vals : List Value) (h : vals.length = 1) : BindsAt w (fdOf (o178f w.params)) vals ((fArgs (st 41)).zip vals) s := by
  match vals, h with
  | [v0], _ => exact bindsOf (b178e _ v0)
theorem f183 (w : World) : FnIs (KK w) 183 (o183f w.params) (fdOf (o183f w.params)) 42 where
  at' := by show (Hf w.params).get? 183 = _; kernel_rfl
  data := by kernel_rfl
  body := by kernel_rfl
  scope := by kernel_rfl
  clo := by kernel_rfl
  glob := by kernel_rfl
  blt := by kernel_rfl
  code := ⟨182, o182f w.params, fieldsOf (o182f w.params), tokOf (o182f w.params), by kernel_rfl, by show (Hf w.params).get? 182 = _; kernel_rfl, by kernel_rfl, by kernel_rfl⟩
  ok := fnOk_is (by kernel_rfl)
theorem b183e (P : Params) (v0 : Value) : bindArgs (fdOf (o183f P)) ⟨[v0], []⟩ = pure ((fArgs (st 42)).zip [v0]) := by kernel_rfl
theorem b183 (w : World) (s : Shared) (vals : List Value) (h : vals.length = 1) : BindsAt w (fdOf (o183f w.params)) vals ((fArgs (st 42)).zip vals) s := by
  match vals, h with
  | [v0], _ => exact bindsOf (b183e _ v0)
theorem f188 (w : World) : FnIs (KK w) 188 (o188f w.params) (fdOf (o188f w.params)) 43 where
  at' := by show (Hf w.params).get? 188 = _; kernel_rfl
  data := by kernel_rfl
  body := by kernel_rfl
  scope := by kernel_rfl
  clo := by kernel_rfl
  glob := by kernel_rfl
  blt := by kernel_rfl
  code := ⟨187, o187f w.params, fieldsOf (o187f w.params), tokOf (o187f w.params), by kernel_rfl, by show (Hf w.params).get? 187 = _; kernel_rfl, by kernel_rfl, by kernel_rfl⟩
  ok := fnOk_is (by kernel_rfl)
theorem b188e (P : Params) (v0 : Value) : bindArgs (fdOf (o188f P)) ⟨[v0], []⟩ = pure ((fArgs (st 43)).zip [v0]) := by kernel_rfl
theorem b188 (w : World) (s : Shared) (vals : List Value) (h : vals.length = 1) : BindsAt w (fdOf (o188f w.params)) vals ((fArgs (st 43)).zip vals) s := by
  match vals, h with
  | [v0], _ => exact bindsOf (b188e _ v0)
theorem f195 (w : World) : FnIs (KK w) 195 (o195f w.params) (fdOf (o195f w.params)) 44 where
  at' := by show (Hf w.params).get? 195 = _; kernel_rfl
  data := by kernel_rfl
  body := by kernel_rfl
  scope := by kernel_rfl
  clo := by kernel_rfl
  glob := by kernel_rfl
  blt := by kernel_rfl
  code := ⟨194, o194f w.params, fieldsOf (o194f w.params), tokOf (o194f w.params), by kernel_rfl, by show (Hf w.params).get? 194 = _; kernel_rfl, by kernel_rfl, by kernel_rfl⟩
  ok := fnOk_is (by kernel_rfl)
theorem b195e (P : Params) (v0 : Value) : bindArgs (fdOf (o195f P)) ⟨[v0], []⟩ = pure ((fArgs (st 44)).zip [v0]) := by kernel_rfl
theorem b195 (w : World) (s : Shared) (vals : List Value) (h : vals.length = 1) : BindsAt w (fdOf (o195f w.params)) vals ((fArgs (st 44)).zip vals) s := by
  match vals, h with
  | [v0], _ => exact bindsOf (b195e _ v0)
noncomputable def contOf {α : Type} : Sem α → Obj → Sem α
  | .load _ _ k, o => k o
  | t, _ => t
noncomputable def isLoad {α : Type} (a : Addr) : Sem α → Bool
  | .load b _ _ => b == a
  | _ => false
theorem wp_loaded {α : Type} {M : Model} {A : Around} {E : Value → Shared → Prop} {s : Shared} {Q : α → Shared → Prop} {t : Sem α} {a : Addr} {o : Obj} (ht : isLoad a t = true) (ho : s.heap.get? a = some o) (h : wpAny M A (contOf t o) Q E s) : wpAny M A t Q E s := by
  cases t <;> simp only [isLoad, Bool.false_eq_true, beq_iff_eq] at ht
  subst ht
  exact fun Γ p hΓ => ⟨o, ho, h Γ p hΓ⟩
theorem k73 (P : Params) : (Hf P).get? 73 = some (o73f P) := by kernel_rfl
theorem k86 (P : Params) : (Hf P).get? 86 = some (o86f P) := by kernel_rfl
noncomputable def val0 (o : Obj) : Value := match o.data with
  | .seq xs _ => xs.getD 0 .none
  | _ => .none
theorem dh1 (P : Params) (v : Value) : isLoad 73 (bindArgs (fdOf (o80f P)) ⟨[v], []⟩) = true := by kernel_rfl
theorem dh2 (P : Params) (v : Value) : contOf (bindArgs (fdOf (o80f P)) ⟨[v], []⟩) (o73f P) = pure ((fArgs (st 20)).zip [v, val0 (o73f P)]) := by kernel_rfl
theorem dh3 (P : Params) (v u : Value) : isLoad 73 (bindArgs (fdOf (o80f P)) ⟨[v, u], []⟩) = true := by kernel_rfl
theorem dh4 (P : Params) (v u : Value) : contOf (bindArgs (fdOf (o80f P)) ⟨[v, u], []⟩) (o73f P) = pure ((fArgs (st 20)).zip [v, u]) := by kernel_rfl
theorem dd1 (P : Params) (v : Value) : isLoad 86 (bindArgs (fdOf (o93f P)) ⟨[v], []⟩) = true := by kernel_rfl
theorem dd2 (P : Params) (v : Value) : contOf (bindArgs (fdOf (o93f P)) ⟨[v], []⟩) (o86f P) = pure ((fArgs (st 24)).zip [v, val0 (o86f P)]) := by kernel_rfl
noncomputable def isStrV (v : Value) (x : Str) : Bool := match v with
  | .str y _ => y == x
  | _ => false
theorem isStrV_is {v : Value} {x : Str} (h : isStrV v x = true) {g : Gh} {α : List Addr} : Rd g α v (.str x) := by
  cases v <;> simp only [isStrV, Bool.false_eq_true, beq_iff_eq] at h
  subst h; exact .str _ _
theorem vh (P : Params) : isStrV (val0 (o73f P)) (Str.ofString "iso-8859-1") = true := by kernel_rfl
theorem vd (P : Params) : isStrV (val0 (o86f P)) ⟨#[10]⟩ = true := by kernel_rfl
end Mine
end
section
open PySem PySem.W PyProof.Rows
set_option autoImplicit false
namespace Mine
/-! runs in the form of a last state that fits -/
noncomputable def WS (T : Tbl) (ow : List Str) (n : Nat) (sc : Scope) (σ : Sg) (μ : Mu) (sts : List Stmt) (Q : Fl × Sg × Mu → Prop) : Prop := ∃ r, XSs T ow n sc σ μ sts r ∧ Q r
section
variable {T : Tbl} {n : Nat} {sc : Scope} {σ σ1 σ2 : Sg} {μ μ1 μ2 μ3 μ4 : Mu} {ow : List Str} {Q : Fl × Sg × Mu → Prop}
theorem look_more {x : Str} {d : D} : ∀ (l S : Sg), l.lookup x = some d → (l ++ S).lookup x = some d
  | [], S, h => by cases h
  | (y, e) :: l, S, h => by
    rw [List.cons_append, List.lookup_cons]
    rw [List.lookup_cons] at h
    cases hxy : x == y with
    | true => rw [hxy] at h; exact h
    | false => rw [hxy] at h; exact look_more l S h
/-- names that are not needed are let go -/
theorem wLess {sts : List Stmt} (l S : Sg) (h : WS T ow n sc l μ sts Q) : WS T ow n sc (l ++ S) μ sts Q := by
  obtain ⟨r, a, b⟩ := h
  exact ⟨r, sLess (fun x d => look_more l S) a, b⟩
theorem wNil (h : Q (.next, σ, μ)) : WS T ow (n + 1) sc σ μ [] Q := ⟨_, sNil, h⟩
theorem wNext {st : Stmt} {rest : List Stmt} (h1 : XS T ow n sc σ μ st (.next, σ1, μ1)) (h2 : WS T ow n sc σ1 μ1 rest Q) : WS T ow (n + 1) sc σ μ (st :: rest) Q := by
  obtain ⟨r, h, q⟩ := h2
  exact ⟨r, sNext h1 h, q⟩
theorem wRet {st : Stmt} {rest : List Stmt} {d : D} (h1 : XS T ow n sc σ μ st (.ret d, σ1, μ1)) (q : Q (.ret d, σ1, μ1)) : WS T ow (n + 1) sc σ μ (st :: rest) Q := ⟨_, sRet h1, q⟩
theorem wCont {p : Pos} {rest : List Stmt} (q : Q (.cont, σ, μ)) : WS T ow (n + 2) sc σ μ (.Continue p :: rest) Q := ⟨_, sCont tContS, q⟩
theorem wBrk {p : Pos} {rest : List Stmt} (q : Q (.brk, σ, μ)) : WS T ow (n + 2) sc σ μ (.Break p :: rest) Q := ⟨_, sBrk tBrkS, q⟩
/-- a branch, whose end goes on or leaves -/
theorem wIf {t : Expr} {b o : List Stmt} {p : Pos} {rest : List Stmt} {c : Bool} (h : XT T n sc σ μ t (c, μ1)) (h2 : WS T ow n sc σ μ1 (if c then b else o) fun r => match r.1 with
    | .next => WS T ow (n + 1) sc r.2.1 r.2.2 rest Q
    | _ => Q r) : WS T ow (n + 2) sc σ μ (.If t b o p :: rest) Q := by
  obtain ⟨⟨f, σ', μ'⟩, h3, q⟩ := h2
  have e : XS T ow (n + 1) sc σ μ (.If t b o p) (f, σ', μ') := tIf h h3
  cases f with
  | next => exact wNext e q
  | brk => exact ⟨_, sBrk e, q⟩
  | cont => exact ⟨_, sCont e, q⟩
  | ret d => exact ⟨_, sRet e, q⟩
theorem loopW {test : Sg → Mu → Bool × Mu → Prop} {body : Sg → Mu → Fl × Sg × Mu → Prop} {Q : Sg → Mu → Prop} (R : Nat → Sg → Mu → Prop)
    (step : ∀ f σ μ, R f σ μ → ∃ t, test σ μ (t, μ) ∧ (t = true → ∃ r, body σ μ r ∧ (match r.1 with
      | .next => ∃ f', f' < f ∧ R f' r.2.1 r.2.2
      | .cont => ∃ f', f' < f ∧ R f' r.2.1 r.2.2
      | .brk => Q r.2.1 r.2.2
      | .ret _ => False)) ∧ (t = false → Q σ μ)) : ∀ (k f : Nat) (σ : Sg) (μ : Mu), R f σ μ → f < k → ∃ σ' μ', LW test body k σ μ (.next, σ', μ') ∧ Q σ' μ'
  | 0, f, σ, μ, _, h => absurd h (Nat.not_lt_zero _)
  | k + 1, f, σ, μ, hR, hk => by
    obtain ⟨t, ht, hb, hq⟩ := step f σ μ hR
    cases t with
    | false => exact ⟨σ, μ, ⟨(false, μ), ht, rfl⟩, hq rfl⟩
    | true =>
      obtain ⟨⟨fl, σ1, μ1⟩, e, h2⟩ := hb rfl
      cases fl with
      | next =>
        obtain ⟨f', h3, h4⟩ := h2
        obtain ⟨σ', μ', h5, h6⟩ := loopW R step k f' σ1 μ1 h4 (by lia)
        exact ⟨σ', μ', ⟨(true, μ), ht, (.next, σ1, μ1), e, h5⟩, h6⟩
      | brk => exact ⟨σ1, μ1, ⟨(true, μ), ht, (.brk, σ1, μ1), e, rfl⟩, h2⟩
      | cont =>
        obtain ⟨f', h3, h4⟩ := h2
        obtain ⟨σ', μ', h5, h6⟩ := loopW R step k f' σ1 μ1 h4 (by lia)
        exact ⟨σ', μ', ⟨(true, μ), ht, (.cont, σ1, μ1), e, h5⟩, h6⟩
      | ret d => exact absurd h2 id
theorem wWhile {t : Expr} {b : List Stmt} {p : Pos} {rest : List Stmt} (I : Sg → Mu → Prop) (R : Nat → Sg → Mu → Prop) {f : Nat} (h0 : R f σ μ) (hf : f < 200)
    (step : ∀ f σ μ, R f σ μ → ∃ c, XT T n sc σ μ t (c, μ) ∧ (c = true → WS T ow n sc σ μ b (fun r => match r.1 with
      | .next => ∃ f', f' < f ∧ R f' r.2.1 r.2.2
      | .cont => ∃ f', f' < f ∧ R f' r.2.1 r.2.2
      | .brk => I r.2.1 r.2.2
      | .ret _ => False)) ∧ (c = false → I σ μ)) (hI : ∀ σ μ, I σ μ → WS T ow (n + 1) sc σ μ rest Q) : WS T ow (n + 2) sc σ μ (.While t b [] p :: rest) Q := by
  obtain ⟨σ', μ', h, q⟩ := loopW (test := fun σ μ => XT T n sc σ μ t) (body := fun σ μ => XSs T ow n sc σ μ b) (Q := I) R step 200 f σ μ h0 hf
  exact wNext (tWhile h) (hI _ _ q)
theorem loopF {bind : D → Sg → Option Sg} {body : Sg → Mu → Fl × Sg × Mu → Prop} {Q : D → Sg → Mu → Prop} (R : List D → Sg → Mu → Prop)
    (step : ∀ d l σ μ, R (d :: l) σ μ → ∃ σ1, bind d σ = some σ1 ∧ ∃ r, body σ1 μ r ∧ (match r.1 with
      | .next => R l r.2.1 r.2.2
      | .cont => R l r.2.1 r.2.2
      | .brk => False
      | .ret d => Q d r.2.1 r.2.2)) : ∀ (l : List D) (σ : Sg) (μ : Mu), R l σ μ → ∃ r, LF bind body l σ μ r ∧ (match r.1 with
      | .next => R [] r.2.1 r.2.2
      | .ret d => Q d r.2.1 r.2.2
      | _ => False)
  | [], σ, μ, h => ⟨_, rfl, h⟩
  | d :: l, σ, μ, h => by
    obtain ⟨σ1, h1, ⟨fl, σ2, μ2⟩, h2, h3⟩ := step d l σ μ h
    cases fl with
    | next =>
      obtain ⟨r, h4, h5⟩ := loopF (Q := Q) R step l σ2 μ2 h3
      exact ⟨r, ⟨σ1, (.next, σ2, μ2), h1, h2, h4⟩, h5⟩
    | brk => exact absurd h3 id
    | cont =>
      obtain ⟨r, h4, h5⟩ := loopF (Q := Q) R step l σ2 μ2 h3
      exact ⟨r, ⟨σ1, (.cont, σ2, μ2), h1, h2, h4⟩, h5⟩
    | ret d => exact ⟨_, ⟨σ1, (.ret d, σ2, μ2), h1, h2, rfl⟩, h3⟩
theorem wFor {t i : Expr} {b : List Stmt} {p : Pos} {rest : List Stmt} {l : List D} (R : List D → Sg → Mu → Prop) (hi : XIt T n sc σ μ i (l, μ1)) (h0 : R l σ μ1)
    (step : ∀ d l σ μ, R (d :: l) σ μ → ∃ σ1, bindT sc t d σ = some σ1 ∧ WS T ow n sc σ1 μ b fun r => match r.1 with
      | .next => R l r.2.1 r.2.2
      | .cont => R l r.2.1 r.2.2
      | .brk => False
      | .ret d => Q r) (hI : ∀ σ μ, R [] σ μ → WS T ow (n + 1) sc σ μ rest Q) : WS T ow (n + 2) sc σ μ (.For t i b [] p :: rest) Q := by
  obtain ⟨⟨fl, σ', μ'⟩, h, q⟩ := loopF (bind := bindT sc t) (body := fun σ μ => XSs T ow n sc σ μ b) (Q := fun d σ μ => Q (.ret d, σ, μ)) R (fun d l σ μ hR => by
    obtain ⟨σ1, h1, r, h2, h3⟩ := step d l σ μ hR
    refine ⟨σ1, h1, r, h2, ?_⟩
    obtain ⟨fl, s2, m2⟩ := r
    cases fl <;> exact h3) l σ μ1 h0
  cases fl <;> dsimp only at q
  · exact wNext (tFor hi h) (hI _ _ q)
  · exact ⟨_, sRet (tFor hi h), q⟩
end
theorem outD_plain {d : D} (h : D.plain d = true) (σ : Sg) (μ : Mu) : outD (.ret d, σ, μ) = some d := by
  show (match onOwn d some with | some k => (ownOf μ k).map D.list | none => if D.plain d = true then some d else none) = _
  cases q : onOwn d some with
  | none => exact if_pos h
  | some k => obtain ⟨_, rfl, _⟩ := onOwn_inv q; cases h
theorem runOf {T : Tbl} {ow : List Str} {i : Nat} {ds : List D} {d : D} (h : WS T ow 40 (fScope (st i)) (sg i ds) [] (fBody (st i)) fun r => r.1 = .ret d) (hp : D.plain d = true) : RunF T ow i ds d := by
  obtain ⟨⟨fl, σ', μ'⟩, h1, h2⟩ := h
  cases (h2 : fl = _)
  exact ⟨_, h1, outD_plain hp _ _⟩
theorem runOfM {T : Tbl} {i : Nat} {cs ds cs' : List D} (h : WS T [] 40 (fScope (st i)) (sg i (.own 0 :: ds)) [some cs] (fBody (st i)) fun r => r.1 = .next ∧ r.2.2 = [some cs']) : RunM T i cs ds .nil cs' := by
  obtain ⟨⟨fl, σ', μ'⟩, h1, h2, h3⟩ := h
  cases (h2 : fl = _)
  cases (h3 : μ' = _)
  exact ⟨_, h1, rfl, rfl⟩
theorem runOfR {T : Tbl} {i : Nat} {cs ds cs' : List D} {d : D} (hp : D.plain d = true) (h : WS T [] 40 (fScope (st i)) (sg i (.own 0 :: ds)) [some cs] (fBody (st i)) fun r => r.1 = .ret d ∧ r.2.2 = [some cs']) : RunM T i cs ds d cs' := by
  obtain ⟨⟨fl, σ', μ'⟩, h1, h2, h3⟩ := h
  cases (h2 : fl = _)
  cases (h3 : μ' = _)
  exact ⟨_, h1, if_pos hp, rfl⟩
end Mine
end
section
open PySem PySem.W PyProof.Rows
set_option autoImplicit false
namespace Mine
/-! octets and texts as data -/
noncomputable def octs (l : List Nat) : List D := l.map fun (o : Nat) => D.int (o : Int)
noncomputable def strD (l : List Str) : List D := l.map .str
noncomputable def octs? : List D → Option (List Nat)
  | [] => some []
  | d :: r => onInt d fun i => if 0 ≤ i ∧ i < 256 then (octs? r).map (i.toNat :: ·) else none
theorem plains_map {β : Type} {f : β → D} (h : ∀ a, D.plain (f a) = true) : ∀ l : List β, D.plains (l.map f) = true
  | [] => rfl
  | a :: l => (Bool.and_eq_true _ _).mpr ⟨h a, plains_map h l⟩
theorem plains1 {d : D} (h : D.plain d = true) : D.plains [d] = true := (Bool.and_eq_true _ _).mpr ⟨h, rfl⟩
theorem plains2 {d e : D} (h : D.plain d = true) (k : D.plain e = true) : D.plains [d, e] = true := (Bool.and_eq_true _ _).mpr ⟨h, plains1 k⟩
noncomputable def AllO (l : List Nat) : Prop := ∀ o ∈ l, o < 256
theorem octs?_octs : ∀ {l : List Nat}, AllO l → octs? (octs l) = some l
  | [], _ => rfl
  | o :: l, h => by
    have h0 := h o (by simp)
    have := octs?_octs (l := l) fun x hx => h x (by simp [hx])
    show (if (0 : Int) ≤ (o : Int) ∧ (o : Int) < 256 then (octs? (octs l)).map ((o : Int).toNat :: ·) else none) = _
    rw [if_pos (by lia), this]; simp
theorem octs?_is : ∀ {xs : List D} {l : List Nat}, octs? xs = some l → xs = octs l ∧ AllO l
  | [], l, h => by cases h; exact ⟨rfl, fun _ h => absurd h List.not_mem_nil⟩
  | x :: xs, l, h => by
    obtain ⟨i, rfl, h⟩ := onInt_inv h
    obtain ⟨hc, h⟩ := iteSomeP h
    obtain ⟨l', h1, rfl⟩ := mapSome h
    obtain ⟨a, b⟩ := octs?_is h1
    refine ⟨List.cons_eq_cons.mpr ⟨congrArg D.int (Int.toNat_of_nonneg hc.1).symm, a⟩, fun o ho => ?_⟩
    obtain rfl | ho := List.mem_cons.mp ho
    · exact (Int.toNat_lt hc.1).mpr hc.2
    · exact b o ho
theorem octs_plain (l : List Nat) : D.plains (octs l) = true := plains_map (fun _ => rfl) l
theorem strD_plain (l : List Str) : D.plains (strD l) = true := plains_map (fun _ => rfl) l
theorem allStrs_strs (l : List Str) : allStrs (strD l) = some l := by
  induction l with
  | nil => rfl
  | cons o l ih => exact (congrArg (Option.map (o :: ·)) ih).trans rfl
theorem allInts_octs (l : List Nat) : allInts (octs l) = some (l.map fun (o : Nat) => (o : Int)) := by
  induction l with
  | nil => rfl
  | cons o l ih => exact (congrArg (Option.map ((o : Int) :: ·)) ih).trans rfl
theorem octets_of {l : List Nat} (h : AllO l) : octets? (l.map fun (o : Nat) => (o : Int)) = some l := by
  induction l with
  | nil => rfl
  | cons o l ih =>
    have h0 := h o (by simp)
    simp only [List.map_cons, octets?]
    rw [if_pos (by lia), if_pos (by lia), ih fun x hx => h x (by simp [hx])]
    simp
noncomputable def rankO (o : Nat) : Nat := (hdrSign o).cps.toList.headD 0 * 256 + o
noncomputable def body (l : List Nat) : List Nat := joinS (l.map hdrSign)
noncomputable def writ (l : List Nat) : Str := ⟨((Str.ofString "=?iso-8859-1?q?").cps.toList ++ body l ++ (Str.ofString "?=").cps.toList).toArray⟩
theorem hdr_len : ((List.range 256).all fun o => decide (1 ≤ (hdrSign o).cps.toList.length) && decide ((hdrSign o).cps.toList.length ≤ 3) && (hdrSign o).cps.toList.all fun c => plainSign c && decide (c < 127)) = true := by decide +kernel
theorem hdrLen {o : Nat} (h : o < 256) : 1 ≤ (hdrSign o).length ∧ (hdrSign o).length ≤ 3 ∧ ∀ c ∈ (hdrSign o).cps.toList, plainSign c = true ∧ c < 127 := by
  have := List.all_eq_true.mp hdr_len o (by simpa using h)
  simp only [Bool.and_eq_true, decide_eq_true_eq, List.all_eq_true] at this
  refine ⟨by simpa [Str.length] using this.1.1, by simpa [Str.length] using this.1.2, this.2⟩
theorem body_len : ∀ {l : List Nat}, AllO l → (body l).length ≤ 3 * l.length
  | [], _ => by simp [body, joinS]
  | o :: l, h => by
    have a := (hdrLen (h o (by simp))).2.1
    have b := body_len (l := l) fun x hx => h x (by simp [hx])
    simp only [body, List.map_cons, joinS, List.length_append, List.length_cons] at b ⊢
    have e : (hdrSign o).cps.toList.length = (hdrSign o).length := by simp [Str.length]
    lia
/-! the sign of an octet -/
/-! the writing of some octets -/
theorem join_strs {l : List Str} (hl : l.length ≤ 1000) (h : ∀ x ∈ l, x.length ≤ 1000) {μ : Mu} : methE (.str (Str.ofString "")) (Str.ofString "join") [.list (strD l)] μ = some (.str ⟨(joinS l).toArray⟩, μ) := by
  have e : methD (.str (Str.ofString "")) (Str.ofString "join") [.list (strD l)] = (if (Str.ofString "").length = 0 then (allStrs (strD l)).bind fun l' => if (strD l).length ≤ 1000 then if l'.all (fun x => decide (x.length ≤ 1000)) then some (.str ⟨(joinS l').toArray⟩) else none else none else none) := by kernel_rfl
  show (methD _ _ _).map _ = _
  rw [e, if_pos (by rfl), allStrs_strs, Option.bind_some, if_pos (by simpa [strD] using hl), if_pos (by simpa using h)]
  rfl
theorem written_run (T : Tbl) (hT : ∀ o : Nat, o < 256 → Calls T 124 [.int (o : Int)] (.str (hdrSign o))) {l : List Nat} (h : AllO l) (hl : l.length ≤ 100) : RunF T [] 32 [.list (octs l)] (.str (writ l)) := by
  have hb := body_len h
  have main : XSs T [] 40 (fScope (st 32)) (sg 32 [.list (octs l)]) [] (fBody (st 32)) (.ret (.str (writ l)), sg 32 [.list (octs l)], []) := by
    refine sRet (tRet (xBin (xBin (d := .str (Str.ofString "=?iso-8859-1?q?" ++ ⟨(joinS (l.map hdrSign)).toArray⟩)) xStr (xMeth (d := .str ⟨(joinS (l.map hdrSign)).toArray⟩) (μ3 := []) ?_ xStr rfl (xEs (xLC (lComp (f := fun d => match d with | .int i => .str (hdrSign i.toNat) | _ => .nil) (B := fun d => [(Str.ofString "octet", d)]) ?_ (itGen ?_ (xName ?_ rfl) rfl) ?_ ?_ ?_ ?_)) xEs0) ?_) ?_) xStr ?_))
    · exact ⟨fun _ _ => rfl, by kernel_rfl⟩
    · kernel_rfl
    · kernel_rfl
    · kernel_rfl
    · intro d _; kernel_rfl
    · intro d' _ d _; kernel_rfl
    · intro d hd
      obtain ⟨o, ho, rfl⟩ := List.mem_map.mp hd
      refine xFn (by kernel_rfl) (by kernel_rfl) (xEs (xName (by kernel_rfl) rfl) xEs0) (hT o (h o ho) _)
    · simp [octs]; lia
    · have e : ((octs l).map fun d => (match d with | .int i => D.str (hdrSign i.toNat) | _ => .nil)) = strD (l.map hdrSign) := by
        simp [octs, strD]
      rw [e]
      exact join_strs (by simp; lia) (fun x hx => by
        obtain ⟨o, ho, rfl⟩ := List.mem_map.mp hx
        have := (hdrLen (h o ho)).2.1; lia)
    · show (if _ then _ else _) = _
      rw [if_pos]
      simp only [Bool.and_eq_true, decide_eq_true_eq]
      refine ⟨by decide, ?_⟩
      show (joinS (l.map hdrSign)).toArray.size ≤ 1000
      have : (joinS (l.map hdrSign)).length ≤ 3 * l.length := hb
      simp; lia
    · show (if _ then _ else _) = _
      rw [if_pos]
      · congr 2
        apply str_ext
        simp [writ, body, Str.cps_append]
      · simp only [Bool.and_eq_true, decide_eq_true_eq]
        refine ⟨?_, by decide⟩
        show ((Str.ofString "=?iso-8859-1?q?") ++ (⟨(joinS (l.map hdrSign)).toArray⟩ : Str)).length ≤ 1000
        rw [app_len]
        have : (joinS (l.map hdrSign)).length ≤ 3 * l.length := hb
        have e1 : (Str.ofString "=?iso-8859-1?q?").length = 15 := by rfl
        have e2 : (⟨(joinS (l.map hdrSign)).toArray⟩ : Str).length = (joinS (l.map hdrSign)).length := by simp [Str.length]
        lia
  exact ⟨_, main, rfl⟩
end Mine
end
section
open PySem PySem.W PyProof.Rows
set_option autoImplicit false
namespace Mine
/-! the operators, as they are -/
section
variable {x y : Int} {xs : List D} {s u : Str} {lo hi : Option Int} {k : Int}
theorem mult_int : binD .Mult (.int x) (.int y) = if (small x && small y) = true then some (.int (x * y)) else none := rfl
theorem mult_list : binD .Mult (.list xs) (.int k) = if (decide (0 ≤ k) && decide (k ≤ 64) && decide (xs.length ≤ 64)) = true then some (.list (List.replicate k.toNat xs).flatten) else none := rfl
theorem div_int : binD .FloorDiv (.int x) (.int y) = if y = 0 then none else if small y = true then some (.int (x.fdiv y)) else none := rfl
theorem mod_int : binD .Mod (.int x) (.int y) = if y = 0 then none else some (.int (x.fmod y)) := rfl
theorem pow_int : binD .Pow (.int x) (.int y) = if (decide (0 ≤ y) && decide (y ≤ 64) && small x) = true then some (.int (x ^ y.toNat)) else none := rfl
theorem shr_int : binD .RShift (.int x) (.int y) = if (decide (0 ≤ y) && decide (y ≤ 64)) = true then some (.int (x.fdiv (2 ^ y.toNat))) else none := rfl
theorem add_strs : binD .Add (.str s) (.str u) = if (decide (s.length ≤ 1000) && decide (u.length ≤ 1000)) = true then some (.str (s ++ u)) else none := rfl
theorem add_lists' {ys : List D} : binD .Add (.list xs) (.list ys) = if (decide (xs.length ≤ 1000) && decide (ys.length ≤ 1000)) = true then some (.list (xs ++ ys)) else none := rfl
theorem sl_str (h : s.length ≤ 100000) : sliceD (.str s) lo hi none = some (.str ⟨(cutL s.cps.toList lo hi).toArray⟩) := (if_pos h).trans (if_pos rfl)
theorem sl_list (h : xs.length ≤ 100000) : sliceD (.list xs) lo hi none = some (.list (cutL xs lo hi)) := (if_pos h).trans (if_pos rfl)
theorem sl_four (h : xs.length ≤ 100000) (h0 : 0 ≤ k) : sliceD (.list xs) (some k) none (some 4) = some (.list ((sliceRange (max 0 (min k xs.length)) xs.length 4).filterMap (xs[·]?))) := (if_pos h).trans ((if_neg nofun).trans ((if_pos ⟨rfl, rfl⟩).trans (if_pos h0)))
end
/-! small facts on data -/
theorem lenO (l : List Nat) (h : l.length ≤ 1000) {μ : Mu} : biD μ "len" [.list (octs l)] = some (.int (l.length : Int)) := by
  show (if (octs l).length ≤ 1000000 then some (D.int ((octs l).length : Int)) else none) = _
  have : (octs l).length = l.length := by simp [octs]
  rw [this, if_pos (by lia)]
theorem subO {l : List Nat} {j : Nat} (h : j < l.length) (hl : l.length ≤ 1000) {μ : Mu} : subD μ (.list (octs l)) (.int (j : Int)) = some (.int ((l.getD j 0 : Nat) : Int)) := by
  show (if (octs l).length ≤ 100000 then at? (octs l) (j : Int) else none) = _
  have e : (octs l).length = l.length := by simp [octs]
  rw [if_pos (by rw [e]; lia)]
  unfold at?
  rw [if_pos (Int.natCast_nonneg j)]
  simp [octs, h]
theorem modN {a b : Nat} (h : 0 < b) : binD .Mod (.int (a : Int)) (.int (b : Int)) = some (.int ((a % b : Nat) : Int)) := by
  rw [mod_int, if_neg (by lia)]
  congr 2
  rw [Int.fmod_eq_emod_of_nonneg _ (by lia)]
  simp
theorem addN {a b : Nat} : binD .Add (.int (a : Int)) (.int (b : Int)) = some (.int ((a + b : Nat) : Int)) := by
  show some (D.int ((a : Int) + (b : Int))) = _
  congr 2
theorem intsFrom_mem : ∀ {n : Nat} {lo : Nat} {d : D}, d ∈ intsFrom (lo : Int) n → ∃ i : Nat, lo ≤ i ∧ i < lo + n ∧ d = .int (i : Int)
  | 0, lo, d, h => by simp [intsFrom] at h
  | n + 1, lo, d, h => by
    rcases List.mem_cons.mp h with rfl | h
    · exact ⟨lo, Nat.le_refl _, by lia, rfl⟩
    · obtain ⟨i, a, b, c⟩ := intsFrom_mem (n := n) (lo := lo + 1) (by simpa using h)
      exact ⟨i, by lia, by lia, c⟩
theorem intsFrom_eq (n : Nat) : intsFrom 0 n = octs (List.range n) := by
  have : ∀ (n lo : Nat), intsFrom (lo : Int) n = octs (List.range' lo n) := by
    intro n
    induction n with
    | zero => intro lo; rfl
    | succ n ih =>
      intro lo
      rw [List.range'_succ]
      show D.int (lo : Int) :: intsFrom ((lo : Int) + 1) n = _
      have := ih (lo + 1)
      rw [show ((lo : Int) + 1) = ((lo + 1 : Nat) : Int) by lia, this]
      rfl
  have h := this n 0
  simpa [List.range_eq_range'] using h
/-! ranks -/
theorem hdr_head {o : Nat} (h : o < 256) : ∃ c r, (hdrSign o).cps.toList = c :: r ∧ c < 127 ∧ rankO o = c * 256 + o := by
  have := hdrLen h
  cases e : (hdrSign o).cps.toList with
  | nil => simp [Str.length] at this; rw [show (hdrSign o).cps = #[] from Array.toList_eq_nil_iff.mp e] at this; simp at this
  | cons c r => exact ⟨c, r, rfl, (this.2.2 c (by rw [e]; simp)).2, by unfold rankO; rw [e]; rfl⟩
theorem ranks_run (T : Tbl) (hT : ∀ o : Nat, o < 256 → Calls T 124 [.int (o : Int)] (.str (hdrSign o))) {l : List Nat} (h : AllO l) (hl : l.length ≤ 100) : RunF T [] 33 [.list (octs l)] (.list (octs (l.map rankO))) := by
  have main : XSs T [] 40 (fScope (st 33)) (sg 33 [.list (octs l)]) [] (fBody (st 33)) (.ret (.list ((octs l).map fun d => match d with | .int i => .int ((rankO i.toNat : Nat) : Int) | _ => .nil)), sg 33 [.list (octs l)], []) := by
    refine sRet (tRet (xLC (lComp (B := fun d => [(Str.ofString "octet", d)]) ?_ (itGen ?_ (xName ?_ rfl) rfl) ?_ ?_ ?_ ?_)))
    · kernel_rfl
    · kernel_rfl
    · kernel_rfl
    · intro d _; kernel_rfl
    · intro d' _ d _; kernel_rfl
    · intro d hd
      obtain ⟨o, ho, rfl⟩ := List.mem_map.mp hd
      obtain ⟨c, rr, e1, e2, e3⟩ := hdr_head (h o ho)
      have hlen := hdrLen (h o ho)
      refine xBin (a := .int ((c * 256 : Nat) : Int)) (b := .int (o : Int)) (xBin (a := .int (c : Int)) (b := .int 256) (xBi (id := "ord") (by kernel_rfl) (by kernel_rfl) (xEs (xItem (a := .str (hdrSign o)) (b := .int 0) (d := .str ⟨#[c]⟩) ?_ (xFn (a := 124) (by kernel_rfl) (by kernel_rfl) (xEs (xName (by kernel_rfl) rfl) xEs0) (hT o (h o ho) _)) xInt ?_) xEs0) rfl) xInt ?_) (xName (by kernel_rfl) rfl) ?_
      · rfl
      · show (if (hdrSign o).length ≤ 100000 then (at? (hdrSign o).cps.toList 0).map fun c => D.str ⟨#[c]⟩ else none) = _
        rw [if_pos (by lia), e1]; rfl
      · refine mult_int.trans ?_
        rw [if_pos (by simp [small]; lia)]
        congr 2
      · rw [addN]
        simp only [Int.toNat_natCast, Option.some.injEq, D.int.injEq]
        rw [e3]
    · simp [octs]; lia
  have e : ((octs l).map fun d => (match d with | .int i => D.int ((rankO i.toNat : Nat) : Int) | _ => .nil)) = octs (l.map rankO) := by simp [octs]
  rw [e] at main
  exact ⟨_, main, outD_plain (d := .list _) (octs_plain _) _ _⟩
/-! three_way_cmp -/
noncomputable def sgn3 (a b : List Nat) : Int := if b < a then 1 else if a < b then -1 else 0
section
variable {p q p' q' e : Prop} [Decidable p] [Decidable q] [Decidable p'] [Decidable q'] [Decidable e] {μ : Mu} {a b : D} {o : Ordering}
theorem ordL : ordIs .Lt (o3 p q) = some (decide p) := congrArg some (Bool.eq_iff_iff.mpr (beq_iff_eq.trans (o3_lt.trans decide_eq_true_iff.symm)))
theorem ordG (h : p → ¬ q) : ordIs .Gt (o3 p q) = some (decide q) := congrArg some (Bool.eq_iff_iff.mpr (beq_iff_eq.trans ((o3_gt h).trans decide_eq_true_iff.symm)))
theorem ordE (h : ¬ p ∧ ¬ q ↔ e) : ordIs .Eq (o3 p q) = some (decide e) := congrArg some (Bool.eq_iff_iff.mpr (beq_iff_eq.trans (o3_eq.trans (h.trans decide_eq_true_iff.symm))))
theorem ordN (h : ¬ p ∧ ¬ q ↔ e) : ordIs .NotEq (o3 p q) = some (!decide e) := congrArg (fun b : Bool => some (!b)) (Option.some.inj (ordE h))
theorem o3_congr (h1 : p ↔ p') (h2 : q ↔ q') : o3 p q = o3 p' q' := by
  have h1 := propext h1
  have h2 := propext h2
  subst h1 h2
  congr
theorem o3_then (h : p → ¬ q) (he : ¬ p ∧ ¬ q ↔ e) : (o3 p q).then (o3 p' q') = o3 (p ∨ e ∧ p') (q ∨ e ∧ q') := by
  by_cases hp : p
  · rw [o3_lt.mpr hp]; exact (o3_lt.mpr (.inl hp)).symm
  · by_cases hq : q
    · have : ¬ e := fun x => (he.mpr x).2 hq
      rw [(o3_gt h).mpr hq]
      exact ((o3_gt (fun x => x.elim (fun a => absurd a hp) fun a => absurd a.1 this)).mpr (.inl hq)).symm
    · have hx := he.mp ⟨hp, hq⟩
      rw [o3_eq.mpr ⟨hp, hq⟩]
      exact o3_congr ⟨fun a => .inr ⟨hx, a⟩, fun a => a.elim (fun a => absurd a hp) And.right⟩ ⟨fun a => .inr ⟨hx, a⟩, fun a => a.elim (fun a => absurd a hq) And.right⟩
theorem cmps_then {x y : D} {xs ys : List D} {o2 : Ordering} (h1 : D.cmp x y = some o) (h2 : D.cmps xs ys = some o2) : D.cmps (x :: xs) (y :: ys) = some (o.then o2) := by
  cases o with
  | eq => exact (cmps_go h1 h2)
  | lt => exact cmps_stop nofun h1
  | gt => exact cmps_stop nofun h1
theorem cmpLt (ha : flatD a = true) (hb : flatD b = true) (h : D.cmp a b = some o) : cmpD μ .Lt a b = ordIs .Lt o := by
  show (if (flatD a && flatD b) = true then (D.cmp a b).bind (ordIs .Lt) else none) = _
  rw [ha, hb, h]; rfl
theorem cmpGt (ha : flatD a = true) (hb : flatD b = true) (h : D.cmp a b = some o) : cmpD μ .Gt a b = ordIs .Gt o := by
  show (if (flatD a && flatD b) = true then (D.cmp a b).bind (ordIs .Gt) else none) = _
  rw [ha, hb, h]; rfl
theorem cmpEq (ha : eqOk 10 a = true) (hb : eqOk 10 b = true) (h : D.cmp a b = some o) : cmpD μ .Eq a b = ordIs .Eq o := by
  show (if (eqOk 10 a && eqOk 10 b) = true then (D.cmp a b).bind (ordIs .Eq) else none) = _
  rw [ha, hb, h]; rfl
theorem cmpNe (ha : eqOk 10 a = true) (hb : eqOk 10 b = true) (h : D.cmp a b = some o) : cmpD μ .NotEq a b = ordIs .NotEq o := by
  show (if (eqOk 10 a && eqOk 10 b) = true then (D.cmp a b).bind (ordIs .NotEq) else none) = _
  rw [ha, hb, h]; rfl
theorem intEq3 {a b : Int} : ¬ a < b ∧ ¬ b < a ↔ a = b := ⟨fun h => Int.le_antisymm (Int.not_lt.mp h.2) (Int.not_lt.mp h.1), fun h => h ▸ ⟨Int.lt_irrefl _, Int.lt_irrefl _⟩⟩
theorem listEq3 {a b : List Nat} : ¬ a < b ∧ ¬ b < a ↔ a = b := ⟨fun h => natsEq h.1 h.2, fun h => h ▸ ⟨List.lt_irrefl _, List.lt_irrefl _⟩⟩
end
theorem strCmp {x y : Str} (hx : PyData.strOk x = true) (hy : PyData.strOk y = true) {μ : Mu} : cmpD μ .Gt (.str x) (.str y) = some (decide (y.cps.toList < x.cps.toList)) ∧ cmpD μ .Lt (.str x) (.str y) = some (decide (x.cps.toList < y.cps.toList)) :=
  ⟨(cmpGt (a := .str x) (b := .str y) hx hy rfl).trans (ordG str_asym), (cmpLt (a := .str x) (b := .str y) hx hy rfl).trans ordL⟩
theorem twc_run (T : Tbl) {x y : Str} (hx : PyData.strOk x = true) (hy : PyData.strOk y = true) : RunF T [] 26 [.str x, .str y] (.int (sgn3 x.cps.toList y.cps.toList)) := by
  obtain ⟨h1, h2⟩ := strCmp hx hy (μ := [])
  have main : XSs T [] 40 (fScope (st 26)) (sg 26 [.str x, .str y]) [] (fBody (st 26)) (.ret (.int (b2 (decide (y.cps.toList < x.cps.toList)) - b2 (decide (x.cps.toList < y.cps.toList)))), sg 26 [.str x, .str y], []) := by
    refine sRet (tRet (xBin (xCmp ?_ (xName ?_ ?_) (xName ?_ ?_) h1) (xCmp ?_ (xName ?_ ?_) (xName ?_ ?_) h2) ?_)) <;> first | rfl | kernel_rfl
  refine ⟨_, main, ?_⟩
  show some (D.int _) = some (D.int _)
  congr 2
  unfold sgn3 b2
  by_cases a : y.cps.toList < x.cps.toList
  · have : ¬ x.cps.toList < y.cps.toList := fun h => List.lt_irrefl _ (List.lt_trans a h)
    simp [a, this]
  · by_cases b : x.cps.toList < y.cps.toList <;> simp [a, b]
/-! reads -/
noncomputable def readN (l : List Nat) (p : Nat) : List Nat := (List.range 6).map fun i => l.getD ((p + i) % l.length) 0
theorem read_run (T : Tbl) {l : List Nat} {p : Nat} (h0 : 0 < l.length) (hl : l.length ≤ 100) : RunF T [] 34 [.list (octs l), .int (p : Int)] (.list (octs (readN l p))) := by
  have main : XSs T [] 40 (fScope (st 34)) (sg 34 [.list (octs l), .int (p : Int)]) [] (fBody (st 34)) (.ret (.list ((intsFrom 0 6).map fun d => match d with | .int i => .int ((l.getD ((p + i.toNat) % l.length) 0 : Nat) : Int) | _ => .nil)), sg 34 [.list (octs l), .int (p : Int)], []) := by
    refine sRet (tRet (xLC (lComp (B := fun d => [(Str.ofString "place", .int (p : Int)), (Str.ofString "word", .list (octs l)), (Str.ofString "step", d)]) ?_ (itGen (d := .rng 0 6) ?_ (xTy (id := "range") (ds := [.int 6]) ?_ ?_ (xEs xInt xEs0) ?_) ?_) ?_ ?_ ?_ ?_)))
    · kernel_rfl
    · kernel_rfl
    · kernel_rfl
    · kernel_rfl
    · kernel_rfl
    · kernel_rfl
    · intro d _; kernel_rfl
    · intro d' _ d _; kernel_rfl
    · intro d hd
      obtain ⟨i, _, _, rfl⟩ := intsFrom_mem (lo := 0) hd
      refine xItem (a := .list (octs l)) (b := .int (((p + i) % l.length : Nat) : Int)) rfl (xName (by kernel_rfl) rfl) (xBin (a := .int ((p + i : Nat) : Int)) (b := .int (l.length : Int)) (xBin (a := .int (p : Int)) (b := .int (i : Int)) (xName (by kernel_rfl) rfl) (xName (by kernel_rfl) rfl) addN) (xBi (id := "len") (by kernel_rfl) (by kernel_rfl) (xEs (xName (by kernel_rfl) rfl) xEs0) (lenO l (by lia))) (modN h0)) ?_
      rw [subO (Nat.mod_lt _ h0) (by lia)]
      simp
    · decide
  have e : ((intsFrom 0 6).map fun d => (match d with | .int i => D.int ((l.getD ((p + i.toNat) % l.length) 0 : Nat) : Int) | _ => .nil)) = octs (readN l p) := by
    rw [intsFrom_eq]; simp [octs, readN]
  rw [e] at main
  exact ⟨_, main, outD_plain (d := .list _) (octs_plain _) _ _⟩
end Mine
end
section
set_option autoImplicit false
namespace Mine
/-! heaps, with no program in sight -/
structure Tot {α : Type} (lt : α → α → Bool) : Prop where
  irr : ∀ a, lt a a = false
  tr : ∀ a b c, lt a b = true → lt b c = true → lt a c = true
  tot : ∀ a b, lt a b = false → lt b a = false → a = b
noncomputable def Le {α : Type} (lt : α → α → Bool) (a b : α) : Prop := lt b a = false
section
variable {α : Type} {lt : α → α → Bool}
theorem Tot.le_refl (h : Tot lt) (a : α) : Le lt a a := h.irr a
theorem Tot.le_trans (h : Tot lt) {a b c : α} (h1 : Le lt a b) (h2 : Le lt b c) : Le lt a c := by
  unfold Le at *
  cases e : lt c a with
  | false => rfl
  | true =>
    cases e2 : lt a b with
    | true => rw [h.tr _ _ _ e e2] at h2; cases h2
    | false => obtain rfl := h.tot a b e2 h1; rw [e] at h2; cases h2
theorem Tot.antisymm (h : Tot lt) {a b : α} (h1 : Le lt a b) (h2 : Le lt b a) : a = b := h.tot a b h2 h1
theorem Tot.lt_le (h : Tot lt) {a b : α} (h1 : lt a b = true) : Le lt a b := by
  unfold Le
  cases e : lt b a with
  | false => rfl
  | true => have := h.tr _ _ _ h1 e; rw [h.irr] at this; cases this
theorem Tot.sorted_unique (h : Tot lt) {l1 l2 : List α} (s1 : l1.Pairwise (Le lt)) (s2 : l2.Pairwise (Le lt)) (p : l1.Perm l2) : l1 = l2 :=
  List.Perm.eq_of_pairwise (le := Le lt) (fun a b _ _ h1 h2 => h.antisymm h1 h2) s1 s2 p
variable [Inhabited α]
noncomputable def gt (V : List α) (i : Nat) : α := V.getD i default
theorem gt_of {V : List α} {i : Nat} (h : i < V.length) : gt V i = V[i] := by simp [gt, h]
theorem gt_set (V : List α) (i j : Nat) (x : α) (hi : i < V.length) : gt (V.set i x) j = if j = i then x else gt V j := by
  unfold gt
  by_cases h : j = i
  · subst h; simp [hi]
  · simp [h, Ne.symm h]
noncomputable def sw (V : List α) (i j : Nat) : List α := (V.set i (gt V j)).set j (gt V i)
theorem sw_len (V : List α) (i j : Nat) : (sw V i j).length = V.length := by simp [sw]
theorem gt_sw (V : List α) {i j : Nat} (k : Nat) (hi : i < V.length) (hj : j < V.length) : gt (sw V i j) k = if k = j then gt V i else if k = i then gt V j else gt V k := by
  unfold sw
  rw [gt_set _ _ _ _ (by simpa using hj), gt_set _ _ _ _ hi]
theorem sw_perm (V : List α) {i j : Nat} (hi : i < V.length) (hj : j < V.length) : (sw V i j).Perm V := by
  unfold sw
  rw [gt_of hi, gt_of hj]
  exact List.set_set_perm hi hj
noncomputable def Edge (p i : Nat) : Prop := i = 2 * p + 1 ∨ i = 2 * p + 2
inductive Desc (s : Nat) : Nat → Prop
  | refl : Desc s s
  | step {p i : Nat} : Desc s p → Edge p i → Desc s i
theorem Desc.ge {s i : Nat} (h : Desc s i) : s ≤ i := by
  induction h with
  | refl => exact Nat.le_refl _
  | step _ e ih => unfold Edge at e; lia
theorem Desc.zero : ∀ i, Desc 0 i := by
  intro i
  induction i using Nat.strongRecOn with
  | ind i ih =>
    cases i with
    | zero => exact .refl
    | succ i => exact .step (ih (i / 2) (by lia)) (by unfold Edge; lia)
theorem Desc.up {s i : Nat} (h : Desc s i) (hs : s < i) : Desc s ((i - 1) / 2) ∧ Edge ((i - 1) / 2) i ∧ s ≤ (i - 1) / 2 := by
  cases h with
  | refl => exact absurd hs (Nat.lt_irrefl _)
  | @step p _ h e =>
    have : p = (i - 1) / 2 := by unfold Edge at e; lia
    subst this
    exact ⟨h, e, h.ge⟩
theorem edge_inj {p q i : Nat} (h : Edge p i) (h2 : Edge q i) : p = q := by unfold Edge at *; lia
theorem edge_lt {p i : Nat} (h : Edge p i) : p < i := by unfold Edge at *; lia
variable (lt)
noncomputable def Hp (s : Nat) (V : List α) : Prop := ∀ p i, Edge p i → s ≤ p → i < V.length → Le lt (gt V p) (gt V i)
structure InvD (s : Nat) (V : List α) (pos : Nat) : Prop where
  inb : pos < V.length
  desc : Desc s pos
  edge : ∀ p i, Edge p i → s ≤ p → i < V.length → i ≠ pos → Le lt (gt V p) (gt V i)
  grand : ∀ p c, Edge p pos → s ≤ p → Edge pos c → c < V.length → Le lt (gt V p) (gt V c)
structure InvU (s : Nat) (V : List α) (pos : Nat) : Prop where
  inb : pos < V.length
  desc : Desc s pos
  edge : ∀ p i, Edge p i → s ≤ p → i < V.length → i ≠ pos → p ≠ pos → Le lt (gt V p) (gt V i)
  grand : ∀ p c, Edge p pos → s ≤ p → Edge pos c → c < V.length → Le lt (gt V p) (gt V c)
/-- the way up -/
noncomputable def sdL (s : Nat) : Nat → List α → Nat → List α
  | 0, V, _ => V
  | f + 1, V, p => if s < p ∧ lt (gt V p) (gt V ((p - 1) / 2)) = true then sdL s f (sw V p ((p - 1) / 2)) ((p - 1) / 2) else V
noncomputable def pick (V : List α) (p : Nat) : Nat := if 2 * p + 2 < V.length ∧ lt (gt V (2 * p + 1)) (gt V (2 * p + 2)) = false then 2 * p + 2 else 2 * p + 1
/-- the way down to a leaf -/
noncomputable def suL : Nat → List α → Nat → List α × Nat
  | 0, V, p => (V, p)
  | f + 1, V, p => if 2 * p + 1 < V.length then suL f (sw V p (pick lt V p)) (pick lt V p) else (V, p)
variable {lt}
theorem sdL_len (s f : Nat) : ∀ (V : List α) (p : Nat), (sdL lt s f V p).length = V.length := by
  induction f with
  | zero => intro V p; rfl
  | succ f ih => intro V p; unfold sdL; split <;> simp [ih, sw_len]
theorem sdL_perm (s f : Nat) : ∀ (V : List α) (p : Nat), p < V.length → (sdL lt s f V p).Perm V := by
  induction f with
  | zero => intro V p h; exact List.Perm.refl _
  | succ f ih =>
    intro V p h
    unfold sdL
    split
    · exact (ih _ _ (by rw [sw_len]; lia)).trans (sw_perm V h (by lia))
    · exact List.Perm.refl _
theorem sdL_heap (h : Tot lt) (s f : Nat) : ∀ (V : List α) (p : Nat), p ≤ f → InvD lt s V p → Hp lt s (sdL lt s f V p) := by
  induction f with
  | zero =>
    intro V p hf I q i e hs hi
    refine I.edge q i e hs hi ?_
    have := edge_lt e
    lia
  | succ f ih =>
    intro V p hf I
    unfold sdL
    split
    · next hc =>
      obtain ⟨hsp, hlt⟩ := hc
      obtain ⟨d1, d2, d3⟩ := I.desc.up hsp
      refine ih _ _ (by lia) ?_
      have hp := I.inb
      have hpp : (p - 1) / 2 < V.length := by lia
      have hne : p ≠ (p - 1) / 2 := by lia
      generalize (p - 1) / 2 = pp at *
      have key : ∀ c, Edge pp c → c < V.length → Le lt (gt V p) (gt (sw V p pp) c) := by
        intro c e hc
        rw [gt_sw _ _ hp hpp]
        rw [if_neg (by have := edge_lt e; lia)]
        split
        · exact h.lt_le hlt
        · next hcp => exact h.le_trans (h.lt_le hlt) (I.edge pp c e d3 hc hcp)
      refine ⟨by simpa [sw_len] using hpp, d1, fun q i e hs hi hne2 => ?_, fun q c e1 hs e2 hc => ?_⟩
      · simp only [sw_len] at hi
        by_cases hq : q = pp
        · subst hq
          have := key i e hi
          rw [gt_sw V q hp hpp, if_pos rfl]
          exact this
        · by_cases hq2 : q = p
          · subst hq2
            rw [gt_sw V q hp hpp, gt_sw V i hp hpp, if_neg hq, if_pos rfl, if_neg hne2, if_neg (by have := edge_lt e; lia)]
            exact I.grand pp i d2 d3 e hi
          · have hip : i ≠ p := fun hh => hq (edge_inj (hh ▸ e) d2)
            rw [gt_sw V q hp hpp, gt_sw V i hp hpp, if_neg hq, if_neg hq2, if_neg hne2, if_neg hip]
            exact I.edge q i e hs hi hip
      · simp only [sw_len] at hc
        have hqp := edge_lt e1
        have hqpp := edge_lt d2
        rw [gt_sw V q hp hpp, if_neg (by lia), if_neg (by lia)]
        have h1 : Le lt (gt V q) (gt V pp) := I.edge q pp e1 hs hpp (Ne.symm hne)
        rw [gt_sw V c hp hpp, if_neg (by have := edge_lt e2; lia)]
        split
        · exact h1
        · next hcp => exact h.le_trans h1 (I.edge pp c e2 d3 hc hcp)
    · next hc =>
      intro q i e hs hi
      by_cases hip : i = p
      · subst hip
        have hsi : s < i := by have := edge_lt e; lia
        have hq : q = (i - 1) / 2 := by unfold Edge at e; lia
        subst hq
        unfold Le
        cases e3 : lt (gt V i) (gt V ((i - 1) / 2)) with
        | false => rfl
        | true => exact absurd ⟨hsi, e3⟩ hc
      · exact I.edge q i e hs hi hip
theorem pick_is (h : Tot lt) (V : List α) (p : Nat) (hc : 2 * p + 1 < V.length) : Edge p (pick lt V p) ∧ pick lt V p < V.length ∧ ∀ c, Edge p c → c < V.length → Le lt (gt V (pick lt V p)) (gt V c) := by
  unfold pick
  split
  · next h1 =>
    refine ⟨.inr rfl, h1.1, fun c e hc => ?_⟩
    rcases e with rfl | rfl
    · exact h1.2
    · exact h.le_refl _
  · next h1 =>
    refine ⟨.inl rfl, hc, fun c e hc2 => ?_⟩
    rcases e with rfl | rfl
    · exact h.le_refl _
    · cases e3 : lt (gt V (2 * p + 1)) (gt V (2 * p + 2)) with
      | false => exact absurd ⟨hc2, e3⟩ h1
      | true => exact h.lt_le e3
theorem suL_is (h : Tot lt) (s f : Nat) : ∀ (V : List α) (p : Nat), V.length - p ≤ f → InvU lt s V p → InvD lt s (suL lt f V p).1 (suL lt f V p).2 ∧ (suL lt f V p).1.Perm V ∧ (suL lt f V p).1.length = V.length := by
  induction f with
  | zero =>
    intro V p hf I
    have := I.inb
    lia
  | succ f ih =>
    intro V p hf I
    unfold suL
    split
    · next hc =>
      obtain ⟨e0, l0, m0⟩ := pick_is h V p hc
      generalize pick lt V p = c at *
      have hp := I.inb
      have hpc := edge_lt e0
      obtain ⟨A, B, C⟩ := ih (sw V p c) c (by rw [sw_len]; lia) ⟨by simpa [sw_len] using l0, .step I.desc e0, fun q i e hs hi hi2 hq2 => by
        simp only [sw_len] at hi
        rw [gt_sw V q hp l0, gt_sw V i hp l0, if_neg hq2, if_neg hi2]
        by_cases hq : q = p
        · subst hq
          rw [if_pos rfl, if_neg (by have := edge_lt e; lia)]
          exact m0 i e hi
        · rw [if_neg hq]
          by_cases hi3 : i = p
          · subst hi3
            rw [if_pos rfl]
            exact I.grand q c e hs e0 l0
          · rw [if_neg hi3]
            exact I.edge q i e hs hi hi3 hq, fun q d e1 hs e2 hd => by
        simp only [sw_len] at hd
        obtain rfl : q = p := edge_inj e1 e0
        have hcd := edge_lt e2
        rw [gt_sw V q hp l0, gt_sw V d hp l0, if_neg (by lia), if_pos rfl, if_neg (by lia), if_neg (by lia)]
        exact I.edge c d e2 (by lia) hd (by lia) (by lia)⟩
      refine ⟨A, B.trans (sw_perm V hp l0), C.trans (by simp [sw_len])⟩
    · next hc =>
      refine ⟨⟨I.inb, I.desc, fun q i e hs hi hi2 => ?_, I.grand⟩, List.Perm.refl _, rfl⟩
      refine I.edge q i e hs hi hi2 fun hq => ?_
      subst hq
      have hi' : i < V.length := hi
      unfold Edge at e; lia
variable (lt)
noncomputable def siftup (V : List α) (s : Nat) : List α := sdL lt s V.length (suL lt V.length V s).1 (suL lt V.length V s).2
noncomputable def push (xs : List α) (x : α) : List α := sdL lt 0 (xs.length + 1) (xs ++ [x]) xs.length
noncomputable def pop (xs : List α) : α × List α := if xs.dropLast = [] then (xs.getLastD default, []) else (gt xs 0, siftup lt (xs.dropLast.set 0 (xs.getLastD default)) 0)
variable {lt}
theorem siftup_is (h : Tot lt) {V : List α} {s : Nat} (I : InvU lt s V s) : Hp lt s (siftup lt V s) ∧ (siftup lt V s).Perm V := by
  obtain ⟨A, B, C⟩ := suL_is h s V.length V s (by lia) I
  refine ⟨sdL_heap h s _ _ _ (by have := A.inb; lia) A, (sdL_perm s _ _ _ A.inb).trans B⟩
theorem gt_app (xs : List α) (x : α) {i : Nat} (hi : i < xs.length) : gt (xs ++ [x]) i = gt xs i := by simp [gt, List.getElem?_append_left hi]
theorem push_is (h : Tot lt) {xs : List α} (H : Hp lt 0 xs) (x : α) : Hp lt 0 (push lt xs x) ∧ (push lt xs x).Perm (x :: xs) := by
  have I : InvD lt 0 (xs ++ [x]) xs.length := ⟨by simp, Desc.zero _, fun p i e hs hi hne => by
    simp only [List.length_append, List.length_cons, List.length_nil] at hi
    have := edge_lt e
    rw [gt_app xs x (by lia), gt_app xs x (by lia)]
    exact H p i e hs (by lia), fun p c e1 hs e2 hc => by
    simp only [List.length_append, List.length_cons, List.length_nil] at hc
    have := edge_lt e2
    lia⟩
  exact ⟨sdL_heap h 0 _ _ _ (by lia) I, (sdL_perm 0 _ _ _ I.inb).trans (List.perm_append_singleton _ _)⟩
theorem Hp.top (h : Tot lt) {V : List α} (H : Hp lt 0 V) : ∀ i, i < V.length → Le lt (gt V 0) (gt V i) := by
  intro i
  induction i using Nat.strongRecOn with
  | ind i ih =>
    intro hi
    cases i with
    | zero => exact h.le_refl _
    | succ i => exact h.le_trans (ih (i / 2) (by lia) (by lia)) (H (i / 2) (i + 1) (by unfold Edge; lia) (by lia) hi)
theorem pop_is (h : Tot lt) {xs : List α} (H : Hp lt 0 xs) (hne : xs ≠ []) : Hp lt 0 (pop lt xs).2 ∧ ((pop lt xs).1 :: (pop lt xs).2).Perm xs ∧ ∀ y ∈ (pop lt xs).2, Le lt (pop lt xs).1 y := by
  obtain ⟨ys, l, rfl⟩ : ∃ ys l, xs = ys ++ [l] := ⟨xs.dropLast, xs.getLast hne, (List.dropLast_concat_getLast hne).symm⟩
  have hl : (ys ++ [l]).getLastD default = l := by simp
  unfold pop
  rw [List.dropLast_concat, hl]
  split
  · next he => subst he; simp only [List.nil_append]; exact ⟨fun p i e hs hi => by simp at hi, List.Perm.refl _, by simp⟩
  · next he =>
    cases ys with
    | nil => exact absurd rfl he
    | cons y ys =>
      have I : InvU lt 0 ((y :: ys).set 0 l) 0 := ⟨by simp, .refl, fun p i e hs hi h1 h2 => by
        simp only [List.set_cons_zero, List.length_cons] at hi ⊢
        have a := H p i e hs (by simp; lia)
        have b := edge_lt e
        cases p with
        | zero => exact absurd rfl h2
        | succ p =>
          cases i with
          | zero => exact absurd rfl h1
          | succ i =>
            rw [gt_app _ _ (by simp; lia), gt_app _ _ (by simp; lia)] at a
            exact a, fun p c e1 => by have := edge_lt e1; lia⟩
      obtain ⟨A, B⟩ := siftup_is h I
      have P : (gt (y :: ys ++ [l]) 0 :: siftup lt ((y :: ys).set 0 l) 0).Perm (y :: ys ++ [l]) := by
        have e : gt (y :: ys ++ [l]) 0 = y := rfl
        rw [e]
        refine (List.Perm.cons y B).trans ?_
        simp only [List.set_cons_zero, List.cons_append]
        exact List.Perm.cons y (List.perm_append_singleton _ _).symm
      refine ⟨A, P, fun z hz => ?_⟩
      have hz' : z ∈ y :: ys ++ [l] := P.subset (List.mem_cons_of_mem _ hz)
      obtain ⟨i, hi, rfl⟩ := List.mem_iff_getElem.mp hz'
      rw [← gt_of hi]
      exact H.top h i hi
variable (lt)
/-- all taken off -/
noncomputable def drain : Nat → List α → List α
  | 0, _ => []
  | n + 1, xs => (pop lt xs).1 :: drain n (pop lt xs).2
noncomputable def filled : List α → List α → List α
  | [], h => h
  | x :: r, h => filled r (push lt h x)
noncomputable def heapd : Nat → List α → List α
  | 0, V => V
  | k + 1, V => heapd k (siftup lt V k)
variable {lt}
theorem drain_is (h : Tot lt) : ∀ (n : Nat) {xs : List α}, Hp lt 0 xs → xs.length = n → (drain lt n xs).Perm xs ∧ (drain lt n xs).Pairwise (Le lt)
  | 0, xs, H, hl => by rw [List.length_eq_zero_iff.mp hl]; exact ⟨List.Perm.refl _, List.Pairwise.nil⟩
  | n + 1, xs, H, hl => by
    obtain ⟨a, b, c⟩ := pop_is h H (fun e => by subst e; simp at hl)
    have hl2 : (pop lt xs).2.length = n := by have := b.length_eq; simp at this; lia
    obtain ⟨d, e⟩ := drain_is h n a hl2
    refine ⟨(List.Perm.cons _ d).trans b, List.Pairwise.cons (fun y hy => c y (d.subset hy)) e⟩
theorem filled_is (h : Tot lt) : ∀ (l : List α) {xs : List α}, Hp lt 0 xs → Hp lt 0 (filled lt l xs) ∧ (filled lt l xs).Perm (l ++ xs)
  | [], xs, H => ⟨H, List.Perm.refl _⟩
  | x :: l, xs, H => by
    obtain ⟨a, b⟩ := push_is h H x
    obtain ⟨c, d⟩ := filled_is h l a
    refine ⟨c, d.trans ?_⟩
    exact (List.Perm.append_left l b).trans List.perm_middle
theorem heapd_is (h : Tot lt) : ∀ (k : Nat) {V : List α}, Hp lt k V → k ≤ V.length → Hp lt 0 (heapd lt k V) ∧ (heapd lt k V).Perm V
  | 0, V, H, _ => ⟨H, List.Perm.refl _⟩
  | k + 1, V, H, hk => by
    have I : InvU lt k V k := ⟨by lia, .refl, fun p i e hs hi h1 h2 => H p i e (by lia) hi, fun p c e hs => by have := edge_lt e; lia⟩
    obtain ⟨a, b⟩ := siftup_is h I
    obtain ⟨c, d⟩ := heapd_is h k a (by rw [b.length_eq]; lia)
    exact ⟨c, d.trans b⟩
theorem Hp.half {V : List α} : Hp lt (V.length / 2) V := fun p i e hs hi => by unfold Edge at e; lia
end
end Mine
end
section
open PySem PySem.W PyProof.Rows
set_option autoImplicit false
namespace Mine
/-! small facts -/
theorem ltI (a b : Int) {μ : Mu} : cmpD μ .Lt (.int a) (.int b) = some (decide (a < b)) := (cmpLt rfl rfl rfl).trans ordL
theorem gtI (a b : Int) {μ : Mu} : cmpD μ .Gt (.int a) (.int b) = some (decide (b < a)) := (cmpGt rfl rfl rfl).trans (ordG Int.lt_asymm)
theorem ltN (a b : Nat) {μ : Mu} : cmpD μ .Lt (.int (a : Int)) (.int (b : Int)) = some (decide (a < b)) := by rw [ltI]; congr 1; simp
theorem gtN (a b : Nat) {μ : Mu} : cmpD μ .Gt (.int (a : Int)) (.int (b : Int)) = some (decide (b < a)) := by rw [gtI]; congr 1; simp
theorem mulN {a b : Nat} (ha : a < 1000000) (hb : b < 1000000) : binD .Mult (.int (a : Int)) (.int (b : Int)) = some (.int ((a * b : Nat) : Int)) := by
  rw [mult_int, if_pos (by simp [small]; lia)]
  congr 2
theorem subN {a b : Nat} (h : b ≤ a) : binD .Sub (.int (a : Int)) (.int (b : Int)) = some (.int ((a - b : Nat) : Int)) := by
  show some (D.int ((a : Int) - (b : Int))) = _
  congr 2; lia
theorem shr1 {a : Nat} : binD .RShift (.int (a : Int)) (.int 1) = some (.int ((a / 2 : Nat) : Int)) := by
  rw [shr_int, if_pos (by decide)]
  congr 2
  show (a : Int).fdiv 2 = _
  rw [Int.fdiv_eq_ediv_of_nonneg _ (by lia)]; lia
theorem divN {a b : Nat} (h : 0 < b) (hb : b < 1000000) : binD .FloorDiv (.int (a : Int)) (.int (b : Int)) = some (.int ((a / b : Nat) : Int)) := by
  rw [div_int, if_neg (by lia), if_pos (by simp [small]; lia)]
  congr 2
  rw [Int.fdiv_eq_ediv_of_nonneg _ (by lia)]; simp
section
variable {α : Type} [Inhabited α] {e : α → D}
theorem gt_map {ys : List α} {q : Nat} (h : q < ys.length) : (ys.map e)[q]? = some (e (gt ys q)) := by simp [gt, h]
theorem subOwn {μ : Mu} {k : Nat} {ys : List α} {q : Nat} (hk : μ[k]? = some (some (ys.map e))) (h : q < ys.length) (hl : ys.length ≤ 100) : subD μ (.own k) (.int (q : Int)) = some (e (gt ys q)) := by
  show ((ownOf μ k).bind fun ds => if 0 ≤ (q : Int) then if ds.length ≤ 100000 then ds[(q : Int).toNat]? else none else none) = _
  rw [ownOf_of hk, Option.bind_some, if_pos (by lia), if_pos (by simp; lia), Int.toNat_natCast, gt_map h]
theorem lenOwn {μ : Mu} {k : Nat} {ys : List α} (hk : μ[k]? = some (some (ys.map e))) (hl : ys.length ≤ 100) : biD μ "len" [.own k] = some (.int (ys.length : Int)) := by
  show ((ownOf μ k).bind fun ds => if ds.length ≤ 1000000 then some (D.int ds.length) else none) = _
  rw [ownOf_of hk, Option.bind_some, if_pos (by simp; lia)]; simp
theorem map_set' (ys : List α) (q : Nat) (x : α) : (ys.map e).set q (e x) = (ys.set q x).map e := by simp [List.map_set]
end
end Mine
end
section
open PySem PySem.W PyProof.Rows
set_option autoImplicit false
namespace Mine
section
variable {α : Type} [Inhabited α] {e : α → D} {lt : α → α → Bool}
theorem sdL_eq (lt : α → α → Bool) (s : Nat) {f q : Nat} (V : List α) (h : q ≤ f) : sdL lt s f V q = if s < q ∧ lt (gt V q) (gt V ((q - 1) / 2)) = true then sdL lt s (f - 1) (sw V q ((q - 1) / 2)) ((q - 1) / 2) else V := by
  cases f with
  | zero => rw [if_neg (by lia)]; rfl
  | succ f => rfl
theorem sdL_fuel (lt : α → α → Bool) (s : Nat) : ∀ (k f q : Nat) (V : List α), q ≤ f → q ≤ k → sdL lt s f V q = sdL lt s k V q := by
  intro k
  induction k with
  | zero => intro f q V h1 h2; rw [sdL_eq lt s V h1, sdL_eq lt s V h2, if_neg (by lia), if_neg (by lia)]
  | succ k ih =>
    intro f q V h1 h2
    rw [sdL_eq lt s V h1, sdL_eq lt s V h2]
    split
    · exact ih _ _ _ (by lia) (by lia)
    · rfl
noncomputable def sh4 (e : α → D) (s q : Nat) (new : α) (S : Sg) : Sg := (Str.ofString "pos", .int (q : Int)) :: (Str.ofString "startpos", .int (s : Int)) :: (Str.ofString "heap", .own 0) :: (Str.ofString "newitem", e new) :: S
noncomputable def pair2 (x y : String) (S : Sg) : Prop := S = [] ∨ ∃ a b, S = [(Str.ofString x, a), (Str.ofString y, b)]
theorem siftdown_run (T : Tbl) (hlt : ∀ μ a b, cmpD μ .Lt (e a) (e b) = some (lt a b)) (hpl : ∀ a, D.plain (e a) = true) {xs : List α} {s p f : Nat} (hp : p < xs.length) (hl : xs.length ≤ 100) (hd : Desc s p) (hf : p ≤ f) :
    RunM T 4 (xs.map e) [.int (s : Int), .int (p : Int)] (.nil) ((sdL lt s f xs p).map e) := by
  have hset : xs.set p (gt xs p) = xs := by rw [gt_of hp]; simp
  have hflen := sdL_fuel lt s p f p xs hf (Nat.le_refl _)
  have main : WS T [] 40 (fScope (st 4)) (sg 4 (.own 0 :: [.int (s : Int), .int (p : Int)])) [some (xs.map e)] (fBody (st 4)) (fun r => r.1 = .next ∧ r.2.2 = [some ((sdL lt s p xs p).map e)]) := by
    refine wNext (tSet ?_ ?_ (xItem (a := .own 0) (b := .int (p : Int)) ?_ (xName ?_ ?_) (xName ?_ ?_) (subOwn (e := e) rfl hp hl))) ?_ <;> try first | rfl | kernel_rfl!
    refine wWhile (f := p) (R := fun f σ μ => ∃ (ys : List α) (q : Nat) (S : Sg), q ≤ f ∧ σ = sh4 e s q (gt xs p) S ∧ μ = [some (ys.map e)] ∧ q < ys.length ∧ ys.length = xs.length ∧ Desc s q ∧ sdL lt s q (ys.set q (gt xs p)) q = sdL lt s p xs p)
      (I := fun σ μ => ∃ (ys : List α) (q : Nat) (S : Sg), σ = sh4 e s q (gt xs p) S ∧ μ = [some (ys.map e)] ∧ q < ys.length ∧ ys.length = xs.length ∧ ys.set q (gt xs p) = sdL lt s p xs p) ?_ ?_ ?_ ?_
    · exact ⟨xs, p, [], Nat.le_refl _, rfl, rfl, hp, rfl, hd, by rw [hset]⟩
    · lia
    · rintro f σ μ ⟨ys, q, S, hq, rfl, rfl, hqy, hyl, hdq, htar⟩
      refine ⟨decide (s < q), ?_, fun hc => ?_, fun hc => ?_⟩
      · refine tCmp ?_ ?_ (xName ?_ ?_) (xName ?_ ?_) (gtN q s) <;> first | rfl | kernel_rfl!
      · have hsq : s < q := by simpa using hc
        obtain ⟨d1, d2, d3⟩ := hdq.up hsq
        have hpp : (q - 1) / 2 < q := by lia
        rw [sdL_eq lt s _ (Nat.le_refl q)] at htar
        have g1 : gt (ys.set q (gt xs p)) q = gt xs p := by rw [gt_set _ _ _ _ hqy, if_pos rfl]
        have g2 : gt (ys.set q (gt xs p)) ((q - 1) / 2) = gt ys ((q - 1) / 2) := by rw [gt_set _ _ _ _ hqy, if_neg (by lia)]
        rw [g1, g2] at htar
        have hsub : binD .Sub (.int (q : Int)) (.int 1) = some (.int ((q - 1 : Nat) : Int)) := subN (b := 1) (by lia)
        have hsub2 : subD [some (ys.map e)] (.own 0) (.int (((q - 1) / 2 : Nat) : Int)) = some (e (gt ys ((q - 1) / 2))) := subOwn (e := e) rfl (by lia) (by lia)
        refine wLess (sh4 e s q (gt xs p) []) S ?_
        · skip
          refine wNext (tSet ?_ ?_ (xBin (xBin (xName ?_ ?_) xInt hsub) xInt shr1)) ?_ <;> try first | rfl | kernel_rfl!
          refine wNext (tSet ?_ ?_ (xItem (a := .own 0) (b := .int (((q - 1) / 2 : Nat) : Int)) ?_ (xName ?_ ?_) (xName ?_ ?_) hsub2)) ?_ <;> try first | rfl | kernel_rfl!
          refine wIf (c := lt (gt xs p) (gt ys ((q - 1) / 2))) (tCmp ?_ ?_ (xName ?_ ?_) (xName ?_ ?_) (hlt _ _ _)) ?_ <;> try first | rfl | kernel_rfl!
          split
          · next hc2 =>
            refine wNext (tSetI (v := e (gt ys ((q - 1) / 2))) (k := 0) (j := (q : Int)) (ds := ys.map e) ?_ (xName ?_ ?_) ?_ (xName ?_ ?_) ?_ (Int.natCast_nonneg _) (by simpa using hqy) (by simp [hpl]; lia)) ?_ <;> try first | rfl | kernel_rfl!
            refine wNext (tSet (d := .int (((q - 1) / 2 : Nat) : Int)) ?_ ?_ (xName ?_ ?_)) ?_ <;> try first | rfl | kernel_rfl!
            refine wCont ?_
            refine ⟨f - 1, by lia, ys.set q (gt ys ((q - 1) / 2)), (q - 1) / 2, _, by lia, rfl, ?_, by simp; lia, by simpa using hyl, d1, ?_⟩
            · show [some ((ys.map e).set (q : Int).toNat (e (gt ys ((q - 1) / 2))))] = _
              rw [Int.toNat_natCast, map_set']
            · rw [if_pos ⟨hsq, hc2⟩] at htar
              rw [← htar]
              have e1 : sw (ys.set q (gt xs p)) q ((q - 1) / 2) = (ys.set q (gt ys ((q - 1) / 2))).set ((q - 1) / 2) (gt xs p) := by
                unfold sw; rw [g1, g2, List.set_set]
              rw [e1]
              exact sdL_fuel lt s _ _ _ _ (by lia) (by lia)
          · next hc2 =>
            refine wNil ?_
            refine wBrk ?_
            rw [if_neg (fun h => hc2 h.2)] at htar
            exact ⟨ys, q, _, rfl, rfl, hqy, hyl, htar⟩
      · have hsq : ¬ s < q := by simpa using hc
        rw [sdL_eq lt s _ (Nat.le_refl q), if_neg (fun h => hsq h.1)] at htar
        exact ⟨ys, q, S, rfl, rfl, hqy, hyl, htar⟩
    · rintro σ μ ⟨ys, q, S, rfl, rfl, hqy, hyl, htar⟩
      refine wNext (tSetI (v := e (gt xs p)) (k := 0) (j := (q : Int)) (ds := ys.map e) ?_ (xName ?_ ?_) ?_ (xName ?_ ?_) ?_ (Int.natCast_nonneg _) (by simpa using hqy) (by simp [hpl]; lia)) (wNil ⟨rfl, ?_⟩) <;> try first | rfl | kernel_rfl!
      · show [some ((ys.map e).set (q : Int).toNat (e (gt xs p)))] = _
        rw [Int.toNat_natCast, map_set', htar]
  rw [hflen]
  exact runOfM main
end
end Mine
end
section
open PySem PySem.W PyProof.Rows
set_option autoImplicit false
namespace Mine
section
variable {α : Type} [Inhabited α] {e : α → D} {lt : α → α → Bool}
theorem subLt {n p q f : Nat} (h1 : n - q ≤ f) (h2 : q < p) (h3 : p < n) : n - p < f := Nat.lt_of_lt_of_le (Nat.sub_lt_sub_left (Nat.lt_trans h2 h3) h2) h1
theorem subLe {n p q : Nat} (h2 : q < p) : n - p ≤ n - q - 1 := Nat.le_trans (Nat.sub_le_sub_left h2 n) (Nat.le_of_eq (Nat.sub_sub n q 1).symm)
theorem subLe1 {n p q f : Nat} (h1 : n - q ≤ f) (h2 : q < p) (h3 : p < n) : n - p ≤ f - 1 := Nat.le_sub_one_of_lt (subLt h1 h2 h3)
theorem suL_eq (lt : α → α → Bool) {f q : Nat} (V : List α) (h : V.length - q ≤ f) : suL lt f V q = if 2 * q + 1 < V.length then suL lt (f - 1) (sw V q (pick lt V q)) (pick lt V q) else (V, q) := by
  cases f with
  | zero => rw [if_neg (by lia)]; rfl
  | succ f => rfl
theorem pick_lt (lt : α → α → Bool) (V : List α) (q : Nat) (h : 2 * q + 1 < V.length) : q < pick lt V q ∧ pick lt V q < V.length := by
  unfold pick; split
  · next hc => exact ⟨by lia, hc.1⟩
  · exact ⟨by lia, h⟩
theorem suL_fuel (lt : α → α → Bool) : ∀ (k f q : Nat) (V : List α), V.length - q ≤ f → V.length - q ≤ k → suL lt f V q = suL lt k V q := by
  intro k
  induction k with
  | zero => intro f q V h1 h2; rw [suL_eq lt V h1, suL_eq lt V h2, if_neg (by lia), if_neg (by lia)]
  | succ k ih =>
    intro f q V h1 h2
    rw [suL_eq lt V h1, suL_eq lt V h2]
    split
    · next hc =>
      have := pick_lt lt V q hc
      exact ih _ _ _ (by rw [sw_len]; exact subLe1 h1 this.1 this.2) (by rw [sw_len]; exact subLe1 h2 this.1 this.2)
    · rfl
noncomputable def sh5 (e : α → D) (n s q c : Nat) (new : α) (S : Sg) : Sg := (Str.ofString "pos", .int (q : Int)) :: (Str.ofString "heap", .own 0) :: (Str.ofString "endpos", .int (n : Int)) :: (Str.ofString "startpos", .int (s : Int)) :: (Str.ofString "newitem", e new) :: (Str.ofString "childpos", .int (c : Int)) :: S
noncomputable def one1 (x : String) (S : Sg) : Prop := S = [] ∨ ∃ a, S = [(Str.ofString x, a)]
theorem small100 {a b : Nat} (h : a < b) (hb : b ≤ 100) : a < 1000000 := Nat.lt_of_lt_of_le h (Nat.le_trans hb (by decide))
theorem plOk {ys : List α} {d : D} (h : D.plain d = true) (hl : ys.length ≤ 100) : (D.plain d && decide ((ys.map e).length ≤ 1000)) = true := (Bool.and_eq_true _ _).mpr ⟨h, decide_eq_true (by rw [List.length_map]; exact Nat.le_trans hl (by decide))⟩
theorem siftup_run (T : Tbl) (hlt : ∀ μ a b, cmpD μ .Lt (e a) (e b) = some (lt a b)) (hpl : ∀ a, D.plain (e a) = true)
    (hsd : ∀ (xs : List α) (s p f : Nat), p < xs.length → xs.length ≤ 100 → Desc s p → p ≤ f → CallsM T 42 (xs.map e) [.int (s : Int), .int (p : Int)] .nil ((sdL lt s f xs p).map e))
    {xs : List α} {s : Nat} (hp : s < xs.length) (hl : xs.length ≤ 100) :
    RunM T 5 (xs.map e) [.int (s : Int)] (.nil) ((siftup lt xs s).map e) := by
  have hset : xs.set s (gt xs s) = xs := by rw [gt_of hp]; simp
  have main : WS T [] 40 (fScope (st 5)) (sg 5 (.own 0 :: [.int (s : Int)])) [some (xs.map e)] (fBody (st 5)) (fun r => r.1 = .next ∧ r.2.2 = [some ((siftup lt xs s).map e)]) := by
    refine wNext (tSet (d := .int (xs.length : Int)) ?_ ?_ (xBi (id := "len") (ds := [.own 0]) ?_ ?_ (xEs (xName ?_ ?_) xEs0) (lenOwn (e := e) rfl hl))) ?_ <;> try first | rfl | kernel_rfl!
    refine wNext (tSet (d := .int (s : Int)) ?_ ?_ (xName ?_ ?_)) ?_ <;> try first | rfl | kernel_rfl!
    refine wNext (tSet (d := e (gt xs s)) ?_ ?_ (xItem (a := .own 0) (b := .int (s : Int)) ?_ (xName ?_ ?_) (xName ?_ ?_) (subOwn (e := e) rfl hp hl))) ?_ <;> try first | rfl | kernel_rfl!
    refine wNext (tSet ?_ ?_ (xBin (xBin xInt (xName ?_ ?_) (mulN (a := 2) (b := s) (by lia) (by lia))) xInt (addN (b := 1)))) ?_ <;> try first | rfl | kernel_rfl!
    refine wWhile (f := xs.length - s) (R := fun f σ μ => ∃ (ys : List α) (q : Nat) (S : Sg), ys.length - q ≤ f ∧ σ = sh5 e xs.length s q (2 * q + 1) (gt xs s) S ∧ μ = [some (ys.map e)] ∧ q < ys.length ∧ ys.length = xs.length ∧ Desc s q ∧ suL lt (ys.length - q) (ys.set q (gt xs s)) q = suL lt xs.length xs s)
      (I := fun σ μ => ∃ (ys : List α) (q c : Nat) (S : Sg), σ = sh5 e xs.length s q c (gt xs s) S ∧ μ = [some (ys.map e)] ∧ q < ys.length ∧ ys.length = xs.length ∧ Desc s q ∧ (ys.set q (gt xs s), q) = suL lt xs.length xs s) ?_ ?_ ?_ ?_
    · exact ⟨xs, s, [], Nat.le_refl _, rfl, rfl, hp, rfl, .refl, by rw [hset]; exact suL_fuel lt _ _ _ _ (by lia) (by lia)⟩
    · lia
    · rintro f σ μ ⟨ys, q, S, hq, rfl, rfl, hqy, hyl, hdq, htar⟩
      refine ⟨decide (2 * q + 1 < xs.length), ?_, fun hc => ?_, fun hc => ?_⟩
      · refine tCmp ?_ ?_ (xName ?_ ?_) (xName ?_ ?_) (ltN (2 * q + 1) xs.length) <;> first | rfl | kernel_rfl!
      · have hcl : 2 * q + 1 < xs.length := by simpa using hc
        rw [suL_eq lt _ (by simp), if_pos (by simp; lia)] at htar
        have g0 : gt (ys.set q (gt xs s)) q = gt xs s := by rw [gt_set _ _ _ _ hqy, if_pos rfl]
        have g1 : gt (ys.set q (gt xs s)) (2 * q + 1) = gt ys (2 * q + 1) := by rw [gt_set _ _ _ _ hqy, if_neg (by lia)]
        have g2 : gt (ys.set q (gt xs s)) (2 * q + 2) = gt ys (2 * q + 2) := by rw [gt_set _ _ _ _ hqy, if_neg (by lia)]
        have hpick : pick lt (ys.set q (gt xs s)) q = if 2 * q + 2 < xs.length ∧ lt (gt ys (2 * q + 1)) (gt ys (2 * q + 2)) = false then 2 * q + 2 else 2 * q + 1 := by
          unfold pick; rw [g1, g2, List.length_set, hyl]
        have hl2 : ys.length ≤ 100 := hyl ▸ hl
        have h21 : 2 * q + 1 < ys.length := hyl ▸ hcl
        have hpl2 := pick_lt lt (ys.set q (gt xs s)) q (by rw [List.length_set]; exact h21)
        rw [List.length_set] at hpl2
        have hed : Edge q (pick lt (ys.set q (gt xs s)) q) := by unfold pick Edge; split <;> lia
        have g3 : gt (ys.set q (gt xs s)) (pick lt (ys.set q (gt xs s)) q) = gt ys (pick lt (ys.set q (gt xs s)) q) := by rw [gt_set _ _ _ _ hqy, if_neg (by lia)]
        have fin : ∀ c, c = pick lt (ys.set q (gt xs s)) q → ∃ f', f' < f ∧ ∃ (zs : List α) (q' : Nat) (S : Sg), zs.length - q' ≤ f' ∧ sh5 e xs.length s c (2 * c + 1) (gt xs s) [(Str.ofString "rightpos", .int ((2 * q + 2 : Nat) : Int))] = sh5 e xs.length s q' (2 * q' + 1) (gt xs s) S ∧ [some ((ys.map e).set (q : Int).toNat (e (gt ys c)))] = [some (zs.map e)] ∧ q' < zs.length ∧ zs.length = xs.length ∧ Desc s q' ∧ suL lt (zs.length - q') (zs.set q' (gt xs s)) q' = suL lt xs.length xs s := by
          rintro c rfl
          refine ⟨ys.length - pick lt (ys.set q (gt xs s)) q, subLt hq hpl2.1 hpl2.2, ys.set q (gt ys (pick lt (ys.set q (gt xs s)) q)), _, _, by simp, rfl, ?_, by rw [List.length_set]; exact hpl2.2, by rw [List.length_set]; exact hyl, .step hdq hed, ?_⟩
          · rw [Int.toNat_natCast, map_set']
          · rw [← htar]
            have e1 : sw (ys.set q (gt xs s)) q (pick lt (ys.set q (gt xs s)) q) = (ys.set q (gt ys (pick lt (ys.set q (gt xs s)) q))).set (pick lt (ys.set q (gt xs s)) q) (gt xs s) := by
              unfold sw; rw [g0, g3, List.set_set]
            rw [e1]
            exact suL_fuel lt _ _ _ _ (by rw [List.length_set]; exact Nat.le_refl _) (by simp only [List.length_set]; exact subLe hpl2.1)
        refine wLess (sh5 e xs.length s q (2 * q + 1) (gt xs s) []) S ?_
        · skip
          refine wNext (tSet ?_ ?_ (xBin (xName ?_ ?_) xInt (addN (a := 2 * q + 1) (b := 1)))) ?_ <;> try first | rfl | kernel_rfl!
          refine wIf (c := decide (2 * q + 2 < xs.length) && !(lt (gt ys (2 * q + 1)) (gt ys (2 * q + 2)))) (μ1 := [some (ys.map e)]) (tChain ?_) ?_
          · by_cases h2 : 2 * q + 2 < xs.length
            · rw [show (decide (2 * q + 2 < xs.length) && !(lt (gt ys (2 * q + 1)) (gt ys (2 * q + 2)))) = !(lt (gt ys (2 * q + 1)) (gt ys (2 * q + 2))) by simp [h2]]
              refine tsAT (tCmp (t := true) ?_ ?_ (xName ?_ ?_) (xName ?_ ?_) ((ltN (2 * q + 2) xs.length).trans (by simp [h2]))) ?_ <;> try first | rfl | kernel_rfl!
              have := hlt [some (ys.map e)] (gt ys (2 * q + 1)) (gt ys (2 * q + 2))
              cases hb : lt (gt ys (2 * q + 1)) (gt ys (2 * q + 2)) with
              | false =>
                rw [hb] at this
                refine tsAT (tNot (t := false) (tCmp ?_ ?_ (xItem (a := .own 0) (b := .int ((2 * q + 1 : Nat) : Int)) ?_ (xName ?_ ?_) (xName ?_ ?_) (subOwn (e := e) rfl h21 hl2)) (xItem (a := .own 0) (b := .int ((2 * q + 2 : Nat) : Int)) ?_ (xName ?_ ?_) (xName ?_ ?_) (subOwn (e := e) rfl (hyl ▸ h2) hl2)) this)) tsA0 <;> first | rfl | kernel_rfl!
              | true =>
                rw [hb] at this
                refine tsAF (tNot (t := true) (tCmp ?_ ?_ (xItem (a := .own 0) (b := .int ((2 * q + 1 : Nat) : Int)) ?_ (xName ?_ ?_) (xName ?_ ?_) (subOwn (e := e) rfl h21 hl2)) (xItem (a := .own 0) (b := .int ((2 * q + 2 : Nat) : Int)) ?_ (xName ?_ ?_) (xName ?_ ?_) (subOwn (e := e) rfl (hyl ▸ h2) hl2)) this)) <;> first | rfl | kernel_rfl!
            · rw [show (decide (2 * q + 2 < xs.length) && !(lt (gt ys (2 * q + 1)) (gt ys (2 * q + 2)))) = false by simp [h2]]
              refine tsAF (tCmp (t := false) ?_ ?_ (xName ?_ ?_) (xName ?_ ?_) ((ltN (2 * q + 2) xs.length).trans (by simp [h2]))) <;> first | rfl | kernel_rfl!
          · split
            · next hb =>
              have hpk : 2 * q + 2 = pick lt (ys.set q (gt xs s)) q := by
                rw [hpick, if_pos (by simpa using hb)]
              have hin : 2 * q + 2 < ys.length := hpk ▸ hpl2.2
              refine wNext (tSet (d := .int ((2 * q + 2 : Nat) : Int)) ?_ ?_ (xName ?_ ?_)) ?_ <;> try first | rfl | kernel_rfl!
              refine wNil ?_
              refine wNext (tSetI (v := e (gt ys (2 * q + 2))) (k := 0) (j := (q : Int)) (ds := ys.map e) ?_ (xItem (a := .own 0) (b := .int ((2 * q + 2 : Nat) : Int)) ?_ (xName ?_ ?_) (xName ?_ ?_) (subOwn (e := e) rfl hin hl2)) ?_ (xName ?_ ?_) ?_ (Int.natCast_nonneg _) (by rw [Int.toNat_natCast, List.length_map]; exact hqy) (plOk (hpl _) hl2)) ?_ <;> try first | rfl | kernel_rfl!
              refine wNext (tSet (d := .int ((2 * q + 2 : Nat) : Int)) ?_ ?_ (xName ?_ ?_)) ?_ <;> try first | rfl | kernel_rfl!
              refine wNext (tSet ?_ ?_ (xBin (xBin xInt (xName ?_ ?_) (mulN (a := 2) (b := 2 * q + 2) (by decide) (small100 hin hl2))) xInt (addN (b := 1)))) ?_ <;> try first | rfl | kernel_rfl!
              exact wNil (fin _ hpk)
            · next hb =>
              have hpk : 2 * q + 1 = pick lt (ys.set q (gt xs s)) q := by
                rw [hpick, if_neg (by simpa using hb)]
              have hin : 2 * q + 1 < ys.length := h21
              refine wNil ?_
              refine wNext (tSetI (v := e (gt ys (2 * q + 1))) (k := 0) (j := (q : Int)) (ds := ys.map e) ?_ (xItem (a := .own 0) (b := .int ((2 * q + 1 : Nat) : Int)) ?_ (xName ?_ ?_) (xName ?_ ?_) (subOwn (e := e) rfl hin hl2)) ?_ (xName ?_ ?_) ?_ (Int.natCast_nonneg _) (by rw [Int.toNat_natCast, List.length_map]; exact hqy) (plOk (hpl _) hl2)) ?_ <;> try first | rfl | kernel_rfl!
              refine wNext (tSet (d := .int ((2 * q + 1 : Nat) : Int)) ?_ ?_ (xName ?_ ?_)) ?_ <;> try first | rfl | kernel_rfl!
              refine wNext (tSet ?_ ?_ (xBin (xBin xInt (xName ?_ ?_) (mulN (a := 2) (b := 2 * q + 1) (by decide) (small100 hin hl2))) xInt (addN (b := 1)))) ?_ <;> try first | rfl | kernel_rfl!
              exact wNil (fin _ hpk)
      · have hcl : ¬ 2 * q + 1 < xs.length := by simpa using hc
        rw [suL_eq lt _ (by simp), if_neg (by simp; lia)] at htar
        exact ⟨ys, q, _, S, rfl, rfl, hqy, hyl, hdq, htar⟩
    · rintro σ μ ⟨ys, q, c, S, rfl, rfl, hqy, hyl, hdq, htar⟩
      have hl2 : ys.length ≤ 100 := hyl ▸ hl
      refine wNext (tSetI (v := e (gt xs s)) (k := 0) (j := (q : Int)) (ds := ys.map e) ?_ (xName ?_ ?_) ?_ (xName ?_ ?_) ?_ (Int.natCast_nonneg _) (by rw [Int.toNat_natCast, List.length_map]; exact hqy) (plOk (hpl _) hl2)) ?_ <;> try first | rfl | kernel_rfl!
      have hcall := hsd (ys.set q (gt xs s)) s q xs.length (by rw [List.length_set]; exact hqy) (by rw [List.length_set]; exact hl2) hdq (Nat.le_of_lt (hyl ▸ hqy)) [some ((ys.set q (gt xs s)).map e)] 0 rfl
      have hμ : ([some (ys.map e)] : Mu).set 0 (some ((ys.map e).set (q : Int).toNat (e (gt xs s)))) = [some ((ys.set q (gt xs s)).map e)] := by
        show [some ((ys.map e).set (q : Int).toNat (e (gt xs s)))] = _
        rw [Int.toNat_natCast, map_set']
      rw [hμ]
      refine wNext (tExpr (xFn (a := 42) (ds := .own 0 :: [.int (s : Int), .int (q : Int)]) ?_ ?_ (xEs (xName ?_ ?_) (xEs (xName ?_ ?_) (xEs (xName ?_ ?_) xEs0))) hcall)) (wNil ⟨rfl, ?_⟩) <;> try first | rfl | kernel_rfl!
      show [some ((sdL lt s xs.length (ys.set q (gt xs s)) q).map e)] = _
      unfold siftup
      rw [← htar]
  exact runOfM main
end
end Mine
end
section
open PySem PySem.W PyProof.Rows
set_option autoImplicit false
namespace Mine
section
variable {α : Type} [Inhabited α] {e : α → D} {lt : α → α → Bool}
theorem push_run (T : Tbl) (hpl : ∀ a, D.plain (e a) = true)
    (hsd : ∀ (xs : List α) (s p f : Nat), p < xs.length → xs.length ≤ 100 → Desc s p → p ≤ f → CallsM T 42 (xs.map e) [.int (s : Int), .int (p : Int)] .nil ((sdL lt s f xs p).map e))
    {xs : List α} {x : α} (hl : xs.length < 100) : RunM T 1 (xs.map e) [e x] (.nil) ((push lt xs x).map e) := by
  have main : WS T [] 40 (fScope (st 1)) (sg 1 (.own 0 :: [e x])) [some (xs.map e)] (fBody (st 1)) (fun r => r.1 = .next ∧ r.2.2 = [some ((push lt xs x).map e)]) := by
    refine wNext (tExpr (xMeth (a := .own 0) (ds := [e x]) (d := .nil) (μ3 := [some ((xs ++ [x]).map e)]) ?_ (xName ?_ ?_) ?_ (xEs (xName ?_ ?_) xEs0) ?_)) ?_ <;> try first | rfl | exact ⟨fun _ _ => rfl, by kernel_rfl!⟩ | kernel_rfl!
    · show (if Str.ofString "append" == Str.ofString "append" && D.plain (e x) && decide ((xs.map e).length ≤ 1000) then some (D.nil, [some (xs.map e ++ [e x])]) else none) = _
      rw [if_pos (by simp [hpl]; lia)]; simp
    have hlen : biD [some ((xs ++ [x]).map e)] "len" [.own 0] = some (.int (((xs ++ [x]).length : Nat) : Int)) := lenOwn (e := e) rfl (by simp; lia)
    have hcall := hsd (xs ++ [x]) 0 xs.length (xs.length + 1) (by simp) (by simp; lia) (Desc.zero _) (by lia) [some ((xs ++ [x]).map e)] 0 rfl
    have hsub : binD .Sub (.int (((xs ++ [x]).length : Nat) : Int)) (.int 1) = some (.int (xs.length : Int)) := by
      refine (subN (a := (xs ++ [x]).length) (b := 1) (by simp)).trans ?_
      simp
    refine wNext (tExpr (xFn (a := 42) (ds := .own 0 :: [.int 0, .int (xs.length : Int)]) ?_ ?_ (xEs (xName ?_ ?_) (xEs xInt (xEs (xBin (xBi (id := "len") (ds := [.own 0]) ?_ ?_ (xEs (xName ?_ ?_) xEs0) hlen) xInt hsub) xEs0))) hcall)) (wNil ⟨rfl, rfl⟩) <;> try first | rfl | kernel_rfl!
  exact runOfM main
theorem pop_run (T : Tbl) (hpl : ∀ a, D.plain (e a) = true)
    (hsu : ∀ (xs : List α) (s : Nat), s < xs.length → xs.length ≤ 100 → CallsM T 49 (xs.map e) [.int (s : Int)] .nil ((siftup lt xs s).map e))
    {xs : List α} (hl : xs.length ≤ 100) (hne : xs ≠ []) : RunM T 2 (xs.map e) [] (e (pop lt xs).1) ((pop lt xs).2.map e) := by
  obtain ⟨ys, l, rfl⟩ : ∃ ys l, xs = ys ++ [l] := ⟨xs.dropLast, xs.getLast hne, (List.dropLast_concat_getLast hne).symm⟩
  simp only [List.length_append, List.length_cons, List.length_nil] at hl
  have main : WS T [] 40 (fScope (st 2)) (sg 2 (.own 0 :: [])) [some ((ys ++ [l]).map e)] (fBody (st 2)) (fun r => r.1 = .ret (e (pop lt (ys ++ [l])).1) ∧ r.2.2 = [some ((pop lt (ys ++ [l])).2.map e)]) := by
    refine wNext (tSet (d := e l) (μ1 := [some (ys.map e)]) ?_ ?_ (xMeth (a := .own 0) (ds := []) (μ2 := [some ((ys ++ [l]).map e)]) ?_ (xName ?_ ?_) ?_ xEs0 ?_)) ?_ <;> try first | rfl | exact ⟨fun _ _ => rfl, by kernel_rfl!⟩ | kernel_rfl!
    · show (if Str.ofString "pop" == Str.ofString "pop" && decide (((ys ++ [l]).map e).length ≤ 1000) then ((ys ++ [l]).map e).getLast?.map fun x => (x, [some ((ys ++ [l]).map e).dropLast]) else none) = _
      rw [if_pos (by simp; lia)]
      simp
    have htr : truthD [some (ys.map e)] (.own 0) = some (!ys.isEmpty) := by
      show (if (ys.map e).length ≤ 1000000 then some (!(ys.map e).isEmpty) else none) = _
      rw [if_pos (by simp; lia)]; simp
    cases ys with
    | nil =>
      refine wIf (c := false) (tName (xName ?_ ?_) htr) ?_ <;> try first | rfl | kernel_rfl!
      refine wNil ?_
      refine wRet (tRet (d := e l) (xName ?_ ?_)) ⟨?_, ?_⟩ <;> first | rfl | kernel_rfl!
    | cons y ys =>
      have hcall := hsu ((y :: ys).set 0 l) 0 (by simp) (by simp; simp at hl; lia) [some (((y :: ys).set 0 l).map e)] 0 rfl
      have hpop : pop lt (y :: ys ++ [l]) = (y, siftup lt ((y :: ys).set 0 l) 0) := by
        unfold pop
        have hla : ∀ zs : List α, (zs ++ [l]).getLastD default = l := fun zs => by simp
        rw [List.dropLast_concat, if_neg (by simp), hla]
        rfl
      refine wIf (c := true) (tName (xName ?_ ?_) htr) ?_ <;> try first | rfl | kernel_rfl!
      refine wNext (tSet (d := e y) ?_ ?_ (xItem (a := .own 0) (b := .int 0) ?_ (xName ?_ ?_) xInt (subOwn (e := e) (q := 0) (ys := y :: ys) rfl (by simp) (by simp at hl ⊢; lia)))) ?_ <;> try first | rfl | kernel_rfl!
      refine wNext (tSetI (v := e l) (k := 0) (j := 0) (ds := (y :: ys).map e) ?_ (xName ?_ ?_) ?_ xInt ?_ (by lia) (by simp) (by simp [hpl]; simp at hl; lia)) ?_ <;> try first | rfl | kernel_rfl!
      refine wNext (tExpr (xFn (a := 49) (ds := .own 0 :: [.int 0]) ?_ ?_ (xEs (xName ?_ ?_) (xEs xInt xEs0)) hcall)) ?_ <;> try first | rfl | kernel_rfl!
      refine wRet (tRet (d := e y) (xName ?_ ?_)) ⟨?_, ?_⟩ <;> try first | rfl | kernel_rfl!
      · rw [hpop]
      · rw [hpop]; rfl
  exact runOfR (hpl _) main
theorem tyRange (x : Int) : tyD "range" [.int x] = rng1 x := by unfold tyD; rw [if_pos rfl]; rfl
theorem rng1_is {x : Int} (h0 : -1000000 < x) (h : x < 1000000) : rng1 x = some (.rng 0 x) := by unfold rng1; rw [if_pos h0, if_pos h]
theorem rangeN {n : Nat} (h : n < 1000000) : tyD "range" [.int (n : Int)] = some (.rng 0 (n : Int)) := (tyRange _).trans (rng1_is (by lia) (by lia))
theorem itemsN {n : Nat} (h : n < 1000000) : itemsOf (.rng 0 (n : Int)) = some (octs (List.range n)) := by
  simp only [itemsOf]
  rw [if_pos (by simp [small]; lia)]
  have : ((n : Int) - 0).toNat = n := by lia
  rw [this, intsFrom_eq]
theorem octs_succ (k : Nat) : (octs (List.range (k + 1))).reverse = .int (k : Int) :: (octs (List.range k)).reverse := by
  rw [List.range_succ]; simp [octs]
theorem heapify_run (T : Tbl) (hpl : ∀ a, D.plain (e a) = true)
    (hsu : ∀ (xs : List α) (s : Nat), s < xs.length → xs.length ≤ 100 → CallsM T 49 (xs.map e) [.int (s : Int)] .nil ((siftup lt xs s).map e))
    (hsl : ∀ (V : List α) (s : Nat), s < V.length → (siftup lt V s).length = V.length)
    {xs : List α} (hl : xs.length ≤ 100) : RunM T 3 (xs.map e) [] (.nil) ((heapd lt (xs.length / 2) xs).map e) := by
  have main : WS T [] 40 (fScope (st 3)) (sg 3 (.own 0 :: [])) [some (xs.map e)] (fBody (st 3)) (fun r => r.1 = .next ∧ r.2.2 = [some ((heapd lt (xs.length / 2) xs).map e)]) := by
    refine wNext (tSet (d := .int (xs.length : Int)) ?_ ?_ (xBi (id := "len") (ds := [.own 0]) ?_ ?_ (xEs (xName ?_ ?_) xEs0) (lenOwn (e := e) rfl hl))) ?_ <;> try first | rfl | kernel_rfl!
    have hdiv : binD .FloorDiv (.int (xs.length : Int)) (.int 2) = some (.int ((xs.length / 2 : Nat) : Int)) := divN (b := 2) (by lia) (by lia)
    have hsm : small ((xs.length / 2 : Nat) : Int) = true := by simp [small]; lia
    refine wFor (R := fun l σ μ => ∃ (k : Nat) (W : List α) (S : Sg), l = (octs (List.range k)).reverse ∧ k ≤ xs.length / 2 ∧ σ = (Str.ofString "x", .own 0) :: (Str.ofString "n", .int (xs.length : Int)) :: S ∧ one1 "i" S ∧ μ = [some (W.map e)] ∧ W.length = xs.length ∧ heapd lt k W = heapd lt (xs.length / 2) xs) (itRev ?_ ?_ ?_ (xBin (xName ?_ ?_) xInt hdiv) hsm) ?_ ?_ ?_ <;> try first | rfl | kernel_rfl!
    · exact ⟨xs.length / 2, xs, [], by rw [Int.toNat_natCast, intsFrom_eq], Nat.le_refl _, rfl, .inl rfl, rfl, rfl, rfl⟩
    · rintro d l σ μ ⟨k, W, S, h1, h2, rfl, hS, rfl, hWl, hW⟩
      cases k with
      | zero => simp [octs] at h1
      | succ k =>
        rw [octs_succ] at h1
        obtain ⟨rfl, rfl⟩ := List.cons.inj h1
        have hcall := hsu W k (by lia) (by lia) [some (W.map e)] 0 rfl
        refine ⟨(Str.ofString "x", .own 0) :: (Str.ofString "n", .int (xs.length : Int)) :: [(Str.ofString "i", .int (k : Int))], ?_, ?_⟩
        · rcases hS with rfl | ⟨a, rfl⟩ <;> kernel_rfl!
        · refine wNext (tExpr (xFn (a := 49) (ds := .own 0 :: [.int (k : Int)]) ?_ ?_ (xEs (xName ?_ ?_) (xEs (xName ?_ ?_) xEs0)) hcall)) (wNil ?_) <;> try first | rfl | kernel_rfl!
          exact ⟨k, siftup lt W k, _, rfl, by lia, rfl, .inr ⟨_, rfl⟩, rfl, by rw [hsl _ _ (by lia), hWl], hW⟩
    · rintro σ μ ⟨k, W, S, h1, h2, rfl, hS, rfl, hWl, hW⟩
      cases k with
      | zero => exact wNil ⟨rfl, by rw [← hW]; rfl⟩
      | succ k => rw [octs_succ] at h1; cases h1
  exact runOfM main
end
end Mine
end
section
open PySem PySem.W PyProof.Rows
set_option autoImplicit false
namespace Mine
/-! header_encode -/
noncomputable def wr (cs : Str) (l : List Nat) : Str := ⟨([61, 63] ++ (cs.cps.toList ++ ([63, 113, 63] ++ (body l ++ ([63, 61] ++ []))))).toArray⟩
theorem wr_iso (l : List Nat) : wr (Str.ofString "iso-8859-1") l = writ l := by
  unfold wr writ
  have e1 : (Str.ofString "=?iso-8859-1?q?").cps.toList = [61, 63] ++ (Str.ofString "iso-8859-1").cps.toList ++ [63, 113, 63] := by kernel_rfl
  have e2 : (Str.ofString "?=").cps.toList = [63, 61] := by kernel_rfl
  rw [e1, e2]
  simp
noncomputable def hs : List Str := (List.range 256).map hdrSign
theorem hdrMap_eq : hdrMap = strD hs := by simp [hdrMap, strD, hs]
theorem hs_get {o : Nat} (h : o < 256) : hs.getD o Str.empty = hdrSign o := by simp [hs, h]
theorem translate_is {l : List Nat} (h : AllO l) (h0 : l ≠ []) (hl : l.length ≤ 100) {μ : Mu} : methE (.str ⟨l.toArray⟩) (Str.ofString "translate") [.list hdrMap] μ = some (.str ⟨(body l).toArray⟩, μ) := by
  have e : methD (.str ⟨l.toArray⟩) (Str.ofString "translate") [.list hdrMap] = ((allStrs hdrMap).bind fun hm => if decide (1 ≤ (⟨l.toArray⟩ : Str).length) && decide ((⟨l.toArray⟩ : Str).length ≤ 1000) && decide (hm.length = 256) && hm.all (fun x => decide (x.length ≤ 1000)) && (⟨l.toArray⟩ : Str).cps.toList.all (fun c => decide (c < 256)) then some (D.str ⟨(joinS ((⟨l.toArray⟩ : Str).cps.toList.map fun c => hm.getD c Str.empty)).toArray⟩) else none) := by kernel_rfl
  show (methD _ _ _).map _ = _
  have hlen : (⟨l.toArray⟩ : Str).length = l.length := by simp [Str.length]
  have hpos : 0 < l.length := List.length_pos_iff.mpr h0
  rw [e, hdrMap_eq, allStrs_strs, Option.bind_some, if_pos]
  · have : (l.map fun c => hs.getD c Str.empty) = l.map hdrSign := List.map_congr_left fun o ho => hs_get (h o ho)
    simp only [this, Option.map_some, body]
  · simp only [Bool.and_eq_true, decide_eq_true_eq, List.all_eq_true]
    refine ⟨⟨⟨⟨by lia, by lia⟩, by simp [hs]⟩, fun x hx => ?_⟩, fun c hc => h c (by simpa using hc)⟩
    obtain ⟨o, ho, rfl⟩ := List.mem_map.mp hx
    have := (hdrLen (o := o) (by simpa using ho)).2.1
    lia
theorem latin_is {l : List Nat} (h0 : l ≠ []) (hl : l.length ≤ 100) {μ : Mu} : methE (.bytes l) (Str.ofString "decode") [.str (Str.ofString "latin1")] μ = some (.str ⟨l.toArray⟩, μ) := by
  have e : methD (.bytes l) (Str.ofString "decode") [.str (Str.ofString "latin1")] = if Str.ofString "latin1" == Str.ofString "latin1" && decide (l.length ≤ 1000) && !l.isEmpty then some (D.str ⟨l.toArray⟩) else none := by kernel_rfl
  show (methD _ _ _).map _ = _
  rw [e, if_pos (by simp [h0]; lia)]
  rfl
theorem henc_run (T : Tbl) {l : List Nat} (h : AllO l) (h0 : l ≠ []) (hl : l.length ≤ 100) {cs : Str} (hcs : cs.length ≤ 100) : RunF T [] 20 [.bytes l, .str cs] (.str (wr cs l)) := by
  have htr : truthD [] (.bytes l) = some true := by
    show (if l.length ≤ 1000000 then some (!l.isEmpty) else none) = _
    rw [if_pos (by lia)]; simp [h0]
  have hbl := body_len h
  have main : WS T [] 40 (fScope (st 20)) (sg 20 [.bytes l, .str cs]) [] (fBody (st 20)) (fun r => r.1 = .ret (.str (wr cs l))) := by
    refine wIf (c := false) (tNot (t := true) (tName (xName ?_ ?_) htr)) (wNil ?_) <;> try first | rfl | kernel_rfl!
    refine wNext (tSet (d := .str ⟨(body l).toArray⟩) (μ1 := []) ?_ ?_ (xMeth (a := .str ⟨l.toArray⟩) (ds := [.list hdrMap]) (μ2 := []) ?_ (xMeth (a := .bytes l) (ds := [.str (Str.ofString "latin1")]) (μ2 := []) ?_ (xName ?_ ?_) ?_ (xEs xStr xEs0) (latin_is h0 hl)) ?_ (xEs (xGlob ?_ ?_ ?_) xEs0) (translate_is h h0 hl))) ?_ <;> try first | rfl | exact ⟨fun _ _ => rfl, by kernel_rfl!⟩ | kernel_rfl!
    refine wRet (tRet (d := .str (wr cs l)) (μ1 := []) (xJoin (l := [Str.ofString "=?", cs, Str.ofString "?q?", ⟨(body l).toArray⟩, Str.ofString "?="]) (jC ?_ (jF (xName ?_ ?_) ?_ (jC ?_ (jF (xName ?_ ?_) ?_ (jC ?_ j0))))) ?_ ?_)) ?_ <;> try first | rfl | kernel_rfl!
    · decide
    · lia
    · decide
    · show (body l).toArray.size ≤ 1000
      simp; lia
    · decide
    · exact Nat.le_of_ble_eq_true rfl
    · exact Nat.le_of_ble_eq_true rfl
  exact runOf main rfl
/-! unquote -/
theorem unquote_run (T : Tbl) {x y a b : Nat} (hx : hexVal x = some a) (hy : hexVal y = some b) (ha : a < 16) (hb : b < 16) : RunF T [] 19 [.str ⟨#[61, x, y]⟩] (.str ⟨#[16 * a + b]⟩) := by
  have hint : tyD "int" [.str ⟨#[x, y]⟩, .int 16] = some (.int ((16 * a + b : Nat) : Int)) := by
    have e : tyD "int" [.str ⟨#[x, y]⟩, .int 16] = (hexVal x).bind fun (x : Nat) => (hexVal y).map fun (y : Nat) => D.int (16 * (x : Int) + (y : Int)) := by kernel_rfl!
    rw [e, hx, hy]
    simp
  have hchr : ∀ μ, biD μ "chr" [.int ((16 * a + b : Nat) : Int)] = some (.str ⟨#[16 * a + b]⟩) := fun μ => by
    have e : biD μ "chr" [.int ((16 * a + b : Nat) : Int)] = if (0 : Int) ≤ ((16 * a + b : Nat) : Int) then if ((16 * a + b : Nat) : Int) < 256 then some (D.str ⟨#[((16 * a + b : Nat) : Int).toNat]⟩) else none else none := by kernel_rfl
    rw [e, if_pos (by lia), if_pos (by lia), Int.toNat_natCast]
  have main : XSs T [] 40 (fScope (st 19)) (sg 19 [.str ⟨#[61, x, y]⟩]) [] (fBody (st 19)) (.ret (.str ⟨#[16 * a + b]⟩), sg 19 [.str ⟨#[61, x, y]⟩], []) := by
    refine sRet (tRet (xBi (id := "chr") (ds := [.int ((16 * a + b : Nat) : Int)]) ?_ ?_ (xEs (xTy (id := "int") (ds := [.str ⟨#[x, y]⟩, .int 16]) ?_ ?_ (xEs (xSlice (a := .str ⟨#[61, x, y]⟩) (d := .str ⟨#[x, y]⟩) (xName ?_ ?_) (xO1 xInt) (xO1 xInt) xO0 ?_) (xEs xInt xEs0)) hint) xEs0) (hchr _))) <;> try first | rfl | kernel_rfl!
  exact ⟨_, main, rfl⟩
end Mine
end
section
open PySem PySem.W PyProof.Rows
set_option autoImplicit false
namespace Mine
/-! decode -/
noncomputable def e2 (o : Nat) : Str := if o = 32 then ⟨#[61, 50, 48]⟩ else hdrSign o
noncomputable def E2 (l : List Nat) : List Nat := joinS (l.map e2)
noncomputable def hexd : Str := Str.ofString "0123456789abcdefABCDEF"
noncomputable def e2ok (o : Nat) : Bool := match (e2 o).cps.toList with
  | [c] => c == o && c != 61 && plainSign c
  | [c, x, y] => c == 61 && hexVal x == some (o / 16) && hexVal y == some (o % 16) && plainSign x && plainSign y && hexd.cps.toList.contains x && hexd.cps.toList.contains y
  | _ => false
theorem e2_all : (List.range 256).all e2ok = true := by decide +kernel
theorem e2_is {o : Nat} (h : o < 256) : ((e2 o).cps.toList = [o] ∧ o ≠ 61 ∧ plainSign o = true) ∨ ∃ x y, (e2 o).cps.toList = [61, x, y] ∧ hexVal x = some (o / 16) ∧ hexVal y = some (o % 16) ∧ plainSign x = true ∧ plainSign y = true ∧ hexd.cps.toList.contains x = true ∧ hexd.cps.toList.contains y = true := by
  have := List.all_eq_true.mp e2_all o (by simpa using h)
  unfold e2ok at this
  split at this
  · next c e =>
    simp only [Bool.and_eq_true, beq_iff_eq, bne_iff_ne, ne_eq] at this
    obtain ⟨⟨rfl, h2⟩, h3⟩ := this
    exact .inl ⟨e, h2, h3⟩
  · next c x y e =>
    simp only [Bool.and_eq_true, beq_iff_eq] at this
    obtain ⟨⟨⟨⟨⟨⟨rfl, h2⟩, h3⟩, h4⟩, h5⟩, h6⟩, h7⟩ := this
    exact .inr ⟨x, y, e, h2, h3, h4, h5, h6, h7⟩
  · cases this
theorem joinS_app (a b : List Str) : joinS (a ++ b) = joinS a ++ joinS b := by
  induction a with
  | nil => rfl
  | cons x a ih => simp [joinS, ih]
theorem E2_app (a b : List Nat) : E2 (a ++ b) = E2 a ++ E2 b := by simp [E2, joinS_app]
theorem E2_cons (o : Nat) (b : List Nat) : E2 (o :: b) = (e2 o).cps.toList ++ E2 b := rfl
theorem E2_pos {o : Nat} (h : o < 256) (b : List Nat) : 0 < (E2 (o :: b)).length := by
  rw [E2_cons, List.length_append]
  rcases e2_is h with ⟨e, _⟩ | ⟨x, y, e, _⟩ <;> rw [e] <;> simp <;> lia
theorem E2_plain : ∀ {l : List Nat}, AllO l → (E2 l).all plainSign = true ∧ (E2 l).length ≤ 3 * l.length
  | [], _ => ⟨rfl, by simp [E2, joinS]⟩
  | o :: l, h => by
    obtain ⟨a, b⟩ := E2_plain (l := l) fun x hx => h x (by simp [hx])
    rw [E2_cons, List.all_append, a, List.length_append, List.length_cons]
    rcases e2_is (h o (by simp)) with ⟨e, h1, h2⟩ | ⟨x, y, e, _, _, h3, h4, _⟩ <;> rw [e]
    · refine ⟨by simp [h2], ?_⟩; simp only [List.length_cons, List.length_nil]; lia
    · have : plainSign 61 = true := by decide
      refine ⟨by simp [h3, h4, this], ?_⟩; simp only [List.length_cons, List.length_nil]; lia
theorem eqI (a b : Int) {μ : Mu} : cmpD μ .Eq (.int a) (.int b) = some (decide (a = b)) := (cmpEq rfl rfl rfl).trans (ordE intEq3)
theorem eqN (a b : Nat) {μ : Mu} : cmpD μ .Eq (.int (a : Int)) (.int (b : Int)) = some (decide (a = b)) := by rw [eqI]; congr 1; simp; lia
theorem one_ok {c : Nat} (hc : c < 1000) : PyData.strOk ⟨#[c]⟩ = true := by simp [PyData.strOk]; lia
theorem neSign {c : Nat} (hc : c < 1000) {μ : Mu} : cmpD μ .NotEq (.str ⟨#[c]⟩) (.str ⟨#[61]⟩) = some (c != 61) :=
  (cmpNe (a := .str ⟨#[c]⟩) (b := .str ⟨#[61]⟩) (one_ok hc) (one_ok (by decide)) rfl).trans (ordN (e := c = 61) (listEq3.trans ⟨fun h => (List.cons.inj h).1, fun h => h ▸ rfl⟩))
theorem inStr {c : Nat} {s : Str} {μ : Mu} : cmpD μ .In (.str ⟨#[c]⟩) (.str s) = some (s.cps.toList.contains c) := rfl
theorem notInStr {c : Nat} {s : Str} {μ : Mu} : cmpD μ .NotIn (.str ⟨#[c]⟩) (.str s) = some (!s.cps.toList.contains c) := rfl
theorem subStr {μ : Mu} {s : Str} {i c : Nat} (h : s.cps.toList[i]? = some c) (hl : s.length ≤ 1000) : subD μ (.str s) (.int (i : Int)) = some (.str ⟨#[c]⟩) := by
  show (if s.length ≤ 100000 then (at? s.cps.toList (i : Int)).map fun c => D.str ⟨#[c]⟩ else none) = _
  rw [if_pos (by lia)]
  unfold at?
  rw [if_pos (Int.natCast_nonneg i), Int.toNat_natCast, h]; rfl
theorem subStrLast {μ : Mu} {s : Str} {c : Nat} (h : s.cps.toList.getLast? = some c) (hl : s.length ≤ 1000) : subD μ (.str s) (.int (-1)) = some (.str ⟨#[c]⟩) := by
  show (if s.length ≤ 100000 then (at? s.cps.toList (-1)).map fun c => D.str ⟨#[c]⟩ else none) = _
  rw [if_pos (by lia)]
  unfold at?
  have hp : 0 < s.cps.toList.length := by
    cases e : s.cps.toList with
    | nil => rw [e] at h; cases h
    | cons _ _ => simp
  rw [if_neg (by lia), if_pos (by lia), show ((s.cps.toList.length : Int) + -1).toNat = s.cps.toList.length - 1 by lia, ← List.getLast?_eq_getElem?, h]; rfl
noncomputable def nl : Str := ⟨#[10]⟩
noncomputable def sh9 (s dec : Str) (i : Nat) (S : Sg) : Sg := (Str.ofString "eol", .str nl) :: (Str.ofString "encoded", .str s) :: (Str.ofString "decoded", .str dec) :: (Str.ofString "line", .str s) :: (Str.ofString "i", .int (i : Int)) :: (Str.ofString "n", .int (s.length : Int)) :: S
theorem app_str (a b : List Nat) : (⟨a.toArray⟩ : Str) ++ ⟨b.toArray⟩ = ⟨(a ++ b).toArray⟩ := by
  apply str_ext; simp [Str.cps_append]
theorem split_is {s : Str} (h : s.cps.toList.all plainSign = true) (h1 : 1 ≤ s.length) (hl : s.length ≤ 1000) {μ : Mu} : methE (.str s) (Str.ofString "splitlines") [] μ = some (.list [.str s], μ) := by
  have e : methD (.str s) (Str.ofString "splitlines") [] = if decide (1 ≤ s.length) && decide (s.length ≤ 1000) && s.cps.toList.all plainSign then some (D.list [.str s]) else none := by kernel_rfl
  show (methD _ _ _).map _ = _
  rw [e, if_pos (by rw [h]; simp; lia)]
  rfl
theorem strip_is {s : Str} (h : s.cps.toList.all plainSign = true) (h1 : 1 ≤ s.length) (hl : s.length ≤ 1000) {μ : Mu} : methE (.str s) (Str.ofString "rstrip") [] μ = some (.str s, μ) := by
  have e : methD (.str s) (Str.ofString "rstrip") [] = if decide (1 ≤ s.length) && decide (s.length ≤ 1000) && s.cps.toList.all plainSign then some (D.str s) else none := by kernel_rfl
  show (methD _ _ _).map _ = _
  rw [e, if_pos (by rw [h]; simp; lia)]
  rfl
theorem ends_is {s t : Str} {μ : Mu} : methE (.str s) (Str.ofString "endswith") [.str t] μ = some (.bool (decide (t.length ≤ s.length) && s.cps.toList.drop (s.length - t.length) == t.cps.toList), μ) := by
  have e : methD (.str s) (Str.ofString "endswith") [.str t] = some (.bool (decide (t.length ≤ s.length) && s.cps.toList.drop (s.length - t.length) == t.cps.toList)) := by kernel_rfl
  show (methD (.str s) (Str.ofString "endswith") [.str t]).map (fun r => (r, μ)) = _
  rw [e]; rfl
theorem lenS {s : Str} (h : s.length ≤ 1000) {μ : Mu} : biD μ "len" [.str s] = some (.int (s.length : Int)) := by
  show (if s.length ≤ 1000000 then some (D.int (s.length : Int)) else none) = _
  rw [if_pos (by lia)]
noncomputable def safeS : List Nat := (Str.ofString "ABCDEFGHIJKLMNOPQRSTUVWXYZabcdefghijklmnopqrstuvwxyz0123456789-!*+/").cps.toList
noncomputable def figS : List Nat := (Str.ofString "0123456789ABCDEF").cps.toList
noncomputable def signOk (o : Nat) : Bool := if safeS.contains o then hdrSign o == ⟨#[o]⟩ else if o == 32 then hdrSign o == ⟨#[95]⟩ else hdrSign o == (⟨#[61]⟩ : Str) ++ ⟨#[figS.getD (o / 16) 0]⟩ ++ ⟨#[figS.getD (o % 16) 0]⟩
theorem sign_ok : (List.range 256).all signOk = true := by decide +kernel
theorem sign_run (T : Tbl) {o : Nat} (h : o < 256) : RunF T [] 31 [.int o] (.str (hdrSign o)) := by
  have ok := List.all_eq_true.mp sign_ok o (by simpa using h)
  have hchr : biD [] "chr" [.int (o : Int)] = some (.str ⟨#[o]⟩) := by
    have e : biD [] "chr" [.int (o : Int)] = if (0 : Int) ≤ (o : Int) then if (o : Int) < 256 then some (D.str ⟨#[(o : Int).toNat]⟩) else none else none := by kernel_rfl!
    rw [e, if_pos (by lia), if_pos (by lia), Int.toNat_natCast]
  have fig : ∀ i : Nat, i < 16 → subD [] (.str (Str.ofString "0123456789ABCDEF")) (.int (i : Int)) = some (.str ⟨#[figS.getD i 0]⟩) := fun i hi => by
    have hl : figS.length = 16 := by kernel_rfl!
    refine subStr (s := Str.ofString "0123456789ABCDEF") (c := figS.getD i 0) ?_ (by decide)
    show figS[i]? = _
    simp [List.getD_eq_getElem?_getD, hl, hi]
  refine runOf ?_ (by rfl)
  refine wNext (tSet (d := .str (Str.ofString "ABCDEFGHIJKLMNOPQRSTUVWXYZabcdefghijklmnopqrstuvwxyz0123456789-!*+/")) (μ1 := []) ?_ ?_ xStr) ?_ <;> try first | rfl | kernel_rfl!
  refine wNext (tSet (d := .str (Str.ofString "0123456789ABCDEF")) (μ1 := []) ?_ ?_ xStr) ?_ <;> try first | rfl | kernel_rfl!
  unfold signOk at ok
  refine wIf (c := safeS.contains o) (μ1 := []) (tCmp (a := .str ⟨#[o]⟩) (b := .str (Str.ofString "ABCDEFGHIJKLMNOPQRSTUVWXYZabcdefghijklmnopqrstuvwxyz0123456789-!*+/")) ?_ ?_ (xBi (id := "chr") (ds := [.int (o : Int)]) ?_ ?_ (xEs (xName ?_ ?_) xEs0) hchr) (xName ?_ ?_) rfl) ?_ <;> try first | rfl | kernel_rfl!
  by_cases h1 : safeS.contains o = true
  · rw [if_pos h1] at ok ⊢
    rw [beq_iff_eq.mp ok]
    refine wRet (tRet (μ1 := []) (xBi (id := "chr") (ds := [.int (o : Int)]) ?_ ?_ (xEs (xName ?_ ?_) xEs0) hchr)) rfl <;> first | rfl | kernel_rfl!
  · rw [if_neg h1] at ok ⊢
    refine wNil ?_
    refine wIf (c := decide (o = 32)) (μ1 := []) (tCmp (a := .int (o : Int)) (b := .int ((32 : Nat) : Int)) ?_ ?_ (xName ?_ ?_) xInt (eqN o 32)) ?_ <;> try first | rfl | kernel_rfl!
    by_cases h2 : o = 32
    · rw [if_pos (by simpa using h2)]
      rw [if_pos (by simpa using h2)] at ok
      rw [beq_iff_eq.mp ok]
      exact wRet (tRet (d := .str ⟨#[95]⟩) (μ1 := []) xStr) rfl
    · rw [if_neg (by simpa using h2)]
      rw [if_neg (by simpa using h2)] at ok
      rw [beq_iff_eq.mp ok]
      refine wNil ?_
      have add : ∀ a b : Str, a.length ≤ 1000 → b.length ≤ 1000 → binD .Add (.str a) (.str b) = some (.str (a ++ b)) := fun a b h1 h2 => by
        rw [add_strs, if_pos (by simp [h1, h2])]
      refine wRet (tRet (μ1 := []) (xBin (a := .str ((⟨#[61]⟩ : Str) ++ ⟨#[figS.getD (o / 16) 0]⟩)) (b := .str ⟨#[figS.getD (o % 16) 0]⟩) (xBin (a := .str ⟨#[61]⟩) (b := .str ⟨#[figS.getD (o / 16) 0]⟩) xStr (xItem (a := .str (Str.ofString "0123456789ABCDEF")) (b := .int ((o / 16 : Nat) : Int)) ?_ (xName ?_ ?_) (xBin (xName ?_ ?_) xInt (divN (b := 16) (by decide) (by decide))) (fig _ (by lia))) (add _ _ (by decide) (Nat.le_of_ble_eq_true rfl))) (xItem (a := .str (Str.ofString "0123456789ABCDEF")) (b := .int ((o % 16 : Nat) : Int)) ?_ (xName ?_ ?_) (xBin (xName ?_ ?_) xInt (modN (b := 16) (by decide))) (fig _ (by lia))) (add _ _ (by rw [app_len]; exact Nat.le_of_ble_eq_true rfl) (Nat.le_of_ble_eq_true rfl)))) rfl <;> first | rfl | kernel_rfl!
end Mine
end
section
open PySem PySem.W PyProof.Rows
set_option autoImplicit false
namespace Mine
noncomputable def wnl (l : List Nat) : Str := ⟨(l ++ [10]).toArray⟩
noncomputable def tl9 : List Nat → List Nat
  | [] => [10]
  | _ :: _ => []
theorem dec_len {ds : Str} {a b : List Nat} (h : ds = ⟨(a ++ tl9 b).toArray⟩) : ds.length ≤ a.length + 1 := by
  subst h
  show (a ++ tl9 b).toArray.size ≤ _
  cases b <;> simp [tl9]
theorem clampN (n d i : Nat) : clamp n d (some (i : Int)) = min i n := by
  unfold clamp
  simp only
  rw [if_neg (by lia), Int.toNat_natCast]
theorem lt1 (c : Nat) : (⟨#[c]⟩ : Str).length = 1 := rfl
set_option maxHeartbeats 1000000 in
theorem decode_run (T : Tbl) (hU : ∀ x y a b : Nat, hexVal x = some a → hexVal y = some b → a < 16 → b < 16 → Calls T 72 [.str ⟨#[61, x, y]⟩] (.str ⟨#[16 * a + b]⟩))
    {l : List Nat} (h : AllO l) (h0 : l ≠ []) (hl : l.length ≤ 100) : RunF T [] 24 [.str ⟨(E2 l).toArray⟩, .str nl] (.str ⟨l.toArray⟩) := by
  obtain ⟨pl, len⟩ := E2_plain h
  obtain ⟨s, hs⟩ : ∃ s : Str, s = ⟨(E2 l).toArray⟩ := ⟨_, rfl⟩
  rw [← hs]
  have hcp : s.cps.toList = E2 l := by rw [hs]
  have hsl : s.length = (E2 l).length := by rw [hs]; simp [Str.length]
  have hpos : 1 ≤ s.length := by
    cases l with
    | nil => exact absurd rfl h0
    | cons o b => rw [hsl]; exact E2_pos (h o (by simp)) b
  have hall : s.cps.toList.all plainSign = true := by rw [hcp]; exact pl
  have hs1 : s.length ≤ 1000 := by lia
  have htr : ∀ μ, truthD μ (.str s) = some true := fun μ => by
    show (if s.length ≤ 1000000 then some (decide (s.length ≠ 0)) else none) = _
    rw [if_pos (by lia)]; simp; lia
  have main : WS T [] 40 (fScope (st 24)) (sg 24 [.str s, .str nl]) [] (fBody (st 24)) (fun r => r.1 = .ret (.str ⟨l.toArray⟩)) := by
    refine wIf (c := false) (tNot (t := true) (tName (xName ?_ ?_) (htr _))) (wNil ?_) <;> try first | rfl | kernel_rfl!
    refine wNext (tSet (d := .str (Str.ofString "")) (μ1 := []) ?_ ?_ xStr) ?_ <;> try first | rfl | kernel_rfl!
    refine wFor (l := [.str s]) (μ1 := []) (R := fun ls σ μ => μ = [] ∧ ((ls = [.str s] ∧ σ = (Str.ofString "eol", .str nl) :: (Str.ofString "encoded", .str s) :: (Str.ofString "decoded", .str (Str.ofString "")) :: []) ∨ (ls = [] ∧ ∃ (i : Nat) (S : Sg), σ = sh9 s (wnl l) i S))) (itGen (d := .list [.str s]) ?_ (xMeth (a := .str s) (ds := []) (μ2 := []) ?_ (xName ?_ ?_) ?_ xEs0 (split_is hall hpos hs1)) ?_) ?_ ?_ ?_ <;> try first | rfl | exact ⟨fun _ _ => rfl, by kernel_rfl!⟩ | kernel_rfl!
    · exact ⟨rfl, .inl ⟨rfl, rfl⟩⟩
    · rintro d ls σ μ ⟨rfl, hh⟩
      rcases hh with ⟨hh, rfl⟩ | ⟨hh, _⟩
      · obtain ⟨rfl, rfl⟩ := List.cons.inj hh
        refine ⟨(Str.ofString "eol", .str nl) :: (Str.ofString "encoded", .str s) :: (Str.ofString "decoded", .str (Str.ofString "")) :: (Str.ofString "line", .str s) :: [], by kernel_rfl!, ?_⟩
        refine wNext (tSet (d := .str s) (μ1 := []) ?_ ?_ (xMeth (a := .str s) (ds := []) (μ2 := []) ?_ (xName ?_ ?_) ?_ xEs0 (strip_is hall hpos hs1))) ?_ <;> try first | rfl | exact ⟨fun _ _ => rfl, by kernel_rfl!⟩ | kernel_rfl!
        refine wIf (c := false) (tNot (t := true) (tName (xName ?_ ?_) (htr _))) (wNil ?_) <;> try first | rfl | kernel_rfl!
        refine wNext (tSet (d := .int 0) (μ1 := []) ?_ ?_ xInt) ?_ <;> try first | rfl | kernel_rfl!
        refine wNext (tSet (d := .int (s.length : Int)) (μ1 := []) ?_ ?_ (xBi (id := "len") (ds := [.str s]) ?_ ?_ (xEs (xName ?_ ?_) xEs0) (lenS hs1))) ?_ <;> try first | rfl | kernel_rfl!
        refine wWhile (f := l.length) (R := fun f σ μ => ∃ (a b : List Nat) (ds : Str) (i : Nat) (S : Sg), l = a ++ b ∧ b.length ≤ f ∧ μ = [] ∧ i = (E2 a).length ∧ ds = ⟨(a ++ tl9 b).toArray⟩ ∧ σ = sh9 s ds i S)
          (I := fun σ μ => ∃ (i : Nat) (S : Sg), μ = [] ∧ σ = sh9 s (wnl l) i S) ?_ ?_ ?_ ?_
        · refine ⟨[], l, Str.ofString "", 0, [], rfl, Nat.le_refl _, rfl, rfl, ?_, rfl⟩
          cases l with
          | nil => exact absurd rfl h0
          | cons o b => rfl
        · lia
        · rintro f σ μ ⟨a, b, ds, i, S, hab, hbf, rfl, hi, hds, rfl⟩
          refine ⟨decide (i < s.length), ?_, fun hc => ?_, fun hc => ?_⟩
          · refine tCmp ?_ ?_ (xName ?_ ?_) (xName ?_ ?_) (ltN i s.length) <;> first | rfl | kernel_rfl!
          · have hin : i < s.length := by simpa using hc
            have hln : s.length = i + (E2 b).length := by rw [hsl, hab, E2_app, List.length_append, hi]
            cases b with
            | nil => simp [E2, joinS] at hln; lia
            | cons o b =>
              have ho : o < 256 := h o (by rw [hab]; simp)
              have hal : a.length ≤ 100 := by have := congrArg List.length hab; simp at this; lia
              have hdl := dec_len hds
              simp only [tl9, List.append_nil] at hds
              have hat : ∀ (j : Nat) c, (E2 (o :: b))[j]? = some c → s.cps.toList[i + j]? = some c := fun j c e => by
                rw [hcp, hab, E2_app, hi, List.getElem?_append_right (by lia)]
                simpa using e
              have nxt : ∀ (w : Nat) (S : Sg), (e2 o).cps.toList.length = w → ∀ ds' : Str, ds' = (if b = [] then (⟨(a ++ [o]).toArray⟩ : Str) ++ nl else ⟨(a ++ [o]).toArray⟩) → ∃ f', f' < f ∧ ∃ (a' b' : List Nat) (ds : Str) (j : Nat) (S' : Sg), l = a' ++ b' ∧ b'.length ≤ f' ∧ ([] : Mu) = [] ∧ j = (E2 a').length ∧ ds = ⟨(a' ++ tl9 b').toArray⟩ ∧ sh9 s ds' (i + w) S = sh9 s ds j S' := by
                intro w S hw ds' hds'
                refine ⟨b.length, by simp at hbf; lia, a ++ [o], b, ds', i + w, S, by rw [hab]; simp, Nat.le_refl _, rfl, ?_, ?_, rfl⟩
                · rw [E2_app, List.length_append, E2_cons, List.length_append, hw, hi]; simp [E2, joinS]
                · rw [hds']
                  cases b with
                  | nil => rw [if_pos rfl]; exact app_str _ _
                  | cons _ _ => rw [if_neg (by simp)]; simp [tl9]
              have hend : ∀ w, (e2 o).cps.toList.length = w → decide (i + w = s.length) = decide (b = []) := fun w hw => by
                have : (E2 (o :: b)).length = w + (E2 b).length := by rw [E2_cons, List.length_append, hw]
                cases b with
                | nil =>
                  have e : (E2 []).length = 0 := rfl
                  simp; lia
                | cons q b =>
                  have := E2_pos (o := q) (h q (by rw [hab]; simp)) b
                  simp; lia
              have hdec : ∀ c : Nat, c = o → ds ++ (⟨#[c]⟩ : Str) = ⟨(a ++ [o]).toArray⟩ := fun c e => by rw [hds, e]; exact app_str a [o]
              rcases e2_is ho with ⟨e, h61, hpl⟩ | ⟨x, y, e, hx, hy, hpx, hpy, hcx, hcy⟩
              · have hci : s.cps.toList[i]? = some o := hat 0 o (by rw [E2_cons, e]; rfl)
                have hend := hend 1 (by rw [e]; rfl)
                refine wLess (sh9 s ds i []) S ?_
                · skip
                  refine wNext (tSet (d := .str ⟨#[o]⟩) (μ1 := []) ?_ ?_ (xItem (a := .str s) (b := .int (i : Int)) ?_ (xName ?_ ?_) (xName ?_ ?_) (subStr hci hs1))) ?_ <;> try first | rfl | kernel_rfl!
                  refine wIf (c := true) (μ1 := []) (tCmp (a := .str ⟨#[o]⟩) (b := .str ⟨#[61]⟩) ?_ ?_ (xName ?_ ?_) xStr ((neSign (c := o) (by lia)).trans (by simp [h61]))) ?_ <;> try first | rfl | kernel_rfl!
                  refine wNext (tAugS (a := ds) (b := ⟨#[o]⟩) (μ1 := []) ?_ ?_ (xName ?_ ?_) (by rw [lt1]; simp; lia)) ?_ <;> try first | rfl | kernel_rfl!
                  refine wNext (tAugI (a := (i : Int)) (b := 1) (μ1 := []) ?_ ?_ xInt) (wNil ?_) <;> try first | rfl | kernel_rfl!
                  refine wIf (c := decide (b = [])) (μ1 := []) (tCmp (a := .int ((i + 1 : Nat) : Int)) (b := .int (s.length : Int)) ?_ ?_ (xName ?_ ?_) (xName ?_ ?_) ((eqN (i + 1) s.length).trans (by rw [hend]))) ?_ <;> try first | rfl | kernel_rfl!
                  by_cases hb : b = []
                  · rw [if_pos (by simpa using hb)]
                    refine wNext (tAugS (a := ds ++ ⟨#[o]⟩) (b := nl) (μ1 := []) ?_ ?_ (xName ?_ ?_) (by rw [hdec o rfl]; simp [Str.length, nl]; lia)) (wNil (wNil ?_)) <;> try first | rfl | kernel_rfl!
                    exact nxt 1 _ (by rw [e]; rfl) _ (by rw [if_pos hb, hdec o rfl])
                  · rw [if_neg (by simpa using hb)]
                    exact wNil (wNil (nxt 1 _ (by rw [e]; rfl) _ (by rw [if_neg hb, hdec o rfl])))
              · have hci : s.cps.toList[i]? = some 61 := hat 0 61 (by rw [E2_cons, e]; rfl)
                have hci1 : s.cps.toList[i + 1]? = some x := hat 1 x (by rw [E2_cons, e]; rfl)
                have hci2 : s.cps.toList[i + 2]? = some y := hat 2 y (by rw [E2_cons, e]; rfl)
                have hend := hend 3 (by rw [e]; rfl)
                have hlen3 : (E2 (o :: b)).length = 3 + (E2 b).length := by rw [E2_cons, List.length_append, e]; rfl
                have hcut : sliceD (.str s) (some (i : Int)) (some ((i + 3 : Nat) : Int)) none = some (.str ⟨#[61, x, y]⟩) := by
                  rw [sl_str (by lia)]
                  have h1 : clamp s.cps.toList.length 0 (some (i : Int)) = i := by
                    rw [clampN, hcp, ← hsl]; lia
                  have h2 : clamp s.cps.toList.length s.cps.toList.length (some ((i + 3 : Nat) : Int)) = i + 3 := by
                    rw [clampN, hcp, ← hsl]; lia
                  unfold cutL
                  rw [h1, h2, hcp, hab, E2_app, E2_cons, e]
                  have : (E2 a ++ ([61, x, y] ++ E2 b)).take (i + 3) = E2 a ++ [61, x, y] := by
                    rw [← List.append_assoc, List.take_append_of_le_length (by simp; lia), List.take_of_length_le (by simp; lia)]
                  rw [this, hi]
                  simp
                have hcall := hU x y (o / 16) (o % 16) hx hy (by lia) (by lia)
                have hval : 16 * (o / 16) + o % 16 = o := by lia
                rw [hval] at hcall
                refine wLess (sh9 s ds i []) S ?_
                · skip
                  refine wNext (tSet (d := .str ⟨#[61]⟩) (μ1 := []) ?_ ?_ (xItem (a := .str s) (b := .int (i : Int)) ?_ (xName ?_ ?_) (xName ?_ ?_) (subStr hci hs1))) ?_ <;> try first | rfl | kernel_rfl!
                  refine wIf (c := false) (μ1 := []) (tCmp (a := .str ⟨#[61]⟩) (b := .str ⟨#[61]⟩) ?_ ?_ (xName ?_ ?_) xStr ((neSign (c := 61) (by lia)).trans (by rfl))) ?_ <;> try first | rfl | kernel_rfl!
                  refine wIf (c := false) (μ1 := []) (tCmp (a := .int ((i + 1 : Nat) : Int)) (b := .int (s.length : Int)) ?_ ?_ (xBin (xName ?_ ?_) xInt (addN (a := i) (b := 1))) (xName ?_ ?_) ((eqN (i + 1) s.length).trans (by simp; lia))) ?_ <;> try first | rfl | kernel_rfl!
                  refine wIf (c := true) (μ1 := []) (tChain (tsAT (tCmp (a := .int ((i + 2 : Nat) : Int)) (b := .int (s.length : Int)) ?_ ?_ (xBin (xName ?_ ?_) xInt (addN (a := i) (b := 2))) (xName ?_ ?_) ((ltN (i + 2) s.length).trans (by simp; lia))) (tsAT (tCmp (a := .str ⟨#[x]⟩) (b := .str hexd) ?_ ?_ (xItem (a := .str s) (b := .int ((i + 1 : Nat) : Int)) ?_ (xName ?_ ?_) (xBin (xName ?_ ?_) xInt (addN (a := i) (b := 1))) (subStr hci1 hs1)) (xGlob ?_ ?_ ?_) (inStr.trans (by rw [hcx]))) (tsAT (tCmp (a := .str ⟨#[y]⟩) (b := .str hexd) ?_ ?_ (xItem (a := .str s) (b := .int ((i + 2 : Nat) : Int)) ?_ (xName ?_ ?_) (xBin (xName ?_ ?_) xInt (addN (a := i) (b := 2))) (subStr hci2 hs1)) (xGlob ?_ ?_ ?_) (inStr.trans (by rw [hcy]))) tsA0)))) ?_ <;> try first | rfl | kernel_rfl!
                  refine wNext (tAugS (a := ds) (b := ⟨#[o]⟩) (μ1 := []) ?_ ?_ (xFn (a := 72) (ds := [.str ⟨#[61, x, y]⟩]) ?_ ?_ (xEs (xSlice (a := .str s) (xName ?_ ?_) (xO1 (xName ?_ ?_)) (xO1 (xBin (xName ?_ ?_) xInt (addN (a := i) (b := 3)))) xO0 hcut) xEs0) (hcall _)) (by rw [lt1]; simp; lia)) ?_ <;> try first | rfl | kernel_rfl!
                  refine wNext (tAugI (a := (i : Int)) (b := 3) (μ1 := []) ?_ ?_ xInt) (wNil (wNil (wNil ?_))) <;> try first | rfl | kernel_rfl!
                  refine wIf (c := decide (b = [])) (μ1 := []) (tCmp (a := .int ((i + 3 : Nat) : Int)) (b := .int (s.length : Int)) ?_ ?_ (xName ?_ ?_) (xName ?_ ?_) ((eqN (i + 3) s.length).trans (by rw [hend]))) ?_ <;> try first | rfl | kernel_rfl!
                  by_cases hb : b = []
                  · rw [if_pos (by simpa using hb)]
                    refine wNext (tAugS (a := ds ++ ⟨#[o]⟩) (b := nl) (μ1 := []) ?_ ?_ (xName ?_ ?_) (by rw [hdec o rfl]; simp [Str.length, nl]; lia)) (wNil (wNil ?_)) <;> try first | rfl | kernel_rfl!
                    exact nxt 3 _ (by rw [e]; rfl) _ (by rw [if_pos hb, hdec o rfl])
                  · rw [if_neg (by simpa using hb)]
                    exact wNil (wNil (nxt 3 _ (by rw [e]; rfl) _ (by rw [if_neg hb, hdec o rfl])))
          · have hin : ¬ i < s.length := by simpa using hc
            have hln : s.length = i + (E2 b).length := by rw [hsl, hab, E2_app, List.length_append, hi]
            cases b with
            | nil =>
              refine ⟨i, S, rfl, ?_⟩
              rw [hds]; simp only [List.append_nil] at hab; rw [hab]; rfl
            | cons o b => have := E2_pos (o := o) (h o (by rw [hab]; simp)) b; lia
        · rintro σ μ ⟨i, S, rfl, rfl⟩
          exact wNil ⟨rfl, .inr ⟨rfl, i, S, rfl⟩⟩
      · cases hh
    · rintro σ μ ⟨rfl, hh⟩
      rcases hh with ⟨hh, _⟩ | ⟨_, i, S, rfl⟩
      · cases hh
      · obtain ⟨c, hc⟩ : ∃ c, s.cps.toList.getLast? = some c := by
          cases e : s.cps.toList.getLast? with
          | none => have := List.getLast?_eq_none_iff.mp e; simp only [Str.length] at hpos; simp at this; rw [this] at hpos; simp at hpos
          | some c => exact ⟨c, rfl⟩
        have hcp2 : plainSign c = true := List.all_eq_true.mp hall c (List.mem_of_getLast? hc)
        have hcn : (Str.ofString "\r\n").cps.toList.contains c = false := by
          have : (Str.ofString "\r\n").cps.toList = [13, 10] := by kernel_rfl!
          rw [this]
          simp only [plainSign, Bool.and_eq_true, decide_eq_true_eq] at hcp2
          simp; lia
        have he : methE (.str (wnl l)) (Str.ofString "endswith") [.str nl] [] = some (.bool true, []) := by
          rw [ends_is]
          congr 3
          have e1 : (wnl l).length = l.length + 1 := by simp [wnl, Str.length]
          have e2 : nl.length = 1 := rfl
          rw [e1, e2]
          simp [nl, wnl]
        have hsl2 : sliceD (.str (wnl l)) none (some (-1)) none = some (.str ⟨l.toArray⟩) := by
          refine (sl_str (by simp [wnl, Str.length]; lia)).trans ?_
          show some (D.str ⟨(cutL (l ++ [10]) none (some (-1))).toArray⟩) = _
          have : clamp (l ++ [10]).length (l ++ [10]).length (some (-1)) = l.length := by
            unfold clamp
            simp only
            rw [if_pos (by lia)]; simp; lia
          unfold cutL
          rw [this]
          have : clamp (l ++ [10]).length 0 none = 0 := rfl
          rw [this]; simp
        refine wLess (sh9 s (wnl l) i []) S ?_
        · skip
          refine wIf (c := true) (μ1 := []) (tChain (tsAT (tCmp (a := .str ⟨#[c]⟩) (b := .str (Str.ofString "\r\n")) ?_ ?_ (xItem (a := .str s) (b := .int (-1)) ?_ (xName ?_ ?_) (xNeg xInt) (subStrLast hc hs1)) xStr (notInStr.trans (by rw [hcn]; rfl))) (tsAT (tCall (d := .bool true) (xMeth (a := .str (wnl l)) (ds := [.str nl]) (μ2 := []) ?_ (xName ?_ ?_) ?_ (xEs (xName ?_ ?_) xEs0) he) ?_) tsA0))) ?_ <;> try first | exact ⟨fun _ _ => rfl, by kernel_rfl!⟩ | kernel_rfl! | rfl
          refine wNext (tSet (d := .str ⟨l.toArray⟩) (μ1 := []) ?_ ?_ (xSlice (a := .str (wnl l)) (xName ?_ ?_) xO0 (xO1 (xNeg (i := 1) (xBi (id := "len") (ds := [.str nl]) ?_ ?_ (xEs (xName ?_ ?_) xEs0) (lenS (s := nl) (by decide))))) xO0 hsl2)) (wNil ?_) <;> try first | rfl | kernel_rfl!
          refine wRet (tRet (d := .str ⟨l.toArray⟩) (xName ?_ ?_)) ?_ <;> first | rfl | kernel_rfl!
  exact runOf main rfl
end Mine
end
section
open PySem PySem.W PyProof.Rows
set_option autoImplicit false
namespace Mine
/-! carried -/
noncomputable def repOk (o : Nat) : Bool := repl1 95 [61, 50, 48] (hdrSign o).cps.toList == (e2 o).cps.toList
theorem rep_all : (List.range 256).all repOk = true := by decide +kernel
theorem repl1_app (c : Nat) (b : List Nat) (x y : List Nat) : repl1 c b (x ++ y) = repl1 c b x ++ repl1 c b y := by
  induction x with
  | nil => rfl
  | cons a x ih => simp [repl1, ih]
theorem repl_body : ∀ {l : List Nat}, AllO l → repl1 95 [61, 50, 48] (body l) = E2 l
  | [], _ => rfl
  | o :: l, h => by
    have a := repl_body (l := l) fun x hx => h x (by simp [hx])
    have b := List.all_eq_true.mp rep_all o (by simpa using h o (by simp))
    rw [E2_cons, ← a, ← beq_iff_eq.mp b, ← repl1_app]
    rfl
theorem bytes_is {l : List Nat} (h : AllO l) (hl : l.length ≤ 1000) : tyD "bytes" [.list (octs l)] = some (.bytes l) := by
  have e : tyD "bytes" [.list (octs l)] = if (octs l).length ≤ 1000 then (allInts (octs l)).bind fun l => (octets? l).map .bytes else none := by kernel_rfl!
  rw [e, if_pos (by simpa [octs] using hl), allInts_octs, Option.bind_some, octets_of h]; rfl
theorem chars_items {s : Str} {l : List Nat} (hs : s.cps.toList = l) (hl : l.length ≤ 1000) : itemsOf (.str s) = some (l.map fun c => .str ⟨#[c]⟩) := by
  show (if s.length ≤ 1000 then some (s.cps.toList.map fun c => D.str ⟨#[c]⟩) else none) = _
  rw [if_pos (by rw [← hs] at hl; simpa [Str.length] using hl), hs]
theorem carried_run (T : Tbl) (hH : ∀ l, AllO l → l ≠ [] → l.length ≤ 100 → Calls T 80 [.bytes l] (.str (writ l))) (hD : ∀ l, AllO l → l ≠ [] → l.length ≤ 100 → Calls T 93 [.str ⟨(E2 l).toArray⟩] (.str ⟨l.toArray⟩))
    {l : List Nat} (h : AllO l) (h0 : l ≠ []) (hl : l.length ≤ 100) : RunF T [] 37 [.list (octs l)] (.list (octs l)) := by
  have hbl := body_len h
  have e15 : (Str.ofString "=?iso-8859-1?q?").cps.toList.length = 15 := by kernel_rfl!
  have e2' : (Str.ofString "?=").cps.toList.length = 2 := by kernel_rfl!
  have hwl : (writ l).length = 15 + (body l).length + 2 := by
    simp only [writ, Str.length, List.size_toArray, List.length_append, e15, e2']
  have hcut : sliceD (.str (writ l)) (some 15) (some (-2)) none = some (.str ⟨(body l).toArray⟩) := by
    rw [sl_str (by lia)]
    have hn : (writ l).cps.toList.length = 15 + (body l).length + 2 := by rw [← hwl]; simp [Str.length]
    have h1 : clamp (writ l).cps.toList.length 0 (some 15) = 15 := (clampN _ 0 15).trans (by lia)
    have h2 : clamp (writ l).cps.toList.length (writ l).cps.toList.length (some (-2)) = 15 + (body l).length := by
      rw [hn]; unfold clamp; simp only; rw [if_pos (by lia)]; lia
    unfold cutL
    rw [h1, h2]
    have : (writ l).cps.toList = ((Str.ofString "=?iso-8859-1?q?").cps.toList ++ body l) ++ (Str.ofString "?=").cps.toList := rfl
    rw [this, List.take_append_of_le_length (by rw [List.length_append, e15]; lia), List.take_of_length_le (by rw [List.length_append, e15]; lia), List.drop_append_of_le_length (by lia), List.drop_of_length_le (by lia)]
    rfl
  have hcall : Calls T 93 [.str ⟨(repl1 95 (Str.ofString "=20").cps.toList (body l)).toArray⟩] (.str ⟨l.toArray⟩) := by
    have e3 : (Str.ofString "=20").cps.toList = [61, 50, 48] := by kernel_rfl!
    rw [e3, repl_body h]
    exact hD l h h0 hl
  have main : WS T [] 40 (fScope (st 37)) (sg 37 [.list (octs l)]) [] (fBody (st 37)) (fun r => r.1 = .ret (.list (octs l))) := by
    refine wNext (tSet (d := .str (writ l)) (μ1 := []) ?_ ?_ (xFn (a := 80) (ds := [.bytes l]) ?_ ?_ (xEs (xTy (id := "bytes") (ds := [.list (octs l)]) ?_ ?_ (xEs (xName ?_ ?_) xEs0) (bytes_is h (by lia))) xEs0) (hH l h h0 hl _))) ?_ <;> try first | rfl | kernel_rfl!
    refine wRet (tRet (d := .list ((l.map fun c => D.str ⟨#[c]⟩).map fun d => match d with | .str s => .int ((s.cps.toList.headD 0 : Nat) : Int) | _ => .nil)) (xLC (lComp (μ1 := []) (B := fun d => [(Str.ofString "sign", d)]) ?_ (itGen (d := .str ⟨l.toArray⟩) ?_ (xFn (a := 93) (ds := [.str ⟨(repl1 95 (Str.ofString "=20").cps.toList (body l)).toArray⟩]) ?_ ?_ (xEs (xRepl (c := 95) (b := Str.ofString "=20") (x := ⟨(body l).toArray⟩) (μ2 := []) ?_ ?_ (xName ?_ ?_) (xO1 (xNeg xInt)) hcut (by show (body l).toArray.size ≤ 1000; simp; lia) (by decide) ?_) xEs0) (hcall _)) (chars_items rfl (by lia))) ?_ ?_ ?_ ?_))) ?_ <;> try first | rfl | kernel_rfl!
    · intro d _; rfl
    · intro d' _ d _; rfl
    · intro d hd
      obtain ⟨c, hc, rfl⟩ := List.mem_map.mp hd
      refine xBi (id := "ord") (ds := [.str ⟨#[c]⟩]) ?_ ?_ (xEs (xName ?_ ?_) xEs0) ?_ <;> first | rfl | kernel_rfl!
    · simp; lia
    · show Fl.ret (.list _) = _
      congr 2
      simp [octs]
  exact runOf main (octs_plain _)
/-! told -/
noncomputable def ord3 (a b : List Nat) : Ordering := o3 (a < b) (b < a)
theorem natLt (a b : Nat) (x y : List Nat) : (a :: x < b :: y) ↔ (a < b ∨ a = b ∧ x < y) := List.cons_lt_cons_iff
theorem cmps_octs : ∀ a b : List Nat, D.cmps (octs a) (octs b) = some (ord3 a b)
  | [], [] => rfl
  | [], y :: b => congrArg some (o3_lt.mpr (List.nil_lt_cons y b)).symm
  | x :: a, [] => congrArg some ((o3_gt str_asym).mpr (List.nil_lt_cons x a)).symm
  | x :: a, y :: b => (cmps_then rfl (cmps_octs a b)).trans (congrArg some ((o3_then (e := x = y) Int.lt_asymm (intEq3.trans Int.ofNat_inj)).trans
      (o3_congr ((or_congr_left Int.ofNat_lt).trans (natLt x y a b).symm) ((or_congr Int.ofNat_lt (and_congr_left' eq_comm)).trans (natLt y x b a).symm))))
theorem flatO (a : List Nat) : flatD (.list (octs a)) = true := by
  show (octs a).all scal = true
  exact List.all_eq_true.mpr fun d h => by obtain ⟨o, _, rfl⟩ := List.mem_map.mp h; rfl
theorem cmpO (a b : List Nat) {μ : Mu} : cmpD μ .Gt (.list (octs a)) (.list (octs b)) = some (decide (b < a)) ∧ cmpD μ .Lt (.list (octs a)) (.list (octs b)) = some (decide (a < b)) :=
  ⟨(cmpGt (flatO a) (flatO b) (cmps_octs a b)).trans (ordG str_asym), (cmpLt (flatO a) (flatO b) (cmps_octs a b)).trans ordL⟩
theorem neI (a b : Int) {μ : Mu} : cmpD μ .NotEq (.int a) (.int b) = some (a != b) := (cmpNe rfl rfl rfl).trans (ordN intEq3)
theorem subL {μ : Mu} {xs : List D} {i : Nat} {d : D} (h : xs[i]? = some d) (hl : xs.length ≤ 1000) : subD μ (.list xs) (.int (i : Int)) = some d := by
  show (if xs.length ≤ 100000 then at? xs (i : Int) else none) = _
  rw [if_pos (by lia)]
  unfold at?
  rw [if_pos (Int.natCast_nonneg i), Int.toNat_natCast, h]
theorem lenL {μ : Mu} {xs : List D} (hl : xs.length ≤ 1000) : biD μ "len" [.list xs] = some (.int (xs.length : Int)) := by
  show (if xs.length ≤ 1000000 then some (D.int (xs.length : Int)) else none) = _
  rw [if_pos (by lia)]
noncomputable def kD (ks : List (List Nat)) : List D := ks.map fun k => .list (octs k)
theorem kD_plain (ks : List (List Nat)) : D.plains (kD ks) = true := plains_map (f := fun k : List Nat => D.list (octs k)) (fun k => octs_plain k) ks
/-- the two loops' names -/
noncomputable def three3 (S : Sg) : Prop := S = [] ∨ ∃ a b c, S = [(Str.ofString "other", a), (Str.ofString "side", b), (Str.ofString "told", c)]
noncomputable def below (n : Nat) (l : List D) : Prop := ∀ d ∈ l, ∃ i : Nat, i < n ∧ d = .int (i : Int)
theorem below_range (n : Nat) : below n (octs (List.range n)) := fun d hd => by
  obtain ⟨i, hi, rfl⟩ := List.mem_map.mp hd
  exact ⟨i, by simpa using hi, rfl⟩
theorem told_run (T : Tbl) {ws : List Str} {ks : List (List Nat)} (hl : ws.length = ks.length) (hn : ks.length ≤ 100) (hs : ∀ w ∈ ws, PyData.strOk w = true)
    (hC : ∀ x y : Str, PyData.strOk x = true → PyData.strOk y = true → Calls T 100 [.str x, .str y] (.int (sgn3 x.cps.toList y.cps.toList)))
    (hk : ∀ (i j : Nat) (x y : Str) (a b : List Nat), ws[i]? = some x → ws[j]? = some y → ks[i]? = some a → ks[j]? = some b → sgn3 x.cps.toList y.cps.toList = sgn3 a b) :
    RunF T [] 38 [.list (strD ws), .list (kD ks)] (.bool true) := by
  have hlen : biD [] "len" [.list (kD ks)] = some (.int (ks.length : Int)) := (lenL (by simp [kD]; lia)).trans (by simp [kD])
  have get : ∀ i : Nat, i < ks.length → ∃ (x : Str) (a : List Nat), ws[i]? = some x ∧ ks[i]? = some a ∧ subD [] (.list (strD ws)) (.int (i : Int)) = some (.str x) ∧ subD [] (.list (kD ks)) (.int (i : Int)) = some (.list (octs a)) ∧ PyData.strOk x = true := fun i hi => by
    have h1 : i < ws.length := by lia
    refine ⟨ws[i], ks[i], by simp, by simp, subL (by simp [strD, h1]) (by simp [strD]; lia), subL (by simp [kD, hi]) (by simp [kD]; lia), hs _ (by simp)⟩
  have main : WS T [] 40 (fScope (st 38)) (sg 38 [.list (strD ws), .list (kD ks)]) [] (fBody (st 38)) (fun r => r.1 = .ret (.bool true)) := by
    refine wFor (l := octs (List.range ks.length)) (μ1 := []) (R := fun l σ μ => below ks.length l ∧ μ = [] ∧ ∃ S, (S = [] ∨ ∃ o S', S = (Str.ofString "one", o) :: S' ∧ three3 S') ∧ σ = (Str.ofString "keys", .list (kD ks)) :: (Str.ofString "writings", .list (strD ws)) :: S)
      (itGen (d := .rng 0 (ks.length : Int)) ?_ (xTy (id := "range") (ds := [.int (ks.length : Int)]) ?_ ?_ (xEs (xBi (id := "len") (ds := [.list (kD ks)]) ?_ ?_ (xEs (xName ?_ ?_) xEs0) hlen) xEs0) (rangeN (by lia))) (itemsN (by lia))) ?_ ?_ ?_ <;> try first | rfl | kernel_rfl!
    · exact ⟨below_range _, rfl, [], .inl rfl, rfl⟩
    · rintro d l σ μ ⟨hb, rfl, S, hS, rfl⟩
      obtain ⟨i, hi, rfl⟩ := hb d (by simp)
      obtain ⟨x, a, x1, x2, x3, x4, x5⟩ := get i hi
      obtain ⟨S', hS', hbind⟩ : ∃ S', three3 S' ∧ bindT (fScope (st 38)) (.Name (Str.ofString "one") ⟨0, 0, 0, 0⟩) (.int (i : Int)) ((Str.ofString "keys", .list (kD ks)) :: (Str.ofString "writings", .list (strD ws)) :: S) = some ((Str.ofString "keys", .list (kD ks)) :: (Str.ofString "writings", .list (strD ws)) :: (Str.ofString "one", .int (i : Int)) :: S') := by
        rcases hS with rfl | ⟨o, S', rfl, h3⟩
        · exact ⟨[], .inl rfl, by kernel_rfl!⟩
        · exact ⟨S', h3, by kernel_rfl!⟩
      refine ⟨_, hbind, ?_⟩
      refine wFor (l := octs (List.range ks.length)) (μ1 := []) (R := fun l σ μ => below ks.length l ∧ μ = [] ∧ ∃ S, three3 S ∧ σ = (Str.ofString "keys", .list (kD ks)) :: (Str.ofString "writings", .list (strD ws)) :: (Str.ofString "one", .int (i : Int)) :: S)
        (itGen (d := .rng 0 (ks.length : Int)) ?_ (xTy (id := "range") (ds := [.int (ks.length : Int)]) ?_ ?_ (xEs (xBi (id := "len") (ds := [.list (kD ks)]) ?_ ?_ (xEs (xName ?_ ?_) xEs0) hlen) xEs0) (rangeN (by lia))) (itemsN (by lia))) ?_ ?_ ?_ <;> try first | rfl | kernel_rfl!
      · exact ⟨below_range _, rfl, S', hS', rfl⟩
      · rintro d l' σ μ ⟨hb', rfl, S, hS, rfl⟩
        obtain ⟨j, hj, rfl⟩ := hb' d (by simp)
        obtain ⟨y, b, y1, y2, y3, y4, y5⟩ := get j hj
        have hsg := hk i j x y a b x1 y1 x2 y2
        have hcall := hC x y x5 y5
        rw [hsg] at hcall
        have fin : ∀ (S : Sg), three3 S → below ks.length l' ∧ ([] : Mu) = [] ∧ ∃ S', three3 S' ∧ ((Str.ofString "keys", D.list (kD ks)) :: (Str.ofString "writings", .list (strD ws)) :: (Str.ofString "one", .int (i : Int)) :: S) = (Str.ofString "keys", .list (kD ks)) :: (Str.ofString "writings", .list (strD ws)) :: (Str.ofString "one", .int (i : Int)) :: S' := fun S hS => ⟨fun d hd => hb' d (by simp [hd]), rfl, S, hS, rfl⟩
        have hgt := (cmpO a b (μ := [])).1
        have hlt := (cmpO a b (μ := [])).2
        obtain ⟨S', hbind⟩ : ∃ S', bindT (fScope (st 38)) (.Name (Str.ofString "other") ⟨0, 0, 0, 0⟩) (.int (j : Int)) ((Str.ofString "keys", .list (kD ks)) :: (Str.ofString "writings", .list (strD ws)) :: (Str.ofString "one", .int (i : Int)) :: S) = some ([(Str.ofString "keys", .list (kD ks)), (Str.ofString "writings", .list (strD ws)), (Str.ofString "one", .int (i : Int)), (Str.ofString "other", .int (j : Int))] ++ S') := by
          rcases hS with rfl | ⟨q1, q2, q3, rfl⟩
          · exact ⟨[], by kernel_rfl!⟩
          · exact ⟨[(Str.ofString "side", q2), (Str.ofString "told", q3)], by kernel_rfl!⟩
        refine ⟨_, hbind, wLess _ _ ?_⟩
        refine wNext (tSet (d := .int 0) (μ1 := []) ?_ ?_ xInt) ?_ <;> try first | rfl | kernel_rfl!
        by_cases h1 : b < a
        · have h2 : ¬ a < b := fun h2 => List.lt_irrefl _ (List.lt_trans h1 h2)
          have h3 : sgn3 a b = 1 := by unfold sgn3; rw [if_pos h1]
          rw [h3] at hcall
          refine wIf (c := true) (μ1 := []) (tCmp (a := .list (octs a)) (b := .list (octs b)) ?_ ?_ (xItem (a := .list (kD ks)) (b := .int (i : Int)) ?_ (xName ?_ ?_) (xName ?_ ?_) x4) (xItem (a := .list (kD ks)) (b := .int (j : Int)) ?_ (xName ?_ ?_) (xName ?_ ?_) y4) (hgt.trans (by simp [h1]))) ?_ <;> try first | rfl | kernel_rfl!
          refine wNext (tSet (d := .int 1) (μ1 := []) ?_ ?_ xInt) (wNil ?_) <;> try first | rfl | kernel_rfl!
          refine wIf (c := false) (μ1 := []) (tCmp (a := .list (octs a)) (b := .list (octs b)) ?_ ?_ (xItem (a := .list (kD ks)) (b := .int (i : Int)) ?_ (xName ?_ ?_) (xName ?_ ?_) x4) (xItem (a := .list (kD ks)) (b := .int (j : Int)) ?_ (xName ?_ ?_) (xName ?_ ?_) y4) (hlt.trans (by simp [h2]))) (wNil ?_) <;> try first | rfl | kernel_rfl!
          refine wNext (tSet (d := .int 1) (μ1 := []) ?_ ?_ (xFn (a := 100) (ds := [.str x, .str y]) ?_ ?_ (xEs (xItem (a := .list (strD ws)) (b := .int (i : Int)) ?_ (xName ?_ ?_) (xName ?_ ?_) x3) (xEs (xItem (a := .list (strD ws)) (b := .int (j : Int)) ?_ (xName ?_ ?_) (xName ?_ ?_) y3) xEs0)) (hcall _))) ?_ <;> try first | rfl | kernel_rfl!
          refine wIf (c := false) (μ1 := []) (tChain (tsOF (tType (nm := "int") (k := "int") (d := .int 1) ?_ ?_ ?_ (xName ?_ ?_) ?_) (tsOF (tCmp (a := .int 1) (b := .int 1) ?_ ?_ (xName ?_ ?_) (xName ?_ ?_) (neI 1 1)) tsO0))) (wNil (wNil (fin _ (.inr ⟨_, _, _, rfl⟩)))) <;> try first | rfl | kernel_rfl!
        · by_cases h2 : a < b
          · have h3 : sgn3 a b = -1 := by unfold sgn3; rw [if_neg h1, if_pos h2]
            rw [h3] at hcall
            refine wIf (c := false) (μ1 := []) (tCmp (a := .list (octs a)) (b := .list (octs b)) ?_ ?_ (xItem (a := .list (kD ks)) (b := .int (i : Int)) ?_ (xName ?_ ?_) (xName ?_ ?_) x4) (xItem (a := .list (kD ks)) (b := .int (j : Int)) ?_ (xName ?_ ?_) (xName ?_ ?_) y4) (hgt.trans (by simp [h1]))) (wNil ?_) <;> try first | rfl | kernel_rfl!
            refine wIf (c := true) (μ1 := []) (tCmp (a := .list (octs a)) (b := .list (octs b)) ?_ ?_ (xItem (a := .list (kD ks)) (b := .int (i : Int)) ?_ (xName ?_ ?_) (xName ?_ ?_) x4) (xItem (a := .list (kD ks)) (b := .int (j : Int)) ?_ (xName ?_ ?_) (xName ?_ ?_) y4) (hlt.trans (by simp [h2]))) ?_ <;> try first | rfl | kernel_rfl!
            refine wNext (tSet (d := .int (-1)) (μ1 := []) ?_ ?_ (xNeg xInt)) (wNil ?_) <;> try first | rfl | kernel_rfl!
            refine wNext (tSet (d := .int (-1)) (μ1 := []) ?_ ?_ (xFn (a := 100) (ds := [.str x, .str y]) ?_ ?_ (xEs (xItem (a := .list (strD ws)) (b := .int (i : Int)) ?_ (xName ?_ ?_) (xName ?_ ?_) x3) (xEs (xItem (a := .list (strD ws)) (b := .int (j : Int)) ?_ (xName ?_ ?_) (xName ?_ ?_) y3) xEs0)) (hcall _))) ?_ <;> try first | rfl | kernel_rfl!
            refine wIf (c := false) (μ1 := []) (tChain (tsOF (tType (nm := "int") (k := "int") (d := .int (-1)) ?_ ?_ ?_ (xName ?_ ?_) ?_) (tsOF (tCmp (a := .int (-1)) (b := .int (-1)) ?_ ?_ (xName ?_ ?_) (xName ?_ ?_) (neI (-1) (-1))) tsO0))) (wNil (wNil (fin _ (.inr ⟨_, _, _, rfl⟩)))) <;> try first | rfl | kernel_rfl!
          · have h3 : sgn3 a b = 0 := by unfold sgn3; rw [if_neg h1, if_neg h2]
            rw [h3] at hcall
            refine wIf (c := false) (μ1 := []) (tCmp (a := .list (octs a)) (b := .list (octs b)) ?_ ?_ (xItem (a := .list (kD ks)) (b := .int (i : Int)) ?_ (xName ?_ ?_) (xName ?_ ?_) x4) (xItem (a := .list (kD ks)) (b := .int (j : Int)) ?_ (xName ?_ ?_) (xName ?_ ?_) y4) (hgt.trans (by simp [h1]))) (wNil ?_) <;> try first | rfl | kernel_rfl!
            refine wIf (c := false) (μ1 := []) (tCmp (a := .list (octs a)) (b := .list (octs b)) ?_ ?_ (xItem (a := .list (kD ks)) (b := .int (i : Int)) ?_ (xName ?_ ?_) (xName ?_ ?_) x4) (xItem (a := .list (kD ks)) (b := .int (j : Int)) ?_ (xName ?_ ?_) (xName ?_ ?_) y4) (hlt.trans (by simp [h2]))) (wNil ?_) <;> try first | rfl | kernel_rfl!
            refine wNext (tSet (d := .int 0) (μ1 := []) ?_ ?_ (xFn (a := 100) (ds := [.str x, .str y]) ?_ ?_ (xEs (xItem (a := .list (strD ws)) (b := .int (i : Int)) ?_ (xName ?_ ?_) (xName ?_ ?_) x3) (xEs (xItem (a := .list (strD ws)) (b := .int (j : Int)) ?_ (xName ?_ ?_) (xName ?_ ?_) y3) xEs0)) (hcall _))) ?_ <;> try first | rfl | kernel_rfl!
            refine wIf (c := false) (μ1 := []) (tChain (tsOF (tType (nm := "int") (k := "int") (d := .int 0) ?_ ?_ ?_ (xName ?_ ?_) ?_) (tsOF (tCmp (a := .int 0) (b := .int 0) ?_ ?_ (xName ?_ ?_) (xName ?_ ?_) (neI 0 0)) tsO0))) (wNil (wNil (fin _ (.inr ⟨_, _, _, rfl⟩)))) <;> try first | rfl | kernel_rfl!
      · rintro σ μ ⟨hb', rfl, S, hS, rfl⟩
        exact wNil ⟨fun d hd => hb d (by simp [hd]), rfl, _, .inr ⟨_, S, rfl, hS⟩, rfl⟩
    · rintro σ μ ⟨hb', rfl, S, hS, rfl⟩
      exact wRet (tRet (d := .bool true) (μ1 := []) xBool) rfl
  exact runOf main rfl
end Mine
end
section
open PySem PySem.W PyProof.Rows
set_option autoImplicit false
namespace Mine
/-! numbers, octets, word -/
noncomputable def intsD (l : List Int) : List D := l.map D.int
theorem ints_plain (l : List Int) : D.plains (intsD l) = true := plains_map (fun _ => rfl) l
theorem allInts_ints (l : List Int) : allInts (intsD l) = some l := by
  induction l with
  | nil => rfl
  | cons o l ih => exact (congrArg (Option.map (o :: ·)) ih).trans rfl
noncomputable def cut4 (xs : List Int) (k : Nat) : List Int := (sliceRange (max 0 (min (k : Int) xs.length)) xs.length 4).filterMap (xs[·]?)
theorem cut4_is (xs : List Int) (k : Nat) (h : xs.length ≤ 100) : sliceD (.list (intsD xs)) (some (k : Int)) none (some 4) = some (.list (intsD (cut4 xs k))) := by
  have hl : (intsD xs).length = xs.length := List.length_map _
  rw [sl_four (by lia) (by lia), hl]
  congr 2
  unfold cut4
  simp only [intsD, List.map_filterMap, List.getElem?_map]
noncomputable def starts (k : Nat) : Int := [72480, 123, 5, 62].getD k 0
noncomputable def numF (xs : List Int) : D → D
  | .int k => .int (starts k.toNat + (cut4 xs k.toNat).sum)
  | _ => .nil
theorem numbers_run (T : Tbl) {xs : List Int} (hl : xs.length ≤ 100) : ∃ l : List Int, l.length = 4 ∧ RunF T [] 28 [.list (intsD xs)] (.list (intsD l)) := by
  refine ⟨(List.range 4).map fun k => starts k + (cut4 xs k).sum, rfl, ?_⟩
  have main : WS T [] 40 (fScope (st 28)) (sg 28 [.list (intsD xs)]) [] (fBody (st 28)) (fun r => r.1 = .ret (.list ((octs (List.range 4)).map (numF xs)))) := by
    refine wNext (tSet (d := .list (intsD [72480, 123, 5, 62])) (μ1 := []) ?_ ?_ (xList (lList (xEs xInt (xEs xInt (xEs xInt (xEs xInt xEs0)))) ?_))) ?_ <;> try first | rfl | kernel_rfl!
    · decide
    refine wRet (tRet (μ1 := []) (xLC (lComp (μ1 := []) (f := numF xs) (B := fun d => [(Str.ofString "script", .list (intsD xs)), (Str.ofString "starts", .list (intsD [72480, 123, 5, 62])), (Str.ofString "k", d)]) ?_ (itGen (d := .rng 0 4) ?_ (xTy (id := "range") (ds := [.int 4]) ?_ ?_ (xEs xInt xEs0) (rangeN (n := 4) (by lia))) (itemsN (n := 4) (by lia))) ?_ ?_ ?_ ?_))) ?_ <;> try first | rfl | kernel_rfl!
    · intro d _; kernel_rfl!
    · intro d' _ d _; kernel_rfl!
    · intro d hd
      obtain ⟨k, hk, rfl⟩ := List.mem_map.mp hd
      have hk4 : k < 4 := by simpa using hk
      have hsub : subD [] (.list (intsD [72480, 123, 5, 62])) (.int (k : Int)) = some (.int (starts k)) := by
        refine subL ?_ (by simp [intsD])
        match k, hk4 with
        | 0, _ => rfl
        | 1, _ => rfl
        | 2, _ => rfl
        | 3, _ => rfl
      have hsum : biD [] "sum" [.list (intsD (cut4 xs k))] = some (.int (cut4 xs k).sum) := by
        have e : biD [] "sum" [.list (intsD (cut4 xs k))] = (allInts (intsD (cut4 xs k))).map fun l => .int l.sum := by kernel_rfl!
        rw [e, allInts_ints]; rfl
      refine xBin (a := .int (starts k)) (b := .int (cut4 xs k).sum) (xItem (a := .list (intsD [72480, 123, 5, 62])) (b := .int (k : Int)) ?_ (xName ?_ ?_) (xName ?_ ?_) hsub) (xBi (id := "sum") (ds := [.list (intsD (cut4 xs k))]) ?_ ?_ (xEs (xSlice (a := .list (intsD xs)) (xName ?_ ?_) (xO1 (xName ?_ ?_)) xO0 (xO1 xInt) (cut4_is xs k hl)) xEs0) hsum) ?_ <;> first | rfl | kernel_rfl!
    · decide
  exact runOf main rfl
theorem modI (a : Int) {b : Nat} (h : 0 < b) : ∃ n : Nat, n < b ∧ binD .Mod (.int a) (.int (b : Int)) = some (.int (n : Int)) := by
  refine ⟨(a.fmod (b : Int)).toNat, ?_, ?_⟩
  · have := Int.fmod_lt_of_pos a (b := (b : Int)) (by lia)
    have := Int.fmod_nonneg_of_pos a (b := (b : Int)) (by lia)
    lia
  · rw [mod_int, if_neg (by lia)]
    have := Int.fmod_nonneg_of_pos a (b := (b : Int)) (by lia)
    congr 2; lia
theorem divI (a : Int) {b : Nat} (h : 0 < b) (hb : b < 1000000) : binD .FloorDiv (.int a) (.int (b : Int)) = some (.int (a.fdiv (b : Int))) := by
  rw [div_int, if_neg (by lia), if_pos (by simp [small]; lia)]
theorem octets_run (T : Tbl) (n : Int) : ∃ a b c : Nat, a < 256 ∧ b < 256 ∧ c < 256 ∧ RunF T [] 29 [.int n] (.list (octs [a, b, c])) := by
  obtain ⟨a, ha, ea⟩ := modI n (b := 256) (by lia)
  obtain ⟨q, _, eq⟩ := modI (n.fdiv 256) (b := 85) (by lia)
  obtain ⟨b, hb, eb⟩ := modI ((a + 1 + q : Nat) : Int) (b := 256) (by lia)
  obtain ⟨q2, _, eq2⟩ := modI (n.fdiv 21760) (b := 85) (by lia)
  obtain ⟨c, hc, ec⟩ := modI ((b + 1 + q2 : Nat) : Int) (b := 256) (by lia)
  refine ⟨a, b, c, ha, hb, hc, ?_⟩
  have main : WS T [] 40 (fScope (st 29)) (sg 29 [.int n]) [] (fBody (st 29)) (fun r => r.1 = .ret (.list (octs [a, b, c]))) := by
    refine wNext (tSet (d := .int (a : Int)) (μ1 := []) ?_ ?_ (xBin (xName ?_ ?_) xInt ea)) ?_ <;> try first | rfl | kernel_rfl!
    refine wNext (tSet (d := .int (b : Int)) (μ1 := []) ?_ ?_ (xBin (xBin (xBin (xName ?_ ?_) xInt (addN (b := 1))) (xBin (xBin (xName ?_ ?_) xInt (divI n (b := 256) (by lia) (by lia))) xInt eq) addN) xInt eb)) ?_ <;> try first | rfl | kernel_rfl!
    refine wNext (tSet (d := .int (c : Int)) (μ1 := []) ?_ ?_ (xBin (xBin (xBin (xName ?_ ?_) xInt (addN (b := 1))) (xBin (xBin (xName ?_ ?_) xInt (divI n (b := 21760) (by lia) (by lia))) xInt eq2) addN) xInt ec)) ?_ <;> try first | rfl | kernel_rfl!
    refine wRet (tRet (μ1 := []) (xList (lList (ds := octs [a, b, c]) (xEs (xName ?_ ?_) (xEs (xName ?_ ?_) (xEs (xName ?_ ?_) xEs0))) ?_))) ?_ <;> try first | rfl | kernel_rfl!
    · exact Nat.le_of_ble_eq_true rfl
  exact runOf main (octs_plain _)
noncomputable def ix (n : Int) (p : Nat) : Nat := (((n.fdiv 4).fdiv ((3 ^ p : Nat) : Int)).fmod 3).toNat
theorem ix_lt (n : Int) (p : Nat) : ix n p < 3 := by
  unfold ix
  have := Int.fmod_lt_of_pos ((n.fdiv 4).fdiv ((3 ^ p : Nat) : Int)) (b := 3) (by lia)
  lia
noncomputable def wordF (n : Int) (o : List Nat) : D → D
  | .int p => .int ((o.getD (ix n p.toNat) 0 : Nat) : Int)
  | _ => .nil
theorem word_run (T : Tbl) (n : Int) {o : List Nat} (ho : o.length = 3) (hO : AllO o) : ∃ w : List Nat, 1 ≤ w.length ∧ w.length ≤ 4 ∧ AllO w ∧ RunF T [] 30 [.int n, .list (octs o)] (.list (octs w)) := by
  obtain ⟨m, hm, em⟩ := modI n (b := 4) (by lia)
  refine ⟨(List.range (m + 1)).map fun p => o.getD (ix n p) 0, by simp, by simp; lia, fun x hx => ?_, ?_⟩
  · obtain ⟨p, _, rfl⟩ := List.mem_map.mp hx
    have := ix_lt n p
    exact hO _ (by simp [show ix n p < o.length by lia])
  have main : WS T [] 40 (fScope (st 30)) (sg 30 [.int n, .list (octs o)]) [] (fBody (st 30)) (fun r => r.1 = .ret (.list ((octs (List.range (m + 1))).map (wordF n o)))) := by
    refine wRet (tRet (μ1 := []) (xLC (lComp (μ1 := []) (f := wordF n o) (B := fun d => [(Str.ofString "octets", .list (octs o)), (Str.ofString "number", .int n), (Str.ofString "place", d)]) ?_ (itGen (d := .rng 0 ((m + 1 : Nat) : Int)) ?_ (xTy (id := "range") (ds := [.int ((m + 1 : Nat) : Int)]) ?_ ?_ (xEs (xBin (xBin (xName ?_ ?_) xInt em) xInt (addN (b := 1))) xEs0) (rangeN (by lia))) (itemsN (by lia))) ?_ ?_ ?_ ?_))) ?_ <;> try first | rfl | kernel_rfl!
    · intro d _; kernel_rfl!
    · intro d' _ d _; kernel_rfl!
    · intro d hd
      obtain ⟨p, hp, rfl⟩ := List.mem_map.mp hd
      have hp4 : p < 4 := by have : p < m + 1 := by simpa using hp
                             lia
      have hpow : binD .Pow (.int 3) (.int (p : Int)) = some (.int ((3 ^ p : Nat) : Int)) := by
        rw [pow_int, if_pos (by simp [small]; lia), Int.toNat_natCast]
        congr 2
      have h27 : 3 ^ p < 1000000 ∧ 0 < 3 ^ p := by
        match p, hp4 with
        | 0, _ => decide
        | 1, _ => decide
        | 2, _ => decide
        | 3, _ => decide
      have hdiv := divI (n.fdiv 4) h27.2 h27.1
      have hmod : binD .Mod (.int ((n.fdiv 4).fdiv ((3 ^ p : Nat) : Int))) (.int 3) = some (.int (ix n p : Int)) := by
        rw [mod_int, if_neg (by lia)]
        unfold ix
        have := Int.fmod_nonneg_of_pos ((n.fdiv 4).fdiv ((3 ^ p : Nat) : Int)) (b := 3) (by lia)
        congr 2; lia
      have hi := ix_lt n p
      refine xItem (a := .list (octs o)) (b := .int (ix n p : Int)) ?_ (xName ?_ ?_) (xBin (xBin (xBin (xName ?_ ?_) xInt (divI n (b := 4) (by lia) (by lia))) (xBin xInt (xName ?_ ?_) hpow) hdiv) xInt hmod) (subO (by lia) (by lia)) <;> first | rfl | kernel_rfl!
    · simp [octs]; lia
  have e : ((octs (List.range (m + 1))).map (wordF n o)) = octs ((List.range (m + 1)).map fun p => o.getD (ix n p) 0) := by simp [octs, wordF]
  rw [e] at main
  exact runOf main (octs_plain _)
end Mine
end
section
open PySem PySem.W PyProof.Rows
set_option autoImplicit false
namespace Mine
/-! loops of comprehensions, with a state that is kept -/
theorem loopInv {bind : D → Sg → Option Sg} {step : Sg → Mu → List D → List D × Sg × Mu → Prop} {μ : Mu} (R : Sg → Prop) (g : D → List D) : ∀ (ds : List D) (σ : Sg) (acc : List D), R σ →
    (∀ d ∈ ds, ∀ s, R s → ∃ s1, bind d s = some s1 ∧ ∀ acc : List D, acc.length + (g d).length ≤ 1000 → ∃ s2, step s1 μ acc (acc ++ g d, s2, μ) ∧ R s2) → acc.length + (ds.flatMap g).length ≤ 1000 →
    ∃ σ', LC bind step ds σ μ acc (acc ++ ds.flatMap g, σ', μ) ∧ R σ'
  | [], σ, acc, h, _, _ => ⟨σ, by rw [List.flatMap_nil, List.append_nil]; rfl, h⟩
  | d :: ds, σ, acc, h, hs, hl => by
    simp only [List.flatMap_cons, List.length_append] at hl
    obtain ⟨s1, h1, h2⟩ := hs d (by simp) σ h
    obtain ⟨s2, h3, h4⟩ := h2 acc (by lia)
    obtain ⟨σ', h5, h6⟩ := loopInv R g ds s2 (acc ++ g d) h4 (fun e he => hs e (by simp [he])) (by rw [List.length_append]; lia)
    rw [List.append_assoc] at h5
    exact ⟨σ', ⟨s1, (acc ++ g d, s2, μ), h1, h3, h5⟩, h6⟩
theorem fm1 {α β : Type} (f : α → β) : ∀ l : List α, (l.flatMap fun x => [f x]) = l.map f
  | [] => rfl
  | x :: l => by rw [List.flatMap_cons, fm1 f l]; rfl
section
variable {T : Tbl} {n : Nat} {sc : Scope} {σ σ1 σ2 : Sg} {μ μ1 μ2 μ3 μ4 : Mu} {ow : List Str}
theorem lComp2 {elt t it t2 it2 : Expr} {sc' : Scope} {p : Pos} {ds : List D} {R : Sg → Prop} {R1 : D → Sg → Prop} {l2 : D → List D} {f : D → D → D} (hok : compOk sc sc' = true) (hns : SetOk it2) (hit : XIt T n sc σ μ it (ds, μ1)) (hR0 : R (innerOf sc' σ))
    (hb : ∀ d ∈ ds, ∀ s, R s → ∃ s1, bindT sc' t d s = some s1 ∧ XIt T n sc' s1 μ1 it2 (l2 d, μ1) ∧ R1 d s1)
    (hb2 : ∀ d ∈ ds, ∀ d2 ∈ l2 d, ∀ s1, R1 d s1 → ∃ s2, bindT sc' t2 d2 s1 = some s2 ∧ XE T n sc' s2 μ1 elt (f d d2, μ1) ∧ R1 d s2)
    (hRR : ∀ d s, R1 d s → R s) (hl : (ds.flatMap fun d => (l2 d).map (f d)).length ≤ 1000) :
    XL T (n + 1) sc σ μ (.ListComp elt [⟨t, it, [], 0⟩, ⟨t2, it2, [], 0⟩] sc' p) (ds.flatMap fun d => (l2 d).map (f d), μ1) := by
  obtain ⟨σ', h, _⟩ := loopInv (μ := μ1) (bind := bindT sc' t) (step := fun σ' μ' acc x => ∃ x2, XIt T n sc' σ' μ' it2 x2 ∧ LC (bindT sc' t2) (stepOf fun σ' μ' => XE T n sc' σ' μ' elt) x2.1 σ' x2.2 acc x) R (fun d => (l2 d).map (f d)) ds (innerOf sc' σ) [] hR0 (fun d hd s hs => by
    obtain ⟨s1, h1, h2, h3⟩ := hb d hd s hs
    refine ⟨s1, h1, fun acc hacc => ?_⟩
    obtain ⟨s2, h4, h5⟩ := loopInv (μ := μ1) (bind := bindT sc' t2) (step := stepOf fun σ' μ' => XE T n sc' σ' μ' elt) (R1 d) (fun d2 => [f d d2]) (l2 d) s1 acc h3 (fun d2 hd2 s' hs' => by
      obtain ⟨s2, h6, h7, h8⟩ := hb2 d hd d2 hd2 s' hs'
      refine ⟨s2, h6, fun acc' ha => ⟨s2, ⟨_, h7, ?_, rfl⟩, h8⟩⟩
      simp only [List.length_singleton] at ha
      lia) (by rw [fm1]; exact hacc)
    rw [fm1] at h4
    exact ⟨s2, ⟨_, h2, h4⟩, hRR d s2 h5⟩) (by simpa using hl)
  rw [List.nil_append] at h
  exact lTwo hok hns hit h
end
/-! turnings -/
noncomputable def aheadN (w : List Nat) (p : Nat) : Nat := w.getD (if p = 0 then w.length - 1 else p - 1) 0
noncomputable def turnsOf (ws : List (List Nat)) : List (List Nat × Nat) := ws.flatMap fun w => (List.range w.length).map fun p => (readN w p, aheadN w p)
noncomputable def tD (t : List Nat × Nat) : D := .tup [.list (octs t.1), .int (t.2 : Int)]
noncomputable def unO : D → List Nat
  | .list xs => xs.map fun d => match d with | .int i => i.toNat | _ => 0
  | _ => []
theorem unO_octs (l : List Nat) : unO (.list (octs l)) = l := by
  show (octs l).map _ = l
  induction l with
  | nil => rfl
  | cons o l ih => rw [show octs (o :: l) = .int (o : Int) :: octs l from rfl, List.map_cons, ih]; rfl
noncomputable def toN : D → Nat
  | .int i => i.toNat
  | _ => 0
theorem tD_plain (ts : List (List Nat × Nat)) : D.plains (ts.map tD) = true := plains_map (f := tD) (fun t => plains2 (d := .list (octs t.1)) (octs_plain t.1) rfl) ts
theorem turnings_run (T : Tbl) (hR : ∀ (l : List Nat) (p : Nat), 0 < l.length → l.length ≤ 100 → Calls T 139 [.list (octs l), .int (p : Int)] (.list (octs (readN l p))))
    {ws : List (List Nat)} (hw : ∀ w ∈ ws, 0 < w.length ∧ w.length ≤ 4) (hn : ws.length ≤ 100) : RunF T [] 35 [.list (kD ws)] (.list ((turnsOf ws).map tD)) := by
  have e : ((kD ws).flatMap fun d => (octs (List.range (unO d).length)).map fun d2 => tD (readN (unO d) (toN d2), aheadN (unO d) (toN d2))) = (turnsOf ws).map tD := by
    simp only [kD, turnsOf, List.flatMap_map, List.map_flatMap, unO_octs]
    congr 1
    funext w
    simp [octs, toN]
  have hlen : (turnsOf ws).length ≤ 4 * ws.length := by
    clear e hn
    induction ws with
    | nil => simp [turnsOf]
    | cons w ws ih =>
      have := ih fun v hv => hw v (by simp [hv])
      have := (hw w (by simp)).2
      simp only [turnsOf, List.flatMap_cons, List.length_append, List.length_map, List.length_range, List.length_cons] at *
      lia
  have main : WS T [] 40 (fScope (st 35)) (sg 35 [.list (kD ws)]) [] (fBody (st 35)) (fun r => r.1 = .ret (.list ((turnsOf ws).map tD))) := by
    rw [← e]
    refine wRet (tRet (d := .list _) (μ1 := []) (xLC (lComp2 (μ1 := []) (f := fun d d2 => tD (readN (unO d) (toN d2), aheadN (unO d) (toN d2))) (l2 := fun d => octs (List.range (unO d).length))
      (R := fun s => s = [] ∨ (∃ a, s = [(Str.ofString "word", a)]) ∨ ∃ a b, s = [(Str.ofString "word", a), (Str.ofString "place", b)]) (R1 := fun d s => s = [(Str.ofString "word", d)] ∨ ∃ b, s = [(Str.ofString "word", d), (Str.ofString "place", b)]) ?_ sCall.set (itGen (d := .list (kD ws)) ?_ (xName ?_ ?_) rfl) (.inl rfl) ?_ ?_ ?_ ?_))) rfl <;> try first | rfl | kernel_rfl!
    · intro d hd s hs
      obtain ⟨w, hww, rfl⟩ := List.mem_map.mp hd
      have hw' := hw w hww
      have hlen : biD [] "len" [.list (octs w)] = some (.int (w.length : Int)) := lenO w (by lia)
      rw [unO_octs]
      rcases hs with rfl | ⟨a, rfl⟩ | ⟨a, b, rfl⟩
      · refine ⟨[(Str.ofString "word", .list (octs w))], by kernel_rfl!, itGen (d := .rng 0 (w.length : Int)) ?_ (xTy (id := "range") (ds := [.int (w.length : Int)]) ?_ ?_ (xEs (xBi (id := "len") (ds := [.list (octs w)]) ?_ ?_ (xEs (xName ?_ ?_) xEs0) hlen) xEs0) (rangeN (by lia))) (itemsN (by lia)), .inl rfl⟩ <;> first | rfl | kernel_rfl!
      · refine ⟨[(Str.ofString "word", .list (octs w))], by kernel_rfl!, itGen (d := .rng 0 (w.length : Int)) ?_ (xTy (id := "range") (ds := [.int (w.length : Int)]) ?_ ?_ (xEs (xBi (id := "len") (ds := [.list (octs w)]) ?_ ?_ (xEs (xName ?_ ?_) xEs0) hlen) xEs0) (rangeN (by lia))) (itemsN (by lia)), .inl rfl⟩ <;> first | rfl | kernel_rfl!
      · refine ⟨[(Str.ofString "word", .list (octs w)), (Str.ofString "place", b)], by kernel_rfl!, itGen (d := .rng 0 (w.length : Int)) ?_ (xTy (id := "range") (ds := [.int (w.length : Int)]) ?_ ?_ (xEs (xBi (id := "len") (ds := [.list (octs w)]) ?_ ?_ (xEs (xName ?_ ?_) xEs0) hlen) xEs0) (rangeN (by lia))) (itemsN (by lia)), .inr ⟨b, rfl⟩⟩ <;> first | rfl | kernel_rfl!
    · intro d hd d2 hd2 s hs
      obtain ⟨w, hww, rfl⟩ := List.mem_map.mp hd
      have hw' := hw w hww
      rw [unO_octs] at hd2
      obtain ⟨p, hp, rfl⟩ := List.mem_map.mp hd2
      have hpw : p < w.length := by simpa using hp
      refine ⟨[(Str.ofString "word", .list (octs w)), (Str.ofString "place", .int (p : Int))], by rcases hs with rfl | ⟨b, rfl⟩ <;> kernel_rfl!, ?_, .inr ⟨_, rfl⟩⟩
      have hcall := hR w p hw'.1 (by lia)
      have hah : subD [] (.list (octs w)) (.int ((p : Int) - 1)) = some (.int ((aheadN w p : Nat) : Int)) := by
        show (if (octs w).length ≤ 100000 then at? (octs w) ((p : Int) - 1) else none) = _
        have hol : (octs w).length = w.length := by simp [octs]
        rw [if_pos (by lia)]
        unfold at? aheadN
        by_cases h0 : p = 0
        · subst h0
          have hlt : w.length - 1 < w.length := by lia
          rw [if_neg (by lia), if_pos (by lia), if_pos rfl, hol, show ((w.length : Int) + ((0 : Nat) - 1)).toNat = w.length - 1 by lia]
          simp [octs, hlt]
        · have hlt : p - 1 < w.length := by lia
          rw [if_pos (by lia), if_neg h0, show ((p : Int) - 1).toNat = p - 1 by lia]
          simp [octs, hlt]
      have e1 : tD (readN (unO (.list (octs w))) (toN (.int (p : Int))), aheadN (unO (.list (octs w))) (toN (.int (p : Int)))) = .tup [.list (octs (readN w p)), .int ((aheadN w p : Nat) : Int)] := by rw [unO_octs]; rfl
      rw [e1]
      refine xTup (xEs (xFn (a := 139) (ds := [.list (octs w), .int (p : Int)]) ?_ ?_ (xEs (xName ?_ ?_) (xEs (xName ?_ ?_) xEs0)) (hcall _)) (xEs (xItem (a := .list (octs w)) (b := .int ((p : Int) - 1)) ?_ (xName ?_ ?_) (xBin (a := .int (p : Int)) (b := .int 1) (xName ?_ ?_) xInt ?_) hah) xEs0)) ?_ <;> first | rfl | kernel_rfl! | skip
      exact Nat.le_of_ble_eq_true rfl
    · intro d s hs
      rcases hs with rfl | ⟨b, rfl⟩
      · exact .inr (.inl ⟨_, rfl⟩)
      · exact .inr (.inr ⟨_, _, rfl⟩)
    · have := congrArg List.length e
      rw [this]; simp; lia
  exact runOf main (tD_plain _)
end Mine
end
section
open PySem PySem.W PyProof.Rows
set_option autoImplicit false
namespace Mine
/-! what the heap holds: a text and a number -/
noncomputable abbrev It := List (Fin 1114112) × Nat
noncomputable abbrev It.l (a : It) : List (Fin 1114112) := a.1
noncomputable abbrev It.n (a : It) : Nat := a.2
noncomputable def It.s (a : It) : Str := ⟨(a.l.map Fin.val).toArray⟩
theorem It.ok (a : It) : PyData.strOk a.s = true := by
  unfold PyData.strOk It.s
  rw [← Array.all_toList]
  simp only [List.all_eq_true, decide_eq_true_eq, List.mem_map]
  rintro c ⟨i, _, rfl⟩
  exact i.2
theorem fin_back (l : List (Fin 1114112)) : (l.map Fin.val).map (Fin.ofNat 1114112) = l := by
  rw [List.map_map]
  refine (List.map_congr_left fun i _ => ?_).trans (List.map_id l)
  exact Fin.ext (Nat.mod_eq_of_lt i.2)
theorem It.ext' {a b : It} (hs : a.s.cps.toList = b.s.cps.toList) (hn : a.n = b.n) : a = b := by
  have h : a.l.map Fin.val = b.l.map Fin.val := hs
  have : a.l = b.l := by rw [← fin_back a.l, ← fin_back b.l, h]
  exact Prod.ext this hn
noncomputable def itD (a : It) : D := .tup [.str a.s, .int (a.n : Int)]
noncomputable def itLt (a b : It) : Bool := decide (a.s.cps.toList < b.s.cps.toList) || (decide (a.s.cps.toList = b.s.cps.toList) && decide (a.n < b.n))
theorem itD_plain (a : It) : D.plain (itD a) = true := by rfl
theorem itDs_plain (l : List It) : D.plains (l.map itD) = true := plains_map itD_plain l
theorem listLt_irr (a : List Nat) : ¬ a < a := List.lt_irrefl a
theorem listLt_tri (a b : List Nat) : a < b ∨ a = b ∨ b < a := by
  rcases Decidable.em (a < b) with h | h
  · exact .inl h
  · rcases Decidable.em (b < a) with h2 | h2
    · exact .inr (.inr h2)
    · exact .inr (.inl (List.le_antisymm (List.not_lt.mp h2) (List.not_lt.mp h)))
theorem itTot : Tot itLt where
  irr a := by simp [itLt]
  tr a b c h1 h2 := by
    simp only [itLt, Bool.or_eq_true, Bool.and_eq_true, decide_eq_true_eq] at *
    rcases h1 with h1 | ⟨h1, h1'⟩ <;> rcases h2 with h2 | ⟨h2, h2'⟩
    · exact .inl (List.lt_trans h1 h2)
    · exact .inl (h2 ▸ h1)
    · exact .inl (h1 ▸ h2)
    · exact .inr ⟨h1.trans h2, by lia⟩
  tot a b h1 h2 := by
    simp only [itLt, Bool.or_eq_false_iff, Bool.and_eq_false_iff, decide_eq_false_iff_not] at *
    obtain ⟨p1, p2⟩ := h1
    obtain ⟨q1, q2⟩ := h2
    have e : a.s.cps.toList = b.s.cps.toList := by
      rcases listLt_tri a.s.cps.toList b.s.cps.toList with h | h | h
      · exact absurd h p1
      · exact h
      · exact absurd h q1
    have en : a.n = b.n := by
      have a1 : ¬ a.n < b.n := by rcases p2 with h | h; exact absurd e h; exact h
      have a2 : ¬ b.n < a.n := by rcases q2 with h | h; exact absurd e.symm h; exact h
      lia
    exact It.ext' e en
theorem thenEq (o : Ordering) : o.then .eq = o := by cases o <;> rfl
theorem itLt_iff {a b : It} : itLt a b = true ↔ a.s.cps.toList < b.s.cps.toList ∨ a.s.cps.toList = b.s.cps.toList ∧ a.n < b.n := by simp only [itLt, Bool.or_eq_true, Bool.and_eq_true, decide_eq_true_eq]
theorem it_cmp (μ : Mu) (a b : It) : cmpD μ .Lt (itD a) (itD b) = some (itLt a b) := by
  have f : ∀ a : It, flatD (itD a) = true := fun a => (Bool.and_eq_true _ _).mpr ⟨a.ok, rfl⟩
  have e : D.cmp (itD a) (itD b) = some (o3 (itLt a b = true) (itLt b a = true)) := (cmps_then (x := .str a.s) (y := .str b.s) rfl (cmps_then (x := .int a.n) (y := .int b.n) rfl rfl)).trans (congrArg some (by
    rw [thenEq]
    exact (o3_then str_asym listEq3).trans (o3_congr ((or_congr_right (and_congr_right' Int.ofNat_lt)).trans itLt_iff.symm) ((or_congr_right (and_congr eq_comm Int.ofNat_lt)).trans itLt_iff.symm))))
  exact (cmpLt (f a) (f b) e).trans (ordL.trans (congrArg some Bool.decide_eq_true))
noncomputable def itOf (s : Str) (n : Nat) : It := ⟨s.cps.toList.map (Fin.ofNat 1114112), n⟩
theorem itOf_s {s : Str} (h : PyData.strOk s = true) (n : Nat) : (itOf s n).s = s ∧ (itOf s n).n = n := by
  refine ⟨str_ext ?_, rfl⟩
  show (s.cps.toList.map (Fin.ofNat 1114112)).map Fin.val = s.cps.toList
  rw [List.map_map]
  refine (List.map_congr_left fun c hc => ?_).trans (List.map_id _)
  unfold PyData.strOk at h
  rw [← Array.all_toList] at h
  simp only [List.all_eq_true, decide_eq_true_eq] at h
  exact Nat.mod_eq_of_lt (h c hc)
theorem itOf_D {s : Str} (h : PyData.strOk s = true) (n : Nat) : itD (itOf s n) = .tup [.str s, .int (n : Int)] := by
  unfold itD
  rw [(itOf_s h n).1]; rfl
theorem body_small {l : List Nat} (h : AllO l) : ∀ c ∈ body l, c < 127 := by
  induction l with
  | nil => intro c hc; simp [body, joinS] at hc
  | cons o l ih =>
    intro c hc
    have : body (o :: l) = (hdrSign o).cps.toList ++ body l := rfl
    rw [this, List.mem_append] at hc
    rcases hc with hc | hc
    · exact ((hdrLen (h o (by simp))).2.2 c hc).2
    · exact ih (fun x hx => h x (by simp [hx])) c hc
theorem wr_ok {cs : Str} (hc : PyData.strOk cs = true) {l : List Nat} (h : AllO l) : PyData.strOk (wr cs l) = true := by
  unfold PyData.strOk at *
  rw [← Array.all_toList] at *
  simp only [List.all_eq_true, decide_eq_true_eq] at *
  intro c hm
  unfold wr at hm
  simp only [List.mem_append, List.mem_cons, List.not_mem_nil, or_false] at hm
  rcases hm with hm | hm | hm | hm | hm
  · rcases hm with rfl | rfl <;> decide
  · exact hc c hm
  · rcases hm with rfl | rfl | rfl <;> decide
  · have := body_small h c hm; lia
  · rcases hm with rfl | rfl <;> decide
theorem writ_ok {l : List Nat} (h : AllO l) : PyData.strOk (writ l) = true := by
  rw [← wr_iso]; exact wr_ok (by kernel_rfl!) h
/-! the lengths of heaps -/
section
variable {α : Type} [Inhabited α] {lt : α → α → Bool}
theorem suL_len : ∀ (f : Nat) (V : List α) (p : Nat), (suL lt f V p).1.length = V.length := by
  intro f
  induction f with
  | zero => intro V p; rfl
  | succ f ih => intro V p; unfold suL; split <;> simp [ih, sw_len]
theorem siftup_len (V : List α) (s : Nat) : (siftup lt V s).length = V.length := by unfold siftup; rw [sdL_len, suL_len]
theorem push_len (V : List α) (x : α) : (push lt V x).length = V.length + 1 := by unfold push; rw [sdL_len]; simp
theorem pop_len (V : List α) (h : V ≠ []) : (pop lt V).2.length + 1 = V.length := by
  have : V.dropLast.length + 1 = V.length := by
    have := List.length_pos_iff.mpr h
    simp; lia
  unfold pop
  split
  · next e => rw [e] at this; simpa using this
  · simp only [siftup_len, List.length_set]; exact this
theorem drain_len : ∀ (n : Nat) (V : List α), (drain lt n V).length = n
  | 0, _ => rfl
  | n + 1, V => by simp [drain, drain_len n]
/-- the loop that takes all off -/
theorem loopDrain {bind : D → Sg → Option Sg} {G : Sg → Mu → D × Mu → Prop} {e : α → D} (R : Sg → Prop) (f : α → D) : ∀ (ds : List D) (σ : Sg) (xs : List α) (acc : List D), R σ → xs.length = ds.length → xs.length ≤ 100 →
    (∀ d ∈ ds, ∀ s, R s → ∃ s1, bind d s = some s1 ∧ R s1 ∧ ∀ xs : List α, xs ≠ [] → xs.length ≤ 100 → G s1 [some (xs.map e)] (f (pop lt xs).1, [some ((pop lt xs).2.map e)])) → acc.length + ds.length ≤ 1000 →
    ∃ σ', LC bind (stepOf G) ds σ [some (xs.map e)] acc (acc ++ (drain lt ds.length xs).map f, σ', [some []])
  | [], σ, xs, acc, _, hx, _, _, _ => ⟨σ, by
    have : xs = [] := List.length_eq_zero_iff.mp hx
    subst this
    show _ = _
    rw [show (drain lt ([] : List D).length ([] : List α)).map f = [] from rfl, List.append_nil]; rfl⟩
  | d :: ds, σ, xs, acc, h, hx, hl, hs, ha => by
    simp only [List.length_cons] at hx ha
    have hne : xs ≠ [] := fun e => by subst e; simp at hx
    obtain ⟨s1, h1, h2, h3⟩ := hs d (by simp) σ h
    have hp := pop_len (lt := lt) xs hne
    obtain ⟨σ', h5⟩ := loopDrain R f ds s1 (pop lt xs).2 (acc ++ [f (pop lt xs).1]) h2 (by lia) (by lia) (fun e he => hs e (by simp [he])) (by simp; lia)
    rw [List.append_assoc] at h5
    exact ⟨σ', s1, _, h1, ⟨_, h3 xs hne hl, by lia, rfl⟩, h5⟩
end
section
variable {T : Tbl} {n : Nat} {sc : Scope} {σ σ1 σ2 : Sg} {μ μ1 μ2 μ3 μ4 : Mu} {ow : List Str}
theorem lDrain {α : Type} [Inhabited α] {lt : α → α → Bool} {e : α → D} {elt t it : Expr} {sc' : Scope} {p : Pos} {ds : List D} {xs : List α} {R : Sg → Prop} {f : α → D} (hok : compOk sc sc' = true) (hit : XIt T n sc σ μ it (ds, [some (xs.map e)])) (hR0 : R (innerOf sc' σ)) (hx : xs.length = ds.length) (hl : xs.length ≤ 100)
    (hb : ∀ d ∈ ds, ∀ s, R s → ∃ s1, bindT sc' t d s = some s1 ∧ R s1 ∧ ∀ xs : List α, xs ≠ [] → xs.length ≤ 100 → XE T n sc' s1 [some (xs.map e)] elt (f (pop lt xs).1, [some ((pop lt xs).2.map e)])) :
    XL T (n + 1) sc σ μ (.ListComp elt [⟨t, it, [], 0⟩] sc' p) ((drain lt ds.length xs).map f, [some []]) := by
  obtain ⟨σ', h⟩ := loopDrain (lt := lt) (e := e) (bind := bindT sc' t) (G := fun σ' μ' => XE T n sc' σ' μ' elt) R f ds (innerOf sc' σ) xs [] hR0 hx hl hb (by simp; lia)
  rw [List.nil_append] at h
  exact lOne hok hit h
end
/-! laid -/
noncomputable def owL : List Str := [Str.ofString "heap"]
noncomputable def two2 (x y : String) (S : Sg) : Prop := S = [] ∨ ∃ a b, S = [(Str.ofString x, a), (Str.ofString y, b)]
theorem laid_run (T : Tbl) (hH : ∀ l, AllO l → l ≠ [] → l.length ≤ 100 → Calls T 80 [.bytes l] (.str (writ l)))
    (hPush : ∀ (xs : List It) (x : It), xs.length < 100 → CallsM T 21 (xs.map itD) [itD x] .nil ((push itLt xs x).map itD))
    (hPop : ∀ xs : List It, xs ≠ [] → xs.length ≤ 100 → CallsM T 28 (xs.map itD) [] (itD (pop itLt xs).1) ((pop itLt xs).2.map itD))
    {ts : List (List Nat × Nat)} (ht : ∀ t ∈ ts, AllO t.1 ∧ t.1 ≠ [] ∧ t.1.length ≤ 100) (hn : ts.length < 100) :
    RunF T owL 36 [.list (ts.map tD)] (.list ((drain itLt ts.length (filled itLt (ts.map fun t => itOf (writ t.1) t.2) [])).map itD)) := by
  have hfl : ∀ (l xs : List It), (filled itLt l xs).length = xs.length + l.length := by
    intro l
    induction l with
    | nil => intro xs; rfl
    | cons x l ih => intro xs; simp only [filled, ih, push_len, List.length_cons]; lia
  have main : WS T owL 40 (fScope (st 36)) (sg 36 [.list (ts.map tD)]) [] (fBody (st 36)) (fun r => r.1 = .ret (.list ((drain itLt ts.length (filled itLt (ts.map fun t => itOf (writ t.1) t.2) [])).map itD))) := by
    refine wNext (tOwn (ds := []) (μ1 := []) ?_ ?_ (lList xEs0 (by decide)) ?_) ?_ <;> try first | rfl | kernel_rfl!
    refine wFor (l := ts.map tD) (μ1 := [some []]) (R := fun l σ μ => ∃ (us : List (List Nat × Nat)) (xs : List It) (S : Sg), l = us.map tD ∧ (∀ t ∈ us, t ∈ ts) ∧ xs.length + us.length = ts.length ∧ μ = [some (xs.map itD)] ∧ two2 "read" "ahead" S ∧ σ = (Str.ofString "turnings", .list (ts.map tD)) :: (Str.ofString "heap", .own 0) :: S ∧ filled itLt (us.map fun t => itOf (writ t.1) t.2) xs = filled itLt (ts.map fun t => itOf (writ t.1) t.2) [])
      (itGen (d := .list (ts.map tD)) ?_ (xName ?_ ?_) rfl) ?_ ?_ ?_ <;> try first | rfl | kernel_rfl!
    · exact ⟨ts, [], [], rfl, fun _ h => h, by simp, rfl, .inl rfl, rfl, rfl⟩
    · rintro d l σ μ ⟨us, xs, S, hus, hin, hlen, rfl, hS, rfl, hfin⟩
      cases us with
      | nil => cases hus
      | cons t us =>
        obtain ⟨rfl, rfl⟩ := List.cons.inj hus
        obtain ⟨o1, o2, o3⟩ := ht t (hin t (by simp))
        simp only [List.length_cons] at hlen
        refine ⟨(Str.ofString "turnings", .list (ts.map tD)) :: (Str.ofString "heap", .own 0) :: [(Str.ofString "read", .list (octs t.1)), (Str.ofString "ahead", .int (t.2 : Int))], by rcases hS with rfl | ⟨a, b, rfl⟩ <;> kernel_rfl!, ?_⟩
        have hcall := hPush xs (itOf (writ t.1) t.2) (by lia) [some (xs.map itD)] 0 rfl
        rw [itOf_D (writ_ok o1)] at hcall
        refine wNext (tExpr (xFn (a := 21) (ds := [.own 0, .tup [.str (writ t.1), .int (t.2 : Int)]]) (μ1 := [some (xs.map itD)]) ?_ ?_ (xEs (xName ?_ ?_) (xEs (xTup (xEs (xFn (a := 80) (ds := [.bytes t.1]) ?_ ?_ (xEs (xTy (id := "bytes") (ds := [.list (octs t.1)]) ?_ ?_ (xEs (xName ?_ ?_) xEs0) (bytes_is o1 (by lia))) xEs0) (hH t.1 o1 o2 o3 _)) (xEs (xName ?_ ?_) xEs0)) ?_) xEs0)) hcall)) (wNil ?_) <;> try first | rfl | kernel_rfl!
        · exact Nat.le_of_ble_eq_true rfl
        · exact ⟨us, push itLt xs (itOf (writ t.1) t.2), _, rfl, fun u hu => hin u (by simp [hu]), by rw [push_len]; lia, rfl, .inr ⟨_, _, rfl⟩, rfl, hfin⟩
    · rintro σ μ ⟨us, xs, S, hus, hin, hlen, rfl, hS, rfl, hfin⟩
      have : us = [] := by cases us with
        | nil => rfl
        | cons _ _ => cases hus
      subst this
      have hxl : xs.length = ts.length := by simpa using hlen
      have hxs : xs = filled itLt (ts.map fun t => itOf (writ t.1) t.2) [] := hfin
      rw [← hxs]
      refine wRet (tRet (d := .list ((drain itLt (ts.map tD).length xs).map itD)) (xLC (lDrain (lt := itLt) (e := itD) (f := itD) (R := fun s => s = [(Str.ofString "heap", .own 0)] ∨ ∃ d, s = [(Str.ofString "heap", .own 0), (Str.ofString "turning", d)]) ?_ (itGen (d := .list (ts.map tD)) ?_ (xName ?_ ?_) rfl) ?_ (by simp [hxl]) (by lia) ?_))) ?_ <;> try first | rfl | kernel_rfl!
      · left; rcases hS with rfl | ⟨a, b, rfl⟩ <;> kernel_rfl!
      · intro d hd s hs
        refine ⟨[(Str.ofString "heap", .own 0), (Str.ofString "turning", d)], by rcases hs with rfl | ⟨a, rfl⟩ <;> kernel_rfl!, .inr ⟨d, rfl⟩, fun ys hy1 hy2 => ?_⟩
        have hcall := hPop ys hy1 hy2 [some (ys.map itD)] 0 rfl
        refine xFn (a := 28) (ds := [.own 0]) (μ1 := [some (ys.map itD)]) ?_ ?_ (xEs (xName ?_ ?_) xEs0) hcall <;> first | rfl | kernel_rfl!
      · rw [List.length_map]
  exact runOf main (itDs_plain _)
end Mine
end
section
open PySem PySem.W PyProof.Rows
set_option autoImplicit false
namespace Mine
/-! rings, as lists -/
noncomputable def ringW (pl row : List Nat) : Nat → List Nat → Nat → List Nat → List Nat × List Nat
  | 0, P, _, r => (P, r)
  | f + 1, P, p, r => if P.contains p then (P, r) else ringW pl row f (P ++ [p]) (pl.getD p 0) (r ++ [row.getD (pl.getD p 0) 0])
noncomputable def ringsF (pl row : List Nat) (n : Nat) : List Nat → List Nat → List (List Nat) → List (List Nat)
  | [], _, R => R
  | s :: ss, P, R => ringsF pl row n ss (ringW pl row (n + 1 - P.length) P s []).1 (if (ringW pl row (n + 1 - P.length) P s []).2 = [] then R else R ++ [(ringW pl row (n + 1 - P.length) P s []).2])
noncomputable def PassOk (n : Nat) (P : List Nat) : Prop := P.Nodup ∧ ∀ x ∈ P, x < n
theorem PassOk.len {n : Nat} {P : List Nat} (h : PassOk n P) : P.length ≤ n := by
  have := List.Nodup.length_le_of_subset h.1 (l₂ := List.range n) fun x hx => List.mem_range.mpr (h.2 x hx)
  simpa using this
theorem PassOk.more {n : Nat} {P : List Nat} (h : PassOk n P) {p : Nat} (hp : p < n) (hn : P.contains p = false) : PassOk n (P ++ [p]) := by
  have hnm : p ∉ P := by simpa using hn
  refine ⟨?_, fun x hx => ?_⟩
  · rw [List.nodup_append]
    refine ⟨h.1, by simp, fun a ha b hb => ?_⟩
    simp at hb; subst hb
    exact fun e => hnm (e ▸ ha)
  · rcases List.mem_append.mp hx with hx | hx
    · exact h.2 x hx
    · simp at hx; lia
theorem ringW_step (pl row : List Nat) {n : Nat} {P : List Nat} (h : PassOk n P) {p : Nat} (hp : p < n) (r : List Nat) : ringW pl row (n + 1 - P.length) P p r = if P.contains p then (P, r) else ringW pl row (n + 1 - (P ++ [p]).length) (P ++ [p]) (pl.getD p 0) (r ++ [row.getD (pl.getD p 0) 0]) := by
  have hl := h.len
  have e : n + 1 - P.length = (n - P.length) + 1 := by lia
  rw [e]
  show (if P.contains p then (P, r) else ringW pl row (n - P.length) (P ++ [p]) (pl.getD p 0) (r ++ [row.getD (pl.getD p 0) 0])) = _
  have e2 : n + 1 - (P ++ [p]).length = n - P.length := by simp
  rw [e2]
noncomputable def xS : Str := ⟨#[120]⟩
noncomputable def itsOf (row : List Nat) : List It := (List.range row.length).map fun p => itOf (wr xS [row.getD p 0]) p
noncomputable def placesOf (row : List Nat) : List Nat := (drain itLt row.length (heapd itLt (row.length / 2) (itsOf row))).map It.n
noncomputable def ringsOf (row : List Nat) : List (List Nat) := ringsF (placesOf row) row row.length (List.range row.length) [] []
theorem appOwn {μ : Mu} {k : Nat} {ds : List D} {x : D} (hk : μ[k]? = some (some ds)) (hp : D.plain x = true) (hl : ds.length ≤ 1000) : methE (.own k) (Str.ofString "append") [x] μ = some (.nil, μ.set k (some (ds ++ [x]))) := by
  show ((ownOf μ k).bind fun ds => methO ds (Str.ofString "append") [x] k μ) = _
  rw [ownOf_of hk, Option.bind_some]
  show (if (Str.ofString "append" == Str.ofString "append" && D.plain x && decide (ds.length ≤ 1000)) = true then some (D.nil, μ.set k (some (ds ++ [x]))) else none) = _
  rw [if_pos (by simp [hp, hl])]
theorem anyO (i : Nat) (P : List Nat) : anyInt (i : Int) (octs P) = some (P.contains i) := by
  induction P with
  | nil => rfl
  | cons x P ih =>
    rw [show octs (x :: P) = .int (x : Int) :: octs P from rfl]
    simp only [anyInt, eqInt, Option.bind_some, ih]
    by_cases h : x = i
    · simp [h]
    · have h1 : ((x : Int) == (i : Int)) = false := by simp only [beq_eq_false_iff_ne, ne_eq]; lia
      have h2 : (i == x) = false := by simpa using Ne.symm h
      rw [h1, List.contains_cons, h2]; simp
theorem notInOct {μ : Mu} {k i : Nat} {P : List Nat} (hk : μ[k]? = some (some (octs P))) : cmpD μ .NotIn (.int (i : Int)) (.own k) = some (!P.contains i) := by
  show ((ownOf μ k).bind fun ds => if ds.all (fun d => (eqInt i d).isSome) = true then (anyInt i ds).map (!·) else none) = _
  rw [ownOf_of hk, Option.bind_some, if_pos, anyO]
  · rfl
  · simp [octs, eqInt]
noncomputable def owR : List Str := [Str.ofString "heap", Str.ofString "rings", Str.ofString "passed", Str.ofString "ring"]
/-- the heap of labels -/
noncomputable def mu3 (R : List (List Nat)) (P : List Nat) (J : Mu) : Mu := some [] :: some (kD R) :: some (octs P) :: J
noncomputable def s39 (row pl : List Nat) (S : Sg) : Sg := (Str.ofString "row", .list (octs row)) :: (Str.ofString "heap", .own 0) :: (Str.ofString "places", .list (octs pl)) :: (Str.ofString "rings", .own 1) :: (Str.ofString "passed", .own 2) :: S
theorem tail_get (J : Mu) (x : Option (List D)) (a b c : Option (List D)) : (a :: b :: c :: (J ++ [x]))[J.length + 3]? = some x := by simp
theorem tail_set (J : Mu) (x y : Option (List D)) (a b c : Option (List D)) : (a :: b :: c :: (J ++ [x])).set (J.length + 3) y = a :: b :: c :: (J ++ [y]) := by simp
noncomputable def tri3 (x y z : String) (S : Sg) : Prop := S = [] ∨ ∃ a b c, S = [(Str.ofString x, a), (Str.ofString y, b), (Str.ofString z, c)]
set_option maxHeartbeats 1000000 in
theorem rings_run (T : Tbl) (hH : ∀ o : Nat, o < 256 → Calls T 80 [.bytes [o], .str xS] (.str (wr xS [o])))
    (hHeap : ∀ xs : List It, xs.length ≤ 100 → CallsM T 35 (xs.map itD) [] .nil ((heapd itLt (xs.length / 2) xs).map itD))
    (hPop : ∀ xs : List It, xs ≠ [] → xs.length ≤ 100 → CallsM T 28 (xs.map itD) [] (itD (pop itLt xs).1) ((pop itLt xs).2.map itD))
    {row : List Nat} (h : AllO row) (hn : row.length < 100) (hpl : (placesOf row).length = row.length ∧ ∀ x ∈ placesOf row, x < row.length) :
    RunF T owR 39 [.list (octs row)] (.list (kD (ringsOf row))) := by
  have hwok : ∀ o : Nat, o < 256 → PyData.strOk (wr xS [o]) = true := fun o ho => wr_ok (by kernel_rfl!) (by intro x hx; simp at hx; lia)
  have hget : ∀ p, p < row.length → row.getD p 0 < 256 := fun p hp => h _ (by simp [hp])
  have hlen : ∀ μ, biD μ "len" [.list (octs row)] = some (.int (row.length : Int)) := fun μ => lenO row (by lia)
  have hits : (itsOf row).length = row.length := by simp [itsOf]
  have hhd : ∀ (k : Nat) (V : List It), (heapd itLt k V).length = V.length := by
    intro k
    induction k with
    | zero => intro V; rfl
    | succ k ih => intro V; simp only [heapd, ih, siftup_len]
  have hitem : ∀ p, p < row.length → itD (itOf (wr xS [row.getD p 0]) p) = .tup [.str (wr xS [row.getD p 0]), .int (p : Int)] := fun p hp => itOf_D (hwok _ (hget p hp)) p
  have hpg : ∀ p, p < row.length → (placesOf row).getD p 0 < row.length := fun p hp => hpl.2 _ (by
    have : p < (placesOf row).length := by lia
    simp [this])
  have main : WS T owR 40 (fScope (st 39)) (sg 39 [.list (octs row)]) [] (fBody (st 39)) (fun r => r.1 = .ret (.own 1) ∧ r.2.2[1]? = some (some (kD (ringsOf row)))) := by
    refine wNext (tOwn (ds := (itsOf row).map itD) (μ1 := []) ?_ ?_ (lComp (ds := octs (List.range row.length)) (μ1 := []) (f := fun d => itD (itOf (wr xS [row.getD (toN d) 0]) (toN d))) (B := fun d => [(Str.ofString "row", .list (octs row)), (Str.ofString "place", d)]) ?_ (itGen (d := .rng 0 (row.length : Int)) ?_ (xTy (id := "range") (ds := [.int (row.length : Int)]) ?_ ?_ (xEs (xBi (id := "len") (ds := [.list (octs row)]) ?_ ?_ (xEs (xName ?_ ?_) xEs0) (hlen _)) xEs0) (rangeN (by lia))) (itemsN (by lia))) ?_ ?_ ?_ ?_ |>.trans ?_) (itDs_plain _)) ?_ <;> try first | rfl | kernel_rfl!
    · intro d _; kernel_rfl!
    · intro d' _ d _; kernel_rfl!
    · intro d hd
      obtain ⟨p, hp, rfl⟩ := List.mem_map.mp hd
      have hp' : p < row.length := by simpa using hp
      show XE _ _ _ _ _ _ (itD (itOf (wr xS [row.getD p 0]) p), _)
      rw [hitem p hp']
      refine xTup (xEs (xFn (a := 80) (ds := [.bytes [row.getD p 0], .str xS]) ?_ ?_ (xEs (xTy (id := "bytes") (ds := [.list (octs [row.getD p 0])]) ?_ ?_ (xEs (xList (lList (xEs (xItem (a := .list (octs row)) (b := .int (p : Int)) ?_ (xName ?_ ?_) (xName ?_ ?_) (subO hp' (by lia))) xEs0) ?_)) xEs0) (bytes_is (l := [row.getD p 0]) ?_ ?_)) (xEs xStr xEs0)) (hH _ (hget p hp') _)) (xEs (xName ?_ ?_) xEs0)) ?_ <;> try first | rfl | kernel_rfl!
      · exact Nat.le_of_ble_eq_true rfl
      · intro x hx; have := hget p hp'; simp only [List.mem_singleton] at hx; lia
      · exact Nat.le_of_ble_eq_true rfl
      · exact Nat.le_of_ble_eq_true rfl
    · simp [octs]; lia
    · congr 2
      simp [itsOf, octs, toN]
    have hc1 := hHeap (itsOf row) (by lia) [some ((itsOf row).map itD)] 0 rfl
    rw [hits] at hc1
    refine wNext (tExpr (xFn (a := 35) (ds := [.own 0]) (μ1 := [some ((itsOf row).map itD)]) ?_ ?_ (xEs (xName ?_ ?_) xEs0) hc1)) ?_ <;> try first | rfl | kernel_rfl!
    have hHl : (heapd itLt (row.length / 2) (itsOf row)).length = row.length := by rw [hhd, hits]
    refine wNext (tSet (d := .list (octs (placesOf row))) (μ1 := [some []]) ?_ ?_ (xLC ((lDrain (lt := itLt) (e := itD) (xs := heapd itLt (row.length / 2) (itsOf row)) (ds := octs row) (f := fun x => .int (x.n : Int)) (R := fun s => s = [(Str.ofString "heap", .own 0)] ∨ ∃ d, s = [(Str.ofString "heap", .own 0), (Str.ofString "octet", d)]) ?_ (itGen (d := .list (octs row)) ?_ (xName ?_ ?_) rfl) ?_ (by rw [hHl]; simp [octs]) (by lia) ?_).trans ?_))) ?_ <;> try first | rfl | kernel_rfl!
    · left; kernel_rfl!
    · intro d hd s hs
      refine ⟨[(Str.ofString "heap", .own 0), (Str.ofString "octet", d)], by rcases hs with rfl | ⟨a, rfl⟩ <;> kernel_rfl!, .inr ⟨d, rfl⟩, fun ys hy1 hy2 => ?_⟩
      have hcall := hPop ys hy1 hy2 [some (ys.map itD)] 0 rfl
      refine xItem (a := itD (pop itLt ys).1) (b := .int 1) (μ1 := [some ((pop itLt ys).2.map itD)]) ?_ (xFn (a := 28) (ds := [.own 0]) (μ1 := [some (ys.map itD)]) ?_ ?_ (xEs (xName ?_ ?_) xEs0) hcall) xInt ?_ <;> first | rfl | kernel_rfl!
    · congr 2
      simp [placesOf, octs]
    refine wNext (tOwn (ds := []) (μ1 := [some []]) ?_ ?_ (lList xEs0 (by decide)) ?_) ?_ <;> try first | rfl | kernel_rfl!
    refine wNext (tOwn (ds := []) (μ1 := [some [], some []]) ?_ ?_ (lList xEs0 (by decide)) ?_) ?_ <;> try first | rfl | kernel_rfl!
    refine wFor (l := octs (List.range row.length)) (μ1 := mu3 [] [] []) (R := fun l σ μ => ∃ (ss P : List Nat) (R : List (List Nat)) (J : Mu) (S : Sg), l = octs ss ∧ (∀ s ∈ ss, s < row.length) ∧ PassOk row.length P ∧ R.length + ss.length ≤ row.length ∧ μ = mu3 R P J ∧ tri3 "start" "ring" "place" S ∧ σ = s39 row (placesOf row) S ∧ ringsF (placesOf row) row row.length ss P R = ringsOf row)
      (itGen (d := .rng 0 (row.length : Int)) ?_ (xTy (id := "range") (ds := [.int (row.length : Int)]) ?_ ?_ (xEs (xBi (id := "len") (ds := [.list (octs row)]) ?_ ?_ (xEs (xName ?_ ?_) xEs0) (hlen _)) xEs0) (rangeN (by lia))) (itemsN (by lia))) ?_ ?_ ?_ <;> try first | rfl | kernel_rfl!
    · exact ⟨List.range row.length, [], [], [], [], rfl, fun s hs => by simpa using hs, ⟨List.Pairwise.nil, by simp⟩, by simp, rfl, .inl rfl, rfl, rfl⟩
    · rintro d l σ μ ⟨ss, P, R, J, S, hss, hin, hP, hRl, rfl, hS, rfl, hfin⟩
      cases ss with
      | nil => cases hss
      | cons s ss =>
        obtain ⟨rfl, rfl⟩ := List.cons.inj hss
        have hs := hin s (by simp)
        simp only [List.length_cons] at hRl
        obtain ⟨S', hbind⟩ : ∃ S', bindT (fScope (st 39)) (.Name (Str.ofString "start") ⟨0, 0, 0, 0⟩) (.int (s : Int)) (s39 row (placesOf row) S) = some (s39 row (placesOf row) [(Str.ofString "start", D.int (s : Int))] ++ S') := by
          rcases hS with rfl | ⟨a, b, c, rfl⟩
          · exact ⟨[], by kernel_rfl!⟩
          · exact ⟨[(Str.ofString "ring", b), (Str.ofString "place", c)], by kernel_rfl!⟩
        refine ⟨_, hbind, wLess _ _ ?_⟩
        refine wNext (tOwn (ds := []) (μ1 := mu3 R P J) ?_ ?_ (lList xEs0 (by decide)) ?_) ?_ <;> try first | rfl | kernel_rfl!
        refine wNext (tSet (d := .int (s : Int)) (μ1 := mu3 R P (J ++ [some []])) ?_ ?_ (xName ?_ ?_)) ?_ <;> try first | rfl | kernel_rfl!
        refine wWhile (f := row.length + 1 - P.length) (R := fun f σ μ => ∃ (Q r : List Nat) (p : Nat), PassOk row.length Q ∧ row.length + 1 - Q.length ≤ f ∧ p < row.length ∧ r.length ≤ Q.length ∧ μ = mu3 R Q (J ++ [some (octs r)]) ∧ σ = s39 row (placesOf row) [(Str.ofString "start", D.int (s : Int)), (Str.ofString "ring", .own (J.length + 3)), (Str.ofString "place", .int (p : Int))] ∧ ringW (placesOf row) row (row.length + 1 - Q.length) Q p r = ringW (placesOf row) row (row.length + 1 - P.length) P s [])
          (I := fun σ μ => ∃ (Q r : List Nat) (p : Nat), PassOk row.length Q ∧ μ = mu3 R Q (J ++ [some (octs r)]) ∧ r.length ≤ Q.length ∧ σ = s39 row (placesOf row) [(Str.ofString "start", D.int (s : Int)), (Str.ofString "ring", .own (J.length + 3)), (Str.ofString "place", .int (p : Int))] ∧ (Q, r) = ringW (placesOf row) row (row.length + 1 - P.length) P s []) ?_ ?_ ?_ ?_
        · exact ⟨P, [], s, hP, Nat.le_refl _, hs, by simp, rfl, rfl, rfl⟩
        · lia
        · rintro f σ μ ⟨Q, r, p, hQ, hf, hp, hrl, rfl, rfl, hW⟩
          have hQl := hQ.len
          refine ⟨!Q.contains p, ?_, fun hc => ?_, fun hc => ?_⟩
          · refine tCmp (a := .int (p : Int)) (b := .own 2) ?_ ?_ (xName ?_ ?_) (xName ?_ ?_) (notInOct (P := Q) rfl) <;> first | rfl | kernel_rfl!
          · have hc' : Q.contains p = false := by simpa using hc
            have hQ' := hQ.more hp hc'
            have hQl' := hQ'.len
            simp only [List.length_append, List.length_singleton] at hQl'
            rw [ringW_step _ _ hQ hp, hc'] at hW
            have hsubp : subD (mu3 R (Q ++ [p]) (J ++ [some (octs r)])) (.list (octs (placesOf row))) (.int (p : Int)) = some (.int (((placesOf row).getD p 0 : Nat) : Int)) := subO (by lia) (by lia)
            have hsubr : subD (mu3 R (Q ++ [p]) (J ++ [some (octs r)])) (.list (octs row)) (.int (((placesOf row).getD p 0 : Nat) : Int)) = some (.int ((row.getD ((placesOf row).getD p 0) 0 : Nat) : Int)) := subO (hpg p hp) (by lia)
            have happ : methE (.own 2) (Str.ofString "append") [.int (p : Int)] (mu3 R Q (J ++ [some (octs r)])) = some (.nil, mu3 R (Q ++ [p]) (J ++ [some (octs r)])) := by
              refine (appOwn (ds := octs Q) rfl rfl (by simp [octs]; lia)).trans ?_
              simp [mu3, octs]
            have happr : methE (.own (J.length + 3)) (Str.ofString "append") [.int ((row.getD ((placesOf row).getD p 0) 0 : Nat) : Int)] (mu3 R (Q ++ [p]) (J ++ [some (octs r)])) = some (.nil, mu3 R (Q ++ [p]) (J ++ [some (octs (r ++ [row.getD ((placesOf row).getD p 0) 0]))])) := by
              refine (appOwn (ds := octs r) (tail_get J _ _ _ _) rfl (by simp [octs]; lia)).trans ?_
              simp [mu3, octs]
            have hown : ownOk (.own (J.length + 3)) (mu3 R (Q ++ [p]) (J ++ [some (octs r)])) = true := by
              have : (mu3 R (Q ++ [p]) (J ++ [some (octs r)]))[J.length + 3]? = some (some (octs r)) := tail_get J _ _ _ _
              show (ownOf _ _).isSome = true
              rw [ownOf_of this]; rfl
            refine wNext (tExpr (xMeth (a := .own 2) (ds := [.int (p : Int)]) (d := .nil) (μ2 := mu3 R Q (J ++ [some (octs r)])) (μ3 := mu3 R (Q ++ [p]) (J ++ [some (octs r)])) ?_ (xName ?_ ?_) ?_ (xEs (xName ?_ ?_) xEs0) happ)) ?_ <;> try first | rfl | exact ⟨fun _ _ => rfl, by kernel_rfl!⟩ | kernel_rfl!
            refine wNext (tSet (d := .int (((placesOf row).getD p 0 : Nat) : Int)) (μ1 := mu3 R (Q ++ [p]) (J ++ [some (octs r)])) ?_ ?_ (xItem (a := .list (octs (placesOf row))) (b := .int (p : Int)) ?_ (xName ?_ ?_) (xName ?_ ?_) hsubp)) ?_ <;> try first | rfl | kernel_rfl!
            refine wNext (tExpr (xMeth (a := .own (J.length + 3)) (ds := [.int ((row.getD ((placesOf row).getD p 0) 0 : Nat) : Int)]) (d := .nil) (μ2 := mu3 R (Q ++ [p]) (J ++ [some (octs r)])) ?_ (xName ?_ ?_) hown (xEs (xItem (a := .list (octs row)) (b := .int (((placesOf row).getD p 0 : Nat) : Int)) ?_ (xName ?_ ?_) (xName ?_ ?_) hsubr) xEs0) happr)) (wNil ?_) <;> try first | rfl | exact ⟨fun _ _ => rfl, by kernel_rfl!⟩ | kernel_rfl!
            exact ⟨f - 1, by lia, Q ++ [p], r ++ [row.getD ((placesOf row).getD p 0) 0], (placesOf row).getD p 0, hQ', by simp; lia, hpg p hp, by simp; lia, rfl, rfl, hW⟩
          · have hc' : Q.contains p = true := by simpa using hc
            rw [ringW_step _ _ hQ hp, hc'] at hW
            exact ⟨Q, r, p, hQ, rfl, hrl, rfl, hW⟩
        · rintro σ μ ⟨Q, r, p, hQ, rfl, hrl, rfl, hW⟩
          have hQl := hQ.len
          have hmem : (mu3 R Q (J ++ [some (octs r)]))[J.length + 3]? = some (some (octs r)) := tail_get J _ _ _ _
          have htr : truthD (mu3 R Q (J ++ [some (octs r)])) (.own (J.length + 3)) = some (!r.isEmpty) := by
            show ((ownOf _ _).bind fun ds => if ds.length ≤ 1000000 then some (!ds.isEmpty) else none) = _
            rw [ownOf_of hmem, Option.bind_some, if_pos (by simp [octs]; lia)]
            cases r <;> rfl
          have hfin' : ∀ R', R' = (if r = [] then R else R ++ [r]) → ringsF (placesOf row) row row.length ss Q R' = ringsOf row := fun R' hR' => by
            rw [← hfin]
            show _ = ringsF (placesOf row) row row.length ss (ringW (placesOf row) row (row.length + 1 - P.length) P s []).1 (if (ringW (placesOf row) row (row.length + 1 - P.length) P s []).2 = [] then R else R ++ [(ringW (placesOf row) row (row.length + 1 - P.length) P s []).2])
            rw [← hW, hR']
          cases r with
          | nil =>
            refine wIf (c := false) (μ1 := mu3 R Q (J ++ [some (octs [])])) (tName (xName ?_ ?_) htr) (wNil (wNil ?_)) <;> try first | rfl | kernel_rfl!
            exact ⟨ss, Q, R, J ++ [some (octs [])], _, rfl, fun x hx => hin x (by simp [hx]), hQ, by lia, rfl, .inr ⟨_, _, _, rfl⟩, rfl, hfin' _ rfl⟩
          | cons c r =>
            have hset : ((mu3 R Q (J ++ [some (octs (c :: r))])).set (J.length + 3) none).set 1 (some (kD R ++ [.list (octs (c :: r))])) = mu3 (R ++ [c :: r]) Q (J ++ [none]) := by
              unfold mu3
              rw [tail_set]
              simp [kD]
            refine wIf (c := true) (μ1 := mu3 R Q (J ++ [some (octs (c :: r))])) (tName (xName ?_ ?_) htr) ?_ <;> try first | rfl | kernel_rfl!
            refine wNext (tAppOwn (j := 1) (k := J.length + 3) (ds := kD R) (cs := octs (c :: r)) ?_ ?_ ?_ hmem ?_) (wNil (wNil ?_)) <;> try first | rfl | kernel_rfl!
            · have h1 : (1 : Nat) ≠ J.length + 3 := by lia
              have h2 : (kD R).length ≤ 1000 := by simp [kD]; lia
              have e1 : decide ((1 : Nat) ≠ J.length + 3) = true := by simpa using h1
              have e2 : decide ((kD R).length ≤ 1000) = true := by simpa using h2
              simp only [e1, e2]
              kernel_rfl!
            · show ∃ _, _
              dsimp only
              rw [hset]
              exact ⟨ss, Q, R ++ [c :: r], J ++ [none], _, rfl, fun x hx => hin x (by simp [hx]), hQ, by simp; lia, rfl, .inr ⟨_, _, _, rfl⟩, rfl, hfin' _ rfl⟩
    · rintro σ μ ⟨ss, P, R, J, S, hss, hin, hP, hRl, rfl, hS, rfl, hfin⟩
      have : ss = [] := by cases ss with
        | nil => rfl
        | cons _ _ => cases hss
      subst this
      rw [← hfin]
      refine wRet (tRet (d := .own 1) (μ1 := mu3 R P J) (xName ?_ ?_)) ⟨rfl, rfl⟩ <;> first | rfl | kernel_rfl!
  obtain ⟨⟨fl, σ', μ'⟩, h1, h2, h3⟩ := main
  cases (h2 : fl = _)
  refine ⟨_, h1, ?_⟩
  show (ownOf μ' 1).map D.list = _
  rw [ownOf_of (show μ'[1]? = _ from h3)]; rfl
end Mine
end
section
open PySem PySem.W PyProof.Rows
set_option autoImplicit false
namespace Mine
/-! sorting -/
section
variable {α : Type} (lt : α → α → Bool)
noncomputable def ins (x : α) : List α → List α
  | [] => [x]
  | y :: r => if lt y x then y :: ins x r else x :: y :: r
noncomputable def isort : List α → List α
  | [] => []
  | x :: r => ins lt x (isort r)
variable {lt}
theorem ins_perm (x : α) : ∀ l : List α, (ins lt x l).Perm (x :: l)
  | [] => List.Perm.refl _
  | y :: r => by
    unfold ins
    split
    · exact (List.Perm.cons y (ins_perm x r)).trans (List.Perm.swap x y r)
    · exact List.Perm.refl _
theorem isort_perm : ∀ l : List α, (isort lt l).Perm l
  | [] => List.Perm.refl _
  | x :: r => (ins_perm x _).trans (List.Perm.cons x (isort_perm r))
theorem ins_sorted (h : Tot lt) (x : α) : ∀ l : List α, l.Pairwise (Le lt) → (ins lt x l).Pairwise (Le lt)
  | [], _ => List.pairwise_singleton _ _
  | y :: r, hs => by
    obtain ⟨h1, h2⟩ := List.pairwise_cons.mp hs
    unfold ins
    split
    · next hc =>
      refine List.pairwise_cons.mpr ⟨fun z hz => ?_, ins_sorted h x r h2⟩
      rcases List.mem_cons.mp ((ins_perm x r).subset hz) with rfl | hz
      · exact h.lt_le hc
      · exact h1 z hz
    · next hc =>
      have hxy : Le lt x y := by simpa [Le] using hc
      refine List.pairwise_cons.mpr ⟨fun z hz => ?_, hs⟩
      rcases List.mem_cons.mp hz with rfl | hz
      · exact hxy
      · exact h.le_trans hxy (h1 z hz)
theorem isort_sorted (h : Tot lt) : ∀ l : List α, (isort lt l).Pairwise (Le lt)
  | [] => List.Pairwise.nil
  | x :: r => ins_sorted h x _ (isort_sorted h r)
theorem isort_len (l : List α) : (isort lt l).length = l.length := (isort_perm l).length_eq
noncomputable def ordBy (lt : α → α → Bool) (a b : α) : Ordering := if lt a b then .lt else if lt b a then .gt else .eq
theorem sortD_is (h : Tot lt) {e : α → D} (hc : ∀ a b, D.cmp (e a) (e b) = some (ordBy lt a b)) : ∀ l : List α, sortD (l.map e) = some ((isort lt l).map e)
  | [] => rfl
  | x :: r => by
    have hi : ∀ (x : α) (l : List α), insD (e x) (l.map e) = some ((ins lt x l).map e) := by
      intro x l
      induction l with
      | nil => rfl
      | cons y r ih =>
        simp only [List.map_cons, insD, hc, Option.bind_some, ih]
        rw [show ins lt x (y :: r) = if lt y x then y :: ins lt x r else x :: y :: r from rfl]
        unfold ordBy
        by_cases h1 : lt y x = true
        · have h2 : lt x y = false := by
            cases e : lt x y with
            | false => rfl
            | true => have := h.tr _ _ _ h1 e; rw [h.irr] at this; cases this
          simp [h1, h2]
        · by_cases h2 : lt x y = true <;> simp [h1, h2]
    simp only [List.map_cons, sortD, sortD_is h hc r, Option.bind_some, hi]
    rfl
theorem allCmp_is {e : α → D} (hc : ∀ a b, D.cmp (e a) (e b) = some (ordBy lt a b)) (l : List α) : allCmp (l.map e) = true := by
  simp [allCmp, hc]
end
theorem sorted_is {α : Type} {lt : α → α → Bool} (h : Tot lt) {e : α → D} (hc : ∀ a b, D.cmp (e a) (e b) = some (ordBy lt a b)) (ht : ∀ a, tupOfList (e a) = true) {l : List α} (hl : l.length < 64) {μ : Mu} : biD μ "sorted" [.list (l.map e)] = some (.list ((isort lt l).map e)) := by
  have e1 : biD μ "sorted" [.list (l.map e)] = if (l.map e).all tupOfList && allCmp (l.map e) && decide ((l.map e).length < 64) then (sortD (l.map e)).map .list else none := by kernel_rfl!
  rw [e1, if_pos, sortD_is h hc]
  · rfl
  · rw [allCmp_is hc]; simp [ht, hl]
/-! the two sorts of keys -/
noncomputable abbrev K2 := List Nat × List Nat
noncomputable abbrev K3 := List Nat × List Nat × Nat
noncomputable def lt2 (a b : K2) : Bool := decide (a.1 < b.1) || (decide (a.1 = b.1) && decide (a.2 < b.2))
noncomputable def lt3 (a b : K3) : Bool := decide (a.1 < b.1) || (decide (a.1 = b.1) && (decide (a.2.1 < b.2.1) || (decide (a.2.1 = b.2.1) && decide (a.2.2 < b.2.2))))
noncomputable def k2D (a : K2) : D := .tup [.list (octs a.1), .list (octs a.2)]
noncomputable def k3D (a : K3) : D := .tup [.list (octs a.1), .list (octs a.2.1), .int (a.2.2 : Int)]
theorem lt2_tot : Tot lt2 where
  irr a := by simp [lt2]
  tr a b c h1 h2 := by
    simp only [lt2, Bool.or_eq_true, Bool.and_eq_true, decide_eq_true_eq] at *
    rcases h1 with h1 | ⟨h1, h1'⟩ <;> rcases h2 with h2 | ⟨h2, h2'⟩
    · exact .inl (List.lt_trans h1 h2)
    · exact .inl (h2 ▸ h1)
    · exact .inl (h1 ▸ h2)
    · exact .inr ⟨h1.trans h2, List.lt_trans h1' h2'⟩
  tot a b h1 h2 := by
    simp only [lt2, Bool.or_eq_false_iff, Bool.and_eq_false_iff, decide_eq_false_iff_not] at *
    obtain ⟨p1, p2⟩ := h1
    obtain ⟨q1, q2⟩ := h2
    have e : a.1 = b.1 := by
      rcases listLt_tri a.1 b.1 with h | h | h
      · exact absurd h p1
      · exact h
      · exact absurd h q1
    have a1 : ¬ a.2 < b.2 := by rcases p2 with h | h; exact absurd e h; exact h
    have a2 : ¬ b.2 < a.2 := by rcases q2 with h | h; exact absurd e.symm h; exact h
    have en : a.2 = b.2 := by
      rcases listLt_tri a.2 b.2 with h | h | h
      · exact absurd h a1
      · exact h
      · exact absurd h a2
    exact Prod.ext e en
theorem lt3_tot : Tot lt3 where
  irr a := by simp [lt3]
  tr a b c h1 h2 := by
    simp only [lt3, Bool.or_eq_true, Bool.and_eq_true, decide_eq_true_eq] at *
    rcases h1 with h1 | ⟨h1, h1'⟩ <;> rcases h2 with h2 | ⟨h2, h2'⟩
    · exact .inl (List.lt_trans h1 h2)
    · exact .inl (h2 ▸ h1)
    · exact .inl (h1 ▸ h2)
    · refine .inr ⟨h1.trans h2, ?_⟩
      rcases h1' with h1' | ⟨h1', h1''⟩ <;> rcases h2' with h2' | ⟨h2', h2''⟩
      · exact .inl (List.lt_trans h1' h2')
      · exact .inl (h2' ▸ h1')
      · exact .inl (h1' ▸ h2')
      · exact .inr ⟨h1'.trans h2', by lia⟩
  tot a b h1 h2 := by
    simp only [lt3, Bool.or_eq_false_iff, Bool.and_eq_false_iff, decide_eq_false_iff_not] at *
    obtain ⟨p1, p2⟩ := h1
    obtain ⟨q1, q2⟩ := h2
    have e : a.1 = b.1 := by
      rcases listLt_tri a.1 b.1 with h | h | h
      · exact absurd h p1
      · exact h
      · exact absurd h q1
    have a1 := p2.resolve_left (fun h => h e)
    have a2 := q2.resolve_left (fun h => h e.symm)
    have e2 : a.2.1 = b.2.1 := by
      rcases listLt_tri a.2.1 b.2.1 with h | h | h
      · exact absurd h a1.1
      · exact h
      · exact absurd h a2.1
    have b1 := a1.2.resolve_left (fun h => h e2)
    have b2 := a2.2.resolve_left (fun h => h e2.symm)
    exact Prod.ext e (Prod.ext e2 (by lia))
theorem lt2_iff {a b : K2} : lt2 a b = true ↔ a.1 < b.1 ∨ a.1 = b.1 ∧ a.2 < b.2 := by simp only [lt2, Bool.or_eq_true, Bool.and_eq_true, decide_eq_true_eq]
theorem lt3_iff {a b : K3} : lt3 a b = true ↔ a.1 < b.1 ∨ a.1 = b.1 ∧ (a.2.1 < b.2.1 ∨ a.2.1 = b.2.1 ∧ a.2.2 < b.2.2) := by simp only [lt3, Bool.or_eq_true, Bool.and_eq_true, decide_eq_true_eq]
theorem cmp_k2 (a b : K2) : D.cmp (k2D a) (k2D b) = some (ordBy lt2 a b) := (cmps_then (x := .list (octs a.1)) (y := .list (octs b.1)) (cmps_octs _ _) (cmps_then (x := .list (octs a.2)) (y := .list (octs b.2)) (cmps_octs _ _) rfl)).trans (congrArg some (by
  rw [thenEq]
  exact (o3_then str_asym listEq3).trans (o3_congr lt2_iff.symm ((or_congr_right (and_congr_left' eq_comm)).trans lt2_iff.symm))))
theorem cmp_k3 (a b : K3) : D.cmp (k3D a) (k3D b) = some (ordBy lt3 a b) := (cmps_then (x := .list (octs a.1)) (y := .list (octs b.1)) (cmps_octs _ _) (cmps_then (x := .list (octs a.2.1)) (y := .list (octs b.2.1)) (cmps_octs _ _) (cmps_then (x := .int a.2.2) (y := .int b.2.2) rfl rfl))).trans (congrArg some (by
  rw [thenEq, show (ord3 a.2.1 b.2.1).then (o3 ((a.2.2 : Int) < b.2.2) ((b.2.2 : Int) < a.2.2)) = _ from o3_then str_asym listEq3]
  exact (o3_then str_asym listEq3).trans (o3_congr ((or_congr_right (and_congr_right' (or_congr_right (and_congr_right' Int.ofNat_lt)))).trans lt3_iff.symm) ((or_congr_right (and_congr eq_comm (or_congr_right (and_congr eq_comm Int.ofNat_lt)))).trans lt3_iff.symm))))
theorem eqO (n : Nat) (a : List Nat) : eqOk (n + 1) (.list (octs a)) = true := by
  show (octs a).all (eqOk n) = true
  refine List.all_eq_true.mpr fun d h => ?_
  obtain ⟨o, _, rfl⟩ := List.mem_map.mp h
  obtain ⟨f, e, _⟩ := eqOk_is n
  rw [e]; rfl
theorem tup2 (a : K2) : tupOfList (k2D a) = true := by
  have : ([D.list (octs a.1), .list (octs a.2)].all fun d => flatD d && eqOk 3 d) = true := by simp [flatO, eqO]
  exact congrArg Option.isSome (if_pos this)
theorem tup3 (a : K3) : tupOfList (k3D a) = true := by
  have h : (flatD (.int (a.2.2 : Int)) && eqOk 3 (.int (a.2.2 : Int))) = true := by rfl
  have : ([D.list (octs a.1), .list (octs a.2.1), .int (a.2.2 : Int)].all fun d => flatD d && eqOk 3 d) = true := by simp only [List.all_cons, List.all_nil, h, flatO, eqO]; rfl
  exact congrArg Option.isSome (if_pos this)
theorem eqLists (a b : List Nat) {μ : Mu} : cmpD μ .Eq (.list (octs a)) (.list (octs b)) = some (decide (a = b)) := (cmpEq (eqO 9 a) (eqO 9 b) (cmps_octs a b)).trans (ordE listEq3)
/-- data is like itself -/
theorem cmps_refl {n : Nat} (ih : ∀ d, eqOk n d = true → D.cmp d d = some .eq) : ∀ xs : List D, xs.all (eqOk n) = true → D.cmps xs xs = some .eq
  | [], _ => rfl
  | x :: xs, h => cmps_go (ih x (all_cons h).1) (cmps_refl ih xs (all_cons h).2)
theorem cmp_refl : ∀ (n : Nat) (d : D), eqOk n d = true → D.cmp d d = some .eq
  | 0, d, h => by
    obtain ⟨i, rfl⟩ | ⟨s, rfl, _⟩ := scal_inv h
    · exact congrArg some (o3_eq.mpr ⟨Int.lt_irrefl _, Int.lt_irrefl _⟩)
    · exact congrArg some (o3_eq.mpr ⟨List.lt_irrefl _, List.lt_irrefl _⟩)
  | n + 1, d, h => by
    obtain ⟨i, rfl⟩ | ⟨s, rfl, _⟩ | ⟨xs, rfl, h⟩ | ⟨xs, rfl, h⟩ := eqD_inv h
    · exact congrArg some (o3_eq.mpr ⟨Int.lt_irrefl _, Int.lt_irrefl _⟩)
    · exact congrArg some (o3_eq.mpr ⟨List.lt_irrefl _, List.lt_irrefl _⟩)
    · exact cmps_refl (cmp_refl n) _ h
    · exact cmps_refl (cmp_refl n) _ h
theorem eqSelf {d : D} (h : eqOk 10 d = true) {μ : Mu} : cmpD μ .Eq d d = some true ∧ cmpD μ .NotEq d d = some false := by
  have key := cmp_refl 10 d h
  exact ⟨cmpEq h h key, cmpNe h h key⟩
end Mine
end
section
open PySem PySem.W PyProof.Rows
set_option autoImplicit false
namespace Mine
section
variable {T : Tbl} {n : Nat} {sc : Scope} {σ σ1 σ2 : Sg} {μ μ1 μ2 μ3 μ4 : Mu} {ow : List Str} {α : Type}
theorem loopMapA {bind : D → Sg → Option Sg} {G : Sg → Mu → D × Mu → Prop} {e : α → D} {B : α → Sg} {f : α → D} : ∀ (xs : List α) (σ : Sg) (acc : List D), (∀ a ∈ xs, bind (e a) σ = some (B a)) → (∀ a' ∈ xs, ∀ a ∈ xs, bind (e a) (B a') = some (B a)) → (∀ a ∈ xs, G (B a) μ (f a, μ)) → acc.length + xs.length ≤ 1000 →
    ∃ σ', LC bind (stepOf G) (xs.map e) σ μ acc (acc ++ xs.map f, σ', μ)
  | [], σ, acc, _, _, _, _ => ⟨σ, by rw [List.map_nil, List.map_nil, List.append_nil]; rfl⟩
  | a :: xs, σ, acc, h0, h1, h2, hl => by
    simp only [List.length_cons] at hl
    obtain ⟨σ', h⟩ := loopMapA (bind := bind) (G := G) (e := e) (B := B) (f := f) xs (B a) (acc ++ [f a]) (fun e he => h1 a (by simp) e (by simp [he])) (fun e' he' e he => h1 e' (by simp [he']) e (by simp [he])) (fun e he => h2 e (by simp [he])) (by simp; lia)
    rw [List.append_assoc] at h
    exact ⟨σ', B a, _, h0 a (by simp), ⟨_, h2 a (by simp), by lia, rfl⟩, h⟩
theorem lCompA {elt t it : Expr} {sc' : Scope} {p : Pos} (xs : List α) (e : α → D) (B : α → Sg) (f : α → D) (hok : compOk sc sc' = true) (hit : XIt T n sc σ μ it (xs.map e, μ1)) (h0 : ∀ a ∈ xs, bindT sc' t (e a) (innerOf sc' σ) = some (B a)) (h1 : ∀ a' ∈ xs, ∀ a ∈ xs, bindT sc' t (e a) (B a') = some (B a)) (h2 : ∀ a ∈ xs, XE T n sc' (B a) μ1 elt (f a, μ1)) (hl : xs.length ≤ 1000) :
    XL T (n + 1) sc σ μ (.ListComp elt [⟨t, it, [], 0⟩] sc' p) (xs.map f, μ1) := by
  obtain ⟨σ', h⟩ := loopMapA (μ := μ1) (bind := bindT sc' t) (G := fun σ' μ' => XE T n sc' σ' μ' elt) (e := e) (B := B) (f := f) xs (innerOf sc' σ) [] h0 h1 h2 (by simpa using hl)
  rw [List.nil_append] at h
  exact lOne hok hit h
end
/-! root -/
noncomputable def rep (k : Nat) (a : List Nat) : List Nat := (List.replicate k a).flatten
noncomputable def rootAux (w : List Nat) : List Nat → List Nat
  | [] => w
  | s :: ss => if w = rep (w.length / s) (w.take s) then w.take s else rootAux w ss
noncomputable def rootN (w : List Nat) : List Nat := rootAux w (List.range' 1 (w.length - 1))
theorem tyRange2 (x y : Int) : tyD "range" [.int x, .int y] = rng2 x y := by unfold tyD; rw [if_pos rfl]; rfl
theorem rng2_is {x y : Int} (h0 : -1000000 < x) (h : x < 1000000) (h2 : -1000000 < y) (h3 : y < 1000000) : rng2 x y = some (.rng x y) := by unfold rng2; rw [if_pos h0, if_pos h, if_pos h2, if_pos h3]
theorem rangeN1 {n : Nat} (h : n < 1000) : tyD "range" [.int 1, .int (n : Int)] = some (.rng 1 (n : Int)) := (tyRange2 _ _).trans (rng2_is (by decide) (by decide) (by lia) (by lia))
theorem intsFrom_eq' : ∀ (n lo : Nat), intsFrom (lo : Int) n = octs (List.range' lo n)
  | 0, lo => rfl
  | n + 1, lo => by
    rw [List.range'_succ]
    show D.int (lo : Int) :: intsFrom ((lo : Int) + 1) n = _
    rw [show ((lo : Int) + 1) = ((lo + 1 : Nat) : Int) by lia, intsFrom_eq' n (lo + 1)]
    rfl
theorem itemsN1 {n : Nat} (h : n < 1000) : itemsOf (.rng 1 (n : Int)) = some (octs (List.range' 1 (n - 1))) := by
  simp only [itemsOf]
  rw [if_pos (by simp [small]; lia)]
  have : ((n : Int) - 1).toNat = n - 1 := by lia
  rw [this]
  exact congrArg some (intsFrom_eq' (n - 1) 1)
theorem octs_take (w : List Nat) (s : Nat) : (octs w).take s = octs (w.take s) := by simp [octs, List.map_take]
theorem octs_drop (w : List Nat) (s : Nat) : (octs w).drop s = octs (w.drop s) := by simp [octs, List.map_drop]
theorem octs_app (a b : List Nat) : octs a ++ octs b = octs (a ++ b) := by simp [octs]
theorem octs_len (a : List Nat) : (octs a).length = a.length := by simp [octs]
theorem cutTake {w : List Nat} {s : Nat} (h : s ≤ w.length) (hl : w.length ≤ 1000) : sliceD (.list (octs w)) none (some (s : Int)) none = some (.list (octs (w.take s))) := by
  rw [sl_list (by rw [octs_len]; lia)]
  unfold cutL
  rw [clampN, octs_len, show min s w.length = s by lia, octs_take]
  rfl
theorem cutDrop {w : List Nat} {s : Nat} (h : s ≤ w.length) (hl : w.length ≤ 1000) : sliceD (.list (octs w)) (some (s : Int)) none none = some (.list (octs (w.drop s))) := by
  rw [sl_list (by rw [octs_len]; lia)]
  unfold cutL
  rw [clampN, octs_len, show min s w.length = s by lia]
  rw [List.take_of_length_le (by rw [octs_len]; exact Nat.le_refl _), octs_drop]
theorem octs_rep (k : Nat) (a : List Nat) : (List.replicate k (octs a)).flatten = octs (rep k a) := by simp [octs, rep, List.map_flatten]
theorem mulO {k : Nat} {a : List Nat} (hk : k ≤ 64) (ha : a.length ≤ 64) : binD .Mult (.list (octs a)) (.int (k : Int)) = some (.list (octs (rep k a))) := by
  rw [mult_list, if_pos (by rw [octs_len]; simp; lia), Int.toNat_natCast, octs_rep]
theorem root_run (T : Tbl) {w : List Nat} (h0 : 0 < w.length) (hl : w.length ≤ 60) : RunF T [] 40 [.list (octs w)] (.list (octs (rootN w))) := by
  have hlen : biD [] "len" [.list (octs w)] = some (.int (w.length : Int)) := lenO w (by lia)
  have main : WS T [] 40 (fScope (st 40)) (sg 40 [.list (octs w)]) [] (fBody (st 40)) (fun r => r.1 = .ret (.list (octs (rootN w)))) := by
    refine wFor (l := octs (List.range' 1 (w.length - 1))) (μ1 := []) (R := fun l σ μ => ∃ (ss : List Nat) (S : Sg), l = octs ss ∧ (∀ s ∈ ss, 1 ≤ s ∧ s < w.length) ∧ μ = [] ∧ one1 "size" S ∧ σ = (Str.ofString "word", .list (octs w)) :: S ∧ rootAux w ss = rootN w)
      (itGen (d := .rng 1 (w.length : Int)) ?_ (xTy (id := "range") (ds := [.int 1, .int (w.length : Int)]) ?_ ?_ (xEs xInt (xEs (xBi (id := "len") (ds := [.list (octs w)]) ?_ ?_ (xEs (xName ?_ ?_) xEs0) hlen) xEs0)) (rangeN1 (by lia))) (itemsN1 (by lia))) ?_ ?_ ?_ <;> try first | rfl | kernel_rfl!
    · exact ⟨_, [], rfl, fun s hs => by rw [List.mem_range'_1] at hs; lia, rfl, .inl rfl, rfl, rfl⟩
    · rintro d l σ μ ⟨ss, S, hss, hin, rfl, hS, rfl, hfin⟩
      cases ss with
      | nil => cases hss
      | cons s ss =>
        obtain ⟨rfl, rfl⟩ := List.cons.inj hss
        obtain ⟨hs1, hs2⟩ := hin s (by simp)
        refine ⟨(Str.ofString "word", .list (octs w)) :: [(Str.ofString "size", .int (s : Int))], by rcases hS with rfl | ⟨a, rfl⟩ <;> kernel_rfl!, ?_⟩
        have hq : w.length / s ≤ 64 := Nat.le_trans (Nat.div_le_self _ _) (by lia)
        have hcmp := eqLists w (rep (w.length / s) (w.take s)) (μ := [])
        refine wIf (c := decide (w = rep (w.length / s) (w.take s))) (μ1 := []) (tCmp (a := .list (octs w)) (b := .list (octs (rep (w.length / s) (w.take s)))) ?_ ?_ (xName ?_ ?_) (xBin (a := .list (octs (w.take s))) (b := .int ((w.length / s : Nat) : Int)) (xSlice (a := .list (octs w)) (xName ?_ ?_) xO0 (xO1 (xName ?_ ?_)) xO0 (cutTake (by lia) (by lia))) (xBin (xBi (id := "len") (ds := [.list (octs w)]) ?_ ?_ (xEs (xName ?_ ?_) xEs0) hlen) (xName ?_ ?_) (divN (by lia) (by lia))) (mulO hq (by simp; lia))) hcmp) ?_ <;> try first | rfl | kernel_rfl!
        by_cases hc : w = rep (w.length / s) (w.take s)
        · rw [if_pos (by simpa using hc)]
          refine wRet (tRet (d := .list (octs (w.take s))) (μ1 := []) (xSlice (a := .list (octs w)) (xName ?_ ?_) xO0 (xO1 (xName ?_ ?_)) xO0 (cutTake (by lia) (by lia)))) ?_ <;> try first | rfl | kernel_rfl!
          show Fl.ret _ = Fl.ret _
          rw [← hfin]
          unfold rootAux
          rw [if_pos hc]
        · rw [if_neg (by simpa using hc)]
          refine wNil (wNil ?_)
          refine ⟨ss, _, rfl, fun x hx => hin x (by simp [hx]), rfl, .inr ⟨_, rfl⟩, rfl, ?_⟩
          rw [← hfin]
          show _ = (if w = rep (w.length / s) (w.take s) then w.take s else rootAux w ss)
          rw [if_neg hc]
    · rintro σ μ ⟨ss, S, hss, hin, rfl, hS, rfl, hfin⟩
      have : ss = [] := by cases ss with
        | nil => rfl
        | cons _ _ => cases hss
      subst this
      rw [← hfin]
      refine wRet (tRet (d := .list (octs w)) (μ1 := []) (xName ?_ ?_)) rfl <;> first | rfl | kernel_rfl!
  exact runOf main (octs_plain _)
/-! least -/
noncomputable def turnL (r : List Nat) : List (List Nat) := (List.range r.length).map fun p => r.drop p ++ r.take p
noncomputable def rk (t : List Nat) : K2 := (t.map rankO, t)
noncomputable def leastN (r : List Nat) : List Nat := ((isort lt2 ((turnL r).map rk)).headD ([], [])).2
theorem k2_plain (l : List K2) : D.plains (l.map k2D) = true := plains_map (f := k2D) (fun a => plains2 (d := .list (octs a.1)) (e := .list (octs a.2)) (octs_plain a.1) (octs_plain a.2)) l
theorem k3_plain (l : List K3) : D.plains (l.map k3D) = true := plains_map (f := k3D) (fun a => (Bool.and_eq_true _ _).mpr ⟨octs_plain a.1, plains2 (d := .list (octs a.2.1)) (octs_plain a.2.1) rfl⟩) l
theorem addL {a b : List D} (ha : a.length ≤ 1000) (hb : b.length ≤ 1000) : binD .Add (.list a) (.list b) = some (.list (a ++ b)) := by
  rw [add_lists', if_pos (by simp [ha, hb])]
theorem least_run (T : Tbl) (hRk : ∀ l : List Nat, AllO l → l.length ≤ 100 → Calls T 134 [.list (octs l)] (.list (octs (l.map rankO))))
    {r : List Nat} (h : AllO r) (h0 : 0 < r.length) (hl : r.length ≤ 50) : RunF T [] 41 [.list (octs r)] (.list (octs (leastN r))) := by
  have hlen : biD [] "len" [.list (octs r)] = some (.int (r.length : Int)) := lenO r (by lia)
  have htl : (turnL r).length = r.length := by simp [turnL]
  have hso : biD [] "sorted" [.list (((turnL r).map rk).map k2D)] = _ := sorted_is lt2_tot cmp_k2 tup2 (by simp; lia)
  have hm : ∃ k rest, isort lt2 ((turnL r).map rk) = k :: rest := by
    have : (isort lt2 ((turnL r).map rk)).length = r.length := by rw [isort_len]; simp [htl]
    cases e : isort lt2 ((turnL r).map rk) with
    | nil => rw [e] at this; simp at this; lia
    | cons k rest => exact ⟨k, rest, rfl⟩
  obtain ⟨k, rest, hk⟩ := hm
  have hL : leastN r = k.2 := by unfold leastN; rw [hk]; rfl
  have hO : ∀ t ∈ turnL r, AllO t ∧ t.length = r.length := fun t ht => by
    obtain ⟨p, hp, rfl⟩ := List.mem_map.mp ht
    refine ⟨fun x hx => ?_, ?_⟩
    · rcases List.mem_append.mp hx with hx | hx
      · exact h x (List.mem_of_mem_drop hx)
      · exact h x (List.mem_of_mem_take hx)
    · have : p < r.length := by simpa using hp
      simp; lia
  have main : WS T [] 40 (fScope (st 41)) (sg 41 [.list (octs r)]) [] (fBody (st 41)) (fun q => q.1 = .ret (.list (octs k.2))) := by
    refine wNext (tSet (d := .list (kD (turnL r))) (μ1 := []) ?_ ?_ (xLC ((lCompA (μ1 := []) (List.range r.length) (fun p => D.int (p : Int)) (fun p => [(Str.ofString "root", .list (octs r)), (Str.ofString "place", D.int (p : Int))]) (fun p => .list (octs (r.drop p ++ r.take p))) ?_ (itGen (d := .rng 0 (r.length : Int)) ?_ (xTy (id := "range") (ds := [.int (r.length : Int)]) ?_ ?_ (xEs (xBi (id := "len") (ds := [.list (octs r)]) ?_ ?_ (xEs (xName ?_ ?_) xEs0) hlen) xEs0) (rangeN (by lia))) (itemsN (by lia))) ?_ ?_ ?_ ?_).trans ?_))) ?_ <;> try first | rfl | kernel_rfl!
    · intro d _; kernel_rfl!
    · intro d' _ d _; kernel_rfl!
    · intro p hp
      have hp' : p < r.length := by simpa using hp
      have hadd : binD .Add (.list (octs (r.drop p))) (.list (octs (r.take p))) = some (.list (octs (r.drop p ++ r.take p))) := by
        rw [← octs_app]; exact addL (by rw [octs_len]; simp; lia) (by rw [octs_len]; simp; lia)
      refine xBin (xSlice (a := .list (octs r)) (xName ?_ ?_) (xO1 (xName ?_ ?_)) xO0 xO0 (cutDrop (by lia) (by lia))) (xSlice (a := .list (octs r)) (xName ?_ ?_) xO0 (xO1 (xName ?_ ?_)) xO0 (cutTake (by lia) (by lia))) hadd <;> first | rfl | kernel_rfl!
    · simp; lia
    · simp only [kD, turnL, List.map_map]; rfl
    refine wRet (tRet (d := .list (octs k.2)) (μ1 := []) (xItem (a := k2D k) (b := .int 1) ?_ (xItem (a := .list ((isort lt2 ((turnL r).map rk)).map k2D)) (b := .int 0) ?_ (xBi (id := "sorted") (ds := [.list (((turnL r).map rk).map k2D)]) ?_ ?_ (xEs (xLC ((lCompA (μ1 := []) (turnL r) (fun t => .list (octs t)) (fun t => [(Str.ofString "turning", .list (octs t))]) (fun t => k2D (rk t)) ?_ (itGen (d := .list (kD (turnL r))) ?_ (xName ?_ ?_) rfl) ?_ ?_ ?_ ?_).trans ?_)) xEs0) hso) xInt ?_) xInt ?_)) rfl <;> try first | rfl | kernel_rfl!
    · intro d _; rfl
    · intro d' _ d _; kernel_rfl!
    · intro t ht
      obtain ⟨t1, t2⟩ := hO t ht
      refine xTup (xEs (xFn (a := 134) (ds := [.list (octs t)]) ?_ ?_ (xEs (xName ?_ ?_) xEs0) (hRk t t1 (by lia) _)) (xEs (xName ?_ ?_) xEs0)) ?_ <;> try first | rfl | kernel_rfl!
      exact Nat.le_of_ble_eq_true rfl
    · lia
    · rw [List.map_map]; rfl
    · rw [hk]
      exact subL (i := 0) rfl (by
        have : (isort lt2 ((turnL r).map rk)).length = r.length := by rw [isort_len]; simp [htl]
        rw [hk] at this
        rw [List.length_map, this]; lia)
  rw [hL]
  exact runOf main (octs_plain _)
end Mine
end
section
open PySem PySem.W PyProof.Rows
set_option autoImplicit false
namespace Mine
theorem rootAux_is (w : List Nat) : ∀ ss : List Nat, (∀ s ∈ ss, 1 ≤ s ∧ s < w.length) → 0 < w.length → ∃ s, 1 ≤ s ∧ s ≤ w.length ∧ rootAux w ss = w.take s
  | [], _, h => ⟨w.length, h, Nat.le_refl _, by simp [rootAux]⟩
  | s :: ss, hs, h => by
    unfold rootAux
    split
    · have := hs s (by simp); exact ⟨s, by lia, by lia, rfl⟩
    · exact rootAux_is w ss (fun x hx => hs x (by simp [hx])) h
theorem rootN_is {w : List Nat} (h : 0 < w.length) : ∃ s, 1 ≤ s ∧ s ≤ w.length ∧ rootN w = w.take s := rootAux_is w _ (fun s hs => by rw [List.mem_range'_1] at hs; lia) h
theorem leastN_mem {r : List Nat} (h : 0 < r.length) : leastN r ∈ turnL r := by
  unfold leastN
  cases e : isort lt2 ((turnL r).map rk) with
  | nil => have := congrArg List.length e; rw [isort_len] at this; simp [turnL] at this; subst this; simp at h
  | cons k rest =>
    have : k ∈ (turnL r).map rk := (isort_perm _).subset (by rw [e]; simp)
    obtain ⟨t, ht, rfl⟩ := List.mem_map.mp this
    exact ht
theorem turnL_is {r t : List Nat} (ht : t ∈ turnL r) : (∀ x ∈ t, x ∈ r) ∧ t.length = r.length := by
  obtain ⟨p, hp, rfl⟩ := List.mem_map.mp ht
  have : p < r.length := by simpa using hp
  refine ⟨fun x hx => ?_, by simp; lia⟩
  rcases List.mem_append.mp hx with hx | hx
  · exact List.mem_of_mem_drop hx
  · exact List.mem_of_mem_take hx
noncomputable def rootK (w : List Nat) : List K2 := List.replicate (w.length / (rootN w).length) ((readN (leastN (rootN w)) 0).map rankO, leastN (rootN w))
noncomputable def rootsN (ws : List (List Nat)) : List (List Nat) := (isort lt2 (ws.flatMap rootK)).map (·.2)
structure WordOk (w : List Nat) : Prop where
  pos : 0 < w.length
  len : w.length ≤ 4
  oct : AllO w
theorem rootOk {w : List Nat} (h : WordOk w) : WordOk (rootN w) := by
  obtain ⟨s, h1, h2, h3⟩ := rootN_is h.pos
  refine ⟨?_, ?_, ?_⟩ <;> rw [h3]
  · rw [List.length_take]; lia
  · have := h.len; rw [List.length_take]; lia
  · exact fun x hx => h.oct x (List.mem_of_mem_take hx)
theorem leastOk {r : List Nat} (h : WordOk r) : WordOk (leastN r) := by
  obtain ⟨a, b⟩ := turnL_is (leastN_mem h.pos)
  exact ⟨by rw [b]; exact h.pos, by rw [b]; exact h.len, fun x hx => h.oct x (a x hx)⟩
theorem readOk {w : List Nat} (h : WordOk w) (p : Nat) : AllO (readN w p) ∧ (readN w p).length = 6 := by
  refine ⟨fun x hx => ?_, by simp [readN]⟩
  obtain ⟨i, _, rfl⟩ := List.mem_map.mp hx
  have : (p + i) % w.length < w.length := Nat.mod_lt _ h.pos
  exact h.oct _ (by simp [this])
theorem k2_rep (k : Nat) (x : K2) : (List.replicate k [k2D x]).flatten = (List.replicate k x).map k2D := by
  induction k with
  | zero => rfl
  | succ k ih => rw [List.replicate_succ, List.flatten_cons, ih, List.replicate_succ]; rfl
theorem roots_run (T : Tbl) (hRk : ∀ l : List Nat, AllO l → l.length ≤ 100 → Calls T 134 [.list (octs l)] (.list (octs (l.map rankO))))
    (hR : ∀ (l : List Nat) (p : Nat), 0 < l.length → l.length ≤ 100 → Calls T 139 [.list (octs l), .int (p : Int)] (.list (octs (readN l p))))
    (hRoot : ∀ w : List Nat, 0 < w.length → w.length ≤ 60 → Calls T 173 [.list (octs w)] (.list (octs (rootN w))))
    (hLeast : ∀ r : List Nat, AllO r → 0 < r.length → r.length ≤ 50 → Calls T 178 [.list (octs r)] (.list (octs (leastN r))))
    {ws : List (List Nat)} (hw : ∀ w ∈ ws, WordOk w) (hn : ws.length ≤ 10) : RunF T [] 42 [.list (kD ws)] (.list (kD (rootsN ws))) := by
  have hkl : ∀ w, WordOk w → (rootK w).length ≤ 4 := fun w h => by
    unfold rootK; rw [List.length_replicate]
    exact Nat.le_trans (Nat.div_le_self _ _) h.len
  have main : WS T [] 40 (fScope (st 42)) (sg 42 [.list (kD ws)]) [] (fBody (st 42)) (fun q => q.1 = .ret (.list (kD (rootsN ws)))) := by
    refine wNext (tSet (d := .list []) (μ1 := []) ?_ ?_ (xList (lList xEs0 (by decide)))) ?_ <;> try first | rfl | kernel_rfl!
    refine wFor (l := kD ws) (μ1 := []) (R := fun l σ μ => ∃ (vs : List (List Nat)) (acc : List K2) (S : Sg), l = kD vs ∧ (∀ w ∈ vs, WordOk w) ∧ acc.length + 4 * vs.length ≤ 40 ∧ μ = [] ∧ tri3 "word" "root" "least" S ∧ σ = (Str.ofString "words", .list (kD ws)) :: (Str.ofString "rings", .list (acc.map k2D)) :: S ∧ acc ++ vs.flatMap rootK = ws.flatMap rootK)
      (itGen (d := .list (kD ws)) ?_ (xName ?_ ?_) rfl) ?_ ?_ ?_ <;> try first | rfl | kernel_rfl!
    · exact ⟨ws, [], [], rfl, hw, by simp; lia, rfl, .inl rfl, rfl, rfl⟩
    · rintro d l σ μ ⟨vs, acc, S, hvs, hin, hlen, rfl, hS, rfl, hfin⟩
      cases vs with
      | nil => cases hvs
      | cons w vs =>
        obtain ⟨rfl, rfl⟩ := List.cons.inj hvs
        have W := hin w (by simp)
        have W1 := rootOk W
        have W2 := leastOk W1
        have k4 := hkl w W
        have e1 := W.pos; have e2 := W.len; have e3 := W1.pos; have e4 := W1.len; have e5 := W2.pos; have e6 := W2.len
        simp only [List.length_cons] at hlen
        obtain ⟨r1, r2⟩ := readOk W2 0
        have hdiv : binD .FloorDiv (.int (w.length : Int)) (.int ((rootN w).length : Int)) = some (.int ((w.length / (rootN w).length : Nat) : Int)) := divN (by lia) (by lia)
        have hq : w.length / (rootN w).length ≤ 4 := Nat.le_trans (Nat.div_le_self _ _) e2
        have hmul : binD .Mult (.list [k2D ((readN (leastN (rootN w)) 0).map rankO, leastN (rootN w))]) (.int ((w.length / (rootN w).length : Nat) : Int)) = some (.list ((rootK w).map k2D)) := by
          rw [mult_list, if_pos (by have := Int.natCast_nonneg (w.length / (rootN w).length); simp only [Bool.and_eq_true, decide_eq_true_eq, List.length_singleton]; lia), Int.toNat_natCast, k2_rep]
          rfl
        have hadd : binD .Add (.list (acc.map k2D)) (.list ((rootK w).map k2D)) = some (.list ((acc ++ rootK w).map k2D)) := by
          rw [List.map_append]; exact addL (by simp; lia) (by simp; lia)
        obtain ⟨S', hbind⟩ : ∃ S', bindT (fScope (st 42)) (.Name (Str.ofString "word") ⟨0, 0, 0, 0⟩) (.list (octs w)) ((Str.ofString "words", .list (kD ws)) :: (Str.ofString "rings", .list (acc.map k2D)) :: S) = some ([(Str.ofString "words", .list (kD ws)), (Str.ofString "rings", .list (acc.map k2D)), (Str.ofString "word", .list (octs w))] ++ S') := by
          rcases hS with rfl | ⟨a, b, c, rfl⟩
          · exact ⟨[], by kernel_rfl!⟩
          · exact ⟨[(Str.ofString "root", b), (Str.ofString "least", c)], by kernel_rfl!⟩
        refine ⟨_, hbind, wLess _ _ ?_⟩
        refine wNext (tSet (d := .list (octs (rootN w))) (μ1 := []) ?_ ?_ (xFn (a := 173) (ds := [.list (octs w)]) ?_ ?_ (xEs (xName ?_ ?_) xEs0) (hRoot w (by lia) (by lia) _))) ?_ <;> try first | rfl | kernel_rfl!
        refine wNext (tSet (d := .list (octs (leastN (rootN w)))) (μ1 := []) ?_ ?_ (xFn (a := 178) (ds := [.list (octs (rootN w))]) ?_ ?_ (xEs (xName ?_ ?_) xEs0) (hLeast (rootN w) W1.oct (by lia) (by lia) _))) ?_ <;> try first | rfl | kernel_rfl!
        refine wNext (tSet (d := .list ((acc ++ rootK w).map k2D)) (μ1 := []) ?_ ?_ (xBin (xName ?_ ?_) (xBin (xList (lList (ds := [k2D ((readN (leastN (rootN w)) 0).map rankO, leastN (rootN w))]) (xEs (xTup (xEs (xFn (a := 134) (ds := [.list (octs (readN (leastN (rootN w)) 0))]) ?_ ?_ (xEs (xFn (a := 139) (ds := [.list (octs (leastN (rootN w))), .int ((0 : Nat) : Int)]) ?_ ?_ (xEs (xName ?_ ?_) (xEs xInt xEs0)) (hR _ 0 (by lia) (by lia) _)) xEs0) (hRk _ r1 (by lia) _)) (xEs (xName ?_ ?_) xEs0)) ?_) xEs0) ?_)) (xBin (xBi (id := "len") (ds := [.list (octs w)]) ?_ ?_ (xEs (xName ?_ ?_) xEs0) (lenO w (by lia))) (xBi (id := "len") (ds := [.list (octs (rootN w))]) ?_ ?_ (xEs (xName ?_ ?_) xEs0) (lenO _ (by lia))) hdiv) hmul) hadd)) (wNil ?_) <;> try first | rfl | kernel_rfl!
        · exact Nat.le_of_ble_eq_true rfl
        · exact Nat.le_of_ble_eq_true rfl
        · exact ⟨vs, acc ++ rootK w, _, rfl, fun x hx => hin x (by simp [hx]), by simp; lia, rfl, .inr ⟨_, _, _, rfl⟩, rfl, by rw [← hfin]; simp⟩
    · rintro σ μ ⟨vs, acc, S, hvs, hin, hlen, rfl, hS, rfl, hfin⟩
      have : vs = [] := by cases vs with
        | nil => rfl
        | cons _ _ => cases hvs
      subst this
      have hacc : acc = ws.flatMap rootK := by simpa using hfin
      have hal : acc.length ≤ 40 := by simpa using hlen
      have hso : biD [] "sorted" [.list (acc.map k2D)] = _ := sorted_is lt2_tot cmp_k2 tup2 (by lia)
      refine wRet (tRet (d := .list (kD (rootsN ws))) (μ1 := []) (xLC ((lCompA (μ1 := []) (isort lt2 acc) k2D (fun k => [(Str.ofString "ranks", .list (octs k.1)), (Str.ofString "least", .list (octs k.2))]) (fun k => .list (octs k.2)) ?_ (itGen (d := .list ((isort lt2 acc).map k2D)) ?_ (xBi (id := "sorted") (ds := [.list (acc.map k2D)]) ?_ ?_ (xEs (xName ?_ ?_) xEs0) hso) rfl) ?_ ?_ ?_ ?_).trans ?_))) rfl <;> try first | rfl | kernel_rfl!
      · intro k _; rcases hS with rfl | ⟨a, b, c, rfl⟩ <;> kernel_rfl!
      · intro d' _ d _; kernel_rfl!
      · intro k hk
        refine xName ?_ ?_ <;> first | rfl | kernel_rfl!
      · rw [isort_len]; lia
      · rw [hacc]; simp only [kD, rootsN, List.map_map]; rfl
  exact runOf main (kD_plain _)
end Mine
end
section
open PySem PySem.W PyProof.Rows
set_option autoImplicit false
namespace Mine
noncomputable def dueOf (ws : List (List Nat)) : List K3 := isort lt3 ((turnsOf ws).map fun t => (t.1.map rankO, t.1, t.2))
noncomputable def rowOf (ws : List (List Nat)) : List Nat := (dueOf ws).map (·.2.2)
structure PL (ws : List (List Nat)) : Prop where
  laid : drain itLt (turnsOf ws).length (filled itLt ((turnsOf ws).map fun t => itOf (writ t.1) t.2) []) = (dueOf ws).map fun k => itOf (writ k.2.1) k.2.2
  told : ∀ (i j : Nat) (x y : K3), (dueOf ws)[i]? = some x → (dueOf ws)[j]? = some y → sgn3 (writ x.2.1).cps.toList (writ y.2.1).cps.toList = sgn3 x.1 y.1
  rings : ringsOf (rowOf ws) = rootsN ws
theorem turnsOf_is {ws : List (List Nat)} (hw : ∀ w ∈ ws, WordOk w) : (∀ t ∈ turnsOf ws, AllO t.1 ∧ t.1.length = 6 ∧ t.2 < 256) ∧ (turnsOf ws).length ≤ 4 * ws.length ∧ ws.length ≤ (turnsOf ws).length := by
  refine ⟨fun t ht => ?_, ?_⟩
  · simp only [turnsOf, List.mem_flatMap, List.mem_map, List.mem_range] at ht
    obtain ⟨w, hww, p, hp, rfl⟩ := ht
    have W := hw w hww
    obtain ⟨a, b⟩ := readOk W p
    refine ⟨a, b, ?_⟩
    show aheadN w p < 256
    unfold aheadN
    apply W.oct
    have : (if p = 0 then w.length - 1 else p - 1) < w.length := by have := W.pos; split <;> lia
    simp [this]
  · induction ws with
    | nil => simp [turnsOf]
    | cons w ws ih =>
      have h1 := ih fun v hv => hw v (by simp [hv])
      have h2 := (hw w (by simp)).len
      have h3 := (hw w (by simp)).pos
      simp only [turnsOf, List.flatMap_cons, List.length_append, List.length_map, List.length_range, List.length_cons] at *
      lia
theorem dueOf_is {ws : List (List Nat)} (hw : ∀ w ∈ ws, WordOk w) : (∀ k ∈ dueOf ws, k.1 = k.2.1.map rankO ∧ AllO k.2.1 ∧ k.2.1.length = 6 ∧ k.2.2 < 256) ∧ (dueOf ws).length = (turnsOf ws).length := by
  refine ⟨fun k hk => ?_, by unfold dueOf; rw [isort_len, List.length_map]⟩
  have := (isort_perm _).subset hk
  obtain ⟨t, ht, rfl⟩ := List.mem_map.mp this
  obtain ⟨a, b, c⟩ := (turnsOf_is hw).1 t ht
  exact ⟨rfl, a, b, c⟩
noncomputable def wD (k : K3) : D := .tup [.str (writ k.2.1), .int (k.2.2 : Int)]
noncomputable def bRA (t : List Nat × Nat) : Sg := [(Str.ofString "read", .list (octs t.1)), (Str.ofString "ahead", .int (t.2 : Int))]
noncomputable def bRRA (k : K3) : Sg := [(Str.ofString "ranks", .list (octs k.1)), (Str.ofString "read", .list (octs k.2.1)), (Str.ofString "ahead", .int (k.2.2 : Int))]
noncomputable def bWA (k : K3) : Sg := [(Str.ofString "written", .str (writ k.2.1)), (Str.ofString "ahead", .int (k.2.2 : Int))]
theorem eqOk_map {α : Type} {n : Nat} {e : α → D} {l : List α} (h : ∀ a ∈ l, eqOk n (e a) = true) : eqOk (n + 1) (.list (l.map e)) = true := by
  show (l.map e).all (eqOk n) = true
  simpa using h
set_option maxHeartbeats 4000000 in
theorem holds_run (T : Tbl) (hOct : ∀ n : Int, ∃ o : List Nat, o.length = 3 ∧ AllO o ∧ Calls T 112 [.int n] (.list (octs o)))
    (hWord : ∀ (n : Int) (o : List Nat), o.length = 3 → AllO o → ∃ w, WordOk w ∧ Calls T 117 [.int n, .list (octs o)] (.list (octs w)))
    (hTurn : ∀ ws : List (List Nat), (∀ w ∈ ws, WordOk w) → ws.length ≤ 100 → Calls T 144 [.list (kD ws)] (.list ((turnsOf ws).map tD)))
    (hRk : ∀ l : List Nat, AllO l → l.length ≤ 100 → Calls T 134 [.list (octs l)] (.list (octs (l.map rankO))))
    (hLaid : ∀ ts : List (List Nat × Nat), (∀ t ∈ ts, AllO t.1 ∧ t.1 ≠ [] ∧ t.1.length ≤ 100) → ts.length < 100 → Calls T 149 [.list (ts.map tD)] (.list ((drain itLt ts.length (filled itLt (ts.map fun t => itOf (writ t.1) t.2) [])).map itD)))
    (hWrit : ∀ l : List Nat, AllO l → l.length ≤ 100 → Calls T 129 [.list (octs l)] (.str (writ l)))
    (hCar : ∀ l : List Nat, AllO l → l ≠ [] → l.length ≤ 100 → Calls T 154 [.list (octs l)] (.list (octs l)))
    (hTold : ∀ (ws : List Str) (ks : List (List Nat)), ws.length = ks.length → ks.length ≤ 100 → (∀ w ∈ ws, PyData.strOk w = true) → (∀ (i j : Nat) (x y : Str) (a b : List Nat), ws[i]? = some x → ws[j]? = some y → ks[i]? = some a → ks[j]? = some b → sgn3 x.cps.toList y.cps.toList = sgn3 a b) → Calls T 161 [.list (strD ws), .list (kD ks)] (.bool true))
    (hRings : ∀ row : List Nat, AllO row → row.length < 100 → Calls T 166 [.list (octs row)] (.list (kD (ringsOf row))))
    (hRoots : ∀ ws : List (List Nat), (∀ w ∈ ws, WordOk w) → ws.length ≤ 10 → Calls T 183 [.list (kD ws)] (.list (kD (rootsN ws))))
    (hPL : ∀ ws : List (List Nat), (∀ w ∈ ws, WordOk w) → ws.length = 3 → PL ws) (ns : List Int) (hns : ns.length = 4) : RunF T [] 43 [.list (intsD ns)] (.bool true) := by
  obtain ⟨n0, n1, n2, n3, rfl⟩ : ∃ a b c d, ns = [a, b, c, d] := by
    match ns, hns with
    | [a, b, c, d], _ => exact ⟨a, b, c, d, rfl⟩
  obtain ⟨o, o3, oO, hO⟩ := hOct n0
  obtain ⟨W, hW⟩ := Classical.axiomOfChoice fun n => hWord n o o3 oO
  obtain ⟨ws, hws⟩ : ∃ ws, ws = [n1, n2, n3].map W := ⟨_, rfl⟩
  have hw : ∀ w ∈ ws, WordOk w := fun w h => by
    rw [hws] at h
    obtain ⟨n, _, rfl⟩ := List.mem_map.mp h
    exact (hW n).1
  have hw3 : ws.length = 3 := by rw [hws]; rfl
  obtain ⟨pl1, pl2, pl3⟩ := hPL ws hw hw3
  obtain ⟨t1, t2, t3⟩ := turnsOf_is hw
  obtain ⟨d1, d2⟩ := dueOf_is hw
  have hso : biD [] "sorted" [.list (((turnsOf ws).map fun t => (t.1.map rankO, t.1, t.2)).map k3D)] = some (.list ((dueOf ws).map k3D)) := sorted_is lt3_tot cmp_k3 tup3 (by simp; lia)
  have hlaid : Calls T 149 [.list ((turnsOf ws).map tD)] (.list ((dueOf ws).map wD)) := fun μ => by
    have := hLaid (turnsOf ws) (fun t ht => by
      obtain ⟨a, b, c⟩ := t1 t ht
      exact ⟨a, (fun e => by rw [e] at b; cases b), by lia⟩) (by lia) μ
    have e : (dueOf ws).map (itD ∘ fun k : K3 => itOf (writ k.2.1) k.2.2) = (dueOf ws).map wD := List.map_congr_left fun k hk => itOf_D (writ_ok (d1 k hk).2.1) _
    rw [pl1, List.map_map, e] at this
    exact this
  have hwlist : eqOk 10 (.list ((dueOf ws).map wD)) = true := eqOk_map fun k hk => by
    obtain ⟨a, b, c⟩ := d1 k hk
    have : eqOk 8 (.str (writ k.2.1)) = true := writ_ok b
    show ([D.str (writ k.2.1), .int (k.2.2 : Int)]).all (eqOk 8) = true
    simp only [List.all_cons, this]; rfl
  have hne := (eqSelf hwlist (μ := [])).2
  have hrowO : AllO (rowOf ws) := fun x hx => by
    obtain ⟨k, hk, rfl⟩ := List.mem_map.mp hx
    exact (d1 k hk).2.2.2
  have hrl : (rowOf ws).length = (turnsOf ws).length := by unfold rowOf; rw [List.length_map, d2]
  have hrne : rowOf ws ≠ [] := fun e => by rw [e] at hrl; simp at hrl; lia
  have hcar := hCar (rowOf ws) hrowO hrne (by lia)
  have hrowE : cmpD [] .Eq (.list (octs (rowOf ws))) (.list (octs (rowOf ws))) = some true := (eqLists _ _).trans (by simp)
  have hrings := hRings (rowOf ws) hrowO (by lia)
  rw [pl3] at hrings
  have hroots := hRoots ws hw (by lia)
  have hkE : cmpD [] .Eq (.list (kD (rootsN ws))) (.list (kD (rootsN ws))) = some true := (eqSelf (eqOk_map fun k _ => eqO 8 k)).1
  have htold := hTold ((dueOf ws).map fun k => writ k.2.1) ((dueOf ws).map (·.1)) (by simp) (by simp; lia) (fun x hx => by
      obtain ⟨k, hk, rfl⟩ := List.mem_map.mp hx
      exact writ_ok (d1 k hk).2.1) (fun i j x y a b h1 h2 h3 h4 => by
      simp only [List.getElem?_map, Option.map_eq_some_iff] at h1 h2 h3 h4
      obtain ⟨k1, e1, rfl⟩ := h1
      obtain ⟨k2, e2, rfl⟩ := h2
      obtain ⟨k3, e3, rfl⟩ := h3
      obtain ⟨k4, e4, rfl⟩ := h4
      rw [e1] at e3; cases e3
      rw [e2] at e4; cases e4
      exact pl2 i j k1 k2 e1 e2)
  have main : WS T [] 40 (fScope (st 43)) (sg 43 [.list (intsD [n0, n1, n2, n3])]) [] (fBody (st 43)) (fun q => q.1 = .ret (.bool true)) := by
    refine wNext (tSet (d := .list (octs o)) (μ1 := []) ?_ ?_ (xFn (a := 112) (ds := [.int n0]) ?_ ?_ (xEs (xItem (a := .list (intsD [n0, n1, n2, n3])) (b := .int 0) ?_ (xName ?_ ?_) xInt rfl) xEs0) (hO _))) ?_ <;> try first | rfl | kernel_rfl!
    refine wNext (tSet (d := .list (kD ws)) (μ1 := []) ?_ ?_ (xLC ((lCompA (μ1 := []) [n1, n2, n3] D.int (fun n => [(Str.ofString "octets", .list (octs o)), (Str.ofString "number", .int n)]) (fun n => .list (octs (W n))) ?_ (itGen (d := .list (intsD [n1, n2, n3])) ?_ (xSlice (a := .list (intsD [n0, n1, n2, n3])) (xName ?_ ?_) (xO1 xInt) xO0 xO0 ?_) rfl) ?_ ?_ ?_ ?_).trans ?_))) ?_ <;> try first | rfl | kernel_rfl!
    · intro n _; kernel_rfl!
    · intro n' _ n _; kernel_rfl!
    · intro n _
      refine xFn (a := 117) (ds := [.int n, .list (octs o)]) ?_ ?_ (xEs (xName ?_ ?_) (xEs (xName ?_ ?_) xEs0)) ((hW n).2 _) <;> first | rfl | kernel_rfl!
    · exact Nat.le_of_ble_eq_true rfl
    · rw [hws]; rfl
    refine wNext (tSet (d := .list ((turnsOf ws).map tD)) (μ1 := []) ?_ ?_ (xFn (a := 144) (ds := [.list (kD ws)]) ?_ ?_ (xEs (xName ?_ ?_) xEs0) (hTurn ws hw (by lia) _))) ?_ <;> try first | rfl | kernel_rfl!
    refine wNext (tSet (d := .list ((dueOf ws).map k3D)) (μ1 := []) ?_ ?_ (xBi (id := "sorted") (ds := [.list (((turnsOf ws).map fun t => (t.1.map rankO, t.1, t.2)).map k3D)]) ?_ ?_ (xEs (xLC ((lCompA (μ1 := []) (turnsOf ws) tD bRA (fun t => k3D (t.1.map rankO, t.1, t.2)) ?_ (itGen (d := .list ((turnsOf ws).map tD)) ?_ (xName ?_ ?_) rfl) ?_ ?_ ?_ ?_).trans ?_)) xEs0) hso)) ?_ <;> try first | rfl | kernel_rfl!
    · intro t _; kernel_rfl!
    · intro t' _ t _; kernel_rfl!
    · intro t ht
      obtain ⟨a, b, c⟩ := t1 t ht
      refine xTup (xEs (xFn (a := 134) (ds := [.list (octs t.1)]) ?_ ?_ (xEs (xName ?_ ?_) xEs0) (hRk t.1 a (by lia) _)) (xEs (xName ?_ ?_) (xEs (xName ?_ ?_) xEs0))) ?_ <;> try first | rfl | kernel_rfl!
      exact Nat.le_of_ble_eq_true rfl
    · lia
    · rw [List.map_map]; rfl
    refine wNext (tSet (d := .list ((dueOf ws).map wD)) (μ1 := []) ?_ ?_ (xFn (a := 149) (ds := [.list ((turnsOf ws).map tD)]) ?_ ?_ (xEs (xName ?_ ?_) xEs0) (hlaid _))) ?_ <;> try first | rfl | kernel_rfl!
    refine wIf (c := false) (μ1 := []) (tCmp (a := .list ((dueOf ws).map wD)) (b := .list ((dueOf ws).map wD)) ?_ ?_ (xName ?_ ?_) (xLC (lCompA (μ1 := []) (dueOf ws) k3D bRRA wD ?_ (itGen (d := .list ((dueOf ws).map k3D)) ?_ (xName ?_ ?_) rfl) ?_ ?_ ?_ ?_)) hne) (wNil ?_) <;> try first | rfl | kernel_rfl!
    · intro k _; kernel_rfl!
    · intro k' _ k _; kernel_rfl!
    · intro k hk
      obtain ⟨a, b, c, d⟩ := d1 k hk
      refine xTup (xEs (xFn (a := 129) (ds := [.list (octs k.2.1)]) ?_ ?_ (xEs (xName ?_ ?_) xEs0) (hWrit k.2.1 b (by lia) _)) (xEs (xName ?_ ?_) xEs0)) ?_ <;> try first | rfl | kernel_rfl!
      exact Nat.le_of_ble_eq_true rfl
    · lia
    refine wNext (tSet (d := .list (octs (rowOf ws))) (μ1 := []) ?_ ?_ (xLC ((lCompA (μ1 := []) (dueOf ws) wD bWA (fun k => .int (k.2.2 : Int)) ?_ (itGen (d := .list ((dueOf ws).map wD)) ?_ (xName ?_ ?_) rfl) ?_ ?_ ?_ ?_).trans ?_))) ?_ <;> try first | rfl | kernel_rfl!
    · intro k _; kernel_rfl!
    · intro k' _ k _; kernel_rfl!
    · intro k hk
      refine xName ?_ ?_ <;> first | rfl | kernel_rfl!
    · lia
    · simp only [rowOf, octs, List.map_map]; rfl
    refine wNext (tSet (d := .list (octs (rowOf ws))) (μ1 := []) ?_ ?_ (xFn (a := 154) (ds := [.list (octs (rowOf ws))]) ?_ ?_ (xEs (xName ?_ ?_) xEs0) (hcar _))) ?_ <;> try first | rfl | kernel_rfl!
    refine wRet (tRet (d := .bool true) (μ1 := []) (xAndT (a := .bool true) (μ1 := []) (xCmp (a := .list (octs (rowOf ws))) (b := .list (octs (rowOf ws))) ?_ (xName ?_ ?_) (xName ?_ ?_) hrowE) ?_ (bT (a := .bool true) (μ1 := []) (xFn (a := 161) (ds := [.list (strD ((dueOf ws).map fun k => writ k.2.1)), .list (kD ((dueOf ws).map (·.1)))]) (μ1 := []) ?_ ?_ (xEs (xLC ((lCompA (μ1 := []) (dueOf ws) wD bWA (fun k => .str (writ k.2.1)) ?_ (itGen (d := .list ((dueOf ws).map wD)) ?_ (xName ?_ ?_) rfl) ?_ ?_ ?_ ?_).trans ?_)) (xEs (xLC ((lCompA (μ1 := []) (dueOf ws) k3D bRRA (fun k => .list (octs k.1)) ?_ (itGen (d := .list ((dueOf ws).map k3D)) ?_ (xName ?_ ?_) rfl) ?_ ?_ ?_ ?_).trans ?_)) xEs0)) (htold _)) ?_ (bLast (xCmp (a := .list (kD (rootsN ws))) (b := .list (kD (rootsN ws))) (t := true) (μ1 := []) (μ2 := []) ?_ (xFn (a := 166) (ds := [.list (octs (rowOf ws))]) (μ1 := []) ?_ ?_ (xEs (xName ?_ ?_) xEs0) (hrings _)) (xFn (a := 183) (ds := [.list (kD ws)]) (μ1 := []) ?_ ?_ (xEs (xName ?_ ?_) xEs0) (hroots _)) hkE))))) rfl <;> try first | rfl | kernel_rfl!
    · intro k _; kernel_rfl!
    · intro k' _ k _; kernel_rfl!
    · intro k hk
      refine xName ?_ ?_ <;> first | rfl | kernel_rfl!
    · lia
    · simp only [strD, List.map_map]; rfl
    · intro k _; kernel_rfl!
    · intro k' _ k _; kernel_rfl!
    · intro k hk
      refine xName ?_ ?_ <;> first | rfl | kernel_rfl!
    · lia
    · simp only [kD, List.map_map]; rfl
  exact runOf main rfl
theorem law_run (T : Tbl) (hNum : ∀ xs : List Int, xs.length ≤ 100 → ∃ ns : List Int, ns.length = 4 ∧ Calls T 105 [.list (intsD xs)] (.list (intsD ns)))
    (hHolds : ∀ ns : List Int, ns.length = 4 → Calls T 188 [.list (intsD ns)] (.bool true)) (xs : List Int) (hx : xs.length ≤ 100) : RunF T [] 44 [.list (intsD xs)] (.bool true) := by
  obtain ⟨ns, n4, hN⟩ := hNum xs hx
  have hH := hHolds ns n4
  have main : WS T [] 40 (fScope (st 44)) (sg 44 [.list (intsD xs)]) [] (fBody (st 44)) (fun q => q.1 = .ret (.bool true)) := by
    refine wRet (tRet (d := .bool true) (μ1 := []) (xFn (a := 188) (ds := [.list (intsD ns)]) (μ1 := []) ?_ ?_ (xEs (xFn (a := 105) (ds := [.list (intsD xs)]) (μ1 := []) ?_ ?_ (xEs (xName ?_ ?_) xEs0) (hN _)) xEs0) (hH _))) rfl <;> first | rfl | kernel_rfl!
  exact runOf main rfl
end Mine
end
section
open PySem PySem.W PyProof.Rows PySem.Calls
set_option autoImplicit false
namespace Mine
/-! the tables -/
noncomputable def addF (T : Tbl) (a i : Nat) (ow : List Str) (P : List D → Option (List D)) : Tbl := { T with fn := (a, fun ds d => ∃ ds2, P ds = some ds2 ∧ RunF T ow i ds2 d) :: T.fn }
noncomputable def addM (T : Tbl) (a i n : Nat) : Tbl := { T with mt := (a, fun cs ds d cs' => ds.length = n ∧ RunM T i cs ds d cs') :: T.mt }
noncomputable def ar (n : Nat) (ds : List D) : Option (List D) := if ds.length = n then some ds else none
noncomputable def iso : Str := Str.ofString "iso-8859-1"
noncomputable def arH (ds : List D) : Option (List D) := match ds with
  | [] => none
  | d :: r => (match r with
    | [] => some [d, .str iso]
    | e :: r => (match r with
      | [] => some [d, e]
      | _ :: _ => none))
noncomputable def arN (ds : List D) : Option (List D) := match ds with
  | [] => none
  | d :: r => (match r with
    | [] => some [d, .str nl]
    | _ :: _ => none)
theorem Opn.low {K : Gh} {w : World} {r r' : Nat} {sc : Scope} {σ : Sg} {μ μ' : Mu} {ds : List D} {t : List Value → Sem Value} {d : D} (h : Opn K w r sc σ μ ds t d μ') (hr : r ≤ r') : Opn K w r' sc σ μ ds t d μ' := fun g s env α A vals S Rm rd => h g s env α A vals S (Rm.low hr) rd
theorem TblOk.low {K : Gh} {w : World} {r r' : Nat} {T : Tbl} (h : TblOk K w r T) (hr : r ≤ r') : TblOk K w r' T where
  fn a F hF := by
    obtain ⟨o, fd, h1, h2, h3⟩ := h.fn a F hF
    exact ⟨o, fd, h1, h2, fun ds d hp hd sc σ μ => (h3 ds d hp hd sc σ μ).low hr⟩
  mt a F hF := by
    obtain ⟨o, fd, h1, h2, h3⟩ := h.mt a F hF
    exact ⟨o, fd, h1, h2, fun cs ds d cs' hp hd sc σ μ k hk => (h3 cs ds d cs' hp hd sc σ μ k hk).low hr⟩
theorem TblOk.nil (K : Gh) (w : World) (r : Nat) : TblOk K w r ⟨[], []⟩ where
  fn a F hF := by cases hF
  mt a F hF := by cases hF
noncomputable def LaysOk (w : World) (fd : FuncData) (i : Nat) (P : List D → Option (List D)) : Prop := ∀ ds ds2, P ds = some ds2 → D.plains ds = true → D.plains ds2 = true ∧ ∀ (g : Gh) (s : Shared) (vals : List Value), (∀ b o, KK w b = some o → g b = some o) → (∀ b o, g b = some o → s.heap.get? b = some o) → Rds g [] vals ds → ∃ vs, Rds g [] vs ds2 ∧ BindsAt w fd vals ((fArgs (st i)).zip vs) s
theorem lays_ar {w : World} {fd : FuncData} {i n : Nat} (h : ∀ (s : Shared) (vals : List Value), vals.length = n → BindsAt w fd vals ((fArgs (st i)).zip vals) s) : LaysOk w fd i (ar n) := fun ds ds2 hP hp => by
  obtain ⟨hl, hP⟩ := iteSomeP hP
  cases hP; exact ⟨hp, fun g s vals _ _ rd => ⟨vals, rd, h s vals (rd.length.trans hl)⟩⟩
theorem lookupN {β : Type} {l : List (Nat × β)} {x y : Nat} {a b : β} (h : ((y, b) :: l).lookup x = some a) : (x = y ∧ a = b) ∨ l.lookup x = some a := by
  have h : (match x == y with | true => some b | false => l.lookup x) = some a := h
  cases q : x == y with
  | true => rw [q] at h; exact .inl ⟨beq_iff_eq.mp q, (Option.some.inj h).symm⟩
  | false => rw [q] at h; exact .inr h
theorem okF {w : World} {mg mb : Str → Option Value} (Tp : Tops (KK w) mg mb) {r : Nat} {T : Tbl} (hT : TblOk (KK w) w r T) {a : Addr} {o : Obj} {fd : FuncData} {i : Nat} (F : FnIs (KK w) a o fd i) (ow : List Str) {P : List D → Option (List D)} (hP : LaysOk w fd i P) : TblOk (KK w) w (r + 1) (addF T a i ow P) where
  fn b G hG := by
    obtain ⟨rfl, rfl⟩ | hG := lookupN hG
    · exact ⟨o, fd, F.at', F.data, fun ds d hp hd sc σ μ => hd.elim fun ds2 hd => (hP ds ds2 hd.1 hp).elim fun p2 hb => pureCall Tp hT ow F p2 hb hp hd.2 sc σ μ⟩
    · exact (hT.low (Nat.le_succ r)).fn b G hG
  mt b G hG := (hT.low (Nat.le_succ r)).mt b G hG
theorem okM {w : World} {mg mb : Str → Option Value} (Tp : Tops (KK w) mg mb) {r : Nat} {T : Tbl} (hT : TblOk (KK w) w r T) {a : Addr} {o : Obj} {fd : FuncData} {i n : Nat} (F : FnIs (KK w) a o fd i) (h : ∀ (s : Shared) (vals : List Value), vals.length = n + 1 → BindsAt w fd vals ((fArgs (st i)).zip vals) s) : TblOk (KK w) w (r + 1) (addM T a i n) where
  fn b G hG := (hT.low (Nat.le_succ r)).fn b G hG
  mt b G hG := by
    obtain ⟨rfl, rfl⟩ | hG := lookupN hG
    · exact ⟨o, fd, F.at', F.data, fun cs ds d cs' hp hd sc σ μ k hk => mutCall Tp hT F hp (fun s vals hv => h s vals (hv.trans (congrArg (· + 1) hd.1))) hd.2 sc σ μ k hk⟩
    · exact (hT.low (Nat.le_succ r)).mt b G hG
theorem laysH (w : World) : LaysOk w (fdOf (o80f w.params)) 20 arH := fun ds ds2 hP hp => by
  cases ds with
  | nil => exact noSome hP
  | cons d r => cases r with
    | nil =>
      cases hP
      refine ⟨plains2 ((Bool.and_eq_true _ _).mp hp).1 rfl, fun g s vals hK hs rd => ?_⟩
      obtain ⟨v, rfl, rv⟩ := rd.one
      exact ⟨[v, val0 (o73f w.params)], .cons rv (.cons (isStrV_is (vh _)) .nil), fun A E Q hq => wp_loaded (dh1 _ _) (hs _ _ (hK _ _ (k73 _))) (dh2 _ _ ▸ wpAny_pure hq)⟩
    | cons e r => cases r with
      | nil =>
        cases hP
        refine ⟨hp, fun g s vals hK hs rd => ?_⟩
        obtain ⟨v, u, rfl, rv, ru⟩ := rd.two
        exact ⟨[v, u], .cons rv (.cons ru .nil), fun A E Q hq => wp_loaded (dh3 _ _ _) (hs _ _ (hK _ _ (k73 _))) (dh4 _ _ _ ▸ wpAny_pure hq)⟩
      | cons => exact noSome hP
theorem laysN (w : World) : LaysOk w (fdOf (o93f w.params)) 24 arN := fun ds ds2 hP hp => by
  cases ds with
  | nil => exact noSome hP
  | cons d r => cases r with
    | cons => exact noSome hP
    | nil =>
  cases hP
  refine ⟨plains2 ((Bool.and_eq_true _ _).mp hp).1 rfl, fun g s vals hK hs rd => ?_⟩
  obtain ⟨v, rfl, rv⟩ := rd.one
  exact ⟨[v, val0 (o86f w.params)], .cons rv (.cons (isStrV_is (vd _)) .nil), fun A E Q hq => wp_loaded (dd1 _ _) (hs _ _ (hK _ _ (k86 _))) (dd2 _ _ ▸ wpAny_pure hq)⟩
noncomputable def tb0 : Tbl := ⟨[], []⟩
noncomputable def tb1 : Tbl := addM tb0 42 4 2
noncomputable def tb2 : Tbl := addM tb1 49 5 1
noncomputable def tb3 : Tbl := addM tb2 21 1 1
noncomputable def tb4 : Tbl := addM tb3 28 2 0
noncomputable def tb5 : Tbl := addM tb4 35 3 0
noncomputable def tb6 : Tbl := addF tb5 72 19 [] (ar 1)
noncomputable def tb7 : Tbl := addF tb6 80 20 [] arH
noncomputable def tb8 : Tbl := addF tb7 93 24 [] arN
noncomputable def tb9 : Tbl := addF tb8 100 26 [] (ar 2)
noncomputable def tb10 : Tbl := addF tb9 105 28 [] (ar 1)
noncomputable def tb11 : Tbl := addF tb10 112 29 [] (ar 1)
noncomputable def tb12 : Tbl := addF tb11 117 30 [] (ar 2)
noncomputable def tb13 : Tbl := addF tb12 124 31 [] (ar 1)
noncomputable def tb14 : Tbl := addF tb13 129 32 [] (ar 1)
noncomputable def tb15 : Tbl := addF tb14 134 33 [] (ar 1)
noncomputable def tb16 : Tbl := addF tb15 139 34 [] (ar 2)
noncomputable def tb17 : Tbl := addF tb16 144 35 [] (ar 1)
noncomputable def tb18 : Tbl := addF tb17 149 36 owL (ar 1)
noncomputable def tb19 : Tbl := addF tb18 154 37 [] (ar 1)
noncomputable def tb20 : Tbl := addF tb19 161 38 [] (ar 2)
noncomputable def tb21 : Tbl := addF tb20 166 39 owR (ar 1)
noncomputable def tb22 : Tbl := addF tb21 173 40 [] (ar 1)
noncomputable def tb23 : Tbl := addF tb22 178 41 [] (ar 1)
noncomputable def tb24 : Tbl := addF tb23 183 42 [] (ar 1)
noncomputable def tb25 : Tbl := addF tb24 188 43 [] (ar 1)
theorem ok25 (w : World) : TblOk (KK w) w 25 tb25 := by
  have Tp := tops w
  have k0 : TblOk (KK w) w 0 tb0 := TblOk.nil _ _ _
  have k1 : TblOk (KK w) w 1 tb1 := okM Tp k0 (f42 w) (b42 w)
  have k2 : TblOk (KK w) w 2 tb2 := okM Tp k1 (f49 w) (b49 w)
  have k3 : TblOk (KK w) w 3 tb3 := okM Tp k2 (f21 w) (b21 w)
  have k4 : TblOk (KK w) w 4 tb4 := okM Tp k3 (f28 w) (b28 w)
  have k5 : TblOk (KK w) w 5 tb5 := okM Tp k4 (f35 w) (b35 w)
  have k6 : TblOk (KK w) w 6 tb6 := okF Tp k5 (f72 w) _ (lays_ar (b72 w))
  have k7 : TblOk (KK w) w 7 tb7 := okF Tp k6 (f80 w) _ (laysH w)
  have k8 : TblOk (KK w) w 8 tb8 := okF Tp k7 (f93 w) _ (laysN w)
  have k9 : TblOk (KK w) w 9 tb9 := okF Tp k8 (f100 w) _ (lays_ar (b100 w))
  have k10 : TblOk (KK w) w 10 tb10 := okF Tp k9 (f105 w) _ (lays_ar (b105 w))
  have k11 : TblOk (KK w) w 11 tb11 := okF Tp k10 (f112 w) _ (lays_ar (b112 w))
  have k12 : TblOk (KK w) w 12 tb12 := okF Tp k11 (f117 w) _ (lays_ar (b117 w))
  have k13 : TblOk (KK w) w 13 tb13 := okF Tp k12 (f124 w) _ (lays_ar (b124 w))
  have k14 : TblOk (KK w) w 14 tb14 := okF Tp k13 (f129 w) _ (lays_ar (b129 w))
  have k15 : TblOk (KK w) w 15 tb15 := okF Tp k14 (f134 w) _ (lays_ar (b134 w))
  have k16 : TblOk (KK w) w 16 tb16 := okF Tp k15 (f139 w) _ (lays_ar (b139 w))
  have k17 : TblOk (KK w) w 17 tb17 := okF Tp k16 (f144 w) _ (lays_ar (b144 w))
  have k18 : TblOk (KK w) w 18 tb18 := okF Tp k17 (f149 w) _ (lays_ar (b149 w))
  have k19 : TblOk (KK w) w 19 tb19 := okF Tp k18 (f154 w) _ (lays_ar (b154 w))
  have k20 : TblOk (KK w) w 20 tb20 := okF Tp k19 (f161 w) _ (lays_ar (b161 w))
  have k21 : TblOk (KK w) w 21 tb21 := okF Tp k20 (f166 w) _ (lays_ar (b166 w))
  have k22 : TblOk (KK w) w 22 tb22 := okF Tp k21 (f173 w) _ (lays_ar (b173 w))
  have k23 : TblOk (KK w) w 23 tb23 := okF Tp k22 (f178 w) _ (lays_ar (b178 w))
  have k24 : TblOk (KK w) w 24 tb24 := okF Tp k23 (f183 w) _ (lays_ar (b183 w))
  exact okF Tp k24 (f188 w) _ (lays_ar (b188 w))
end Mine
end
section
open PySem PySem.W PyProof.Rows PySem.Calls
set_option autoImplicit false
namespace Mine
/-! what each table's functions answer -/
theorem placesOf_perm {row : List Nat} (h : AllO row) : (placesOf row).Perm (List.range row.length) := by
  have hl : (itsOf row).length = row.length := by simp [itsOf]
  have e : (itsOf row).map It.n = List.range row.length := by
    unfold itsOf
    rw [List.map_map]
    refine (List.map_congr_left fun p hp => ?_).trans (List.map_id _)
    have hp' : p < row.length := by simpa using hp
    exact (itOf_s (wr_ok (by kernel_rfl!) (by intro x hx; simp [hp'] at hx; subst hx; exact h _ (by simp))) p).2
  have H := (heapd_is itTot (row.length / 2) (V := itsOf row) (hl ▸ Hp.half) (by lia))
  have D := drain_is itTot row.length H.1 (by rw [H.2.length_eq, hl])
  unfold placesOf
  rw [← e]
  exact (D.1.trans H.2).map _
theorem placesOf_ok {row : List Nat} (h : AllO row) : (placesOf row).length = row.length ∧ ∀ x ∈ placesOf row, x < row.length :=
  ⟨by rw [(placesOf_perm h).length_eq]; simp, fun x hx => by simpa using (placesOf_perm h).subset hx⟩
theorem cSD {T : Tbl} (h : T.mt.lookup 42 = tb1.mt.lookup 42) (xs : List It) (s p f : Nat) (hp : p < xs.length) (hl : xs.length ≤ 100) (hd : Desc s p) (hf : p ≤ f) : CallsM T 42 (xs.map itD) [.int (s : Int), .int (p : Int)] .nil ((sdL itLt s f xs p).map itD) := fun μ k hk => cMt h rfl hk ⟨rfl, siftdown_run tb0 it_cmp itD_plain hp hl hd hf⟩
theorem cSU {T : Tbl} (h : T.mt.lookup 49 = tb2.mt.lookup 49) (xs : List It) (s : Nat) (hs : s < xs.length) (hl : xs.length ≤ 100) : CallsM T 49 (xs.map itD) [.int (s : Int)] .nil ((siftup itLt xs s).map itD) := fun μ k hk => cMt h rfl hk ⟨rfl, siftup_run tb1 it_cmp itD_plain (cSD rfl) hs hl⟩
theorem cPush {T : Tbl} (h : T.mt.lookup 21 = tb3.mt.lookup 21) (xs : List It) (x : It) (hl : xs.length < 100) : CallsM T 21 (xs.map itD) [itD x] .nil ((push itLt xs x).map itD) := fun μ k hk => cMt h rfl hk ⟨rfl, push_run tb2 itD_plain (cSD rfl) hl⟩
theorem cPop {T : Tbl} (h : T.mt.lookup 28 = tb4.mt.lookup 28) (xs : List It) (hne : xs ≠ []) (hl : xs.length ≤ 100) : CallsM T 28 (xs.map itD) [] (itD (pop itLt xs).1) ((pop itLt xs).2.map itD) := fun μ k hk => cMt h rfl hk ⟨rfl, pop_run tb3 itD_plain (cSU rfl) hl hne⟩
theorem cHeap {T : Tbl} (h : T.mt.lookup 35 = tb5.mt.lookup 35) (xs : List It) (hl : xs.length ≤ 100) : CallsM T 35 (xs.map itD) [] .nil ((heapd itLt (xs.length / 2) xs).map itD) := fun μ k hk => cMt h rfl hk ⟨rfl, heapify_run tb4 itD_plain (cSU rfl) (fun V s _ => siftup_len V s) hl⟩
theorem c72 {T : Tbl} (h : T.fn.lookup 72 = tb6.fn.lookup 72) (x y a b : Nat) (hx : hexVal x = some a) (hy : hexVal y = some b) (ha : a < 16) (hb : b < 16) : Calls T 72 [.str ⟨#[61, x, y]⟩] (.str ⟨#[16 * a + b]⟩) := fun μ => cFn h rfl ⟨_, rfl, unquote_run tb5 hx hy ha hb⟩
theorem c80 {T : Tbl} (h : T.fn.lookup 80 = tb7.fn.lookup 80) (l : List Nat) (hl : AllO l) (h0 : l ≠ []) (hn : l.length ≤ 100) : Calls T 80 [.bytes l] (.str (writ l)) := fun μ => cFn h rfl ⟨_, rfl, by rw [← wr_iso]; exact henc_run tb6 hl h0 hn (cs := iso) (by decide)⟩
theorem c80x {T : Tbl} (h : T.fn.lookup 80 = tb7.fn.lookup 80) (o : Nat) (ho : o < 256) : Calls T 80 [.bytes [o], .str xS] (.str (wr xS [o])) := fun μ => cFn h rfl ⟨_, rfl, henc_run tb6 (l := [o]) (by intro x hx; simp at hx; lia) (by simp) (by simp) (cs := xS) (by decide)⟩
theorem c93 {T : Tbl} (h : T.fn.lookup 93 = tb8.fn.lookup 93) (l : List Nat) (hl : AllO l) (h0 : l ≠ []) (hn : l.length ≤ 100) : Calls T 93 [.str ⟨(E2 l).toArray⟩] (.str ⟨l.toArray⟩) := fun μ => cFn h rfl ⟨_, rfl, decode_run tb7 (c72 rfl) hl h0 hn⟩
theorem c100 {T : Tbl} (h : T.fn.lookup 100 = tb9.fn.lookup 100) (x y : Str) (hx : PyData.strOk x = true) (hy : PyData.strOk y = true) : Calls T 100 [.str x, .str y] (.int (sgn3 x.cps.toList y.cps.toList)) := fun μ => cFn h rfl ⟨_, rfl, twc_run tb8 hx hy⟩
theorem c105 {T : Tbl} (h : T.fn.lookup 105 = tb10.fn.lookup 105) (xs : List Int) (hl : xs.length ≤ 100) : ∃ ns : List Int, ns.length = 4 ∧ Calls T 105 [.list (intsD xs)] (.list (intsD ns)) := by
  obtain ⟨ns, h1, h2⟩ := numbers_run tb9 hl
  exact ⟨ns, h1, fun μ => cFn h (plains1 (d := .list (intsD _)) (ints_plain _)) ⟨_, rfl, h2⟩⟩
theorem c112 {T : Tbl} (h : T.fn.lookup 112 = tb11.fn.lookup 112) (n : Int) : ∃ o : List Nat, o.length = 3 ∧ AllO o ∧ Calls T 112 [.int n] (.list (octs o)) := by
  obtain ⟨a, b, c, h1, h2, h3, h4⟩ := octets_run tb10 n
  refine ⟨[a, b, c], rfl, ?_, fun μ => cFn h rfl ⟨_, rfl, h4⟩⟩
  intro x hx
  simp at hx; lia
theorem octP (l : List Nat) : D.plains [.list (octs l)] = true := plains1 (d := .list (octs l)) (octs_plain l)
theorem kP (l : List (List Nat)) : D.plains [.list (kD l)] = true := plains1 (d := .list (kD l)) (kD_plain l)
theorem c117 {T : Tbl} (h : T.fn.lookup 117 = tb12.fn.lookup 117) (n : Int) (o : List Nat) (h3 : o.length = 3) (hO : AllO o) : ∃ w, WordOk w ∧ Calls T 117 [.int n, .list (octs o)] (.list (octs w)) := by
  obtain ⟨w, h1, h2, h4, h5⟩ := word_run tb11 n h3 hO
  exact ⟨w, ⟨h1, h2, h4⟩, fun μ => cFn h (plains2 (d := .int n) (e := .list (octs o)) rfl (octs_plain o)) ⟨_, rfl, h5⟩⟩
theorem c124 {T : Tbl} (h : T.fn.lookup 124 = tb13.fn.lookup 124) (o : Nat) (ho : o < 256) : Calls T 124 [.int (o : Int)] (.str (hdrSign o)) := fun μ => cFn h rfl ⟨_, rfl, sign_run tb12 ho⟩
theorem c129 {T : Tbl} (h : T.fn.lookup 129 = tb14.fn.lookup 129) (l : List Nat) (hl : AllO l) (hn : l.length ≤ 100) : Calls T 129 [.list (octs l)] (.str (writ l)) := fun μ => cFn h (octP l) ⟨_, rfl, written_run tb13 (c124 rfl) hl hn⟩
theorem c134 {T : Tbl} (h : T.fn.lookup 134 = tb15.fn.lookup 134) (l : List Nat) (hl : AllO l) (hn : l.length ≤ 100) : Calls T 134 [.list (octs l)] (.list (octs (l.map rankO))) := fun μ => cFn h (octP l) ⟨_, rfl, ranks_run tb14 (c124 rfl) hl hn⟩
theorem c139 {T : Tbl} (h : T.fn.lookup 139 = tb16.fn.lookup 139) (l : List Nat) (p : Nat) (h0 : 0 < l.length) (hn : l.length ≤ 100) : Calls T 139 [.list (octs l), .int (p : Int)] (.list (octs (readN l p))) := fun μ => cFn h (plains2 (d := .list (octs l)) (e := .int p) (octs_plain l) rfl) ⟨_, rfl, read_run tb15 h0 hn⟩
theorem c144 {T : Tbl} (h : T.fn.lookup 144 = tb17.fn.lookup 144) (ws : List (List Nat)) (hw : ∀ w ∈ ws, WordOk w) (hn : ws.length ≤ 100) : Calls T 144 [.list (kD ws)] (.list ((turnsOf ws).map tD)) := fun μ => cFn h (kP ws) ⟨_, rfl, turnings_run tb16 (c139 rfl) (fun w hm => ⟨(hw w hm).pos, (hw w hm).len⟩) hn⟩
theorem c149 {T : Tbl} (h : T.fn.lookup 149 = tb18.fn.lookup 149) (ts : List (List Nat × Nat)) (ht : ∀ t ∈ ts, AllO t.1 ∧ t.1 ≠ [] ∧ t.1.length ≤ 100) (hn : ts.length < 100) : Calls T 149 [.list (ts.map tD)] (.list ((drain itLt ts.length (filled itLt (ts.map fun t => itOf (writ t.1) t.2) [])).map itD)) := fun μ => cFn h (plains1 (d := .list (ts.map tD)) (tD_plain ts)) ⟨_, rfl, laid_run tb17 (c80 rfl) (cPush rfl) (cPop rfl) ht hn⟩
theorem c154 {T : Tbl} (h : T.fn.lookup 154 = tb19.fn.lookup 154) (l : List Nat) (hl : AllO l) (h0 : l ≠ []) (hn : l.length ≤ 100) : Calls T 154 [.list (octs l)] (.list (octs l)) := fun μ => cFn h (octP l) ⟨_, rfl, carried_run tb18 (c80 rfl) (c93 rfl) hl h0 hn⟩
theorem c161 {T : Tbl} (h : T.fn.lookup 161 = tb20.fn.lookup 161) (ws : List Str) (ks : List (List Nat)) (hl : ws.length = ks.length) (hn : ks.length ≤ 100) (hs : ∀ w ∈ ws, PyData.strOk w = true) (hk : ∀ (i j : Nat) (x y : Str) (a b : List Nat), ws[i]? = some x → ws[j]? = some y → ks[i]? = some a → ks[j]? = some b → sgn3 x.cps.toList y.cps.toList = sgn3 a b) : Calls T 161 [.list (strD ws), .list (kD ks)] (.bool true) := fun μ => cFn h (plains2 (d := .list (strD ws)) (e := .list (kD ks)) (strD_plain ws) (kD_plain ks)) ⟨_, rfl, told_run tb19 hl hn hs (c100 rfl) hk⟩
theorem c166 {T : Tbl} (h : T.fn.lookup 166 = tb21.fn.lookup 166) (row : List Nat) (hr : AllO row) (hn : row.length < 100) : Calls T 166 [.list (octs row)] (.list (kD (ringsOf row))) := fun μ => cFn h (octP row) ⟨_, rfl, rings_run tb20 (c80x rfl) (cHeap rfl) (cPop rfl) hr hn (placesOf_ok hr)⟩
theorem c173 {T : Tbl} (h : T.fn.lookup 173 = tb22.fn.lookup 173) (w : List Nat) (h0 : 0 < w.length) (hn : w.length ≤ 60) : Calls T 173 [.list (octs w)] (.list (octs (rootN w))) := fun μ => cFn h (octP w) ⟨_, rfl, root_run tb21 h0 hn⟩
theorem c178 {T : Tbl} (h : T.fn.lookup 178 = tb23.fn.lookup 178) (r : List Nat) (hr : AllO r) (h0 : 0 < r.length) (hn : r.length ≤ 50) : Calls T 178 [.list (octs r)] (.list (octs (leastN r))) := fun μ => cFn h (octP r) ⟨_, rfl, least_run tb22 (c134 rfl) hr h0 hn⟩
theorem c183 {T : Tbl} (h : T.fn.lookup 183 = tb24.fn.lookup 183) (ws : List (List Nat)) (hw : ∀ w ∈ ws, WordOk w) (hn : ws.length ≤ 10) : Calls T 183 [.list (kD ws)] (.list (kD (rootsN ws))) := fun μ => cFn h (kP ws) ⟨_, rfl, roots_run tb23 (c134 rfl) (c139 rfl) (c173 rfl) (c178 rfl) hw hn⟩
theorem c188 {T : Tbl} (h : T.fn.lookup 188 = tb25.fn.lookup 188) (hPL : ∀ ws : List (List Nat), (∀ w ∈ ws, WordOk w) → ws.length = 3 → PL ws) (ns : List Int) (hn : ns.length = 4) : Calls T 188 [.list (intsD ns)] (.bool true) := fun μ => cFn h (plains1 (d := .list (intsD _)) (ints_plain _)) ⟨_, rfl, holds_run tb24 (c112 rfl) (c117 rfl) (c144 rfl) (c134 rfl) (c149 rfl) (c129 rfl) (c154 rfl) (c161 rfl) (c166 rfl) (c183 rfl) hPL ns hn⟩
theorem lawRun (hPL : ∀ ws : List (List Nat), (∀ w ∈ ws, WordOk w) → ws.length = 3 → PL ws) (xs : List Int) (hx : xs.length ≤ 100) : RunF tb25 [] 44 [.list (intsD xs)] (.bool true) := law_run tb25 (c105 rfl) (c188 rfl hPL) xs hx
end Mine
end
section
open PySem PySem.W PyProof.Rows PySem.Calls
set_option autoImplicit false
namespace Mine
theorem topCall (w : World) {ds : List D} (hp0 : D.plains ds = true) (hl : ds.length = 1) (h : RunF tb25 [] 44 ds (.bool true)) {s : Shared} {vals : List Value} {A : Around} (hK : ∀ b o, KK w b = some o → s.heap.get? b = some o) (Rm : Room 26 A) (rd : Rds (fun b => s.heap.get? b) [] vals ds) :
    wpAny (MM w) A (PySem.call (.ref 195) vals) (fun v s' => v = .bool true ∧ (∀ b o, s.heap.get? b = some o → s'.heap.get? b = some o) ∧ s'.gens = s.gens ∧ s'.os = s.os) F0 s := by
  have Tp := tops w
  have F := f195 w
  have hlen := rd.length
  refine callAt Tp F hK Rm.here (b195 w s vals (hlen.trans hl)) fun s1 X => ?_
  obtain ⟨Sin, sto, hz1⟩ := enterSt F (g := fun b => s.heap.get? b) hK (fun _ _ e => e) (α0 := []) (μ0 := []) rd (fun a h => absurd h List.not_mem_nil) List.nodup_nil rfl (fun k cs h => noSome h) X
  obtain ⟨x, h1, h2⟩ := h
  refine wpAny_mono (h1 (KK w) w 25 _ _ Tp (ok25 w) F.ok.dbg _ s1 _ [] _ Sin Rm.deep) (fun fl s' q => ?_) fun _ _ x => x
  obtain ⟨g', α', Y, hf⟩ := q
  have B := Bk.of X Y sto hz1 fun b h => absurd h List.not_mem_nil
  refine ⟨?_, fun b o => B.kp b o List.not_mem_nil, B.gens, B.os⟩
  obtain ⟨e, hd⟩ | ⟨e, hp⟩ | ⟨k, cs, e, hk, hd⟩ := outD_inv h2
  · cases hd
  · rw [e] at hf
    obtain ⟨v, rfl, hf⟩ : ∃ v, fl = .ret v ∧ Rd g' α' v (.bool true) := hf
    exact hf.bool_
  · cases hd
theorem has_int {x : WData} (h : WShape.has [] x .int = true) : ∃ i, x = .int i := by
  cases x with
  | int i => exact ⟨i, rfl⟩
  | none => exact absurd (h : false = true) nofun
  | bool b => exact absurd (h : false = true) nofun
  | str b => exact absurd (h : false = true) nofun
  | float b => exact absurd (h : false = true) nofun
  | bytes b => exact absurd (h : false = true) nofun
  | bytearray b => exact absurd (h : false = true) nofun
  | _ => exact absurd (show false = true from (by kernel_rfl! : false = WShape.has [] _ .int).trans h) nofun
theorem hasItems_ints {xs : List WData} (h : WShape.hasItems [] xs .int = true) : ∃ l : List Int, xs = l.map .int := by
  induction xs with
  | nil => exact ⟨[], rfl⟩
  | cons x xs ih =>
    have e : WShape.hasItems [] (x :: xs) .int = (WShape.has [] x .int && WShape.hasItems [] xs .int) := by kernel_rfl!
    rw [e] at h
    obtain ⟨h1, h2⟩ := Bool.and_eq_true_iff.mp h
    obtain ⟨l, rfl⟩ := ih h2
    obtain ⟨i, rfl⟩ := has_int h1
    exact ⟨i :: l, rfl⟩
theorem has_list {x : WData} (h : WShape.has [] x (.list .int) = true) : ∃ xs, x = .list xs ∧ WShape.hasItems [] xs .int = true := by
  cases x with
  | list xs =>
    have e : WShape.has [] (.list xs) (.list .int) = (WShape.hasItems [] xs .int || false) := by kernel_rfl!
    rw [e, Bool.or_false] at h
    exact ⟨xs, rfl, h⟩
  | _ => exact absurd (show false = true from (by kernel_rfl! : false = WShape.has [] _ (.list .int)).trans h) nofun
theorem notAnd {A : WTm} {c : WCtx} {b : Bool} (h : WTm.value [] A c = some (.bool b)) : (WTm.and (.not A) (.lit (.bool true))).holds [] c = !b := by
  have e : (WTm.and (.not A) (.lit (.bool true))).holds [] c = (match (match (match WTm.value [] A c with | some (.bool b) => some (WData.bool (!b)) | _ => none : Option WData) with
    | some (.bool false) => some (WData.bool false)
    | some (.bool true) => some (WData.bool true)
    | _ => none : Option WData) with | some (.bool true) => true | _ => false) := by kernel_rfl!
  rw [e, h]
  cases b <;> rfl
theorem pre_ints {args : List WData} (h : PySem.Challenge.rw_op0073_01.row.toRowW.claim.pre args = true) : ∃ l : List Int, l.length ≤ 63 ∧ args = [.list (l.map .int)] := by
  have h' : (WShape.hasAll [] args [.list .int] && PySem.Challenge.rw_op0073_01.pre.holds [] { args := args }) = true := h
  obtain ⟨h1, h2⟩ := Bool.and_eq_true_iff.mp h'
  cases args with
  | nil => exact absurd ((by kernel_rfl! : false = WShape.hasAll [] [] [.list .int]).trans h1) nofun
  | cons d rest =>
    cases rest with
    | cons d2 rest =>
      have e : WShape.hasAll [] (d :: d2 :: rest) [.list .int] = (WShape.has [] d (.list .int) && false) := by kernel_rfl!
      rw [e, Bool.and_false] at h1; cases h1
    | nil =>
      have e : WShape.hasAll [] [d] [.list .int] = (WShape.has [] d (.list .int) && true) := by kernel_rfl!
      rw [e, Bool.and_true] at h1
      obtain ⟨xs, rfl, h3⟩ := has_list h1
      obtain ⟨l, rfl⟩ := hasItems_ints h3
      refine ⟨l, ?_, rfl⟩
      have e : PySem.Challenge.rw_op0073_01.pre = .and (.not (.lt (.lit (.int 63)) (.len (.arg 0)))) (.lit (.bool true)) := rfl
      rw [e] at h2
      have hv : WTm.value [] (.lt (.lit (.int 63)) (.len (.arg 0))) { args := [.list (l.map .int)] } = some (.bool (decide ((63 : Int) < ((l.map WData.int).length : Int)))) := by kernel_rfl!
      rw [notAnd hv] at h2
      simp at h2
      lia
theorem readsInts {h : Heap} {P : Params} : ∀ {l : List Int} {vs : List Value}, WellAll P h vs (l.map .int) → Rds (fun b => h.get? b) [] vs (intsD l) := by
  intro l
  induction l with
  | nil => intro vs x; cases x; exact .nil
  | cons i l ih =>
    intro vs x
    cases x with
    | cons y r => cases y with
      | int _ t => exact .cons (.int i t) (ih r)
theorem law195 (P : Params) : mgT P (Str.ofString "law") = some (.ref 195) := by
  have : (mgT P (Str.ofString "law") == some (.ref 195)) = true := by kernel_rfl!
  simpa using this
theorem walkL (hrun : ∀ xs : List Int, xs.length ≤ 100 → RunF tb25 [] 44 [.list (intsD xs)] (.bool true)) : WalkO qL looseL (fun _ _ => True) saysH PySem.Challenge.rw_op0073_01.row.toRowW dLaw [] fun f vs => PySem.call f vs := by
  intro w s0 s1 mg mb G Y a o pm cd doc dV kV ho hod hcr hD hmg hgens args vals as hpre hlay hrd hwell hlow
  have hK : ∀ b o, KK w b = some o → s1.heap.get? b = some o := Y
  obtain ⟨l, hl, rfl⟩ := pre_ints hpre
  have ha : a = 195 := by
    obtain ⟨o1, es1, ep1, q1, q2, _, q3⟩ := G.T.g
    obtain ⟨o2, es2, ep2, r1, r2, _, r3⟩ := (tops w).ng s1.heap hK
    have e0 : s1.heap.get? mainNs = some o1 := q1
    rw [e0] at r1; cases r1
    rw [q2] at r2; cases r2
    have := (q3 dLaw.name).symm.trans (r3 dLaw.name)
    rw [hmg] at this
    have e1 : mgT w.params dLaw.name = some (.ref 195) := law195 _
    rw [e1] at this
    cases this; rfl
  subst ha
  cases hwell with
  | @cons v vs _ _ hv hr =>
    cases hr
    cases hv with
    | @list b ws _ hb hws =>
      have rd : Rds (fun b => s1.heap.get? b) [] [.ref b] [.list (intsD l)] := .cons (.list (n := 0) hb (readsInts hws)) .nil
      have hp0 : D.plains [.list (intsD l)] = true := plains1 (d := .list (intsD l)) (ints_plain l)
      refine wpAny_mono (topCall w hp0 rfl (hrun l (by lia)) hK (A := callerA) ⟨by decide +kernel, by decide +kernel, rfl⟩ rd) (fun v s' q => ?_) fun _ _ x => x.elim
      obtain ⟨rfl, kp, hg, hos⟩ := q
      refine ⟨.inl ⟨_, .bool true, [], rfl, fun cls => rfl, .bool true, ?_, fun _ => ⟨List.Pairwise.nil, fun a h => by cases h⟩⟩, .of_keep kp, hos, .of_eq (hg.trans hgens)⟩
      kernel_rfl!
theorem holds_of (hPL : ∀ ws : List (List Nat), (∀ w ∈ ws, WordOk w) → ws.length = 3 → PL ws) : PySem.Challenge.rw_op0073_01.Holds := head (walkL (lawRun hPL))
end Mine
end
section
set_option autoImplicit false
open PySem
namespace Mine
/-! the order of writings is the order of ranks -/
noncomputable def hxd (d : Nat) : Nat := if d < 10 then 48 + d else 55 + d
noncomputable def inv (c : Nat) : Nat := if c = 95 then 32 else c
noncomputable def sg1 (o : Nat) : List Nat := (hdrSign o).cps.toList
noncomputable def sgOk (o : Nat) : Bool := match sg1 o with
  | [c] => c != 61 && inv c == o
  | [a, x, y] => a == 61 && x == hxd (o / 16) && y == hxd (o % 16)
  | _ => false
theorem ltAsym {a b : List Nat} (h : a < b) : ¬ b < a := fun h2 => List.lt_irrefl _ (List.lt_trans h h2)
theorem ltNe {a b : List Nat} (h : a < b) : ¬ a = b := fun e => by subst e; exact List.lt_irrefl _ h
theorem ltNe' {a b : List Nat} (h : a < b) : ¬ b = a := fun e => by subst e; exact List.lt_irrefl _ h
theorem sg_all : (List.range 256).all sgOk = true := by decide +kernel
theorem sg_is {o : Nat} (h : o < 256) : (∃ c, sg1 o = [c] ∧ c ≠ 61 ∧ o = inv c ∧ rankO o = c * 256 + o) ∨ (sg1 o = [61, hxd (o / 16), hxd (o % 16)] ∧ rankO o = 61 * 256 + o) := by
  have := List.all_eq_true.mp sg_all o (by simpa using h)
  unfold sgOk at this
  split at this
  · next c e =>
    simp only [Bool.and_eq_true, bne_iff_ne, ne_eq, beq_iff_eq] at this
    refine .inl ⟨c, e, this.1, this.2.symm, ?_⟩
    unfold rankO; rw [show (hdrSign o).cps.toList = [c] from e]; rfl
  · next a x y e =>
    simp only [Bool.and_eq_true, beq_iff_eq] at this
    obtain ⟨⟨rfl, rfl⟩, rfl⟩ := this
    refine .inr ⟨e, ?_⟩
    unfold rankO; rw [show (hdrSign o).cps.toList = [61, _, _] from e]; rfl
  · cases this
theorem rank_inj {a b : Nat} (ha : a < 256) (hb : b < 256) (h : rankO a = rankO b) : a = b := by
  unfold rankO at h; lia
theorem sign_lt {a b : Nat} (ha : a < 256) (hb : b < 256) (h : rankO a < rankO b) (x y : List Nat) : sg1 a ++ x < sg1 b ++ y := by
  rcases sg_is ha with ⟨c, e1, n1, v1, r1⟩ | ⟨e1, r1⟩ <;> rcases sg_is hb with ⟨d, e2, n2, v2, r2⟩ | ⟨e2, r2⟩ <;> rw [e1, e2] <;> rw [r1, r2] at h <;> simp only [List.cons_append, List.nil_append, natLt]
  · left
    rcases Nat.lt_trichotomy c d with q | q | q
    · exact q
    · subst q; rw [← v1] at v2; lia
    · lia
  · left; lia
  · left; lia
  · right
    refine ⟨trivial, ?_⟩
    unfold hxd
    by_cases h1 : a / 16 = b / 16
    · right
      refine ⟨by rw [h1], ?_⟩
      left
      split <;> split <;> lia
    · left
      split <;> split <;> lia
theorem app_lt (l x y : List Nat) (h : x < y) : l ++ x < l ++ y := by
  induction l with
  | nil => exact h
  | cons a l ih => exact (natLt ..).mpr (.inr ⟨rfl, ih⟩)
theorem body_cons (o : Nat) (l : List Nat) : body (o :: l) = sg1 o ++ body l := rfl
theorem body_lt (S : List Nat) : ∀ {a b : List Nat}, AllO a → AllO b → a.length = b.length → a.map rankO < b.map rankO → body a ++ S < body b ++ S
  | [], [], _, _, _, h => absurd h (List.lt_irrefl _)
  | [], _ :: _, _, _, hl, _ => by simp at hl
  | _ :: _, [], _, _, hl, _ => by simp at hl
  | o :: a, p :: b, ha, hb, hl, h => by
    have ho := ha o (by simp)
    have hp := hb p (by simp)
    rw [List.map_cons, List.map_cons, natLt] at h
    rw [body_cons, body_cons, List.append_assoc, List.append_assoc]
    rcases h with h | ⟨h1, h2⟩
    · exact sign_lt ho hp h _ _
    · rw [rank_inj ho hp h1]
      exact app_lt _ _ _ (body_lt S (fun x hxd => ha x (by simp [hxd])) (fun x hxd => hb x (by simp [hxd])) (by simpa using hl) h2)
theorem wr_lt (cs : Str) {a b : List Nat} (ha : AllO a) (hb : AllO b) (hl : a.length = b.length) (h : a.map rankO < b.map rankO) : (wr cs a).cps.toList < (wr cs b).cps.toList := by
  have e : ∀ l : List Nat, (wr cs l).cps.toList = ([61, 63] ++ (cs.cps.toList ++ [63, 113, 63])) ++ (body l ++ [63, 61]) := fun l => by simp [wr]
  rw [e, e]
  exact app_lt _ _ _ (body_lt _ ha hb hl h)
theorem ranks_inj : ∀ {a b : List Nat}, AllO a → AllO b → a.map rankO = b.map rankO → a = b
  | [], [], _, _, _ => rfl
  | [], _ :: _, _, _, h => by simp at h
  | _ :: _, [], _, _, h => by simp at h
  | o :: a, p :: b, ha, hb, h => by
    rw [List.map_cons, List.map_cons] at h
    obtain ⟨h1, h2⟩ := List.cons.inj h
    rw [rank_inj (ha o (by simp)) (hb p (by simp)) h1, ranks_inj (fun x hxd => ha x (by simp [hxd])) (fun x hxd => hb x (by simp [hxd])) h2]
theorem wr_iff (cs : Str) {a b : List Nat} (ha : AllO a) (hb : AllO b) (hl : a.length = b.length) : (wr cs a).cps.toList < (wr cs b).cps.toList ↔ a.map rankO < b.map rankO := by
  refine ⟨fun h => ?_, wr_lt cs ha hb hl⟩
  rcases listLt_tri (a.map rankO) (b.map rankO) with q | q | q
  · exact q
  · rw [ranks_inj ha hb q] at h; exact absurd h (List.lt_irrefl _)
  · exact absurd h (ltAsym (wr_lt cs hb ha hl.symm q))
theorem wr_eq (cs : Str) {a b : List Nat} (ha : AllO a) (hb : AllO b) (hl : a.length = b.length) (h : (wr cs a).cps.toList = (wr cs b).cps.toList) : a = b := by
  rcases listLt_tri (a.map rankO) (b.map rankO) with q | q | q
  · exact absurd h (ltNe (wr_lt cs ha hb hl q))
  · exact ranks_inj ha hb q
  · exact absurd h (ltNe' (wr_lt cs hb ha hl.symm q))
theorem writ_iff {a b : List Nat} (ha : AllO a) (hb : AllO b) (hl : a.length = b.length) : (writ a).cps.toList < (writ b).cps.toList ↔ a.map rankO < b.map rankO := by
  rw [← wr_iso, ← wr_iso]; exact wr_iff _ ha hb hl
theorem writ_eq {a b : List Nat} (ha : AllO a) (hb : AllO b) (hl : a.length = b.length) (h : (writ a).cps.toList = (writ b).cps.toList) : a = b := by
  rw [← wr_iso, ← wr_iso] at h; exact wr_eq _ ha hb hl h
/-! the first two parts of the law -/
theorem pl_told {ws : List (List Nat)} (hw : ∀ w ∈ ws, WordOk w) (i j : Nat) (x y : K3) (hxd : (dueOf ws)[i]? = some x) (hy : (dueOf ws)[j]? = some y) : sgn3 (writ x.2.1).cps.toList (writ y.2.1).cps.toList = sgn3 x.1 y.1 := by
  obtain ⟨a1, a2, a3, _⟩ := (dueOf_is hw).1 x (List.mem_of_getElem? hxd)
  obtain ⟨b1, b2, b3, _⟩ := (dueOf_is hw).1 y (List.mem_of_getElem? hy)
  unfold sgn3
  rw [a1, b1]
  simp only [writ_iff a2 b2 (a3.trans b3.symm), writ_iff b2 a2 (b3.trans a3.symm)]
theorem pl_laid {ws : List (List Nat)} (hw : ∀ w ∈ ws, WordOk w) : drain itLt (turnsOf ws).length (filled itLt ((turnsOf ws).map fun t => itOf (writ t.1) t.2) []) = (dueOf ws).map fun k => itOf (writ k.2.1) k.2.2 := by
  obtain ⟨f1, f2⟩ := filled_is itTot ((turnsOf ws).map fun t => itOf (writ t.1) t.2) (xs := []) (fun p i e hs hi => by simp at hi)
  rw [List.append_nil] at f2
  obtain ⟨d1, d2⟩ := drain_is itTot (turnsOf ws).length f1 (by rw [f2.length_eq, List.length_map])
  refine itTot.sorted_unique d2 ?_ ?_
  · rw [List.pairwise_map]
    refine List.Pairwise.imp_of_mem (fun {k l} hk hl h => ?_) (isort_sorted lt3_tot ((turnsOf ws).map fun t => (t.1.map rankO, t.1, t.2)))
    obtain ⟨a1, a2, a3, _⟩ := (dueOf_is hw).1 k hk
    obtain ⟨b1, b2, b3, _⟩ := (dueOf_is hw).1 l hl
    obtain ⟨e1, e2⟩ := itOf_s (writ_ok a2) k.2.2
    obtain ⟨e3, e4⟩ := itOf_s (writ_ok b2) l.2.2
    unfold Le at *
    simp only [itLt, lt3, Bool.or_eq_false_iff, Bool.and_eq_false_iff, decide_eq_false_iff_not] at *
    rw [e1, e2, e3, e4]
    obtain ⟨h1, h2⟩ := h
    rw [a1, b1] at h1 h2
    refine ⟨fun q => h1 ((writ_iff b2 a2 (b3.trans a3.symm)).mp q), ?_⟩
    by_cases q : (writ l.2.1).cps.toList = (writ k.2.1).cps.toList
    · have er := writ_eq b2 a2 (b3.trans a3.symm) q
      rw [er] at h2
      right
      have h3 := h2.resolve_left (fun h => h rfl)
      exact h3.2.resolve_left (fun h => h rfl)
    · exact .inl q
  · refine (d1.trans f2).trans ?_
    have := ((isort_perm (lt := lt3) ((turnsOf ws).map fun t => (t.1.map rankO, t.1, t.2))).map fun k => itOf (writ k.2.1) k.2.2).symm
    rw [List.map_map] at this
    exact this
end Mine
end
section
set_option autoImplicit false
open PySem
namespace Mine
/-! rows of twelve -/
noncomputable def Wd (w : List Nat) (i : Nat) : Nat := w.getD (i % w.length) 0
noncomputable def full (w : List Nat) (p : Nat) : List Nat := [Wd w p, Wd w (p + 1), Wd w (p + 2), Wd w (p + 3), Wd w (p + 4), Wd w (p + 5), Wd w (p + 6), Wd w (p + 7), Wd w (p + 8), Wd w (p + 9), Wd w (p + 10), Wd w (p + 11)]
noncomputable def rotL : List Nat → List Nat
  | [] => []
  | a :: l => l ++ [a]
noncomputable def rotn : Nat → List Nat → List Nat
  | 0, x => x
  | i + 1, x => rotn i (rotL x)
noncomputable def la (x : List Nat) : Nat := x.getD 11 0
theorem Wd_per (w : List Nat) (i : Nat) : Wd w (i + w.length) = Wd w i := by unfold Wd; rw [Nat.add_mod_right]
theorem len_cases {w : List Nat} (h : WordOk w) : w.length = 1 ∨ w.length = 2 ∨ w.length = 3 ∨ w.length = 4 := by
  have h1 := h.pos
  have h2 := h.len
  lia
theorem dvd12 {w : List Nat} (h : WordOk w) : w.length ∣ 12 := by
  rcases len_cases h with e | e | e | e <;> rw [e] <;> decide
theorem Wd_12 {w : List Nat} (h : WordOk w) (i : Nat) : Wd w (i + 12) = Wd w i := by
  obtain ⟨k, e⟩ := dvd12 h
  unfold Wd
  rw [e, Nat.add_mul_mod_self_left]
theorem Wd_oct {w : List Nat} (h : WordOk w) (i : Nat) : Wd w i < 256 := by
  have : i % w.length < w.length := Nat.mod_lt _ h.pos
  unfold Wd
  exact h.oct _ (by simp [this])
theorem full_map (w : List Nat) (p : Nat) : full w p = (List.range 12).map fun i => Wd w (p + i) := rfl
theorem full_oct {w : List Nat} (h : WordOk w) (p : Nat) : AllO (full w p) := by
  intro x hx
  rw [full_map] at hx
  obtain ⟨i, _, rfl⟩ := List.mem_map.mp hx
  exact Wd_oct h _
theorem full_len (w : List Nat) (p : Nat) : (full w p).length = 12 := rfl
theorem rotL_full {w : List Nat} (h : WordOk w) (p : Nat) : rotL (full w p) = full w (p + 1) := by
  have := Wd_12 h p
  simp only [full, rotL, List.cons_append, List.nil_append, Nat.add_assoc]
  rw [← this]
theorem rotn_full {w : List Nat} (h : WordOk w) (i p : Nat) : rotn i (full w p) = full w (p + i) := by
  induction i generalizing p with
  | zero => rfl
  | succ i ih =>
    show rotn i (rotL (full w p)) = _
    rw [rotL_full h, ih, Nat.add_assoc, Nat.add_comm 1 i]
theorem full_per (w : List Nat) (p : Nat) : full w (p + w.length) = full w p := by
  rw [full_map, full_map]
  exact List.map_congr_left fun i _ => by rw [Nat.add_right_comm]; exact Wd_per w _
theorem take6 (w : List Nat) (p : Nat) : (full w p).take 6 = readN w p := rfl
theorem ahead12 : ∀ n, n < 5 → ∀ p, p < n → (p + 11) % n = if p = 0 then n - 1 else p - 1 := by decide
theorem la_full {w : List Nat} (h : WordOk w) {p : Nat} (hp : p < w.length) : la (full w p) = aheadN w p := by
  show Wd w (p + 11) = aheadN w p
  unfold Wd aheadN
  rw [ahead12 _ (Nat.lt_succ_of_le h.len) p hp]
theorem fw34 {f g : Nat → Nat} (hf : ∀ i, f (i + 3) = f i) (hg : ∀ i, g (i + 4) = g i) (h : ∀ i, i < 6 → f i = g i) : f 6 = g 6 :=
  (hf 3).trans ((hf 0).trans ((h 0 (by decide)).trans ((hg 0).symm.trans ((h 4 (by decide)).symm.trans ((hf 1).trans ((h 1 (by decide)).trans ((hg 1).symm.trans ((h 5 (by decide)).symm.trans ((hf 2).trans ((h 2 (by decide)).trans (hg 2).symm))))))))))
theorem fw_aux {m n : Nat} {f g : Nat → Nat} (hf : ∀ i, f (i + m) = f i) (hg : ∀ i, g (i + n) = g i) (hm : 1 ≤ m ∧ m ≤ 4) (hn : 1 ≤ n ∧ n ≤ 4) (h : ∀ i, i < 6 → f i = g i) (i : Nat) : f i = g i := by
  induction i using Nat.strongRecOn with
  | _ i ih =>
    by_cases h6 : i < 6
    · exact h i h6
    · by_cases hmn : m + n ≤ i
      · obtain ⟨j, rfl⟩ := Nat.exists_eq_add_of_le' hmn
        have e1 : f (j + (m + n)) = f (j + n) := by rw [Nat.add_comm m n, ← Nat.add_assoc]; exact hf _
        have e2 : g (j + (m + n)) = g (j + m) := by rw [← Nat.add_assoc]; exact hg _
        rw [e1, e2, ih (j + n) (by lia), hg, ← ih (j + m) (by lia), hf]
        exact (ih j (by lia)).symm
      · by_cases e : m = n
        · subst e
          obtain ⟨j, rfl⟩ : ∃ j, i = j + m := ⟨i - m, by lia⟩
          rw [hf, hg]; exact ih j (by lia)
        · have : i = 6 := by lia
          subst this
          have : (m = 3 ∧ n = 4) ∨ (m = 4 ∧ n = 3) := by lia
          obtain ⟨rfl, rfl⟩ | ⟨rfl, rfl⟩ := this
          · exact fw34 hf hg h
          · exact (fw34 hg hf fun i hi => (h i hi).symm).symm
theorem fw {w v : List Nat} (hw : WordOk w) (hv : WordOk v) {p q : Nat} (h : (full w p).take 6 = (full v q).take 6) : full w p = full v q := by
  have h' : (List.range 6).map (fun i => Wd w (p + i)) = (List.range 6).map (fun i => Wd v (q + i)) := h
  rw [full_map, full_map]
  exact List.map_congr_left fun i _ => fw_aux (f := fun i => Wd w (p + i)) (g := fun i => Wd v (q + i)) (m := w.length) (n := v.length) (fun i => by rw [← Nat.add_assoc]; exact Wd_per w _) (fun i => by rw [← Nat.add_assoc]; exact Wd_per v _) ⟨hw.pos, hw.len⟩ ⟨hv.pos, hv.len⟩ (fun i hi => List.map_inj_left.mp h' i (List.mem_range.mpr hi)) i
/-! all rows -/
noncomputable def rowsOf (ws : List (List Nat)) : List (List Nat) := ws.flatMap fun w => (List.range w.length).map (full w)
theorem rowsOf_mem {ws : List (List Nat)} {x : List Nat} (h : x ∈ rowsOf ws) : ∃ w ∈ ws, ∃ p, p < w.length ∧ x = full w p := by
  simp only [rowsOf, List.mem_flatMap, List.mem_map, List.mem_range] at h
  obtain ⟨w, hw, p, hp, e⟩ := h
  exact ⟨w, hw, p, hp, e.symm⟩
theorem turns_rows {ws : List (List Nat)} (hw : ∀ w ∈ ws, WordOk w) : turnsOf ws = (rowsOf ws).map fun x => (x.take 6, la x) := by
  induction ws with
  | nil => rfl
  | cons w ws ih =>
    have h1 : turnsOf (w :: ws) = ((List.range w.length).map fun p => (readN w p, aheadN w p)) ++ turnsOf ws := rfl
    have h2 : rowsOf (w :: ws) = (List.range w.length).map (full w) ++ rowsOf ws := rfl
    rw [h1, h2, List.map_append, ih fun v hv => hw v (by simp [hv]), List.map_map]
    congr 1
    refine List.map_congr_left fun p hp => ?_
    show _ = ((full w p).take 6, la (full w p))
    rw [la_full (hw w (by simp)) (by simpa using hp)]
    rfl
theorem rot_range {α : Type} (f : Nat → α) (k : Nat) (h : f (k + 1) = f 0) : ((List.range (k + 1)).map fun p => f (p + 1)).Perm ((List.range (k + 1)).map f) := by
  have e1 : ((List.range (k + 1)).map fun p => f (p + 1)) = (List.range k).map (fun p => f (p + 1)) ++ [f 0] := by rw [List.range_succ]; simp [h]
  have e2 : (List.range (k + 1)).map f = f 0 :: (List.range k).map (fun p => f (p + 1)) := by rw [List.range_succ_eq_map]; simp [Function.comp_def]
  rw [e1, e2]
  exact List.perm_append_singleton _ _
theorem rows_rot {ws : List (List Nat)} (hw : ∀ w ∈ ws, WordOk w) : ((rowsOf ws).map rotL).Perm (rowsOf ws) := by
  induction ws with
  | nil => exact List.Perm.refl _
  | cons w ws ih =>
    have h2 : rowsOf (w :: ws) = (List.range w.length).map (full w) ++ rowsOf ws := rfl
    rw [h2, List.map_append]
    refine List.Perm.append ?_ (ih fun v hv => hw v (by simp [hv]))
    have W := hw w (by simp)
    obtain ⟨k, hk⟩ : ∃ k, w.length = k + 1 := ⟨w.length - 1, by have := W.pos; lia⟩
    rw [List.map_map]
    have e : (List.range w.length).map (rotL ∘ full w) = (List.range w.length).map fun p => full w (p + 1) := List.map_congr_left fun p _ => rotL_full W p
    rw [e, hk]
    refine rot_range (full w) k ?_
    have := full_per w 0
    rw [hk, Nat.zero_add] at this
    exact this
/-! the order of rows -/
noncomputable def olt (x y : List Nat) : Bool := lt2 (rk x) (rk y)
theorem oTot : Tot olt where
  irr a := lt2_tot.irr _
  tr a b c := lt2_tot.tr _ _ _
  tot a b h1 h2 := (Prod.mk.inj (lt2_tot.tot _ _ h1 h2)).2
theorem olt_iff {x y : List Nat} (hx : AllO x) (hy : AllO y) : olt x y = true ↔ x.map rankO < y.map rankO := by
  unfold olt lt2 rk
  simp only [Bool.or_eq_true, Bool.and_eq_true, decide_eq_true_eq]
  refine ⟨fun h => ?_, .inl⟩
  rcases h with h | ⟨h1, h2⟩
  · exact h
  · rw [ranks_inj hx hy h1] at h2; exact absurd h2 (List.lt_irrefl _)
noncomputable def sorted12 (ws : List (List Nat)) : List (List Nat) := isort olt (rowsOf ws)
theorem s12_perm (ws : List (List Nat)) : (sorted12 ws).Perm (rowsOf ws) := isort_perm _
theorem s12_sorted (ws : List (List Nat)) : (sorted12 ws).Pairwise (Le olt) := isort_sorted oTot _
theorem s12_mem {ws : List (List Nat)} {x : List Nat} (h : x ∈ sorted12 ws) : ∃ w ∈ ws, ∃ p, p < w.length ∧ x = full w p := rowsOf_mem ((s12_perm ws).subset h)
theorem s12_oct {ws : List (List Nat)} (hw : ∀ w ∈ ws, WordOk w) {x : List Nat} (h : x ∈ sorted12 ws) : AllO x ∧ x.length = 12 := by
  obtain ⟨w, hw', p, _, rfl⟩ := s12_mem h
  exact ⟨full_oct (hw w hw') p, rfl⟩
theorem take_lt {x y : List Nat} (k : Nat) (h : x.take k < y.take k) : x < y := by
  induction k generalizing x y with
  | zero => simp at h
  | succ k ih =>
    cases x with
    | nil => cases y with
      | nil => simp at h
      | cons b y => exact List.nil_lt_cons b y
    | cons a x => cases y with
      | nil => simp at h
      | cons b y =>
        rw [List.take_succ_cons, List.take_succ_cons, natLt] at h
        rw [natLt]
        rcases h with h | ⟨h1, h2⟩
        · exact .inl h
        · exact .inr ⟨h1, ih h2⟩
theorem AllO.take {x : List Nat} (h : AllO x) (k : Nat) : AllO (x.take k) := fun o ho => h o (List.mem_of_mem_take ho)
/-- rows that begin alike are alike; so the order of the beginnings is the order of rows -/
theorem begin_le {ws : List (List Nat)} (hw : ∀ w ∈ ws, WordOk w) {x y : List Nat} (hx : x ∈ sorted12 ws) (hy : y ∈ sorted12 ws) (h : Le olt x y) : (x.take 6).map rankO < (y.take 6).map rankO ∨ x = y := by
  obtain ⟨w, hw', p, _, rfl⟩ := s12_mem hx
  obtain ⟨v, hv', q, _, rfl⟩ := s12_mem hy
  have W := hw w hw'
  have V := hw v hv'
  rcases listLt_tri (((full w p).take 6).map rankO) (((full v q).take 6).map rankO) with c | c | c
  · exact .inl c
  · exact .inr (fw W V (ranks_inj ((full_oct W p).take 6) ((full_oct V q).take 6) c))
  · exfalso
    have : (full v q).map rankO < (full w p).map rankO := take_lt 6 (by rw [← List.map_take, ← List.map_take]; exact c)
    have := (olt_iff (full_oct V q) (full_oct W p)).mpr this
    unfold Le at h
    rw [h] at this; cases this
noncomputable def kap (x : List Nat) : K3 := ((x.take 6).map rankO, x.take 6, la x)
theorem le3_of {a b : K3} (h : a.1 < b.1) : Le lt3 a b := by
  obtain ⟨a1, a2⟩ := a
  obtain ⟨b1, b2⟩ := b
  dsimp only at h
  unfold Le lt3
  have n1 := ltAsym h
  have n2 := ltNe' h
  simp only [decide_eq_false n1, decide_eq_false n2, Bool.false_and, Bool.or_self]
theorem le2_of {a b : K2} (h : a.1 < b.1) : Le lt2 a b := by
  obtain ⟨a1, a2⟩ := a
  obtain ⟨b1, b2⟩ := b
  dsimp only at h
  unfold Le lt2
  have n1 := ltAsym h
  have n2 := ltNe' h
  simp only [decide_eq_false n1, decide_eq_false n2, Bool.false_and, Bool.or_self]
theorem due_rows {ws : List (List Nat)} (hw : ∀ w ∈ ws, WordOk w) : dueOf ws = (sorted12 ws).map kap := by
  refine lt3_tot.sorted_unique (isort_sorted lt3_tot _) ?_ ?_
  · rw [List.pairwise_map]
    refine List.Pairwise.imp_of_mem (fun {x y} hx hy h => ?_) (s12_sorted ws)
    rcases begin_le hw hx hy h with c | rfl
    · exact le3_of (a := kap x) (b := kap y) c
    · exact lt3_tot.le_refl _
  · refine (isort_perm _).trans ?_
    rw [turns_rows hw, List.map_map]
    exact ((s12_perm ws).map kap).symm
theorem row_rows {ws : List (List Nat)} (hw : ∀ w ∈ ws, WordOk w) : rowOf ws = (sorted12 ws).map la := by
  unfold rowOf
  rw [due_rows hw, List.map_map]
  rfl
end Mine
end
section
set_option autoImplicit false
open PySem
namespace Mine
/-! the way back: rings -/
noncomputable def rho (row : List Nat) (j k : Nat) : Prop := rankO (row.getD j 0) < rankO (row.getD k 0) ∨ (row.getD j 0 = row.getD k 0 ∧ j ≤ k)
theorem single_iff (a b : Nat) : ([a].map rankO < [b].map rankO) ↔ rankO a < rankO b := by
  simp only [List.map_cons, List.map_nil, natLt]
  exact ⟨fun h => h.elim id fun h => absurd h.2 (List.lt_irrefl _), .inl⟩
theorem places_rho {row : List Nat} (h : AllO row) : (placesOf row).Pairwise (rho row) := by
  have hl : (itsOf row).length = row.length := by simp [itsOf]
  have H := (heapd_is itTot (row.length / 2) (V := itsOf row) (hl ▸ Hp.half) (by lia))
  have D := drain_is itTot row.length H.1 (by rw [H.2.length_eq, hl])
  unfold placesOf
  rw [List.pairwise_map]
  refine List.Pairwise.imp_of_mem (fun {a b} ha hb hab => ?_) D.2
  have key : ∀ a ∈ drain itLt row.length (heapd itLt (row.length / 2) (itsOf row)), a.n < row.length ∧ a.s = wr xS [row.getD a.n 0] := fun a ha => by
    have := (D.1.trans H.2).subset ha
    obtain ⟨p, hp, rfl⟩ := List.mem_map.mp this
    have hp' : p < row.length := by simpa using hp
    obtain ⟨e1, e2⟩ := itOf_s (wr_ok (cs := xS) (by kernel_rfl!) (l := [row.getD p 0]) (by intro x hx; simp only [List.mem_singleton] at hx; subst hx; exact h _ (by simp [hp']))) p
    rw [e1, e2]
    exact ⟨hp', rfl⟩
  obtain ⟨a1, a2⟩ := key a ha
  obtain ⟨b1, b2⟩ := key b hb
  have oa : AllO [row.getD a.n 0] := by intro x hx; simp only [List.mem_singleton] at hx; subst hx; exact h _ (by simp [a1])
  have ob : AllO [row.getD b.n 0] := by intro x hx; simp only [List.mem_singleton] at hx; subst hx; exact h _ (by simp [b1])
  unfold Le at hab
  simp only [itLt, Bool.or_eq_false_iff, Bool.and_eq_false_iff, decide_eq_false_iff_not] at hab
  rw [a2, b2] at hab
  rw [wr_iff xS ob oa rfl, single_iff] at hab
  obtain ⟨p1, p2⟩ := hab
  unfold rho
  rcases Nat.lt_trichotomy (rankO (row.getD a.n 0)) (rankO (row.getD b.n 0)) with q | q | q
  · exact .inl q
  · have e := rank_inj (oa _ (by simp)) (ob _ (by simp)) q
    refine .inr ⟨e, ?_⟩
    rw [e] at p2
    have := p2.resolve_left (fun h => h rfl)
    lia
  · exact absurd q p1
noncomputable def rotR (x : List Nat) : List Nat := la x :: x.take 11
theorem rotRL {x : List Nat} (h : x.length = 12) : rotR (rotL x) = x ∧ rotL (rotR x) = x := by
  refine ⟨?_, ?_⟩
  · cases x with
    | nil => cases h
    | cons a l =>
      have hl : l.length = 11 := Nat.succ.inj h
      show la (l ++ [a]) :: (l ++ [a]).take 11 = a :: l
      rw [← hl, List.take_left']
      · refine congrArg (· :: l) ?_
        unfold la
        rw [List.getD_eq_getElem?_getD, List.getElem?_append_right (Nat.le_of_eq hl), hl]; rfl
      · rfl
  · show x.take 11 ++ [la x] = x
    have e : x.drop 11 = [la x] := by
      rw [List.drop_eq_getElem_cons (by lia), List.drop_of_length_le (by lia)]
      unfold la
      rw [List.getD_eq_getElem?_getD, List.getElem?_eq_getElem (by lia)]; rfl
    rw [← e, List.take_append_drop]
theorem rotL_rotn (i : Nat) (x : List Nat) : rotL (rotn i x) = rotn i (rotL x) := by
  induction i generalizing x with
  | zero => rfl
  | succ i ih => exact ih (rotL x)
theorem selfmap {P : Nat → Prop} {f : Nat → Nat} {n : Nat} (hP : ∀ j, P j → j < n) (hf : ∀ j, P j → P (f j)) (hm : ∀ j k, P j → P k → j < k → f j < f k) (k : Nat) (hk : P k) : f k = k := by
  have up : ∀ (d k : Nat), n - k ≤ d → P k → ¬ k < f k := by
    intro d
    induction d with
    | zero => intro k h1 h2; have := hP k h2; lia
    | succ d ih =>
      intro k h1 h2 h3
      have := hP k h2
      exact ih (f k) (by lia) (hf k h2) (hm k (f k) h2 (hf k h2) h3)
  have down : ∀ (d k : Nat), k ≤ d → P k → ¬ f k < k := by
    intro d
    induction d with
    | zero => intro k h1 h2 h3; lia
    | succ d ih =>
      intro k h1 h2 h3
      exact ih (f k) (by lia) (hf k h2) (hm (f k) k (hf k h2) h2 h3)
  have h1 := up _ k (Nat.le_refl _) hk
  have h2 := down _ k (Nat.le_refl _) hk
  lia
noncomputable def xk (ws : List (List Nat)) (k : Nat) : List Nat := (sorted12 ws).getD k []
noncomputable def nn (ws : List (List Nat)) : Nat := (sorted12 ws).length
noncomputable def nx (ws : List (List Nat)) (k : Nat) : Nat := (placesOf (rowOf ws)).getD k 0
noncomputable def itr (ws : List (List Nat)) : Nat → Nat → Nat
  | 0, k => k
  | i + 1, k => nx ws (itr ws i k)
section
variable {ws : List (List Nat)} (hw : ∀ w ∈ ws, WordOk w)
include hw
theorem xk_mem {k : Nat} (hk : k < nn ws) : xk ws k ∈ sorted12 ws := by
  unfold xk nn at *
  simp [hk]
theorem xk_is {k : Nat} (hk : k < nn ws) : ∃ w p, WordOk w ∧ xk ws k = full w p := by
  obtain ⟨w, hw', p, _, e⟩ := s12_mem (xk_mem hw hk)
  exact ⟨w, p, hw w hw', e⟩
theorem row_oct : AllO (rowOf ws) := by
  rw [row_rows hw]
  intro o ho
  obtain ⟨x, hx, rfl⟩ := List.mem_map.mp ho
  obtain ⟨w, hw', p, _, rfl⟩ := s12_mem hx
  exact Wd_oct (hw w hw') _
theorem row_len : (rowOf ws).length = nn ws := by rw [row_rows hw, List.length_map]; rfl
theorem row_get {k : Nat} (hk : k < nn ws) : (rowOf ws).getD k 0 = la (xk ws k) := by
  rw [row_rows hw]
  unfold xk nn at *
  simp [hk]
theorem pl_len : (placesOf (rowOf ws)).length = nn ws := by rw [(placesOf_ok (row_oct hw)).1, row_len hw]
theorem nx_lt {k : Nat} (hk : k < nn ws) : nx ws k < nn ws := by
  have := (placesOf_ok (row_oct hw)).2 (nx ws k) (by
    have : k < (placesOf (rowOf ws)).length := by rw [pl_len hw]; exact hk
    unfold nx
    simp [this])
  rwa [row_len hw] at this
theorem itr_lt (i : Nat) {k : Nat} (hk : k < nn ws) : itr ws i k < nn ws := by
  induction i with
  | zero => exact hk
  | succ i ih => exact nx_lt hw ih
theorem xk_le {j k : Nat} (hjk : j ≤ k) (hk : k < nn ws) : Le olt (xk ws j) (xk ws k) := by
  rcases Nat.lt_or_eq_of_le hjk with h | rfl
  · have := List.pairwise_iff_getElem.mp (s12_sorted ws) j k (by unfold nn at hk; lia) hk h
    unfold xk nn at *
    have hj : j < (sorted12 ws).length := by lia
    simpa [hj, hk] using this
  · exact oTot.le_refl _
/-- the rows are their own rotations, set in order -/
theorem rot_rows : sorted12 ws = (placesOf (rowOf ws)).map fun j => rotR (xk ws j) := by
  refine oTot.sorted_unique (s12_sorted ws) ?_ ?_
  · rw [List.pairwise_map]
    refine List.Pairwise.imp_of_mem (fun {a b} ha hb h => ?_) (places_rho (row_oct hw))
    have a1 : a < nn ws := by have := (placesOf_ok (row_oct hw)).2 a ha; rwa [row_len hw] at this
    have b1 : b < nn ws := by have := (placesOf_ok (row_oct hw)).2 b hb; rwa [row_len hw] at this
    obtain ⟨oa, la12⟩ := s12_oct hw (xk_mem hw a1)
    obtain ⟨ob, lb12⟩ := s12_oct hw (xk_mem hw b1)
    have ra : AllO (rotR (xk ws a)) := by
      obtain ⟨w, p, W, e⟩ := xk_is hw a1
      rw [e]
      intro o ho
      rcases List.mem_cons.mp ho with rfl | ho
      · exact Wd_oct W _
      · exact full_oct W p o (List.mem_of_mem_take ho)
    have rb : AllO (rotR (xk ws b)) := by
      obtain ⟨w, p, W, e⟩ := xk_is hw b1
      rw [e]
      intro o ho
      rcases List.mem_cons.mp ho with rfl | ho
      · exact Wd_oct W _
      · exact full_oct W p o (List.mem_of_mem_take ho)
    unfold rho at h
    rw [row_get hw a1, row_get hw b1] at h
    rcases h with h | ⟨h1, h2⟩
    · refine oTot.lt_le ((olt_iff ra rb).mpr ?_)
      exact (natLt ..).mpr (.inl h)
    · have hle := xk_le hw h2 b1
      unfold Le
      cases hc : olt (rotR (xk ws b)) (rotR (xk ws a)) with
      | false => rfl
      | true =>
        exfalso
        have h3 := (olt_iff rb ra).mp hc
        unfold rotR at h3
        rw [List.map_cons, List.map_cons, natLt, h1] at h3
        have h4 := (h3.resolve_left (Nat.lt_irrefl _)).2
        rw [List.map_take, List.map_take] at h4
        have := (olt_iff ob oa).mpr (take_lt 11 h4)
        unfold Le at hle
        rw [hle] at this; cases this
  · have e1 : (List.range (nn ws)).map (fun j => rotR (xk ws j)) = (sorted12 ws).map rotR := by
      refine List.ext_getElem (by simp [nn]) fun i h1 h2 => ?_
      have h3 : i < (sorted12 ws).length := by simpa using h2
      simp [xk, h3]
    have p1 : ((placesOf (rowOf ws)).map fun j => rotR (xk ws j)).Perm ((sorted12 ws).map rotR) := by
      rw [← e1, ← row_len hw]
      exact (placesOf_perm (row_oct hw)).map _
    have p2 : ((sorted12 ws).map rotR).Perm (rowsOf ws) := by
      refine ((s12_perm ws).map rotR).trans ?_
      refine ((rows_rot hw).symm.map rotR).trans ?_
      rw [List.map_map]
      have : (rowsOf ws).map (rotR ∘ rotL) = rowsOf ws := by
        refine (List.map_congr_left fun x hx => ?_).trans (List.map_id _)
        obtain ⟨w, _, p, _, rfl⟩ := rowsOf_mem hx
        exact (rotRL (full_len w p)).1
      rw [this]
    exact (s12_perm ws).trans (p1.trans p2).symm
theorem xk_nx {k : Nat} (hk : k < nn ws) : xk ws (nx ws k) = rotL (xk ws k) := by
  have h1 : xk ws k = rotR (xk ws (nx ws k)) := by
    have hp : k < (placesOf (rowOf ws)).length := by rw [pl_len hw]; exact hk
    conv => lhs; unfold xk; rw [rot_rows hw]
    unfold nx
    simp [hp]
  have h2 := (s12_oct hw (xk_mem hw (nx_lt hw hk))).2
  rw [h1, (rotRL h2).2]
theorem xk_itr (i : Nat) {k : Nat} (hk : k < nn ws) : xk ws (itr ws i k) = rotn i (xk ws k) := by
  induction i with
  | zero => rfl
  | succ i ih =>
    show xk ws (nx ws (itr ws i k)) = rotn i (rotL (xk ws k))
    rw [xk_nx hw (itr_lt hw i hk), ih, rotL_rotn]
theorem nx_mono {j k : Nat} (hjk : j < k) (hk : k < nn ws) (h : xk ws j = xk ws k) : nx ws j < nx ws k := by
  have lj : j < (placesOf (rowOf ws)).length := by rw [pl_len hw]; lia
  have lk : k < (placesOf (rowOf ws)).length := by rw [pl_len hw]; lia
  have e1 : (placesOf (rowOf ws))[j] = nx ws j := by simp [nx, lj]
  have e2 : (placesOf (rowOf ws))[k] = nx ws k := by simp [nx, lk]
  have r := List.pairwise_iff_getElem.mp (places_rho (row_oct hw)) j k lj lk hjk
  have d : (placesOf (rowOf ws)).Nodup := (placesOf_perm (row_oct hw)).symm.nodup List.nodup_range
  have ne := List.pairwise_iff_getElem.mp d j k lj lk hjk
  rw [e1, e2] at r ne
  unfold rho at r
  rw [row_get hw (nx_lt hw (show j < nn ws by lia)), row_get hw (nx_lt hw hk), xk_nx hw (show j < nn ws by lia), xk_nx hw hk, h] at r
  have := (r.resolve_left (Nat.lt_irrefl _)).2
  lia
theorem itr_mono (i : Nat) {j k : Nat} (hjk : j < k) (hk : k < nn ws) (h : xk ws j = xk ws k) : itr ws i j < itr ws i k := by
  induction i with
  | zero => exact hjk
  | succ i ih => exact nx_mono hw ih (itr_lt hw i hk) (by rw [xk_itr hw i (by lia), xk_itr hw i hk, h])
theorem itr_back {t k : Nat} (hk : k < nn ws) (ht : rotn t (xk ws k) = xk ws k) : itr ws t k = k := by
  refine selfmap (P := fun j => j < nn ws ∧ xk ws j = xk ws k) (f := itr ws t) (n := nn ws) (fun j h => h.1) (fun j h => ⟨itr_lt hw t h.1, ?_⟩) (fun j l h1 h2 h3 => itr_mono hw t h3 h2.1 (h1.2.trans h2.2.symm)) k ⟨hk, rfl⟩
  rw [xk_itr hw t h.1, h.2, ht]
end
end Mine
end
section
set_option autoImplicit false
open PySem
namespace Mine
noncomputable def per (x : List Nat) : Nat := if rotn 1 x = x then 1 else if rotn 2 x = x then 2 else if rotn 3 x = x then 3 else 4
noncomputable def isL (x : List Nat) : Bool := (List.range 4).all fun i => !olt (rotn i x) x
noncomputable def rt (x : List Nat) : List Nat := x.take (per x)
theorem per_is {w : List Nat} (W : WordOk w) (p : Nat) : rotn (per (full w p)) (full w p) = full w p ∧ 1 ≤ per (full w p) ∧ per (full w p) ≤ 4 ∧ ∀ i, 1 ≤ i → i < per (full w p) → rotn i (full w p) ≠ full w p := by
  have hm : rotn w.length (full w p) = full w p := by rw [rotn_full W, full_per]
  have h1 := W.pos
  have h2 := W.len
  unfold per
  split
  · next h => exact ⟨h, by lia, by lia, fun i _ _ => by lia⟩
  · next n1 =>
    split
    · next h => exact ⟨h, by lia, by lia, fun i a b => by
        have : i = 1 := by lia
        rw [this]; exact n1⟩
    · next n2 =>
      split
      · next h => exact ⟨h, by lia, by lia, fun i a b => by
          have : i = 1 ∨ i = 2 := by lia
          rcases this with rfl | rfl
          · exact n1
          · exact n2⟩
      · next n3 =>
        have : w.length = 4 := by
          have : w.length = 1 ∨ w.length = 2 ∨ w.length = 3 ∨ w.length = 4 := by lia
          rcases this with e | e | e | e
          · rw [e] at hm; exact absurd hm n1
          · rw [e] at hm; exact absurd hm n2
          · rw [e] at hm; exact absurd hm n3
          · exact e
        rw [this] at hm
        exact ⟨hm, by lia, by lia, fun i a b => by
          have : i = 1 ∨ i = 2 ∨ i = 3 := by lia
          rcases this with rfl | rfl | rfl
          · exact n1
          · exact n2
          · exact n3⟩
section
variable {ws : List (List Nat)} (hw : ∀ w ∈ ws, WordOk w)
include hw
theorem itr_add (i j k : Nat) : itr ws (i + j) k = itr ws i (itr ws j k) := by
  induction i with
  | zero => rw [Nat.zero_add]; rfl
  | succ i ih => rw [Nat.succ_add]; show nx ws (itr ws (i + j) k) = nx ws (itr ws i (itr ws j k)); rw [ih]
theorem itr_mul {t k : Nat} (h : itr ws t k = k) (q : Nat) : itr ws (t * q) k = k := by
  induction q with
  | zero => rfl
  | succ q ih => rw [Nat.mul_succ, itr_add hw, h, ih]
theorem itr_mod {t k : Nat} (h : itr ws t k = k) (i : Nat) : itr ws i k = itr ws (i % t) k := by
  have := itr_add hw (i % t) (t * (i / t)) k
  rw [itr_mul hw h, Nat.mod_add_div] at this
  exact this
theorem per_k {k : Nat} (hk : k < nn ws) : itr ws (per (xk ws k)) k = k ∧ 1 ≤ per (xk ws k) ∧ per (xk ws k) ≤ 4 ∧ ∀ i, 1 ≤ i → i < per (xk ws k) → rotn i (xk ws k) ≠ xk ws k := by
  obtain ⟨w, p, W, e⟩ := xk_is hw hk
  obtain ⟨a, b⟩ := per_is W p
  rw [← e] at a b
  exact ⟨itr_back hw hk a, b⟩
theorem itr_cyc {k : Nat} (hk : k < nn ws) (i : Nat) : ∃ j, itr ws j (itr ws i k) = k := by
  obtain ⟨h1, h2, _⟩ := per_k hw hk
  refine ⟨per (xk ws k) * i - i, ?_⟩
  rw [← itr_add hw, Nat.sub_add_cancel (Nat.le_mul_of_pos_left i h2)]
  exact itr_mul hw h1 i
theorem itr_apart {k : Nat} (hk : k < nn ws) {i j : Nat} (hij : i < j) (hj : j < per (xk ws k)) : itr ws i k ≠ itr ws j k := by
  intro h
  obtain ⟨w, p, W, e⟩ := xk_is hw hk
  have h1 := congrArg (xk ws) h
  rw [xk_itr hw i hk, xk_itr hw j hk, e, rotn_full W, rotn_full W] at h1
  have h2 := congrArg (rotn (12 - i)) h1
  obtain ⟨_, _, p4, pn⟩ := per_k hw hk
  rw [rotn_full W, rotn_full W] at h2
  have f12 : ∀ q, full w (q + 12) = full w q := fun q => by
    have e : ∀ i, Wd w (q + 12 + i) = Wd w (q + i) := fun i => by rw [Nat.add_right_comm]; exact Wd_12 W _
    simp only [full, e, Wd_12 W]
  rw [show p + i + (12 - i) = p + 12 by lia, show p + j + (12 - i) = p + (j - i) + 12 by lia, f12, f12] at h2
  refine pn (j - i) (by lia) (by lia) ?_
  rw [e, rotn_full W]
  exact h2.symm
theorem ring_step {k : Nat} (hk : k < nn ws) (i : Nat) (hi : i < 12) : (rowOf ws).getD (nx ws (itr ws i k)) 0 = (xk ws k).getD i 0 := by
  have hi' := itr_lt hw i hk
  rw [row_get hw (nx_lt hw hi'), xk_nx hw hi', xk_itr hw i hk]
  obtain ⟨w, p, W, e⟩ := xk_is hw hk
  rw [e, rotn_full W, rotL_full W]
  have : la (full w (p + i + 1)) = Wd w (p + i) := by
    show Wd w (p + i + 1 + 11) = _
    rw [show p + i + 1 + 11 = p + i + 12 by lia]
    exact Wd_12 W _
  rw [this]
  have : i = 0 ∨ i = 1 ∨ i = 2 ∨ i = 3 ∨ i = 4 ∨ i = 5 ∨ i = 6 ∨ i = 7 ∨ i = 8 ∨ i = 9 ∨ i = 10 ∨ i = 11 := by lia
  rcases this with rfl | rfl | rfl | rfl | rfl | rfl | rfl | rfl | rfl | rfl | rfl | rfl <;> rfl
theorem ringW_cyc {s : Nat} (hs : s < nn ws) {P : List Nat} (hP : PassOk (nn ws) P) (hd : ∀ i, itr ws i s ∉ P) :
    ringW (placesOf (rowOf ws)) (rowOf ws) (nn ws + 1 - P.length) P s [] = (P ++ (List.range (per (xk ws s))).map fun j => itr ws j s, (xk ws s).take (per (xk ws s))) ∧ PassOk (nn ws) (P ++ (List.range (per (xk ws s))).map fun j => itr ws j s) := by
  obtain ⟨hb, h1, h4, _⟩ := per_k hw hs
  have l12 := (s12_oct hw (xk_mem hw hs)).2
  have main : ∀ i, i ≤ per (xk ws s) → PassOk (nn ws) (P ++ (List.range i).map fun j => itr ws j s) ∧
      ringW (placesOf (rowOf ws)) (rowOf ws) (nn ws + 1 - P.length) P s [] = ringW (placesOf (rowOf ws)) (rowOf ws) (nn ws + 1 - (P ++ (List.range i).map fun j => itr ws j s).length) (P ++ (List.range i).map fun j => itr ws j s) (itr ws i s) ((xk ws s).take i) := by
    intro i
    induction i with
    | zero => intro _; simpa [itr] using hP
    | succ i ih =>
      intro hi
      obtain ⟨p1, p2⟩ := ih (by lia)
      have hin := itr_lt hw i hs
      have hc : (P ++ (List.range i).map fun j => itr ws j s).contains (itr ws i s) = false := by
        simp only [List.contains_eq_mem, decide_eq_false_iff_not, List.mem_append, List.mem_map, List.mem_range, not_or, not_exists, not_and]
        exact ⟨hd i, fun j hj e => itr_apart hw hs hj (by lia) e⟩
      have hP2 := p1.more hin hc
      have e1 : (P ++ (List.range i).map fun j => itr ws j s) ++ [itr ws i s] = P ++ (List.range (i + 1)).map fun j => itr ws j s := by
        rw [List.range_succ]; simp
      rw [e1] at hP2
      refine ⟨hP2, ?_⟩
      rw [p2, ringW_step _ _ p1 hin, hc, e1]
      have e2 : (placesOf (rowOf ws)).getD (itr ws i s) 0 = itr ws (i + 1) s := rfl
      have e3 := ring_step hw hs i (by lia)
      have e4 : (xk ws s).take i ++ [(xk ws s).getD i 0] = (xk ws s).take (i + 1) := by
        rw [List.take_add_one]
        have : i < (xk ws s).length := by lia
        simp [this]
      rw [e2, show (rowOf ws).getD (itr ws (i + 1) s) 0 = (xk ws s).getD i 0 from e3, e4]
      rfl
  obtain ⟨p1, p2⟩ := main _ (Nat.le_refl _)
  refine ⟨?_, p1⟩
  rw [p2, hb, ringW_step _ _ p1 hs]
  have hc : (P ++ (List.range (per (xk ws s))).map fun j => itr ws j s).contains s = true := by
    simp only [List.contains_eq_mem, decide_eq_true_eq, List.mem_append, List.mem_map, List.mem_range]
    exact .inr ⟨0, h1, rfl⟩
  rw [hc]; rfl
/-- what has been passed before the start s -/
noncomputable def Passed (ws : List (List Nat)) (s : Nat) (P : List Nat) : Prop := PassOk (nn ws) P ∧ ∀ k, k ∈ P ↔ ∃ s' i, s' < s ∧ s' < nn ws ∧ itr ws i s' = k
theorem passed_iff {s : Nat} (hs : s < nn ws) {P : List Nat} (hP : Passed ws s P) : s ∈ P ↔ isL (xk ws s) = false := by
  constructor
  · intro h
    obtain ⟨s', i, h1, h2, h3⟩ := (hP.2 s).mp h
    obtain ⟨j, hj⟩ := itr_cyc hw h2 i
    rw [h3] at hj
    cases hl : isL (xk ws s) with
    | false => rfl
    | true =>
      exfalso
      obtain ⟨hb, b1, b4, bn⟩ := per_k hw hs
      rw [itr_mod hw hb] at hj
      have hj4 := Nat.mod_lt j (show per (xk ws s) > 0 by lia)
      generalize j % per (xk ws s) = j' at hj hj4
      have e : xk ws s' = rotn j' (xk ws s) := by rw [← hj, xk_itr hw _ hs]
      have l1 : Le olt (xk ws s) (xk ws s') := by
        have := List.all_eq_true.mp hl j' (by simp; lia)
        rw [e]
        simpa [Le] using this
      have l2 := xk_le hw (show s' ≤ s by lia) hs
      have e2 := oTot.antisymm l1 l2
      rcases Nat.eq_zero_or_pos j' with rfl | hpos
      · have : s = s' := hj
        lia
      · exact bn j' hpos hj4 (e.symm.trans e2.symm)
  · intro h
    unfold isL at h
    rw [List.all_eq_false] at h
    obtain ⟨i, hi, h⟩ := h
    simp only [Bool.not_eq_true, Bool.not_eq_false'] at h
    have hlt : itr ws i s < s := by
      refine Nat.lt_of_not_le fun hc => ?_
      have := xk_le hw hc (itr_lt hw i hs)
      unfold Le at this
      rw [xk_itr hw i hs, h] at this
      cases this
    obtain ⟨j, hj⟩ := itr_cyc hw hs i
    exact (hP.2 s).mpr ⟨itr ws i s, j, hlt, itr_lt hw i hs, hj⟩
theorem rings_all : ∀ (d s : Nat), s + d = nn ws → ∀ (P : List Nat) (R : List (List Nat)), Passed ws s P →
    ringsF (placesOf (rowOf ws)) (rowOf ws) (nn ws) (List.range' s d) P R = R ++ (((sorted12 ws).drop s).filter isL).map rt := by
  intro d
  induction d with
  | zero =>
    intro s hs P R hP
    have : (sorted12 ws).drop s = [] := List.drop_eq_nil_of_le (by unfold nn at hs; lia)
    rw [this]; simp [ringsF]
  | succ d ih =>
    intro s hs P R hP
    have hsn : s < nn ws := by lia
    have hdrop : (sorted12 ws).drop s = xk ws s :: (sorted12 ws).drop (s + 1) := by
      have h : s < (sorted12 ws).length := hsn
      rw [List.drop_eq_getElem_cons h]
      simp [xk, h]
    have iff' := passed_iff hw hsn hP
    rw [List.range'_succ, hdrop]
    unfold ringsF
    by_cases hm : s ∈ P
    · have hc : P.contains s = true := by simpa using hm
      have e1 : ringW (placesOf (rowOf ws)) (rowOf ws) (nn ws + 1 - P.length) P s [] = (P, []) := by
        rw [ringW_step _ _ hP.1 hsn, hc]; rfl
      rw [e1, if_pos rfl, List.filter_cons_of_neg (by rw [iff'.mp hm]; simp)]
      refine ih (s + 1) (by lia) P R ⟨hP.1, fun k => ?_⟩
      rw [hP.2 k]
      refine ⟨fun ⟨s', i, a, b, c⟩ => ⟨s', i, by lia, b, c⟩, fun ⟨s', i, a, b, c⟩ => ?_⟩
      by_cases hq : s' = s
      · subst hq
        obtain ⟨s2, i2, a2, b2, c2⟩ := (hP.2 s').mp hm
        exact ⟨s2, i + i2, a2, b2, by rw [itr_add hw, c2]; exact c⟩
      · exact ⟨s', i, by lia, b, c⟩
    · have hd : ∀ i, itr ws i s ∉ P := fun i h => by
        obtain ⟨s', i', a, b, c⟩ := (hP.2 _).mp h
        obtain ⟨j, hj⟩ := itr_cyc hw hsn i
        exact hm ((hP.2 s).mpr ⟨s', j + i', a, b, by rw [itr_add hw, c]; exact hj⟩)
      obtain ⟨e1, pk⟩ := ringW_cyc hw hsn hP.1 hd
      obtain ⟨hb, b1, b4, _⟩ := per_k hw hsn
      have l12 := (s12_oct hw (xk_mem hw hsn)).2
      have hne : (xk ws s).take (per (xk ws s)) ≠ [] := fun e => by
        have := congrArg List.length e
        rw [List.length_take, l12, List.length_nil] at this
        lia
      have hl : isL (xk ws s) = true := by
        cases h : isL (xk ws s) with
        | true => rfl
        | false => exact absurd (iff'.mpr h) hm
      rw [e1]
      simp only
      rw [if_neg hne, List.filter_cons_of_pos hl]
      rw [ih (s + 1) (by lia) _ _ ⟨pk, fun k => ?_⟩]
      · simp [rt]
      · rw [List.mem_append, hP.2 k]
        simp only [List.mem_map, List.mem_range]
        constructor
        · rintro (⟨s', i, a, b, c⟩ | ⟨j, a, b⟩)
          · exact ⟨s', i, by lia, b, c⟩
          · exact ⟨s, j, by lia, hsn, b⟩
        · rintro ⟨s', i, a, b, c⟩
          by_cases hq : s' = s
          · subst hq
            refine .inr ⟨i % per (xk ws s'), Nat.mod_lt _ (by lia), ?_⟩
            rw [← itr_mod hw hb]; exact c
          · exact .inl ⟨s', i, by lia, b, c⟩
theorem rings_is : ringsOf (rowOf ws) = ((sorted12 ws).filter isL).map rt := by
  unfold ringsOf
  rw [row_len hw, List.range_eq_range', rings_all hw (nn ws) 0 (by lia) [] [] ⟨⟨List.Pairwise.nil, by simp⟩, fun k => by simp⟩]
  simp
end
end Mine
end
section
set_option autoImplicit false
open PySem
namespace Mine
theorem word_cases {w : List Nat} (W : WordOk w) : (∃ a, w = [a]) ∨ (∃ a b, w = [a, b]) ∨ (∃ a b c, w = [a, b, c]) ∨ ∃ a b c d, w = [a, b, c, d] := by
  have h1 := W.pos
  have h2 := W.len
  match w, h1, h2 with
  | [a], _, _ => exact .inl ⟨a, rfl⟩
  | [a, b], _, _ => exact .inr (.inl ⟨a, b, rfl⟩)
  | [a, b, c], _, _ => exact .inr (.inr (.inl ⟨a, b, c, rfl⟩))
  | [a, b, c, d], _, _ => exact .inr (.inr (.inr ⟨a, b, c, d, rfl⟩))
  | _ :: _ :: _ :: _ :: _ :: _, _, h => simp at h
theorem f1 (a : Nat) : full [a] 0 = [a, a, a, a, a, a, a, a, a, a, a, a] := by kernel_rfl!
theorem f2 (a b : Nat) : full [a, b] 0 = [a, b, a, b, a, b, a, b, a, b, a, b] := by kernel_rfl!
theorem f3 (a b c : Nat) : full [a, b, c] 0 = [a, b, c, a, b, c, a, b, c, a, b, c] := by kernel_rfl!
theorem f4 (a b c d : Nat) : full [a, b, c, d] 0 = [a, b, c, d, a, b, c, d, a, b, c, d] := by kernel_rfl!
theorem r3 (a b c : Nat) : rootN [a, b, c] = if [a, b, c] = rep 3 [a] then [a] else if [a, b, c] = rep 1 [a, b] then [a, b] else [a, b, c] := by kernel_rfl!
theorem r4 (a b c d : Nat) : rootN [a, b, c, d] = if [a, b, c, d] = rep 4 [a] then [a] else if [a, b, c, d] = rep 2 [a, b] then [a, b] else if [a, b, c, d] = rep 1 [a, b, c] then [a, b, c] else [a, b, c, d] := by kernel_rfl!
theorem root_per {w : List Nat} (W : WordOk w) : rootN w = w.take (per (full w 0)) ∧ w.length = w.length / per (full w 0) * per (full w 0) := by
  rcases word_cases W with ⟨a, rfl⟩ | ⟨a, b, rfl⟩ | ⟨a, b, c, rfl⟩ | ⟨a, b, c, d, rfl⟩
  · rw [f1]; exact ⟨by simp [per, rotn, rotL, rootN, rootAux], by simp [per, rotn, rotL]⟩
  · rw [f2]
    by_cases h : a = b
    · subst h; exact ⟨by simp [per, rotn, rotL, rootN, rootAux, rep], by simp [per, rotn, rotL]⟩
    · have h' : ¬ b = a := fun e => h e.symm
      exact ⟨by simp [per, rotn, rotL, rootN, rootAux, rep, h, h'], by simp [per, rotn, rotL, h, h']⟩
  · rw [f3]
    by_cases h : a = b ∧ b = c
    · obtain ⟨rfl, rfl⟩ := h; exact ⟨by rw [r3, if_pos (by kernel_rfl!)]; simp [per, rotn, rotL], by simp [per, rotn, rotL]⟩
    · have n1 : ¬ rotn 1 [a, b, c, a, b, c, a, b, c, a, b, c] = [a, b, c, a, b, c, a, b, c, a, b, c] := fun e => h (by simp [rotn, rotL] at e; lia)
      have n2 : ¬ rotn 2 [a, b, c, a, b, c, a, b, c, a, b, c] = [a, b, c, a, b, c, a, b, c, a, b, c] := fun e => h (by simp [rotn, rotL] at e; lia)
      have n3 : ¬ [a, b, c] = rep 3 [a] := fun e => h (by simp [rep] at e; lia)
      have n4 : ¬ [a, b, c] = rep 1 [a, b] := fun e => by simp [rep] at e
      have hp : per [a, b, c, a, b, c, a, b, c, a, b, c] = 3 := by unfold per; rw [if_neg n1, if_neg n2, if_pos (by kernel_rfl!)]
      rw [hp]
      refine ⟨?_, by kernel_rfl!⟩
      rw [r3, if_neg n3, if_neg n4]; rfl
  · rw [f4]
    by_cases h : a = b ∧ b = c ∧ c = d
    · obtain ⟨rfl, rfl, rfl⟩ := h; exact ⟨by rw [r4, if_pos (by kernel_rfl!)]; simp [per, rotn, rotL], by simp [per, rotn, rotL]⟩
    · have n1 : ¬ rotn 1 [a, b, c, d, a, b, c, d, a, b, c, d] = [a, b, c, d, a, b, c, d, a, b, c, d] := fun e => h (by simp [rotn, rotL] at e; lia)
      have m1 : ¬ [a, b, c, d] = rep 4 [a] := fun e => h (by simp [rep] at e; lia)
      by_cases h2 : a = c ∧ b = d
      · obtain ⟨rfl, rfl⟩ := h2
        have p2 : rotn 2 [a, b, a, b, a, b, a, b, a, b, a, b] = [a, b, a, b, a, b, a, b, a, b, a, b] := by kernel_rfl!
        have hp : per [a, b, a, b, a, b, a, b, a, b, a, b] = 2 := by unfold per; rw [if_neg n1, if_pos p2]
        rw [hp]
        refine ⟨?_, by kernel_rfl!⟩
        rw [r4, if_neg m1, if_pos (by kernel_rfl!)]; rfl
      · have n2 : ¬ rotn 2 [a, b, c, d, a, b, c, d, a, b, c, d] = [a, b, c, d, a, b, c, d, a, b, c, d] := fun e => h2 (by simp [rotn, rotL] at e; lia)
        have n3 : ¬ rotn 3 [a, b, c, d, a, b, c, d, a, b, c, d] = [a, b, c, d, a, b, c, d, a, b, c, d] := fun e => h (by simp [rotn, rotL] at e; lia)
        have m2 : ¬ [a, b, c, d] = rep 2 [a, b] := fun e => h2 (by simp [rep] at e; lia)
        have m3 : ¬ [a, b, c, d] = rep 1 [a, b, c] := fun e => by simp [rep] at e
        have hp : per [a, b, c, d, a, b, c, d, a, b, c, d] = 4 := by unfold per; rw [if_neg n1, if_neg n2, if_neg n3]
        rw [hp]
        refine ⟨?_, by kernel_rfl!⟩
        rw [r4, if_neg m1, if_neg m2, if_neg m3]; rfl
/-- a turning -/
noncomputable def turn (r : List Nat) (p : Nat) : List Nat := r.drop p ++ r.take p
theorem turn_full {r : List Nat} (R : WordOk r) {p : Nat} (hp : p < r.length) : (full r p).take r.length = turn r p ∧ full (turn r p) 0 = full r p := by
  rcases word_cases R with ⟨a, rfl⟩ | ⟨a, b, rfl⟩ | ⟨a, b, c, rfl⟩ | ⟨a, b, c, d, rfl⟩
  · have : p = 0 := by simpa using hp
    subst this; exact ⟨by kernel_rfl!, by kernel_rfl!⟩
  · have : p = 0 ∨ p = 1 := by simp at hp; lia
    rcases this with rfl | rfl <;> exact ⟨by kernel_rfl!, by kernel_rfl!⟩
  · have : p = 0 ∨ p = 1 ∨ p = 2 := by simp at hp; lia
    rcases this with rfl | rfl | rfl <;> exact ⟨by kernel_rfl!, by kernel_rfl!⟩
  · have : p = 0 ∨ p = 1 ∨ p = 2 ∨ p = 3 := by simp at hp; lia
    rcases this with rfl | rfl | rfl | rfl <;> exact ⟨by kernel_rfl!, by kernel_rfl!⟩
theorem full_12 {w : List Nat} (W : WordOk w) (q : Nat) : full w (q + 12) = full w q := by
  have e : ∀ i, Wd w (q + 12 + i) = Wd w (q + i) := fun i => by rw [Nat.add_right_comm]; exact Wd_12 W _
  simp only [full, e, Wd_12 W]
theorem full_shift {w : List Nat} (W : WordOk w) {p q : Nat} (h : full w p = full w q) (i : Nat) : full w (p + i) = full w (q + i) := by
  rw [← rotn_full W, ← rotn_full W, h]
theorem fix_iff {w : List Nat} (W : WordOk w) {q : Nat} (hq : q ≤ 12) (i : Nat) : rotn i (full w q) = full w q ↔ rotn i (full w 0) = full w 0 := by
  rw [rotn_full W, rotn_full W]
  constructor
  · intro h
    have := full_shift W h (12 - q)
    rwa [show q + i + (12 - q) = 0 + i + 12 by lia, show q + (12 - q) = 0 + 12 by lia, full_12 W, full_12 W] at this
  · intro h
    have := full_shift W h q
    rwa [show 0 + i + q = q + i by lia, show 0 + q = q by lia] at this
theorem per_full {w : List Nat} (W : WordOk w) {q : Nat} (hq : q ≤ 12) : per (full w q) = per (full w 0) := by
  unfold per
  simp only [fix_iff W hq]
theorem per_map {α : Type} (f : Nat → α) (t : Nat) (h : ∀ p, f (p + t) = f p) : ∀ q, (List.range (q * t)).map f = (List.replicate q ((List.range t).map f)).flatten
  | 0 => by simp
  | q + 1 => by
    rw [show (q + 1) * t = t + q * t by rw [Nat.succ_mul]; lia, List.range_add, List.map_append, List.map_map, List.replicate_succ, List.flatten_cons, ← per_map f t h q]
    congr 1
    refine List.map_congr_left fun p _ => ?_
    show f (t + p) = f p
    rw [Nat.add_comm]; exact h p
theorem filter_one {t q : Nat} (hq : q < t) (ht : t ≤ 4) (P : Nat → Bool) (hP : ∀ p, p < t → (P p = true ↔ p = q)) : (List.range t).filter P = [q] := by
  have : (List.range t).filter P = (List.range t).filter (fun p => p == q) := by
    refine List.filter_congr fun p hp => ?_
    have hp' : p < t := by simpa using hp
    have := hP p hp'
    cases h : P p with
    | true => have := this.mp h; simp [this]
    | false =>
      have : p ≠ q := fun e => by rw [this.mpr e] at h; cases h
      simp [this]
  rw [this]
  have ht' : t = 1 ∨ t = 2 ∨ t = 3 ∨ t = 4 := by lia
  have hq' : q = 0 ∨ q = 1 ∨ q = 2 ∨ q = 3 := by lia
  rcases ht' with rfl | rfl | rfl | rfl <;> rcases hq' with rfl | rfl | rfl | rfl <;> first | rfl | lia
theorem least_le {r : List Nat} (h : 0 < r.length) : ∀ t ∈ turnL r, Le olt (leastN r) t := by
  intro t ht
  have hs := isort_sorted lt2_tot ((turnL r).map rk)
  have hp := isort_perm (lt := lt2) ((turnL r).map rk)
  have hm : rk t ∈ isort lt2 ((turnL r).map rk) := hp.symm.subset (List.mem_map_of_mem ht)
  cases e : isort lt2 ((turnL r).map rk) with
  | nil => rw [e] at hm; cases hm
  | cons k rest =>
    have hk : k ∈ (turnL r).map rk := hp.subset (by rw [e]; simp)
    obtain ⟨u, hu, rfl⟩ := List.mem_map.mp hk
    have hl : leastN r = u := by unfold leastN; rw [e]; rfl
    rw [hl]
    rw [e] at hm hs
    rcases List.mem_cons.mp hm with h1 | h1
    · have : t = u := congrArg Prod.snd h1
      rw [this]; exact oTot.le_refl _
    · exact (List.pairwise_cons.mp hs).1 _ h1
noncomputable def gK (y : List Nat) : K2 := ((y.take 6).map rankO, rt y)
set_option maxHeartbeats 1000000 in
theorem word_roots {w : List Nat} (W : WordOk w) : ((((List.range w.length).map (full w)).filter isL).map gK) = rootK w := by
  obtain ⟨hr, hm⟩ := root_per W
  obtain ⟨pt, p1, p4, pn⟩ := per_is W 0
  have R := rootOk W
  obtain ⟨t, htt⟩ : ∃ t, t = per (full w 0) := ⟨_, rfl⟩
  rw [← htt] at hr hm pt p1 p4 pn
  have htm : t ≤ w.length := by
    rcases Nat.eq_zero_or_pos (w.length / t) with h | h
    · rw [h] at hm; have := W.pos; lia
    · have := Nat.le_mul_of_pos_left t h; lia
  have hrl : (rootN w).length = t := by rw [hr, List.length_take]; lia
  have hper : ∀ p, full w (p + t) = full w p := fun p => by
    have h0 : full w (0 + t) = full w 0 := by rw [← rotn_full W]; exact pt
    have := full_shift W h0 p
    rwa [show 0 + t + p = p + t by lia, Nat.zero_add] at this
  have hWt : ∀ p, Wd w (p + t) = Wd w p := fun p => congrArg (fun l : List Nat => l.headD 0) (hper p)
  have hWr : ∀ i, Wd w i = Wd (rootN w) i := fun i => by
    have e1 : ∀ q i, Wd w (i + t * q) = Wd w i := fun q => by
      induction q with
      | zero => intro i; rfl
      | succ q ih => intro i; rw [Nat.mul_succ, ← Nat.add_assoc, hWt, ih]
    have e2 : Wd w i = Wd w (i % t) := by
      have := e1 (i / t) (i % t)
      rwa [Nat.mod_add_div] at this
    have hlt := Nat.mod_lt i p1
    rw [e2]
    unfold Wd
    rw [hrl, Nat.mod_eq_of_lt (show i % t < w.length by lia), hr]
    simp [List.getElem?_take, hlt]
  have hfull : ∀ p, full w p = full (rootN w) p := fun p => by simp only [full, hWr]
  -- the least turning
  obtain ⟨q, hq, hqe⟩ := List.mem_map.mp (leastN_mem R.pos)
  have hq' : q < t := by rw [List.mem_range, hrl] at hq; exact hq
  have hturn : ∀ p, p < t → (full w p).take t = turn (rootN w) p ∧ full (turn (rootN w) p) 0 = full w p := fun p hp => by
    have := turn_full R (p := p) (by lia)
    rw [hrl] at this
    rw [hfull]; exact this
  have hqe' : turn (rootN w) q = leastN (rootN w) := hqe
  have hmin : ∀ p, p < t → Le olt (full w q) (full w p) := fun p hp => by
    have h1 := least_le R.pos (turn (rootN w) p) (List.mem_map.mpr ⟨p, by rw [List.mem_range]; lia, rfl⟩)
    rw [← hqe'] at h1
    have op := full_oct W p
    have oq := full_oct W q
    obtain ⟨tp, fp⟩ := hturn p hp
    obtain ⟨tq, fq⟩ := hturn q hq'
    rw [← tp, ← tq] at h1
    rcases listLt_tri (((full w q).take t).map rankO) (((full w p).take t).map rankO) with c | c | c
    · refine oTot.lt_le ((olt_iff oq op).mpr ?_)
      rw [List.map_take, List.map_take] at c
      exact take_lt t c
    · have := ranks_inj (oq.take t) (op.take t) c
      rw [tp, tq] at this
      have : full w q = full w p := by rw [← fp, ← fq, this]
      rw [this]; exact oTot.le_refl _
    · have := (olt_iff (op.take t) (oq.take t)).mpr c
      unfold Le at h1
      rw [h1] at this; cases this
  have hmodt : ∀ p, full w p = full w (p % t) := fun p => by
    have e1 : ∀ k p, full w (p + t * k) = full w p := fun k => by
      induction k with
      | zero => intro p; rfl
      | succ k ih => intro p; rw [Nat.mul_succ, ← Nat.add_assoc, hper, ih]
    have := e1 (p / t) (p % t)
    rwa [Nat.mod_add_div] at this
  have hiff : ∀ p, p < t → (isL (full w p) = true ↔ p = q) := fun p hp => by
    constructor
    · intro h
      have hi : (q + t - p) % t < t := Nat.mod_lt _ p1
      have := List.all_eq_true.mp h ((q + t - p) % t) (by simp; lia)
      have e : rotn ((q + t - p) % t) (full w p) = full w q := by
        rw [rotn_full W, hmodt, Nat.add_mod, Nat.mod_mod, ← Nat.add_mod, show p + (q + t - p) = q + t by lia, Nat.add_mod_right, ← hmodt]
      rw [e] at this
      have l1 : Le olt (full w p) (full w q) := by simpa [Le] using this
      have e2 := oTot.antisymm l1 (hmin p hp)
      rcases Nat.lt_trichotomy p q with c | c | c
      · exfalso
        have := full_shift W e2 (12 - p)
        rw [show p + (12 - p) = 0 + 12 by lia, show q + (12 - p) = (q - p) + 12 by lia, full_12 W, full_12 W] at this
        exact pn (q - p) (by lia) (by lia) (by rw [rotn_full W, Nat.zero_add]; exact this.symm)
      · exact c
      · exfalso
        have := full_shift W e2 (12 - q)
        rw [show q + (12 - q) = 0 + 12 by lia, show p + (12 - q) = (p - q) + 12 by lia, full_12 W, full_12 W] at this
        exact pn (p - q) (by lia) (by lia) (by rw [rotn_full W, Nat.zero_add]; exact this)
    · rintro rfl
      refine List.all_eq_true.mpr fun i _ => ?_
      have := hmin ((p + i) % t) (Nat.mod_lt _ p1)
      rw [← hmodt, ← rotn_full W] at this
      simpa [Le] using this
  have hf1 : ((List.range t).map (full w)).filter isL = [full w q] := by
    rw [List.filter_map]
    have := filter_one hq' p4 (isL ∘ full w) hiff
    rw [this]; rfl
  have hg : gK (full w q) = ((readN (leastN (rootN w)) 0).map rankO, leastN (rootN w)) := by
    have e1 : full w q = full (leastN (rootN w)) 0 := by rw [← hqe']; exact (hturn q hq').2.symm
    have e2 : rt (full w q) = leastN (rootN w) := by
      unfold rt
      rw [per_full W (by lia), ← htt, (hturn q hq').1, hqe']
    unfold gK
    rw [e2]
    rw [e1, take6]
  rw [hm, per_map (full w) t hper, List.filter_flatten, List.map_replicate, hf1, List.map_flatten, List.map_replicate]
  unfold rootK
  rw [hrl]
  have : ∀ (n : Nat) (x : K2), (List.replicate n [x]).flatten = List.replicate n x := fun n x => by
    induction n with
    | zero => rfl
    | succ n ih => rw [List.replicate_succ, List.flatten_cons, ih, List.replicate_succ]; rfl
  rw [List.map_cons, List.map_nil, this, hg]
theorem rows_roots : ∀ {ws : List (List Nat)}, (∀ w ∈ ws, WordOk w) → ((rowsOf ws).filter isL).map gK = ws.flatMap rootK
  | [], _ => rfl
  | w :: ws, hw => by
    have h2 : rowsOf (w :: ws) = (List.range w.length).map (full w) ++ rowsOf ws := rfl
    rw [h2, List.filter_append, List.map_append, word_roots (hw w (by simp)), rows_roots fun v hv => hw v (by simp [hv])]
    rfl
theorem roots_is {ws : List (List Nat)} (hw : ∀ w ∈ ws, WordOk w) : rootsN ws = ((sorted12 ws).filter isL).map rt := by
  have key : isort lt2 (ws.flatMap rootK) = ((sorted12 ws).filter isL).map gK := by
    refine lt2_tot.sorted_unique (isort_sorted lt2_tot _) ?_ ?_
    · rw [List.pairwise_map]
      refine List.Pairwise.imp_of_mem (fun {x y} hx hy h => ?_) ((s12_sorted ws).filter isL)
      rcases begin_le hw ((List.mem_filter.mp hx).1) ((List.mem_filter.mp hy).1) h with c | rfl
      · exact le2_of (a := gK x) (b := gK y) c
      · exact lt2_tot.le_refl _
    · refine (isort_perm _).trans ?_
      rw [← rows_roots hw]
      exact (((s12_perm ws).filter isL).map gK).symm
  unfold rootsN
  rw [key, List.map_map]
  rfl
theorem plainLaw (ws : List (List Nat)) (hw : ∀ w ∈ ws, WordOk w) : PL ws := ⟨pl_laid hw, pl_told hw, (rings_is hw).trans (roots_is hw).symm⟩
end Mine
end
set_option maxHeartbeats 4000000 in
theorem PySem.Challenge.cw_op0073_01_holds : PySem.Challenge.rw_op0073_01.Holds := by
  exact Mine.holds_of fun ws hw _ => Mine.plainLaw ws hw
