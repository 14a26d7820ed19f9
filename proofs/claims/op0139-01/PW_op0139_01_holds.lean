import PyProof.Rows.All
import Wide.All
import OpenK.AllK
import Wide.FinOn
import Lean
import PySem.Challenge.RW_op0139_01
set_option Elab.async false
set_option linter.all false
set_option genInjectivity false
set_option genSizeOf false
set_option compiler.extract_closed false
section
set_option maxRecDepth 100000
set_option autoImplicit false
namespace Mine
open PySem PySem.Calls PySem.Spec PyProof.Rows PySem.W
noncomputable section
noncomputable abbrev PR : Program := PySem.Challenge.pw_op0139_01
noncomputable def noPos : Pos := ⟨0, 0, 0, 0⟩
noncomputable def stN (i : Nat) : Stmt := (PR.main.body[i]?).getD (.Pass noPos)
noncomputable def stC (i j : Nat) : Stmt := match stN i with
  | .ClassDef _ _ _ body _ _ _ _ _ _ _ => (body[j]?).getD (.Pass noPos)
  | _ => .Pass noPos
noncomputable def dName : Stmt → Str
  | .FunctionDef n _ _ _ _ _ _ _ _ _ => n
  | _ => ""
noncomputable def dArgs : Stmt → Arguments
  | .FunctionDef _ a _ _ _ _ _ _ _ _ => a
  | _ => ⟨[], [], none, [], [], none, []⟩
noncomputable def dBody : Stmt → List Stmt
  | .FunctionDef _ _ b _ _ _ _ _ _ _ => b
  | _ => []
noncomputable def dScope : Stmt → Scope
  | .FunctionDef _ _ _ _ _ _ s _ _ _ => s
  | _ => default
noncomputable def fdAt (st : Stmt) (qual pm : Str) (tok code : Nat) (dV : Value) : FuncData :=
  { name := dName st, qualname := qual, params := dArgs st, body := .stmts (dBody st), scope := dScope st, globals := 3, closure := [], defaults := dV, kwdefaults := .none, doc := .none,
    pyModule := .str pm tok, annotations := none, code := .ref code, closureTuple := .none, builtins := 0 }

noncomputable def fdByteswap : FuncData := fdAt (stN 2) "_byteswap" "cpy313.wave" 194 27 .none
noncomputable def fdSep : FuncData := fdAt (stN 10) "_get_sep" "cpy313.posixpath" 389 154 .none
noncomputable def fdTurned : FuncData := fdAt (stN 12) "_law_turned" "law_op0139_01" 398 161 .none
noncomputable def fdTold : FuncData := fdAt (stN 13) "_law_told" "law_op0139_01" 398 168 .none
noncomputable def fdHeads : FuncData := fdAt (stN 14) "_law_heads" "law_op0139_01" 398 175 .none
noncomputable def fdRounds : FuncData := fdAt (stN 15) "_law_rounds" "law_op0139_01" 398 180 .none
noncomputable def fdLaw : FuncData := fdAt (stN 16) "law" "law_op0139_01" 398 185 .none
noncomputable def fdNodeInit : FuncData := fdAt (stC 6 1) "_NodeInfo.__init__" "cpy313.graphlib" 207 42 .none
noncomputable def fdInit : FuncData := fdAt (stC 8 0) "TopologicalSorter.__init__" "cpy313.graphlib" 207 79 (.ref 73)
noncomputable def fdGetNode : FuncData := fdAt (stC 8 1) "TopologicalSorter._get_nodeinfo" "cpy313.graphlib" 207 86 .none
noncomputable def fdAdd : FuncData := fdAt (stC 8 2) "TopologicalSorter.add" "cpy313.graphlib" 207 93 .none
noncomputable def fdPrepare : FuncData := fdAt (stC 8 3) "TopologicalSorter.prepare" "cpy313.graphlib" 207 98 .none
noncomputable def fdReady : FuncData := fdAt (stC 8 4) "TopologicalSorter.get_ready" "cpy313.graphlib" 207 105 .none
noncomputable def fdActive : FuncData := fdAt (stC 8 5) "TopologicalSorter.is_active" "cpy313.graphlib" 207 112 .none
noncomputable def fdDone : FuncData := fdAt (stC 8 7) "TopologicalSorter.done" "cpy313.graphlib" 207 126 .none
noncomputable def fdCycle : FuncData := fdAt (stC 8 8) "TopologicalSorter._find_cycle" "cpy313.graphlib" 207 133 .none


/- the part of the heap, as the run of the top leaves it, that the proof looks at -/
noncomputable def kS (s : String) (t : Tok) : Value := .str (Str.ofString s) t
noncomputable def kE (P : Params) (k : String) (t : Tok) (v : Value) : DictEntry := { hash := PyData.keyHash P (Str.ofString k), key := kS k t, val := v }
noncomputable def KK : Params → Frag := fun P => [
  (2, { cls := .none, data := .dict #[] }),
  (3, { cls := .type "dict", data := .dict #[kE P "__name__" 165 (kS "law_op0139_01" 398), kE P "__doc__" 166 (.none), kE P "__package__" 167 (.none), kE P "__loader__" 168 (.builtin "__main__.__loader__#opaque"), kE P "__spec__" 169 (.none), kE P "__annotations__" 170 (.ref 6), kE P "__builtins__" 171 (.ref 4), kE P "__file__" 173 (kS "/claim/cut.py" 172), kE P "__cached__" 174 (.none), kE P "_wall" 193 (.ref 21), kE P "_byteswap" 206 (.ref 28), kE P "_NODE_OUT" 211 (.int (-1) 210), kE P "_NODE_DONE" 214 (.int (-2) 213), kE P "_NodeInfo" 251 (.ref 47), kE P "CycleError" 269 (.ref 62), kE P "TopologicalSorter" 388 (.ref 144), kE P "_get_sep" 397 (.ref 155), kE P "_law_turned" 408 (.ref 162), kE P "_law_told" 419 (.ref 169), kE P "_law_heads" 427 (.ref 176), kE P "_law_rounds" 433 (.ref 181), kE P "law" 439 (.ref 186)] 22 }),
  (20, { cls := .type "code", data := .fields #[kS "_wall" 187, kS "_wall" 188, kS "/claim/cut.py" 189, .int 1 0, .int 1 0, .int 0 0, .int 0 0, .int 3 0, .ref 15, .bool true, .int 181 0, .ref 16, .none, .ref 17, .ref 18, .ref 19, .int 191 0, .int 1 0, kS "/claim/cut.py" 192] }),
  (27, { cls := .type "code", data := .fields #[kS "_byteswap" 196, kS "_byteswap" 197, kS "/claim/cut.py" 198, .int 5 0, .int 2 0, .int 0 0, .int 0 0, .int 3 0, .ref 22, .bool true, .int 181 0, .ref 23, .none, .ref 24, .ref 25, .ref 26, .int 204 0, .int 5 0, kS "/claim/cut.py" 205] }),
  (28, { cls := .type "function", data := .func fdByteswap }),
  (42, { cls := .type "code", data := .fields #[kS "__init__" 231, kS "_NodeInfo.__init__" 232, kS "/claim/cut.py" 233, .int 17 0, .int 2 0, .int 0 0, .int 0 0, .int 3 0, .ref 37, .bool true, .int 181 0, .ref 38, .none, .ref 39, .ref 40, .ref 41, .int 236 0, .int 17 0, kS "/claim/cut.py" 237] }),
  (43, { cls := .type "function", data := .func fdNodeInit }),
  (46, { cls := .type "dict", data := .dict #[kE P "__module__" 222 (kS "cpy313.graphlib" 207), kE P "__firstlineno__" 226 (.int 14 225), kE P "__slots__" 230 (.ref 36), kE P "__init__" 238 (.ref 43), kE P "__static_attributes__" 242 (.ref 44), kE P "node" 244 (.ref 48), kE P "npredecessors" 246 (.ref 49), kE P "successors" 248 (.ref 50), kE P "__doc__" 249 (.none)] 5 }),
  (47, { cls := .type "type", data := Data.cls { name := Str.ofString "_NodeInfo", bases := [.type "object"], mro := [.ref 47, .type "object"], ns := 46, qualname := Str.ofString "_NodeInfo", hasDict := false, slotNames := [Str.ofString "node", Str.ofString "npredecessors", Str.ofString "successors"] }, slots := #[none, none, some (kS "_NodeInfo" 215), some (kS "_NodeInfo" 223), some (.builtin "object.__new__"), some (.bool false)] }),
  (48, { cls := .type "member_descriptor", data := .fields #[kS "node" 243, .ref 47, .builtin "proto.slot", .builtin "proto.slot#set", .int 2 0] }),
  (49, { cls := .type "member_descriptor", data := .fields #[kS "npredecessors" 245, .ref 47, .builtin "proto.slot", .builtin "proto.slot#set", .int 1 0] }),
  (50, { cls := .type "member_descriptor", data := .fields #[kS "successors" 247, .ref 47, .builtin "proto.slot", .builtin "proto.slot#set", .int 0 0] }),
  (61, { cls := .type "dict", data := .dict #[kE P "__module__" 259 (kS "cpy313.graphlib" 207), kE P "__firstlineno__" 263 (.int 21 262), kE P "__static_attributes__" 264 (.ref 60), kE P "__weakref__" 266 (.ref 63), kE P "__doc__" 267 (.none)] 3 }),
  (62, { cls := .type "type", data := Data.cls { name := Str.ofString "CycleError", bases := [.type "ValueError"], mro := [.ref 62, .type "ValueError", .type "Exception", .type "BaseException", .type "object"], ns := 61, qualname := Str.ofString "CycleError" }, slots := #[some (.ref 53), none, some (kS "CycleError" 252), some (kS "CycleError" 260), some (.builtin "ValueError.__new__"), some (.bool true)] }),
  (63, { cls := .type "getset_descriptor", data := .fields #[kS "__weakref__" 265, .ref 62, .builtin "ExceptionGroup.__weakref__", .none] }),
  (73, { cls := .type "tuple", data := .seq #[.none] }),
  (79, { cls := .type "code", data := .fields #[kS "__init__" 282, kS "TopologicalSorter.__init__" 283, kS "/claim/cut.py" 284, .int 25 0, .int 2 0, .int 0 0, .int 0 0, .int 3 0, .ref 74, .bool true, .int 181 0, .ref 75, .none, .ref 76, .ref 77, .ref 78, .int 289 0, .int 25 0, kS "/claim/cut.py" 290] }),
  (80, { cls := .type "function", data := .func fdInit }),
  (86, { cls := .type "code", data := .fields #[kS "_get_nodeinfo" 292, kS "TopologicalSorter._get_nodeinfo" 293, kS "/claim/cut.py" 294, .int 34 0, .int 2 0, .int 0 0, .int 0 0, .int 3 0, .ref 81, .bool true, .int 181 0, .ref 82, .none, .ref 83, .ref 84, .ref 85, .int 298 0, .int 34 0, kS "/claim/cut.py" 299] }),
  (87, { cls := .type "function", data := .func fdGetNode }),
  (93, { cls := .type "code", data := .fields #[kS "add" 301, kS "TopologicalSorter.add" 302, kS "/claim/cut.py" 303, .int 39 0, .int 2 0, .int 0 0, .int 0 0, .int 7 0, .ref 88, .bool true, .int 181 0, .ref 89, .none, .ref 90, .ref 91, .ref 92, .int 310 0, .int 39 0, kS "/claim/cut.py" 311] }),
  (94, { cls := .type "function", data := .func fdAdd }),
  (98, { cls := .type "code", data := .fields #[kS "prepare" 313, kS "TopologicalSorter.prepare" 314, kS "/claim/cut.py" 315, .int 48 0, .int 1 0, .int 0 0, .int 0 0, .int 3 0, .ref 95, .bool true, .int 181 0, .ref 96, .none, .none, .none, .ref 97, .int 316 0, .int 48 0, kS "/claim/cut.py" 317] }),
  (99, { cls := .type "function", data := .func fdPrepare }),
  (105, { cls := .type "code", data := .fields #[kS "get_ready" 319, kS "TopologicalSorter.get_ready" 320, kS "/claim/cut.py" 321, .int 56 0, .int 1 0, .int 0 0, .int 0 0, .int 3 0, .ref 100, .bool true, .int 181 0, .ref 101, .none, .ref 102, .ref 103, .ref 104, .int 326 0, .int 56 0, kS "/claim/cut.py" 327] }),
  (106, { cls := .type "function", data := .func fdReady }),
  (112, { cls := .type "code", data := .fields #[kS "is_active" 329, kS "TopologicalSorter.is_active" 330, kS "/claim/cut.py" 331, .int 67 0, .int 1 0, .int 0 0, .int 0 0, .int 3 0, .ref 107, .bool true, .int 181 0, .ref 108, .none, .ref 109, .ref 110, .ref 111, .int 333 0, .int 67 0, kS "/claim/cut.py" 334] }),
  (113, { cls := .type "function", data := .func fdActive }),
  (119, { cls := .type "code", data := .fields #[kS "__bool__" 336, kS "TopologicalSorter.__bool__" 337, kS "/claim/cut.py" 338, .int 72 0, .int 1 0, .int 0 0, .int 0 0, .int 3 0, .ref 114, .bool true, .int 181 0, .ref 115, .none, .ref 116, .ref 117, .ref 118, .int 340 0, .int 72 0, kS "/claim/cut.py" 341] }),
  (126, { cls := .type "code", data := .fields #[kS "done" 343, kS "TopologicalSorter.done" 344, kS "/claim/cut.py" 345, .int 75 0, .int 1 0, .int 0 0, .int 0 0, .int 7 0, .ref 121, .bool true, .int 181 0, .ref 122, .none, .ref 123, .ref 124, .ref 125, .int 354 0, .int 75 0, kS "/claim/cut.py" 355] }),
  (127, { cls := .type "function", data := .func fdDone }),
  (133, { cls := .type "code", data := .fields #[kS "_find_cycle" 357, kS "TopologicalSorter._find_cycle" 358, kS "/claim/cut.py" 359, .int 98 0, .int 1 0, .int 0 0, .int 0 0, .int 3 0, .ref 128, .bool true, .int 181 0, .ref 129, .none, .ref 130, .ref 131, .ref 132, .int 367 0, .int 98 0, kS "/claim/cut.py" 368] }),
  (134, { cls := .type "function", data := .func fdCycle }),
  (140, { cls := .type "code", data := .fields #[kS "static_order" 370, kS "TopologicalSorter.static_order" 371, kS "/claim/cut.py" 372, .int 127 0, .int 1 0, .int 0 0, .int 0 0, .int 3 0, .ref 135, .bool true, .int 181 0, .ref 136, .none, .ref 137, .ref 138, .ref 139, .int 374 0, .int 127 0, kS "/claim/cut.py" 375] }),
  (143, { cls := .type "dict", data := .dict #[kE P "__module__" 277 (kS "cpy313.graphlib" 207), kE P "__firstlineno__" 281 (.int 23 280), kE P "__init__" 291 (.ref 80), kE P "_get_nodeinfo" 300 (.ref 87), kE P "add" 312 (.ref 94), kE P "prepare" 318 (.ref 99), kE P "get_ready" 328 (.ref 106), kE P "is_active" 335 (.ref 113), kE P "__bool__" 342 (.ref 120), kE P "done" 356 (.ref 127), kE P "_find_cycle" 369 (.ref 134), kE P "static_order" 376 (.ref 141), kE P "__static_attributes__" 381 (.ref 142), kE P "__dict__" 383 (.ref 145), kE P "__weakref__" 385 (.ref 146), kE P "__doc__" 386 (.none)] 4 }),
  (144, { cls := .type "type", data := Data.cls { name := Str.ofString "TopologicalSorter", bases := [.type "object"], mro := [.ref 144, .type "object"], ns := 143, qualname := Str.ofString "TopologicalSorter" }, slots := #[none, none, some (kS "TopologicalSorter" 270), some (kS "TopologicalSorter" 278), some (.builtin "object.__new__"), some (.bool true)] }),
  (145, { cls := .type "getset_descriptor", data := .fields #[kS "__dict__" 382, .ref 144, .builtin "function.__dict__", .builtin "function.__dict__#set"] }),
  (146, { cls := .type "getset_descriptor", data := .fields #[kS "__weakref__" 384, .ref 144, .builtin "ExceptionGroup.__weakref__", .none] }),
  (154, { cls := .type "code", data := .fields #[kS "_get_sep" 391, kS "_get_sep" 392, kS "/claim/cut.py" 393, .int 130 0, .int 1 0, .int 0 0, .int 0 0, .int 3 0, .ref 149, .bool true, .int 181 0, .ref 150, .none, .ref 151, .ref 152, .ref 153, .int 395 0, .int 130 0, kS "/claim/cut.py" 396] }),
  (155, { cls := .type "function", data := .func fdSep }),
  (161, { cls := .type "code", data := .fields #[kS "_law_turned" 400, kS "_law_turned" 401, kS "/claim/cut.py" 402, .int 136 0, .int 2 0, .int 0 0, .int 0 0, .int 3 0, .ref 156, .bool true, .int 181 0, .ref 157, .none, .ref 158, .ref 159, .ref 160, .int 406 0, .int 136 0, kS "/claim/cut.py" 407] }),
  (162, { cls := .type "function", data := .func fdTurned }),
  (168, { cls := .type "code", data := .fields #[kS "_law_told" 409, kS "_law_told" 410, kS "/claim/cut.py" 411, .int 140 0, .int 2 0, .int 0 0, .int 0 0, .int 3 0, .ref 163, .bool true, .int 181 0, .ref 164, .none, .ref 165, .ref 166, .ref 167, .int 417 0, .int 140 0, kS "/claim/cut.py" 418] }),
  (169, { cls := .type "function", data := .func fdTold }),
  (175, { cls := .type "code", data := .fields #[kS "_law_heads" 420, kS "_law_heads" 421, kS "/claim/cut.py" 422, .int 147 0, .int 1 0, .int 0 0, .int 0 0, .int 3 0, .ref 170, .bool true, .int 181 0, .ref 171, .none, .ref 172, .ref 173, .ref 174, .int 425 0, .int 147 0, kS "/claim/cut.py" 426] }),
  (176, { cls := .type "function", data := .func fdHeads }),
  (180, { cls := .type "code", data := .fields #[kS "_law_rounds" 428, kS "_law_rounds" 429, kS "/claim/cut.py" 430, .int 153 0, .int 2 0, .int 0 0, .int 0 0, .int 3 0, .ref 177, .bool true, .int 181 0, .ref 178, .none, .none, .none, .ref 179, .int 431 0, .int 153 0, kS "/claim/cut.py" 432] }),
  (181, { cls := .type "function", data := .func fdRounds }),
  (185, { cls := .type "code", data := .fields #[kS "law" 434, kS "law" 435, kS "/claim/cut.py" 436, .int 164 0, .int 1 0, .int 0 0, .int 0 0, .int 3 0, .ref 182, .bool true, .int 181 0, .ref 183, .none, .none, .none, .ref 184, .int 437 0, .int 164 0, kS "/claim/cut.py" 438] }),
  (186, { cls := .type "function", data := .func fdLaw })]
noncomputable def kAdr : List Addr := [2, 3, 20, 27, 28, 42, 43, 46, 47, 48, 49, 50, 61, 62, 63, 73, 79, 80, 86, 87, 93, 94, 98, 99, 105, 106, 112, 113, 119, 126, 127, 133, 134, 140, 143, 144, 145, 146, 154, 155, 161, 162, 168, 169, 175, 176, 180, 181, 185, 186]
end
end Mine
end
section
set_option maxRecDepth 100000
set_option autoImplicit false
namespace Mine
open PySem PySem.Calls PySem.Spec PyProof.Rows PySem.W
theorem ex1 {a : Type} {P : a → Prop} {G : Prop} (h : ∃ x, P x) (k : ∀ x, P x → G) : G := h.elim k
theorem ex2 {a b : Type} {P : a → b → Prop} {G : Prop} (h : ∃ x y, P x y) (k : ∀ x y, P x y → G) : G := h.elim fun x h => h.elim (k x)
theorem ex3 {a b c : Type} {P : a → b → c → Prop} {G : Prop} (h : ∃ x y z, P x y z) (k : ∀ x y z, P x y z → G) : G := h.elim fun x h => ex2 h (k x)
theorem ex4 {a b c d : Type} {P : a → b → c → d → Prop} {G : Prop} (h : ∃ x y z u, P x y z u) (k : ∀ x y z u, P x y z u → G) : G := h.elim fun x h => ex3 h (k x)
theorem ex5 {a b c d e : Type} {P : a → b → c → d → e → Prop} {G : Prop} (h : ∃ x y z u v, P x y z u v) (k : ∀ x y z u v, P x y z u v → G) : G := h.elim fun x h => ex4 h (k x)
theorem ex6 {a b c d e f : Type} {P : a → b → c → d → e → f → Prop} {G : Prop} (h : ∃ x y z u v w, P x y z u v w) (k : ∀ x y z u v w, P x y z u v w → G) : G := h.elim fun x h => ex5 h (k x)
theorem and2 {a b G : Prop} (h : a ∧ b) (k : a → b → G) : G := k h.1 h.2
theorem and3 {a b c G : Prop} (h : a ∧ b ∧ c) (k : a → b → c → G) : G := and2 h.2 (k h.1)
theorem and4 {a b c d G : Prop} (h : a ∧ b ∧ c ∧ d) (k : a → b → c → d → G) : G := and3 h.2 (k h.1)
theorem and5 {a b c d e G : Prop} (h : a ∧ b ∧ c ∧ d ∧ e) (k : a → b → c → d → e → G) : G := and4 h.2 (k h.1)
theorem and6 {a b c d e f G : Prop} (h : a ∧ b ∧ c ∧ d ∧ e ∧ f) (k : a → b → c → d → e → f → G) : G := and5 h.2 (k h.1)
theorem and7 {a b c d e f i G : Prop} (h : a ∧ b ∧ c ∧ d ∧ e ∧ f ∧ i) (k : a → b → c → d → e → f → i → G) : G := and6 h.2 (k h.1)
theorem and8 {a b c d e f i j G : Prop} (h : a ∧ b ∧ c ∧ d ∧ e ∧ f ∧ i ∧ j) (k : a → b → c → d → e → f → i → j → G) : G := and7 h.2 (k h.1)
theorem and9 {a b c d e f i j l G : Prop} (h : a ∧ b ∧ c ∧ d ∧ e ∧ f ∧ i ∧ j ∧ l) (k : a → b → c → d → e → f → i → j → l → G) : G := and8 h.2 (k h.1)
theorem len1 {α : Type} {l : List α} (h : l.length = 1) : ∃ x, l = [x] := by
  cases l with
  | nil => cases h
  | cons x l => cases l with
    | nil => exact ⟨x, rfl⟩
    | cons _ _ => cases h
theorem len2 {α : Type} {l : List α} (h : l.length = 2) : ∃ x y, l = [x, y] := by
  cases l with
  | nil => cases h
  | cons x l => exact (len1 (Nat.succ.inj h)).elim fun y e => ⟨x, y, by rw [e]⟩


theorem slot_bytes_hash : Slot "bytes" "__hash__" "bytes.__hash__" :=
  .of (owner := "bytes") (n := "__hash__") (by rw [typeLookup_type, builtinLookup_eq_fast]; kernel_rfl) (by decide +kernel) (by decide +kernel) (by decide +kernel)
    (by first | exact .inl (by decide +kernel) | exact .inr (by decide +kernel)) (by rw [isSubtype_type]; kernel_rfl)
theorem entry_bytes_hash : entryFor table "bytes.__hash__" = some Builtin.«bytes.__hash__» := entryFor_of_tree (by kernel_rfl)
theorem args_bytes_hash (a : Value) : argsOk "bytes.__hash__" ⟨[a], []⟩ := by unfold argsOk; kernel_rfl

noncomputable def isBytesOf (x : Str) : Value → Bool
  | .bytes b _ => (b.map (·.toNat)) == x.cps
  | _ => false
theorem isBytesOf_shape {x : Str} {v : Value} (h : isBytesOf x v = true) : ∃ b t, v = .bytes b t ∧ b.map (·.toNat) = x.cps := by
  cases v <;> simp_all [isBytesOf]
noncomputable def hashB (w : World) (x : Str) : Int := reduceHash (hashStr w x)

section
variable {prog : Program} {w : World} {A : Around} {E : Value → Shared → Prop} {s : Shared}
theorem pyHash_bytes {x : Str} {b : Array UInt8} {t : Tok} {Q : Int → Shared → Prop} (hb : b.map (·.toNat) = x.cps) (h : Q (hashB w x) { s with toks := s.toks + 1 }) :
    wpAny (model prog w) A (pyHash (.bytes b t)) Q E s := by
  have hT : s.TypeIs (.bytes b t) "bytes" := rfl
  show wpAny _ _ (pyHashByItsType (.bytes b t)) Q E s
  unfold pyHashByItsType
  refine wpAny_bind (wpAny_cRoomFor_byValue rfl ?_)
  refine wpAny_bind (wpAny_specialOf hT slot_bytes_hash.lookup ?_)
  show wpAny _ _ (if (some (Value.builtin "bytes.__hash__") == some Value.none) = true then _ else _) Q E s
  rw [if_neg (by rw [beq_builtin_none]; exact Bool.false_ne_true)]
  refine wpAny_bind (wpAny_specialOf hT slot_bytes_hash.lookup ?_)
  refine wpAny_bind (wpAny_callSpecialIfBoundUnlessNone?_slot hT slot_bytes_hash (wpAny_call_entry slot_bytes_hash hT entry_bytes_hash ?_ (args_bytes_hash _)))
  show wpAny _ _ (do retInt (← strHash ⟨b.map (·.toNat)⟩)) _ _ s
  refine wpAny_bind (wpAny_bind (wpAny_askSetting (wpAny_pure ?_)))
  refine wpAny_bind (wpAny_mkInt (wpAny_pure ⟨_, rfl, ?_⟩))
  have e : (if (⟨b.map (·.toNat)⟩ : Str).cps.isEmpty then 0 else reduceHash (w.params.strHash (⟨b.map (·.toNat)⟩ : Str).cps)) = hashStr w x := by
    unfold hashStr
    dsimp only
    rw [hb]
  show wpAny _ _ (pyHashByItsType.reduced (if (⟨b.map (·.toNat)⟩ : Str).cps.isEmpty then 0 else reduceHash (w.params.strHash (⟨b.map (·.toNat)⟩ : Str).cps))) Q E _
  rw [e]
  unfold hashB reduceHash at h
  unfold pyHashByItsType.reduced
  by_cases hr : (decide (-(2 ^ 63 : Int) ≤ hashStr w x) && decide (hashStr w x < 2 ^ 63)) = true
  · rw [if_pos hr] at h ⊢
    exact wpAny_pure h
  · rw [if_neg hr] at h ⊢
    exact wpAny_bind (wpAny_rule (wpAny_pure h))

theorem eqBool_bytes {a b : Array UInt8} {t u : Tok} {Q : Bool → Shared → Prop} (h : Q (a.toList == b.toList) s) :
    wpAny (model prog w) A (eqBool (.bytes a t) (.bytes b u)) Q E s := by
  unfold eqBool
  show wpAny _ _ (if (Value.bytes a t == Value.bytes b u) = true then _ else _) Q E s
  by_cases hab : (Value.bytes a t == Value.bytes b u) = true
  · rw [if_pos hab]
    have e : a = b := by have := eq_of_beq hab; injection this
    subst e
    exact wpAny_bind (wpAny_rule (wpAny_pure (by simpa using h)))
  · rw [if_neg hab]
    exact wpAny_bind (richCompare_gives (op := .Eq) (T := "bytes") rfl rfl FB.slot_bytes_eq FB.entry_bytes_eq (FB.args_bytes_eq_2 _ _) (gives_bytes_eq a b t u) (fun x => nomatch x) (wpAny_truthy_bool h))
end

theorem mapNat_inj {a b : Array UInt8} (h : a.map (·.toNat) = b.map (·.toNat)) : a = b := by
  have h' : a.toList.map (·.toNat) = b.toList.map (·.toNat) := by
    have := congrArg Array.toList h
    simpa using this
  have key : ∀ (l m : List UInt8), l.map (·.toNat) = m.map (·.toNat) → l = m := by
    intro l
    induction l with
    | nil => intro m hm; cases m with | nil => rfl | cons => cases hm
    | cons x l ih =>
      intro m hm
      cases m with
      | nil => cases hm
      | cons y m =>
        simp only [List.map_cons, List.cons.injEq] at hm
        rw [ih m hm.2, UInt8.toNat_inj.mp hm.1]
  exact Array.toList_inj.mp (key _ _ h')

noncomputable def bytesKind (prog : Program) (w : World) : KeyKind prog w Str where
  is := isBytesOf
  hash := hashB w
  inj := fun v a b ha hb => by
    obtain ⟨p, t, rfl, h1⟩ := isBytesOf_shape ha
    obtain ⟨q, u, e, h2⟩ := isBytesOf_shape hb
    cases e
    cases a; cases b; simp_all
  byValue := fun k v h => by obtain ⟨b, t, rfl, _⟩ := isBytesOf_shape h; rfl
  «strs» := fun k x t v h => by simp [isBytesOf] at h
  pyHash := fun hv h => by obtain ⟨b, t, rfl, e⟩ := isBytesOf_shape hv; exact pyHash_bytes e h
  eqBool := fun {A E s a b u v Q} hu hv h => by
    obtain ⟨p, t, rfl, h1⟩ := isBytesOf_shape hu
    obtain ⟨q, r, rfl, h2⟩ := isBytesOf_shape hv
    refine eqBool_bytes ?_
    have e : (p.toList == q.toList) = decide (a = b) := by
      by_cases hab : a = b
      · subst hab
        have := mapNat_inj (h1.trans h2.symm)
        subst this
        simp
      · rw [decide_eq_false hab]
        refine beq_eq_false_iff_ne.mpr fun hl => hab ?_
        have hpq := Array.toList_inj.mp hl
        subst hpq
        cases a; cases b; simp_all
    rw [e]; exact h

/- the kind of a path's text: octets or signs -/
noncomputable def knd (prog : Program) (w : World) : Bool → KeyKind prog w Str
  | true => bytesKind prog w
  | false => strKind prog w
end Mine
end
section
set_option maxRecDepth 100000
set_option autoImplicit false
set_option genInjectivity false
set_option genSizeOf false
namespace Mine
open PySem PySem.Calls PySem.Spec PyProof.Rows PySem.W


structure BaseOk (w : World) (B : Heap) : Prop where
  kin : (KK w.params).In B
  top : ∃ p loose mean mg mb, Top p loose mean mg mb B
  mods : ∃ o, B.get? sysModules = some o

/- the values that the proof speaks of -/
inductive V where
  | none | bool (b : Bool) | int (i : Int) | str (s : Str) | bytes (b : Array UInt8) | ref (i : Nat) | raw (v : Value)

noncomputable abbrev Rho := Nat → Option Addr
noncomputable def Rho.le (ρ ρ' : Rho) : Prop := ∀ i a, ρ i = some a → ρ' i = some a
theorem Rho.le_refl (ρ : Rho) : ρ.le ρ := fun _ _ e => e
theorem Rho.le.trans {a b c : Rho} (h : a.le b) (k : b.le c) : a.le c := fun i x e => k i x (h i x e)

noncomputable def VR (ρ : Rho) : V → Value → Prop
  | .none, x => x = .none
  | .bool b, x => x = .bool b
  | .int i, x => ∃ t, x = .int i t
  | .str s, x => ∃ t, x = .str s t
  | .bytes b, x => ∃ t, x = .bytes b t
  | .ref i, x => ∃ a, ρ i = some a ∧ x = .ref a
  | .raw v, x => x = v

theorem VR.mono {ρ ρ' : Rho} (h : ρ.le ρ') : ∀ {v : V} {x : Value}, VR ρ v x → VR ρ' v x
  | .none, _, e | .bool _, _, e | .int _, _, e | .str _, _, e | .bytes _, _, e | .raw _, _, e => e
  | .ref i, _, ⟨a, e, q⟩ => ⟨a, h i a e, q⟩
/- a value of ρ' that was one of ρ already -/
theorem VR.back {ρ ρ' : Rho} (h : ρ.le ρ') : ∀ {v : V} {x y : Value}, VR ρ v y → VR ρ' v x → VR ρ v x
  | .none, _, _, _, e | .bool _, _, _, _, e | .int _, _, _, _, e | .str _, _, _, _, e | .bytes _, _, _, _, e | .raw _, _, _, _, e => e
  | .ref i, _, _, ⟨a, e, _⟩, ⟨a', e', q⟩ => by
    have := h i a e
    rw [this] at e'; cases e'
    exact ⟨a, e, q⟩

noncomputable def LR (ρ : Rho) : List V → List Value → Prop
  | [], [] => True
  | v :: vs, x :: xs => VR ρ v x ∧ LR ρ vs xs
  | _, _ => False
theorem LR.mono {ρ ρ' : Rho} (h : ρ.le ρ') : ∀ {vs : List V} {xs : List Value}, LR ρ vs xs → LR ρ' vs xs
  | [], [], _ => trivial
  | _ :: _, _ :: _, ⟨a, b⟩ => ⟨a.mono h, LR.mono h b⟩
theorem LR.back {ρ ρ' : Rho} (h : ρ.le ρ') : ∀ {vs : List V} {xs ys : List Value}, LR ρ vs ys → LR ρ' vs xs → LR ρ vs xs
  | [], [], _, _, _ => trivial
  | [], _ :: _, _, _, e => e.elim
  | _ :: _, [], _, _, e => e.elim
  | _ :: _, _ :: _, [], e, _ => e.elim
  | _ :: _, _ :: _, _ :: _, ⟨a, b⟩, ⟨c, d⟩ => ⟨VR.back h a c, LR.back h b d⟩
theorem LR.length {ρ : Rho} : ∀ {vs : List V} {xs : List Value}, LR ρ vs xs → vs.length = xs.length
  | [], [], _ => rfl
  | _ :: _, _ :: _, ⟨_, b⟩ => congrArg (· + 1) (LR.length b)
theorem LR.get {ρ : Rho} : ∀ {vs : List V} {xs : List Value}, LR ρ vs xs → ∀ {i : Nat} {v : V}, vs[i]? = some v → ∃ x, xs[i]? = some x ∧ VR ρ v x
  | [], [], _, _, _, e => by cases e
  | v :: vs, x :: xs, ⟨a, b⟩, 0, _, e => by cases e; exact ⟨x, rfl, a⟩
  | v :: vs, x :: xs, ⟨a, b⟩, i + 1, u, e => LR.get b (i := i) (v := u) e
theorem LR.append {ρ : Rho} : ∀ {vs ws : List V} {xs ys : List Value}, LR ρ vs xs → LR ρ ws ys → LR ρ (vs ++ ws) (xs ++ ys)
  | [], _, [], _, _, h => h
  | _ :: _, _, _ :: _, _, ⟨a, b⟩, h => ⟨a, LR.append b h⟩
theorem LR.set {ρ : Rho} {v : V} {x : Value} (hv : VR ρ v x) : ∀ {vs : List V} {xs : List Value} {i : Nat}, LR ρ vs xs → LR ρ (vs.set i v) (xs.set i x)
  | [], [], _, _ => trivial
  | _ :: _, _ :: _, 0, ⟨_, b⟩ => ⟨hv, b⟩
  | _ :: _, _ :: _, _ + 1, ⟨a, b⟩ => ⟨a, LR.set hv b⟩

/- objects -/
inductive O where
  | list (xs : List V)
  | tuple (xs : List V)
  | dict (f : Bool) (es : List (Str × V)) (ep : Nat)
  | set (f : Bool) (S : Str → Bool) (n : Nat)
  | barr (b : Array UInt8)
  | iter (l : Nat) (i : Nat)
  | nextOf (it : Nat)
  | inst (C : Addr) (d : Nat)
  | attrs (es : List (Str × V))
  | slots (C : Addr) (d : Nat) (xs : List (Option V))
  | range (a b c : Int)
  | values (d : Nat)
  | gen (ids : List Nat) (P : List Addr → Obj → Prop)
theorem LR.one {ρ : Rho} {v : V} {ys : List Value} (h : LR ρ [v] ys) : ∃ y, ys = [y] ∧ VR ρ v y := by
  cases ys with
  | nil => exact h.elim
  | cons y ys => cases ys with
    | nil => exact ⟨y, rfl, h.1⟩
    | cons _ _ => exact h.2.elim
theorem LR.two {ρ : Rho} {v u : V} {ys : List Value} (h : LR ρ [v, u] ys) : ∃ y z, ys = [y, z] ∧ VR ρ v y ∧ VR ρ u z := by
  cases ys with
  | nil => exact h.elim
  | cons y ys => obtain ⟨z, rfl, hz⟩ := LR.one h.2; exact ⟨y, z, rfl, h.1, hz⟩
theorem LR.three {ρ : Rho} {v u t : V} {ys : List Value} (h : LR ρ [v, u, t] ys) : ∃ y z x, ys = [y, z, x] ∧ VR ρ v y ∧ VR ρ u z ∧ VR ρ t x := by
  cases ys with
  | nil => exact h.elim
  | cons y ys => obtain ⟨z, x, rfl, hz⟩ := LR.two h.2; exact ⟨y, z, x, rfl, h.1, hz⟩


noncomputable def ER (w : World) (f : Bool) (ρ : Rho) : List (Str × V) → List DictEntry → Prop
  | [], [] => True
  | (k, v) :: es, e :: ds => ((knd PR w f).is k e.key = true ∧ e.hash = (knd PR w f).hash k ∧ VR ρ v e.val) ∧ ER w f ρ es ds
  | _, _ => False
theorem ER.mono {w : World} {f : Bool} {ρ ρ' : Rho} (h : ρ.le ρ') : ∀ {es : List (Str × V)} {ds : List DictEntry}, ER w f ρ es ds → ER w f ρ' es ds := by
  intro es
  induction es with
  | nil => intro ds x; cases ds with
    | nil => trivial
    | cons _ _ => exact x.elim
  | cons p es ih => intro ds x; cases p; cases ds with
    | nil => exact x.elim
    | cons e ds => exact ⟨⟨x.1.1, x.1.2.1, x.1.2.2.mono h⟩, ih x.2⟩
theorem ER.back {w : World} {f : Bool} {ρ ρ' : Rho} (h : ρ.le ρ') : ∀ {es : List (Str × V)} {ds es' : List DictEntry}, ER w f ρ es es' → ER w f ρ' es ds → ER w f ρ es ds
  | [], [], _, _, _ => trivial
  | [], _ :: _, _, _, e => e.elim
  | (_, _) :: _, [], _, _, e => e.elim
  | (_, _) :: _, _ :: _, [], e, _ => e.elim
  | (_, _) :: _, _ :: _, _ :: _, ⟨⟨_, _, c⟩, d⟩, ⟨⟨a', b', c'⟩, d'⟩ => ⟨⟨a', b', VR.back h c c'⟩, ER.back h d d'⟩

noncomputable def OpR (ρ : Rho) : Option V → Option Value → Prop
  | some v, some x => VR ρ v x
  | none, none => True
  | _, _ => False
theorem OpR.mono {ρ ρ' : Rho} (h : ρ.le ρ') : ∀ {v : Option V} {x : Option Value}, OpR ρ v x → OpR ρ' v x
  | some _, some _, a => VR.mono h a
  | none, none, _ => trivial
theorem OpR.back {ρ ρ' : Rho} (h : ρ.le ρ') : ∀ {v : Option V} {x y : Option Value}, OpR ρ v y → OpR ρ' v x → OpR ρ v x
  | some _, some _, some _, a, b => VR.back h a b
  | none, none, _, _, _ => trivial
  | some _, none, _, _, e => e.elim
  | none, some _, _, _, e => e.elim
  | some _, some _, none, e, _ => e.elim
noncomputable def SR (ρ : Rho) : List (Option V) → List (Option Value) → Prop
  | [], [] => True
  | v :: vs, x :: xs => OpR ρ v x ∧ SR ρ vs xs
  | _, _ => False
theorem SR.mono {ρ ρ' : Rho} (h : ρ.le ρ') : ∀ {vs : List (Option V)} {xs : List (Option Value)}, SR ρ vs xs → SR ρ' vs xs
  | [], [], _ => trivial
  | _ :: _, _ :: _, ⟨a, b⟩ => ⟨a.mono h, SR.mono h b⟩
theorem SR.back {ρ ρ' : Rho} (h : ρ.le ρ') : ∀ {vs : List (Option V)} {xs ys : List (Option Value)}, SR ρ vs ys → SR ρ' vs xs → SR ρ vs xs
  | [], [], _, _, _ => trivial
  | [], _ :: _, _, _, e => e.elim
  | _ :: _, [], _, _, e => e.elim
  | _ :: _, _ :: _, [], e, _ => e.elim
  | _ :: _, _ :: _, _ :: _, ⟨a, b⟩, ⟨c, d⟩ => ⟨OpR.back h a c, SR.back h b d⟩

/- the attributes of an object: a dict with texts as keys -/
noncomputable def AttrsAre (ρ : Rho) (es : List (Str × V)) (ds : Array DictEntry) : Prop :=
  StrKeys ds ∧ (∀ x, nsFind ds x = none ↔ es.lookup x = none) ∧ ∀ x v, es.lookup x = some v → ∃ y, nsFind ds x = some y ∧ VR ρ v y

noncomputable def IdsR (ρ : Rho) : List Nat → List Addr → Prop
  | [], [] => True
  | i :: is, a :: as => ρ i = some a ∧ IdsR ρ is as
  | _, _ => False
theorem IdsR.mono {ρ ρ' : Rho} (h : ρ.le ρ') : ∀ {is : List Nat} {as : List Addr}, IdsR ρ is as → IdsR ρ' is as
  | [], [], _ => trivial
  | _ :: _, _ :: _, ⟨a, b⟩ => ⟨h _ _ a, IdsR.mono h b⟩
theorem IdsR.back {ρ ρ' : Rho} (h : ρ.le ρ') : ∀ {is : List Nat} {as as' : List Addr}, IdsR ρ is as' → IdsR ρ' is as → IdsR ρ is as
  | [], [], _, _, _ => trivial
  | i :: is, a :: as, a' :: as', ⟨e', b'⟩, ⟨e, b⟩ => by
    rw [h _ _ e'] at e; cases e
    exact ⟨e', IdsR.back h b' b⟩
  | [], _ :: _, _, _, e => e.elim
  | _ :: _, [], _, _, e => e.elim
  | _ :: _, _ :: _, [], e, _ => e.elim

noncomputable def OR (w : World) (ρ : Rho) : O → Obj → Prop
  | .list xs, o => ∃ vs n, o = { cls := .type "list", data := .seq vs n } ∧ LR ρ xs vs.toList
  | .tuple xs, o => ∃ vs n, o = { cls := .type "tuple", data := .seq vs n } ∧ LR ρ xs vs.toList
  | .dict f es ep, o => o.ExactDict ∧ ∃ ds, o.data = .dict ds ep ∧ ER w f ρ es ds.toList
  | .set f S n, o => o.SetObjOf (knd PR w f) S n
  | .barr b, o => o = { cls := .type "bytearray", data := .bytearray b }
  | .iter l i, o => ∃ a, ρ l = some a ∧ o = { cls := .type "list_iterator", data := .fields #[.ref a, .int i 0] }
  | .nextOf it, o => ∃ a, ρ it = some a ∧ o = { cls := .type "method-wrapper", data := .fields #[.builtin "list_iterator.__next__", .ref a] }
  | .inst C d, o => ∃ a, ρ d = some a ∧ o = { cls := .ref C, dict := some a, data := .plain }
  | .attrs es, o => ∃ ds n, o.data = .dict ds n ∧ ds.size ≤ es.length ∧ AttrsAre ρ es ds
  | .slots C d xs, o => ∃ a sl, ρ d = some a ∧ o = { cls := .ref C, dict := some a, data := .plain, slots := sl } ∧ SR ρ xs sl.toList
  | .range a b c, o => ∃ t u v, o = { cls := .type "range", dict := none, data := .fields #[.int a t, .int b u, .int c v], slots := #[] }
  | .values d, o => ∃ a, ρ d = some a ∧ o.cls = .type "dict_values" ∧ o.data = .fields #[.ref a]
  | .gen ids P, o => ∃ as, IdsR ρ ids as ∧ P as o

theorem OR.mono {w : World} {ρ ρ' : Rho} (h : ρ.le ρ') : ∀ {o : O} {ob : Obj}, OR w ρ o ob → OR w ρ' o ob := by
  intro o ob x
  cases o with
  | list => obtain ⟨vs, n, c, d⟩ := x; exact ⟨vs, n, c, d.mono h⟩
  | tuple => obtain ⟨vs, n, c, d⟩ := x; exact ⟨vs, n, c, d.mono h⟩
  | dict => obtain ⟨a, vs, c, d⟩ := x; exact ⟨a, vs, c, d.mono h⟩
  | set => exact x
  | barr => exact x
  | iter => obtain ⟨a, b, c⟩ := x; exact ⟨a, h _ _ b, c⟩
  | nextOf => obtain ⟨a, b, c⟩ := x; exact ⟨a, h _ _ b, c⟩
  | inst => obtain ⟨a, b, c⟩ := x; exact ⟨a, h _ _ b, c⟩
  | attrs => obtain ⟨ds, n, b, c, k, m, e⟩ := x; exact ⟨ds, n, b, c, k, m, fun x v q => (e x v q).imp fun y p => ⟨p.1, p.2.mono h⟩⟩
  | slots => obtain ⟨a, sl, b, c, d⟩ := x; exact ⟨a, sl, h _ _ b, c, d.mono h⟩
  | range => exact x
  | values => obtain ⟨a, b, c⟩ := x; exact ⟨a, h _ _ b, c⟩
  | gen => obtain ⟨a, b, c⟩ := x; exact ⟨a, b.mono h, c⟩
theorem OR.back {w : World} {ρ ρ' : Rho} (h : ρ.le ρ') : ∀ {o : O} {ob ob' : Obj}, OR w ρ o ob' → OR w ρ' o ob → OR w ρ o ob := by
  intro o ob ob' x y
  cases o with
  | list => obtain ⟨_, _, _, d'⟩ := x; obtain ⟨vs, n, c, d⟩ := y; exact ⟨vs, n, c, LR.back h d' d⟩
  | tuple => obtain ⟨_, _, _, d'⟩ := x; obtain ⟨vs, n, c, d⟩ := y; exact ⟨vs, n, c, LR.back h d' d⟩
  | dict => obtain ⟨_, _, _, d'⟩ := x; obtain ⟨a, vs, c, d⟩ := y; exact ⟨a, vs, c, ER.back h d' d⟩
  | set => exact y
  | barr => exact y
  | iter => obtain ⟨a', b', _⟩ := x; obtain ⟨a, b, c⟩ := y; rw [h _ _ b'] at b; cases b; exact ⟨a', b', c⟩
  | nextOf => obtain ⟨a', b', _⟩ := x; obtain ⟨a, b, c⟩ := y; rw [h _ _ b'] at b; cases b; exact ⟨a', b', c⟩
  | inst => obtain ⟨a', b', _⟩ := x; obtain ⟨a, b, c⟩ := y; rw [h _ _ b'] at b; cases b; exact ⟨a', b', c⟩
  | attrs => obtain ⟨_, _, _, _, _, _, e'⟩ := x; obtain ⟨ds, n, b, c, k, m, e⟩ := y; exact ⟨ds, n, b, c, k, m, fun x v q => by obtain ⟨y, p, r⟩ := e x v q; obtain ⟨_, _, r'⟩ := e' x v q; exact ⟨y, p, VR.back h r' r⟩⟩
  | slots => obtain ⟨a', sl', b', _, d'⟩ := x; obtain ⟨a, sl, b, c, d⟩ := y; rw [h _ _ b'] at b; cases b; exact ⟨a', sl, b', c, SR.back h d' d⟩
  | range => exact y
  | values => obtain ⟨a', b', _⟩ := x; obtain ⟨a, b, c⟩ := y; rw [h _ _ b'] at b; cases b; exact ⟨a', b', c⟩
  | gen => obtain ⟨_, b', _⟩ := x; obtain ⟨a, b, c⟩ := y; exact ⟨a, IdsR.back h b' b, c⟩

/- the state that the proof keeps -/
structure St where
  loc : List (Str × V)
  obj : Nat → Option O
  free : Nat → Prop

noncomputable def lset (x : Str) (v : V) : List (Str × V) → List (Str × V)
  | [] => [(x, v)]
  | (y, u) :: l => if y = x then (x, v) :: l.filter (fun p => p.1 ≠ x) else (y, u) :: lset x v l
theorem mem_lset {x : Str} {v : V} : ∀ {l : List (Str × V)} {p : Str × V}, p ∈ lset x v l → p = (x, v) ∨ (p ∈ l ∧ p.1 ≠ x)
  | [], p, h => by simp [lset] at h; exact .inl h
  | (y, u) :: l, p, h => by
    unfold lset at h
    split at h
    · rename_i e
      rcases List.mem_cons.mp h with h | h
      · exact .inl h
      · have := List.mem_filter.mp h
        exact .inr ⟨.tail _ this.1, by simpa using this.2⟩
    · rename_i e
      rcases List.mem_cons.mp h with h | h
      · subst h; exact .inr ⟨.head _, e⟩
      · rcases mem_lset h with h | ⟨h, n⟩
        · exact .inl h
        · exact .inr ⟨.tail _ h, n⟩

noncomputable def St.set (σ : St) (x : Str) (v : V) : St := { σ with loc := lset x v σ.loc }
noncomputable def St.put (σ : St) (i : Nat) (o : O) : St := { σ with obj := fun j => if j = i then some o else σ.obj j }
noncomputable def St.new (σ : St) (i : Nat) (o : O) : St := { σ with obj := fun j => if j = i then some o else σ.obj j, free := fun j => σ.free j ∧ j ≠ i }
noncomputable def Rho.upd (ρ : Rho) (i : Nat) (a : Addr) : Rho := fun j => if j = i then some a else ρ j

/- what else must stay -/
structure Fm where
  keep : Addr → Option Obj
  dat : Addr → Option Data
  outs : List Env
  s0 : Shared

noncomputable def Own (env : Env) (fm : Fm) (a : Addr) : Prop := fm.keep a = none ∧ fm.dat a = none ∧ a ≠ env.locals ∧ ∀ p ∈ env.cells, p.2 ≠ a

structure FmOk (B : Heap) (env : Env) (A : Around) (fm : Fm) : Prop where
  frs : env.frame = some env.locals → A.frames = some (env :: fm.outs)
  frok : ∀ L, env.frame = some L → L = env.locals ∨ fm.dat L ≠ none
  base : ∀ b o, B.get? b = some o → fm.keep b = some o
  locs : fm.keep env.locals = none ∧ fm.dat env.locals = none
  cels : ∀ p ∈ env.cells, fm.dat p.2 = none ∧ p.2 ≠ env.locals ∧ (env.locals < p.2 → fm.keep p.2 = none)
  dj : ∀ b, fm.keep b ≠ none → fm.dat b = none
  apart : env.cells.Pairwise fun x y => x.2 ≠ y.2
  outs : ∀ e ∈ fm.outs, e.scope.kind ≠ .module ∧ ∃ L d, e.frame = some L ∧ B.get? L = none ∧ fm.dat L = some d ∧ ∀ vs, d ≠ .fields vs

structure Rel (w : World) (env : Env) (fm : Fm) (ρ : Rho) (σ : St) (s : Shared) : Prop where
  same : ∃ h tk, s = { fm.s0 with heap := h, toks := tk }
  keep : ∀ b o, fm.keep b = some o → s.heap.get? b = some o
  dat : ∀ b d, fm.dat b = some d → ∃ o, s.heap.get? b = some o ∧ o.data = d
  ns : ∃ m, s.heap.Ns env.locals m ∧ ∀ p ∈ σ.loc, env.kindOf p.1 = some .local → ∃ x, m p.1 = some x ∧ VR ρ p.2 x
  cel : ∀ p ∈ σ.loc, env.kindOf p.1 ≠ some .local → ∃ c x, env.cells.lookup p.1 = some c ∧ s.heap.IsCell c (some x) ∧ VR ρ p.2 x
  cells : ∀ p ∈ env.cells, ∃ v, s.heap.IsCell p.2 v
  obj : ∀ i o, σ.obj i = some o → ∃ a ob, ρ i = some a ∧ s.heap.get? a = some ob ∧ OR w ρ o ob ∧ Own env fm a
  inj : ∀ i j a, σ.obj i ≠ none → σ.obj j ≠ none → ρ i = some a → ρ j = some a → i = j
  free : ∀ i, σ.free i → ρ i = none

variable {w : World} {env : Env} {fm : Fm} {ρ : Rho} {σ : St} {s : Shared}

theorem IsCell_of {h h' : Heap} {c : Addr} {v : Option Value} (x : h.IsCell c v) (hk : ∀ o, h.get? c = some o → h'.get? c = some o) : h'.IsCell c v :=
  let ⟨o, a, b⟩ := x; ⟨o, hk o a, b⟩

/- nothing that stood has changed -/
theorem Rel.kept (R : Rel w env fm ρ σ s) {h' : Heap} (tk : Nat) (hk : ∀ b o, s.heap.get? b = some o → h'.get? b = some o) : Rel w env fm ρ σ { s with heap := h', toks := tk } where
  same := let ⟨_, _, e⟩ := R.same; ⟨h', tk, by rw [e]⟩
  keep := fun b o e => hk b o (R.keep b o e)
  dat := fun b d e => let ⟨o, a, q⟩ := R.dat b d e; ⟨o, hk b o a, q⟩
  ns := let ⟨m, a, q⟩ := R.ns; ⟨m, a.keeps hk, q⟩
  cel := fun p hp n => let ⟨c, x, a, b, q⟩ := R.cel p hp n; ⟨c, x, a, b.keeps hk, q⟩
  cells := fun p hp => let ⟨v, a⟩ := R.cells p hp; ⟨v, a.keeps hk⟩
  obj := fun i o e => let ⟨a, ob, p, q, r⟩ := R.obj i o e; ⟨a, ob, p, hk a ob q, r⟩
  inj := R.inj
  free := R.free
theorem Rel.tok (R : Rel w env fm ρ σ s) (tk : Nat) : Rel w env fm ρ σ { s with toks := tk } := R.kept (h' := s.heap) tk fun _ _ e => e

/- less is known -/
structure St.le (σ' σ : St) : Prop where
  loc : ∀ p ∈ σ'.loc, p ∈ σ.loc
  obj : ∀ i o, σ'.obj i = some o → σ.obj i = some o
  free : ∀ i, σ'.free i → σ.free i
theorem St.le.rfl {σ : St} : σ.le σ := ⟨fun _ h => h, fun _ _ h => h, fun _ h => h⟩
theorem Rel.weaken {σ' : St} (R : Rel w env fm ρ σ s) (h : σ'.le σ) : Rel w env fm ρ σ' s where
  same := R.same
  keep := R.keep
  dat := R.dat
  ns := let ⟨m, a, q⟩ := R.ns; ⟨m, a, fun p hp => q p (h.loc p hp)⟩
  cel := fun p hp => R.cel p (h.loc p hp)
  cells := R.cells
  obj := fun i o e => R.obj i o (h.obj i o e)
  inj := fun i j a hi hj => by
    refine R.inj i j a (fun e => hi ?_) fun e => hj ?_
    · cases q : σ'.obj i with
      | none => rfl
      | some o => rw [h.obj i o q] at e; cases e
    · cases q : σ'.obj j with
      | none => rfl
      | some o => rw [h.obj j o q] at e; cases e
  free := fun i hi => R.free i (h.free i hi)

/- an address that no object of the heap has is nobody's -/
theorem Rel.newOwn (R : Rel w env fm ρ σ s) {a : Addr} (ha : s.heap.get? a = none) : Own env fm a := by
  refine ⟨?_, ?_, ?_, ?_⟩
  · cases q : fm.keep a with
    | none => rfl
    | some o => rw [R.keep a o q] at ha; cases ha
  · cases q : fm.dat a with
    | none => rfl
    | some d => obtain ⟨o, e, _⟩ := R.dat a d q; rw [e] at ha; cases ha
  · rintro rfl
    obtain ⟨m, ⟨o, _, _, e, _⟩, _⟩ := R.ns
    rw [e] at ha; cases ha
  · rintro p hp rfl
    obtain ⟨v, o, e, _⟩ := R.cells p hp
    rw [e] at ha; cases ha

theorem Rho.le_upd {ρ : Rho} {i : Nat} {a : Addr} (h : ρ i = none) : ρ.le (ρ.upd i a) := fun j b e => by
  unfold Rho.upd
  split
  · rename_i q; subst q; rw [h] at e; cases e
  · exact e

/- a new object -/
theorem Rel.new (R : Rel w env fm ρ σ s) {i : Nat} {a : Addr} {o : O} {ob : Obj} {h' : Heap} (tk : Nat) (hi : σ.free i) (hk : ∀ b o, s.heap.get? b = some o → h'.get? b = some o)
    (ha : s.heap.get? a = none) (ho : h'.get? a = some ob) (hO : OR w (ρ.upd i a) o ob) : ρ.le (ρ.upd i a) ∧ Rel w env fm (ρ.upd i a) (σ.new i o) { s with heap := h', toks := tk } := by
  have hle : ρ.le (ρ.upd i a) := Rho.le_upd (R.free i hi)
  have R' := R.kept tk hk
  refine ⟨hle, R'.same, R'.keep, R'.dat, ?_, ?_, R'.cells, ?_, ?_, ?_⟩
  · obtain ⟨m, p, q⟩ := R'.ns
    exact ⟨m, p, fun x hx hl => let ⟨y, e, v⟩ := q x hx hl; ⟨y, e, v.mono hle⟩⟩
  · intro p hp n
    obtain ⟨c, x, e, f, v⟩ := R'.cel p hp n
    exact ⟨c, x, e, f, v.mono hle⟩
  · intro j o' e
    have e' : (if j = i then some o else σ.obj j) = some o' := e
    by_cases hj : j = i
    · subst hj
      rw [if_pos rfl] at e'; cases e'
      exact ⟨a, ob, by simp [Rho.upd], ho, hO, R.newOwn ha⟩
    · rw [if_neg hj] at e'
      obtain ⟨b, ob', p, q, r, t⟩ := R'.obj j o' e'
      exact ⟨b, ob', hle _ _ p, q, r.mono hle, t⟩
  · intro j k b hj hk' ej ek
    have old : ∀ l, l ≠ i → (σ.new i o).obj l ≠ none → ∃ b, ρ l = some b ∧ b ≠ a := by
      intro l hl hn
      have hn' : (if l = i then some o else σ.obj l) ≠ none := hn
      rw [if_neg hl] at hn'
      cases q : σ.obj l with
      | none => exact absurd q hn'
      | some o' =>
        obtain ⟨b, ob', p, g, _⟩ := R.obj l o' q
        refine ⟨b, p, ?_⟩
        rintro rfl
        rw [g] at ha; cases ha
    by_cases h1 : j = i <;> by_cases h2 : k = i
    · rw [h1, h2]
    · obtain ⟨b', p, n⟩ := old k h2 hk'
      have : (ρ.upd i a) j = some a := by simp [Rho.upd, h1]
      rw [this] at ej; cases ej
      rw [hle _ _ p] at ek; cases ek
      exact absurd rfl n
    · obtain ⟨b', p, n⟩ := old j h1 hj
      have : (ρ.upd i a) k = some a := by simp [Rho.upd, h2]
      rw [this] at ek; cases ek
      rw [hle _ _ p] at ej; cases ej
      exact absurd rfl n
    · have hj' : (if j = i then some o else σ.obj j) ≠ none := hj
      have hk'' : (if k = i then some o else σ.obj k) ≠ none := hk'
      rw [if_neg h1] at hj'
      rw [if_neg h2] at hk''
      obtain ⟨b1, p1, _⟩ := old j h1 hj
      obtain ⟨b2, p2, _⟩ := old k h2 hk'
      have e1 := hle _ _ p1
      have e2 := hle _ _ p2
      rw [ej] at e1; rw [ek] at e2
      cases e1; cases e2
      exact R.inj j k b hj' hk'' p1 p2
  · rintro j ⟨hf, hn⟩
    show (if j = i then some a else ρ j) = none
    rw [if_neg hn]
    exact R.free j hf

/- an object is changed -/
theorem Rel.put (R : Rel w env fm ρ σ s) {i : Nat} {a : Addr} {o₀ o : O} {ob : Obj} {h' : Heap} (tk : Nat) (hi : σ.obj i = some o₀) (hρ : ρ i = some a) (hs : Heap.ExtBut a s.heap h')
    (ho : h'.get? a = some ob) (hO : OR w ρ o ob) : Rel w env fm ρ (σ.put i o) { s with heap := h', toks := tk } := by
  obtain ⟨a', ob', p, q, r, own⟩ := R.obj i o₀ hi
  rw [hρ] at p; cases p
  refine ⟨let ⟨_, _, e⟩ := R.same; ⟨h', tk, by rw [e]⟩, fun b x e => hs b x ?_ (R.keep b x e), fun b d e => ?_, ?_, ?_, ?_, ?_, ?_, R.free⟩
  · rintro rfl; rw [own.1] at e; cases e
  · obtain ⟨x, g, hd⟩ := R.dat b d e
    exact ⟨x, hs b x (by rintro rfl; rw [own.2.1] at e; cases e) g, hd⟩
  · obtain ⟨m, n, q'⟩ := R.ns
    exact ⟨m, n.extBut hs (Ne.symm own.2.2.1), q'⟩
  · intro p hp n
    obtain ⟨c, x, e, f, v⟩ := R.cel p hp n
    exact ⟨c, x, e, IsCell_of f fun y => hs c y (own.2.2.2 (p.1, c) (mem_of_lookup e)), v⟩
  · intro p hp
    obtain ⟨v, f⟩ := R.cells p hp
    exact ⟨v, IsCell_of f fun y => hs p.2 y (own.2.2.2 p hp)⟩
  · intro j o' e
    have e' : (if j = i then some o else σ.obj j) = some o' := e
    by_cases hj : j = i
    · subst hj
      rw [if_pos rfl] at e'; cases e'
      exact ⟨a, ob, hρ, ho, hO, own⟩
    · rw [if_neg hj] at e'
      obtain ⟨b, ob₂, p, g, r', own'⟩ := R.obj j o' e'
      refine ⟨b, ob₂, p, hs b ob₂ ?_ g, r', own'⟩
      rintro rfl
      exact hj (R.inj j i b (by rw [e']; exact fun h => nomatch h) (by rw [hi]; exact fun h => nomatch h) p hρ)
  · intro j k b hj hk
    have nn : ∀ l, (σ.put i o).obj l ≠ none → σ.obj l ≠ none := by
      intro l hl
      have hl' : (if l = i then some o else σ.obj l) ≠ none := hl
      by_cases h : l = i
      · rw [h, hi]; exact fun h => nomatch h
      · rwa [if_neg h] at hl'
    exact R.inj j k b (nn j hj) (nn k hk)

/- a local name is bound -/
theorem Rel.setLocal {B : Heap} {A : Around} (R : Rel w env fm ρ σ s) (O : FmOk B env A fm) {x : Str} {v : V} {y : Value} {m : Str → Option Value} {h' : Heap} (tk : Nat) (hm : s.heap.Ns env.locals m)
    (hv : VR ρ v y) (hn : h'.Ns env.locals (fun z => if z = x then some y else m z)) (hs : Heap.SameBut env.locals s.heap h') (hx : env.kindOf x = some .local) :
    Rel w env fm ρ (σ.set x v) { s with heap := h', toks := tk } := by
  have cne : ∀ p ∈ env.cells, p.2 ≠ env.locals := by
    rintro p hp e
    obtain ⟨_, o, g, d⟩ := R.cells p hp
    obtain ⟨o', es, ep, g', d', _⟩ := hm
    rw [e, g'] at g; cases g
    rw [d'] at d; cases d
  refine ⟨let ⟨_, _, e⟩ := R.same; ⟨h', tk, by rw [e]⟩, fun b z e => ?_, fun b d e => ?_, ?_, ?_, ?_, ?_, R.inj, R.free⟩
  · refine (hs.2 b ?_).trans (R.keep b z e)
    rintro rfl; rw [O.locs.1] at e; cases e
  · obtain ⟨z, g, hd⟩ := R.dat b d e
    exact ⟨z, (hs.2 b (by rintro rfl; rw [O.locs.2] at e; cases e)).trans g, hd⟩
  · refine ⟨_, hn, fun p hp hl => ?_⟩
    rcases mem_lset hp with e | ⟨h1, h2⟩
    · subst e; exact ⟨y, by simp, hv⟩
    · obtain ⟨m₀, n₀, q₀⟩ := R.ns
      obtain ⟨z, e, v'⟩ := q₀ p h1 hl
      have em : m₀ p.1 = m p.1 := by
        obtain ⟨o, es, ep, g, d, _, f⟩ := n₀
        obtain ⟨o', es', ep', g', d', _, f'⟩ := hm
        rw [g] at g'; cases g'
        rw [d] at d'; cases d'
        rw [← f, ← f']
      refine ⟨z, ?_, v'⟩
      show (if p.1 = x then some y else m p.1) = some z
      rw [if_neg h2, ← em, e]
  · intro p hp hl
    rcases mem_lset hp with e | ⟨h1, h2⟩
    · subst e; exact absurd hx hl
    · obtain ⟨c, z, e, f, v'⟩ := R.cel p h1 hl
      exact ⟨c, z, e, IsCell_of f fun o g => (hs.2 c (cne (p.1, c) (mem_of_lookup e))).trans g, v'⟩
  · intro p hp
    obtain ⟨v', f⟩ := R.cells p hp
    exact ⟨v', IsCell_of f fun o g => (hs.2 p.2 (cne p hp)).trans g⟩
  · intro i o e
    obtain ⟨a, ob, p, g, r, own⟩ := R.obj i o e
    exact ⟨a, ob, p, (hs.2 a own.2.2.1).trans g, r, own⟩

theorem cell_name {α : Type} {x y : Str} {c : α} : ∀ {l : List (Str × α)}, l.Pairwise (fun p q => p.2 ≠ q.2) → (x, c) ∈ l → (y, c) ∈ l → x = y := by
  intro l
  induction l with
  | nil => intro _ h; cases h
  | cons p l ih =>
    intro hp h1 h2
    obtain ⟨hp1, hp2⟩ := List.pairwise_cons.mp hp
    rcases List.mem_cons.mp h1 with e1 | h1 <;> rcases List.mem_cons.mp h2 with e2 | h2
    · rw [← e1] at e2; cases e2; rfl
    · exact absurd (by rw [← e1]) (hp1 _ h2)
    · exact absurd (by rw [← e2]) (hp1 _ h1)
    · exact ih hp2 h1 h2

/- a name that inner blocks see is bound -/
theorem Rel.setCell {B : Heap} {A : Around} (R : Rel w env fm ρ σ s) (O : FmOk B env A fm) {x : Str} {v : V} {y : Value} {c : Addr} {h' : Heap} (tk : Nat)
    (hv : VR ρ v y) (hc : env.cells.lookup x = some c) (hn : h'.IsCell c (some y)) (hs : Heap.SameBut c s.heap h') (hx : env.kindOf x = some .cell) (hfn : env.locals < c) :
    Rel w env fm ρ (σ.set x v) { s with heap := h', toks := tk } := by
  have hmem := mem_of_lookup hc
  obtain ⟨k2, k3, k1⟩ := O.cels (x, c) hmem
  have k1 := k1 hfn
  dsimp only at k1 k2 k3
  refine ⟨let ⟨_, _, e⟩ := R.same; ⟨h', tk, by rw [e]⟩, fun b z e => ?_, fun b d e => ?_, ?_, ?_, ?_, ?_, R.inj, R.free⟩
  · refine (hs.2 b ?_).trans (R.keep b z e)
    rintro rfl; rw [k1] at e; cases e
  · obtain ⟨z, g, hd⟩ := R.dat b d e
    exact ⟨z, (hs.2 b (by rintro rfl; rw [k2] at e; cases e)).trans g, hd⟩
  · obtain ⟨m₀, n₀, q₀⟩ := R.ns
    refine ⟨m₀, n₀.sameBut hs (Ne.symm k3), fun p hp hl => ?_⟩
    rcases mem_lset hp with e | ⟨h1, h2⟩
    · subst e; rw [hx] at hl; cases hl
    · exact q₀ p h1 hl
  · intro p hp hl
    rcases mem_lset hp with e | ⟨h1, h2⟩
    · subst e; exact ⟨c, y, hc, hn, hv⟩
    · obtain ⟨c', z, e, f, v'⟩ := R.cel p h1 hl
      refine ⟨c', z, e, IsCell_of f fun o g => (hs.2 c' ?_).trans g, v'⟩
      rintro rfl
      exact h2 (cell_name O.apart (mem_of_lookup e) hmem)
  · intro p hp
    by_cases hpc : p.2 = c
    · exact ⟨_, by rw [hpc]; exact hn⟩
    · obtain ⟨v', f⟩ := R.cells p hp
      exact ⟨v', IsCell_of f fun o g => (hs.2 p.2 hpc).trans g⟩
  · intro i o e
    obtain ⟨a, ob, p, g, r, own⟩ := R.obj i o e
    exact ⟨a, ob, p, (hs.2 a (Ne.symm (own.2.2.2 (x, c) hmem))).trans g, r, own⟩

end Mine
end
section
set_option maxRecDepth 100000
set_option autoImplicit false
namespace Mine
open PySem PySem.Calls PySem.Spec PyProof.Rows PySem.W
open Sem (wp)

/- a built-in that may hold a buffer -/
noncomputable def isDec : Code → Bool
  | .builtin id _ => Builtin.Bytes.decodersThatHold.contains id
  | _ => false
noncomputable def Nod (l : List (Code × Pos)) : Prop := ∀ c ∈ l, isDec c.1 = false
noncomputable def GI (g : Bool) (Γ : PySem.Ctx) : Prop := g = true → isDec Γ.code = false ∧ Nod Γ.below
noncomputable def GB (g : Bool) (Γ : PySem.Ctx) : Prop := g = true → Nod Γ.below
theorem GB.gi {g : Bool} {Γ : PySem.Ctx} (h : GB g Γ) (hc : isDec Γ.code = false) : GI g Γ := fun e => ⟨hc, h e⟩
theorem GI.enter {g : Bool} {Γ : PySem.Ctx} (h : GI g Γ) (c : Code) (hd : Option Value) (p : Pos) : GB g (Γ.enter c hd p) := fun e x hx => by
  have hx' : x ∈ (Γ.code, p) :: Γ.below := hx
  rcases List.mem_cons.mp hx' with rfl | hx'
  · exact (h e).1
  · exact (h e).2 x hx'

noncomputable def wpG {α : Type} (g : Bool) (M : Model) (A : Around) (t : Sem α) (Q : α → Shared → Prop) (E : Value → Shared → Prop) (s : Shared) : Prop :=
  ∀ Γ p, Γ.In A → GI g Γ → wp M Γ t (fun a _ s' => Q a s') (fun e _ s' => E e s') p s
noncomputable def codeG (g : Bool) (M : Model) (A : Around) (c : Code) (R : Result → Shared → Prop) (s : Shared) : Prop :=
  ∀ Γ p, Γ.code = c → Γ.Below A → GB g Γ → wpCode M Γ R p s

section
variable {g : Bool} {α β : Type} {M : Model} {A : Around} {E : Value → Shared → Prop} {s : Shared} {env : Env}

theorem wpG_of {t : Sem α} {Q : α → Shared → Prop} (h : wpAny M A t Q E s) : wpG g M A t Q E s := fun Γ p hΓ _ => h Γ p hΓ
theorem wpG_any {t : Sem α} {Q : α → Shared → Prop} (h : wpG false M A t Q E s) : wpAny M A t Q E s := fun Γ p hΓ => h Γ p hΓ fun e => by cases e
theorem wpG_up {t : Sem α} {Q : α → Shared → Prop} (h : wpG false M A t Q E s) : wpG g M A t Q E s := wpG_of (wpG_any h)
theorem codeG_of {c : Code} {R : Result → Shared → Prop} (h : codeAny M A c R s) : codeG g M A c R s := fun Γ p hc hΓ _ => h Γ p hc hΓ
theorem codeG_any {c : Code} {R : Result → Shared → Prop} (h : codeG false M A c R s) : codeAny M A c R s := fun Γ p hc hΓ => h Γ p hc hΓ fun e => by cases e
theorem wpG_pure {a : α} {Q : α → Shared → Prop} (h : Q a s) : wpG g M A (pure a) Q E s := fun _ _ _ _ => h
theorem wpG_mono {t : Sem α} {Q Q' : α → Shared → Prop} {E' : Value → Shared → Prop} (h : wpG g M A t Q E s)
    (hQ : ∀ a s, Q a s → Q' a s) (hE : ∀ e s, E e s → E' e s) : wpG g M A t Q' E' s :=
  fun Γ p hΓ hg => Sem.wp_mono M Γ t (fun a _ s => hQ a s) (fun e _ s => hE e s) p s (h Γ p hΓ hg)
theorem wpG_bind {m : Sem α} {f : α → Sem β} {Q : β → Shared → Prop} (h : wpG g M A m (fun a s' => wpG g M A (f a) Q E s') E s) :
    wpG g M A (m >>= f) Q E s := fun Γ p hΓ hg => by
  rw [Sem.wp_bind']
  exact Sem.wp_mono M Γ m (fun a p' s' h' => h' Γ p' hΓ hg) (fun _ _ _ h' => h') p s (h Γ p hΓ hg)
theorem wpG_holding {vs : List Value} {m : Sem α} {Q : α → Shared → Prop} (h : wpG g M A m Q E s) : wpG g M A (holding vs m) Q E s :=
  fun Γ p hΓ hg => by rw [Sem.wp_holding]; exact h Γ p hΓ hg
theorem wpG_standAt {pos : Pos} {Q : Unit → Shared → Prop} (h : Q () s) : wpG g M A (standAt pos) Q E s := fun _ _ _ _ => h
theorem wpG_point {Q : Unit → Shared → Prop} (h : Q () s) : wpG g M A point Q E s := fun _ _ _ _ => h
theorem wpG_of_eq {t t' : Sem α} {Q : α → Shared → Prop} (e : t = t') (h : wpG g M A t' Q E s) : wpG g M A t Q E s := e ▸ h
theorem wpG_keep {vs : List Value} {m : Sem α} {Q : α → Shared → Prop} (h : wpG g M A m Q E s) : wpG g M A (m.keep vs) Q E s := fun Γ p hΓ hg => by
  rw [Sem.wp_keep]; exact h Γ p hΓ hg
/- what does not raise needs no handler -/
theorem wpG_onRaise {m : Sem α} {k : Value → Sem Unit} {Q : α → Shared → Prop} (h : wpG g M A m Q (fun _ _ => False) s) : wpG g M A (m.onRaise k) Q E s := fun Γ p hΓ hg => by
  rw [Sem.wp_onRaise]
  exact Sem.wp_mono M Γ m (fun _ _ _ h' => h') (fun e p' s' h' => h'.elim) p s (h Γ p hΓ hg)
theorem wpG_run {c : Code} {Q : Flow → Shared → Prop}
    (hc : codeG g M A c (fun r s' => match r with | .ok f => Q f s' | .error e => E e s') s) : wpG g M A (run c) Q E s :=
  fun Γ p hΓ hg => by rw [Sem.wp_run]; exact hc _ p rfl (hΓ.enter c none p (by intro x; cases x)) (hg.enter c none p)
theorem wpG_call {f : Value} {pos : List Value} {kw : List (Str × Value)} {Q : Value → Shared → Prop}
    (hc : codeG g M A (.call f ⟨pos, kw⟩) (fun r s' => match r with | .ok (.ret v) => Q v s' | .ok _ => False | .error e => E e s') s) :
    wpG g M A (call f pos kw) Q E s := fun Γ p hΓ hg => by
  show wp M Γ (runValue (.call f ⟨pos, kw⟩)) _ _ p s
  rw [Sem.wp_runValue]; exact hc _ p rfl (hΓ.enter _ none p (by intro x; cases x)) (hg.enter _ none p)
theorem codeG_of_tree {c : Code} {R : Result → Shared → Prop} (hn : isDec c = false)
    (h : wpG g M (A.under c) (M.den c) (fun fin s' => match fin with | .done f => R (.ok f) s' | .again c' => c'.quiet = true ∧ codeG g M A c' R s')
      (fun e s' => R (.error e) s') s) : codeG g M A c R s := fun Γ p hc hΓ hg => by
  rw [wpCode_iff_wp, hc]
  refine Sem.wp_mono M Γ _ (fun fin p' s' h' => ?_) (fun _ _ _ h' => h') p s (h Γ p (hc ▸ hΓ.in) (hg.gi (hc ▸ hn)))
  cases fin with
  | done f => exact h'
  | again c' => exact ⟨h'.1, h'.2 (Γ.goto c') p' rfl (hΓ.goto c') hg⟩
theorem codeG_loop {c : Code} {R : Result → Shared → Prop} (hn : isDec c = false) (hq : c.quiet = true) (I : Nat → Shared → Prop)
    (turn : ∀ n s, I n s → wpG g M (A.under c) (M.den c)
      (fun fin s' => match fin with
        | .done f => R (.ok f) s'
        | .again c' => (c' = c ∧ ∃ m, m < n ∧ I m s') ∨ (c'.quiet = true ∧ codeG g M A c' R s')) (fun e s' => R (.error e) s') s)
    (n : Nat) (h : I n s) : codeG g M A c R s := by
  induction n using Nat.strongRecOn generalizing s with
  | ind n ih =>
    refine codeG_of_tree hn (wpG_mono (turn n s h) (fun fin s' hf => ?_) fun _ _ h' => h')
    cases fin with
    | done f => exact hf
    | again c' =>
      rcases hf with ⟨rfl, m, hm, hI⟩ | hf
      · exact ⟨hq, ih m hm hI⟩
      · exact hf

theorem wpG_execs_cons {st rest} {Q : Flow → Shared → Prop}
    (h : wpG g M A (exec st env) (fun f s' => match f with | .next => wpG g M A (execs rest env) Q E s' | f => Q f s') E s) :
    wpG g M A (execs (st :: rest) env) Q E s := fun Γ p hΓ hg => by
  rw [execs_cons, Sem.wp_bind']
  refine Sem.wp_mono M Γ _ (fun f p' s' h' => ?_) (fun _ _ _ h' => h') _ _ (h Γ p hΓ hg)
  cases f <;> first | exact h' Γ p' hΓ hg | exact h'
theorem wpG_Assign_Name {x pos' value pos} {Q : Flow → Shared → Prop}
    (h : wpG g M A (eval value env) (fun v s₁ => wpG g M A (storeName env x v) (fun _ => Q .next) E s₁) E s)
    (hs : swapsWith value (some (.Name x pos')) pos.line env = pure false := by rfl) :
    wpG g M A (exec (.Assign [.Name x pos'] value pos) env) Q E s := fun Γ p hΓ hg => by
  simp only [exec_Assign_Name env x pos' value pos hs, Sem.wp_bind', Sem.wp_cmd_standAt, Sem.wp_bindName, Sem.wp_pure']
  exact Sem.wp_mono M Γ _ (fun v _ s₁ h₁ => h₁ Γ _ hΓ hg) (fun _ _ _ h' => h') _ _ (h Γ _ hΓ hg)
theorem wpG_If {test body orelse pos} {Q : Flow → Shared → Prop}
    (h : wpG g M A (isTrue test env (eval test env))
      (fun b s₂ => if b then wpG g M A (execs body env) Q E s₂ else wpG g M A (execs orelse env) Q E s₂) E s) :
    wpG g M A (exec (.If test body orelse pos) env) Q E s := fun Γ p hΓ hg => by
  simp only [exec_If, Sem.wp_bind', Sem.wp_cmd_standAt]
  refine Sem.wp_mono M Γ _ (fun b p₂ s₂ h₂ => ?_) (fun _ _ _ h' => h') _ _ (h Γ _ hΓ hg)
  cases b <;> exact h₂ Γ p₂ hΓ hg
theorem wpG_Compare1 {l op r pos} {Q : Value → Shared → Prop}
    (h : wpG g M A (eval l env) (fun a s₁ => wpG g M A (eval r env) (fun b s₂ => wpG g M A (compareOp op a b) Q E s₂) E s₁) E s)
    (hm : behindInMarks op r = false) :
    wpG g M A (eval (.Compare l [op] [r] pos) env) Q E s := fun Γ p hΓ hg => by
  simp only [eval_Compare1, markedBehindIn_of_false hm, Sem.wp_bind', Sem.wp_holding, Sem.wp_cmd_standAt, Sem.wp_operate]
  exact Sem.wp_mono M Γ _ (fun a p₁ s₁ h₁ => Sem.wp_mono M Γ _ (fun b _ s₂ h₂ => h₂ Γ _ hΓ hg) (fun _ _ _ h' => h') _ _ (h₁ Γ p₁ hΓ hg))
    (fun _ _ _ h' => h') _ _ (h Γ p hΓ hg)
theorem wpG_isTrue_Compare1 {l op r pos whole} {Q : Bool → Shared → Prop}
    (h : wpG g M A (eval l env) (fun a s₁ => wpG g M A (eval r env) (fun b s₂ => wpG g M A (compareOp op a b)
      (fun c s₃ => wpG g M A (truthy c) Q E s₃) E s₂) E s₁) E s)
    (hm : behindInMarks op r = false) : wpG g M A (isTrue (.Compare l [op] [r] pos) env whole) Q E s := fun Γ p hΓ hg => by
  simp only [isTrue_Compare1, markedBehindIn_of_false hm, Sem.wp_bind', Sem.wp_holding, Sem.wp_cmd_standAt, Sem.wp_operate]
  exact Sem.wp_mono M Γ _ (fun a p₁ s₁ h₁ => Sem.wp_mono M Γ _ (fun b _ s₂ h₂ => Sem.wp_mono M Γ _ (fun c p₃ s₃ h₃ => h₃ Γ p₃ hΓ hg)
    (fun _ _ _ h' => h') _ _ (h₂ Γ _ hΓ hg)) (fun _ _ _ h' => h') _ _ (h₁ Γ p₁ hΓ hg)) (fun _ _ _ h' => h') _ _ (h Γ p hΓ hg)
theorem wpG_BinOp {l op r pos} {Q : Value → Shared → Prop}
    (h : wpG g M A (eval l env) (fun a s₁ => wpG g M A (eval r env) (fun b s₂ => wpG g M A (binaryOp op a b) Q E s₂) E s₁) E s) :
    wpG g M A (eval (.BinOp l op r pos) env) Q E s := fun Γ p hΓ hg => by
  simp only [eval_BinOp, Sem.wp_bind', Sem.wp_holding, Sem.wp_cmd_standAt, Sem.wp_operate]
  exact Sem.wp_mono M Γ _ (fun a p₁ s₁ h₁ => Sem.wp_mono M Γ _ (fun b _ s₂ h₂ => h₂ Γ _ hΓ hg) (fun _ _ _ h' => h') _ _ (h₁ Γ p₁ hΓ hg))
    (fun _ _ _ h' => h') _ _ (h Γ p hΓ hg)
theorem wpG_UnaryOp {op : UnaryOp} {x : Expr} {pos : Pos} {Q : Value → Shared → Prop} (h : wpG g M A (eval x env) (fun v s₁ => wpG g M A (unaryOp op v) Q E s₁) E s) :
    wpG g M A (eval (.UnaryOp op x pos) env) Q E s := by
  rw [arm_eval_UnaryOp]
  exact wpG_bind (wpG_mono h (fun v s₁ h₁ => wpG_bind (wpG_standAt (wpG_holding h₁))) fun _ _ x => x)
theorem wpG_isTrue_value {e : Expr} {whole : Sem Value} {Q : Bool → Shared → Prop} (h : wpG g M A whole (fun v s₁ => wpG g M A (truthy v) Q E s₁) E s)
    (he : isTrue e env whole = (do let v ← whole; standAt e.pos; holding [v] (truthy v))) : wpG g M A (isTrue e env whole) Q E s := by
  rw [he]
  exact wpG_bind (wpG_mono h (fun v s₁ h₁ => wpG_bind (wpG_standAt (wpG_holding h₁))) fun _ _ x => x)
theorem wpG_isTrue_BoolOp {op : BoolOp} {values : List Expr} {pos : Pos} {whole : Sem Value} {Q : Bool → Shared → Prop} (h : wpG g M A (allTrue op values env) Q E s) :
    wpG g M A (isTrue (.BoolOp op values pos) env whole) Q E s := by rw [arm_isTrue_BoolOp]; exact h
theorem wpG_isTrue_Not {x : Expr} {pos : Pos} {whole : Sem Value} {Q : Bool → Shared → Prop} (h : wpG g M A (isTrue x env (eval x env)) (fun b s₁ => Q (!b) s₁) E s) :
    wpG g M A (isTrue (.UnaryOp .Not x pos) env whole) Q E s := by
  rw [arm_isTrue_UnaryOp]
  exact wpG_bind (wpG_mono h (fun b s₁ h₁ => wpG_pure h₁) fun _ _ x => x)
theorem wpG_allTrue_And_cons {x : Expr} {rest : List Expr} {Q : Bool → Shared → Prop}
    (h : wpG g M A (isTrue x env (eval x env)) (fun b s₁ => if b then wpG g M A (allTrue .And rest env) Q E s₁ else Q false s₁) E s) : wpG g M A (allTrue .And (x :: rest) env) Q E s := by
  show wpG g M A (do match BoolOp.And, ← isTrue x env (eval x env) with | .And, false => pure false | .Or, true => pure true | _, _ => allTrue .And rest env) Q E s
  refine wpG_bind (wpG_mono h (fun b s₁ h₁ => ?_) fun _ _ x => x)
  cases b
  · exact wpG_pure h₁
  · exact h₁
theorem wpG_allTrue_Or_cons {x : Expr} {rest : List Expr} {Q : Bool → Shared → Prop}
    (h : wpG g M A (isTrue x env (eval x env)) (fun b s₁ => if b then Q true s₁ else wpG g M A (allTrue .Or rest env) Q E s₁) E s) : wpG g M A (allTrue .Or (x :: rest) env) Q E s := by
  show wpG g M A (do match BoolOp.Or, ← isTrue x env (eval x env) with | .And, false => pure false | .Or, true => pure true | _, _ => allTrue .Or rest env) Q E s
  refine wpG_bind (wpG_mono h (fun b s₁ h₁ => ?_) fun _ _ x => x)
  cases b
  · exact h₁
  · exact wpG_pure h₁
theorem wpG_Return_some {e pos} {Q : Flow → Shared → Prop} (h : wpG g M A (eval e env) (fun v => Q (.ret v)) E s) :
    wpG g M A (exec (.Return (some e) pos) env) Q E s := fun Γ p hΓ hg => by
  simp only [exec_Return_some, Sem.wp_bind', Sem.wp_cmd_standAt, Sem.wp_pure']; exact h Γ _ hΓ hg
theorem wpG_assign_Name {x pos v} {Q : Unit → Shared → Prop} (h : wpG g M A (storeName env x v) Q E s) :
    wpG g M A (assign (.Name x pos) env v) Q E s := by
  rw [PySem.assign_Name]; exact wpG_bind (wpG_standAt fun Γ p hΓ hg => by rw [Sem.wp_bindName]; exact h Γ p hΓ hg)
end

section
variable {g : Bool} {prog : Program} {w : World} {A : Around} {E : Value → Shared → Prop} {s : Shared} {env : Env}
theorem wpG_Expr_any {e pos} {Q : Flow → Shared → Prop} (h : wpG g (model prog w) A (eval e env) (fun _ => Q .next) E s)
    (hi : interactive env = false) (hs : swapsWith e none pos.line env = pure false) :
    wpG g (model prog w) A (exec (.Expr e pos) env) Q E s := by
  rw [exec_Expr env e pos hi hs]
  exact wpG_bind (wpG_standAt (wpG_bind (wpG_mono h (fun v s' h' => wpG_of (wpAny_dropValue h')) fun _ _ x => x)))
theorem codeG_forLoop {R : Result → Shared → Prop} {target it body orelse} (I : Nat → Shared → Prop)
    (turn : ∀ n s, I n s → wpG g (model prog w) A (pyNext it) (fun r s₁ => match r with
      | none => wpG g (model prog w) A (execs orelse env) (fun f s₃ => R (.ok f) s₃) (fun _ _ => False) s₁
      | some v => wpG g (model prog w) A (assign target env v) (fun _ s₂ => wpG g (model prog w) A (execs body env) (fun f s₃ => match f with
          | .next | .cont => ∃ m, m < n ∧ I m s₃
          | .brk => R (.ok .next) s₃
          | .ret v => R (.ok (.ret v)) s₃) (fun _ _ => False) s₂) (fun _ _ => False) s₁) (fun _ _ => False) s)
    (n : Nat) (h : I n s) (ht : ∀ v, letOwnedTupleGo target it v = pure () := by intro _; rfl) : codeG g (model prog w) A (.forLoop target it body orelse env) R s := by
  refine codeG_loop rfl rfl I (fun n s hI => ?_) n h
  show wpG g _ _ ((forTurn target it body orelse env).onRaise (fun x => do noteFrame x env; theTreesLotGoes x)) _ _ s
  refine wpG_onRaise ?_
  simp only [forTurn]
  refine wpG_bind (wpG_standAt (wpG_bind (wpG_onRaise (wpG_mono (turn n s hI) (fun r s₁ h₁ => ?_) fun _ _ h' => h'))))
  cases r with
  | none =>
    refine wpG_pure (.inr ⟨rfl, codeG_of_tree rfl ?_⟩)
    show wpG g _ _ (do return Fin.done (← (execs orelse env).onRaise (fun x => do noteFrame x env; theTreesLotGoes x))) _ _ _
    exact wpG_bind (wpG_onRaise (wpG_mono h₁ (fun f s' h' => wpG_pure h') fun _ _ h' => h'))
  | some v =>
    refine wpG_bind (wpG_of_eq (ht v) ?_)
    refine wpG_pure (wpG_bind (wpG_mono h₁ (fun _ s₂ h₂ => wpG_bind (wpG_mono h₂ (fun f s₃ h₃ => ?_) fun _ _ h' => h')) fun _ _ h' => h'))
    cases f with
    | next => exact wpG_pure (.inl ⟨rfl, h₃⟩)
    | cont => exact wpG_pure (.inl ⟨rfl, h₃⟩)
    | brk => exact wpG_pure h₃
    | ret v => exact wpG_pure h₃
theorem wpG_For {target iter body orelse pos} {Q : Flow → Shared → Prop}
    (h : wpG g (model prog w) A (eval iter env) (fun x s₁ => wpG g (model prog w) A (pyIter x) (fun it s₂ =>
      codeG g (model prog w) A (.forLoop target it body orelse env) (fun r s' => match r with | .ok f => Q f s' | .error e => False) s₂) E s₁) E s)
    (hs : ∀ x, foldedSetIterable iter env x = pure x) :
    wpG g (model prog w) A (exec (.For target iter body orelse pos) env) Q E s := by
  rw [exec_For]
  refine wpG_bind (wpG_standAt (wpG_bind (wpG_mono h (fun x s₁ h₁ => wpG_bind (wpG_of_eq (hs x) (wpG_pure (wpG_bind (wpG_standAt (wpG_bind (wpG_holding
    (wpG_mono h₁ (fun it s₂ h₂ => ?_) fun _ _ h' => h')))))))) fun _ _ h' => h')))
  unfold runOwn
  exact wpG_onRaise (wpG_run h₂)
theorem codeG_func {R : Result → Shared → Prop} {body : List Stmt}
    (h : wpG g (model prog w) (A.deeper env) (execs body env) (fun f s' => R (.ok (.ret (match f with | .ret v => v | _ => .none))) s') (fun _ _ => False) s) :
    codeG g (model prog w) A (.func body env) R s := by
  refine codeG_of_tree rfl ?_
  show wpG g _ (A.deeper env) (do point; match ← (execs body env).onRaise (leaving env) with | .ret v => ret v | _ => ret .none) _ _ s
  refine wpG_bind (wpG_point (wpG_bind (wpG_onRaise (wpG_mono h (fun f s' h' => ?_) fun _ _ h' => h'))))
  cases f <;> exact wpG_pure h'
theorem codeG_call_cells {R : Result → Shared → Prop} {a : Addr} {o : Obj} {fd : FuncData} {body : List Stmt} {vals : List Value} {binds : List (Str × Value)}
    (hroom : A.depth < recursionLimit) (ho : s.heap.get? a = some o) (hdata : o.data = .func fd) (hlim : s.heap.NoLimit) (hcd : s.heap.CodeRec fd.code fd.qualname)
    (hbody : fd.body = .stmts body) (hbind : wpG g (model prog w) A.in1 (bindArgs fd ⟨vals, []⟩) (fun bs s₁ => bs = binds ∧ s₁ = s) (fun _ _ => False) s) (hclo : fd.closure = [])
    (hkind : ∀ x ∈ binds, fd.scope.names.lookup x.1 = some .local ∨ (fd.scope.names.lookup x.1 = some .cell ∧ ((cellsFrom (s.heap.objs.size + 1) fd.scope.names []).lookup x.1).isSome = true))
    (h : ∀ s₁, InCallC s (callEnvC fd s.heap.objs.size a).locals (bindL (callEnvC fd s.heap.objs.size a).kindOf binds fun _ => none) (callEnvC fd s.heap.objs.size a).cells
        (bindC (callEnvC fd s.heap.objs.size a).kindOf binds fun _ => none) s₁ →
      wpG g (model prog w) (A.deeper (callEnvC fd s.heap.objs.size a)) (execs body (callEnvC fd s.heap.objs.size a)) (fun f s' => R (.ok (.ret (match f with | .ret v => v | _ => .none))) s')
        (fun _ _ => False) s₁)
    (hco : fd.scope.isCoroutine = false) (hgen : fd.scope.isGenerator = false) (hk : fd.scope.kind = .function) :
    codeG g (model prog w) A (.call (.ref a) ⟨vals, []⟩) R s := by
  refine codeG_of_tree rfl ?_
  show wpG g _ A.in1 (callAny (.ref a) ⟨vals, []⟩) _ _ s
  simp only [callAny]
  refine wpG_bind (wpG_of (wpAny_load ho ?_))
  obtain ⟨c, oc, vs, tq, hc, hoc, hdc, hq⟩ := hcd
  simp only [hdata, callFunction, hco, hgen, hbody, hc]
  refine wpG_bind (m := field (.ref c) 1) (wpG_of (wpAny_field hoc hdc hq ?_))
  refine wpG_bind (wpG_pure ?_)
  refine wpG_bind (wpG_mono hbind (fun bs s₁ e => ?_) fun _ _ e => e.elim)
  obtain ⟨rfl, rfl⟩ := e
  rw [hclo, ← hc]
  refine wpG_bind (wpG_of (wpAny_newFunctionEnv_cells hk hkind fun env he s' x => ?_))
  subst he
  exact wpG_bind (wpG_of (wpAny_enterFrame (hlim.keeps x.toInCall.keep) hroom (wpG_pure ⟨rfl, codeG_func (h s' x)⟩)))
end
end Mine
end
section
set_option maxRecDepth 100000
set_option autoImplicit false
namespace Mine
open PySem PySem.Calls PySem.Spec PyProof.Rows PySem.W

/- how far from the limits -/
structure AOk (n : Nat) (A : Around) : Prop where
  depth : A.depth + n < recursionLimit
  units : A.units + 60 * n + 60 < cLine
  handled : A.handled = none
  guards : A.guards = some []

noncomputable def WT (g : Bool) (w : World) (B : Heap) (env : Env) (A : Around) {α β : Type} (t : Sem α) (R : Rho → β → α → Prop) (σ : St) (K : β → St → Prop) : Prop :=
  ∀ (fm : Fm) (ρ : Rho) (s : Shared) (Q : α → Shared → Prop) (E : Value → Shared → Prop), FmOk B env A fm → Rel w env fm ρ σ s →
    (∀ b σ' ρ' a s', ρ.le ρ' → Rel w env fm ρ' σ' s' → R ρ' b a → K b σ' → Q a s') → wpG g (model PR w) A t Q E s

/- the ways that a block may end -/
inductive Fl where
  | next | brk | cont | ret (v : V)
noncomputable def FR (ρ : Rho) : Fl → Flow → Prop
  | .next, f => f = .next
  | .brk, f => f = .brk
  | .cont, f => f = .cont
  | .ret v, f => ∃ x, f = .ret x ∧ VR ρ v x
theorem FR.mono {ρ ρ' : Rho} (h : ρ.le ρ') : ∀ {f : Fl} {x : Flow}, FR ρ f x → FR ρ' f x
  | .next, _, e | .brk, _, e | .cont, _, e => e
  | .ret _, _, ⟨x, e, v⟩ => ⟨x, e, v.mono h⟩
theorem vnone {ρ : Rho} : VR ρ .none .none := rfl
theorem vbool {ρ : Rho} {b : Bool} : VR ρ (.bool b) (.bool b) := rfl
theorem vint {ρ : Rho} {i : Int} {t : Tok} : VR ρ (.int i) (.int i t) := ⟨t, rfl⟩
theorem vstr {ρ : Rho} {x : Str} {t : Tok} : VR ρ (.str x) (.str x t) := ⟨t, rfl⟩
theorem vbytes {ρ : Rho} {x : Array UInt8} {t : Tok} : VR ρ (.bytes x) (.bytes x t) := ⟨t, rfl⟩
theorem vref {ρ : Rho} {i : Nat} {a : Addr} (h : ρ i = some a) : VR ρ (.ref i) (.ref a) := ⟨a, h, rfl⟩
theorem vraw {ρ : Rho} {x : Value} : VR ρ (.raw x) x := rfl
noncomputable def BR (_ : Rho) (b : Bool) (x : Bool) : Prop := x = b
noncomputable def UR (_ : Rho) (_ : Unit) (_ : Unit) : Prop := True

section
variable {g : Bool} {w : World} {B : Heap} {env : Env} {A : Around} {σ : St}

noncomputable abbrev WE (g : Bool) (w : World) (B : Heap) (env : Env) (A : Around) (e : Expr) (σ : St) (K : V → St → Prop) : Prop := WT g w B env A (eval e env) VR σ K
noncomputable abbrev WB (g : Bool) (w : World) (B : Heap) (env : Env) (A : Around) (e : Expr) (σ : St) (K : Bool → St → Prop) : Prop := WT g w B env A (isTrue e env (eval e env)) BR σ K
noncomputable abbrev WS (g : Bool) (w : World) (B : Heap) (env : Env) (A : Around) (ss : List Stmt) (σ : St) (K : Fl → St → Prop) : Prop := WT g w B env A (execs ss env) FR σ K

theorem WT.mono {α β : Type} {t : Sem α} {R : Rho → β → α → Prop} {K K' : β → St → Prop} (h : WT g w B env A t R σ K) (hK : ∀ b σ', K b σ' → K' b σ') : WT g w B env A t R σ K' :=
  fun fm ρ s Q E O r q => h fm ρ s Q E O r fun b σ' ρ' a s' l r' e k => q b σ' ρ' a s' l r' e (hK b σ' k)
theorem WT.up {α β : Type} {t : Sem α} {R : Rho → β → α → Prop} {K : β → St → Prop} (h : WT false w B env A t R σ K) : WT g w B env A t R σ K :=
  fun fm ρ s Q E O r q => wpG_up (h fm ρ s Q E O r q)
theorem WT.weaken {α β : Type} {t : Sem α} {R : Rho → β → α → Prop} {K : β → St → Prop} {σ' : St} (h : WT g w B env A t R σ' K) (hσ : σ'.le σ) : WT g w B env A t R σ K :=
  fun fm ρ s Q E O r q => h fm ρ s Q E O (r.weaken hσ) q

-- constants
variable {K : V → St → Prop} {pos : Pos} {k : Nat}
theorem we_int {i : Int} (h : K (.int i) σ) : WE g w B env A (.Constant (.int i) k pos) σ K :=
  fun _ ρ _ _ _ _ r q => wpG_of (wpAny_Constant_int (q _ _ ρ _ _ ρ.le_refl (r.tok _) vint h))
theorem we_str {x : Str} (h : K (.str x) σ) : WE g w B env A (.Constant (.str x) k pos) σ K :=
  fun _ ρ _ _ _ _ r q => wpG_of (Constant_str (q _ _ ρ _ _ ρ.le_refl (r.tok _) vstr h))
theorem we_bytes {x : List UInt8} (h : K (.bytes x.toArray) σ) : WE g w B env A (.Constant (.bytes x) k pos) σ K :=
  fun _ ρ _ _ _ _ r q => wpG_of (Constant_bytes (q _ _ ρ _ _ ρ.le_refl (r.tok _) vbytes h))
theorem we_none (h : K .none σ) : WE g w B env A (.Constant .none k pos) σ K :=
  fun _ ρ s _ _ _ r q => wpG_pure (q _ _ ρ _ s ρ.le_refl r vnone h)
theorem we_bool {b : Bool} (h : K (.bool b) σ) : WE g w B env A (.Constant (.bool b) k pos) σ K :=
  fun _ ρ s _ _ _ r q => wpG_pure (q _ _ ρ _ s ρ.le_refl r vbool h)

-- names
theorem we_local {x : Str} {v : V} (hx : σ.loc.lookup x = some v) (h : K v σ) (hl : env.kindOf x = some .local := by rfl) (hk : env.scope.kind = .function := by rfl)
    (hd : (x == ("__debug__" : Str)) = false := by decide) : WE g w B env A (.Name x pos) σ K := fun _ ρ s _ _ _ r q => by
  obtain ⟨m, n, p⟩ := r.ns
  obtain ⟨y, e, vr⟩ := p (x, v) (mem_of_lookup hx) hl
  exact wpG_of (wpAny_Name (wpAny_loadName_local hk hl n e (q _ _ ρ _ s ρ.le_refl r vr h)) hd)
theorem we_cell {x : Str} {v : V} (hx : σ.loc.lookup x = some v) (h : K v σ) (hl : env.kindOf x = some .cell := by rfl) (hk : env.scope.kind = .function := by rfl)
    (hd : (x == ("__debug__" : Str)) = false := by decide) : WE g w B env A (.Name x pos) σ K := fun _ ρ s _ _ _ r q => by
  obtain ⟨c, y, e, f, vr⟩ := r.cel (x, v) (mem_of_lookup hx) (by dsimp only; rw [hl]; exact fun h => nomatch h)
  exact wpG_of (wpAny_Name (wpAny_loadName_cell hk hl e f (q _ _ ρ _ s ρ.le_refl r vr h)) hd)
theorem we_free {x : Str} {v : V} (hx : σ.loc.lookup x = some v) (h : K v σ) (hl : env.kindOf x = some .free := by rfl) (hk : env.scope.kind = .function := by rfl)
    (hd : (x == ("__debug__" : Str)) = false := by decide) (hn : (x == ("__classdict__" : Str)) = false := by decide) : WE g w B env A (.Name x pos) σ K := fun _ ρ s _ _ _ r q => by
  obtain ⟨c, y, e, f, vr⟩ := r.cel (x, v) (mem_of_lookup hx) (by dsimp only; rw [hl]; exact fun h => nomatch h)
  exact wpG_of (wpAny_Name (wpAny_loadName_free hk hl e f (q _ _ ρ _ s ρ.le_refl r vr h) hn) hd)
theorem Rel.base {fm : Fm} {ρ : Rho} {s : Shared} (r : Rel w env fm ρ σ s) (O : FmOk B env A fm) : ∀ b o, B.get? b = some o → s.heap.get? b = some o := fun b o e => r.keep b o (O.base b o e)
theorem we_glob {x : Str} {v : Value} (HB : BaseOk w B) (h : K (.raw v) σ) (hx : nsIn (KK w.params) mainGlobals x = some (some v) := by kernel_rfl) (hg : env.globals = mainGlobals := by rfl)
    (hl : env.kindOf x = some .globalImplicit := by rfl) (hk : env.scope.kind = .function := by rfl) (hd : (x == ("__debug__" : Str)) = false := by decide) : WE g w B env A (.Name x pos) σ K := fun _ ρ s _ _ O r q => by
  obtain ⟨p, l, m, mg, mb, T⟩ := HB.top
  exact wpG_of (Name_function_global hk hl (loadGlobal_global (hg ▸ T.g.keeps (r.base O)) (mg_of HB.kin T.g hx) (q _ _ ρ _ s ρ.le_refl r vraw h)) hd)
theorem we_blt {x : Str} {v : Value} (HB : BaseOk w B) (h : K (.raw v) σ) (hx : nsIn (KK w.params) mainGlobals x = some none := by kernel_rfl) (hv : bootBuiltins x = some v := by kernel_rfl) (hn : x ≠ "__name__" := by decide)
    (hg : env.globals = mainGlobals := by rfl) (hb : env.builtins = builtinsNs := by rfl)
    (hl : env.kindOf x = some .globalImplicit := by rfl) (hk : env.scope.kind = .function := by rfl) (hd : (x == ("__debug__" : Str)) = false := by decide) : WE g w B env A (.Name x pos) σ K := fun _ ρ s _ _ O r q => by
  obtain ⟨p, l, m, mg, mb, T⟩ := HB.top
  exact wpG_of (Name_function_global hk hl (loadGlobal_builtin (hg ▸ T.g.keeps (r.base O)) (mg_none_of HB.kin T.g hx) (hb ▸ T.b.keeps (r.base O)) ((T.builtins x hn).trans hv) (q _ _ ρ _ s ρ.le_refl r vraw h)) hd)

-- operators
/- an operation with two values at hand -/
noncomputable def W2 (g : Bool) (w : World) (B : Heap) (env : Env) (A : Around) {α β : Type} (t : Value → Value → Sem α) (R : Rho → β → α → Prop) (x y : V) (σ : St) (K : β → St → Prop) : Prop :=
  ∀ fm ρ s a b (Q : α → Shared → Prop) E, FmOk B env A fm → Rel w env fm ρ σ s → VR ρ x a → VR ρ y b → (∀ v σ' ρ' c s', ρ.le ρ' → Rel w env fm ρ' σ' s' → R ρ' v c → K v σ' → Q c s') →
    wpG g (model PR w) A (t a b) Q E s
noncomputable def W1 (g : Bool) (w : World) (B : Heap) (env : Env) (A : Around) {α β : Type} (t : Value → Sem α) (R : Rho → β → α → Prop) (x : V) (σ : St) (K : β → St → Prop) : Prop :=
  ∀ fm ρ s a (Q : α → Shared → Prop) E, FmOk B env A fm → Rel w env fm ρ σ s → VR ρ x a → (∀ v σ' ρ' c s', ρ.le ρ' → Rel w env fm ρ' σ' s' → R ρ' v c → K v σ' → Q c s') →
    wpG g (model PR w) A (t a) Q E s

theorem we_binop {l r : Expr} {op : Operator} (h : WE g w B env A l σ fun x σ₁ => WE g w B env A r σ₁ fun y σ₂ => W2 g w B env A (binaryOp op) VR x y σ₂ K) : WE g w B env A (.BinOp l op r pos) σ K := fun fm ρ s Q E O rel q => by
  refine wpG_BinOp (h fm ρ s _ E O rel fun x σ₁ ρ₁ a s₁ l₁ r₁ v₁ h₁ => h₁ fm ρ₁ s₁ _ E O r₁ fun y σ₂ ρ₂ b s₂ l₂ r₂ v₂ h₂ => ?_)
  exact h₂ fm ρ₂ s₂ a b Q E O r₂ (v₁.mono l₂) v₂ fun v σ' ρ' c s' l' r' vr kk => q v σ' ρ' c s' ((l₁.trans l₂).trans l') r' vr kk
theorem we_unop {e : Expr} {op : UnaryOp} (h : WE g w B env A e σ fun x σ₁ => W1 g w B env A (unaryOp op) VR x σ₁ K) : WE g w B env A (.UnaryOp op e pos) σ K := fun fm ρ s Q E O rel q => by
  refine wpG_UnaryOp (h fm ρ s _ E O rel fun x σ₁ ρ₁ a s₁ l₁ r₁ v₁ h₁ => ?_)
  exact h₁ fm ρ₁ s₁ a Q E O r₁ v₁ fun v σ' ρ' c s' l' r' vr kk => q v σ' ρ' c s' (l₁.trans l') r' vr kk
theorem we_cmp {l r : Expr} {op : CmpOp} (h : WE g w B env A l σ fun x σ₁ => WE g w B env A r σ₁ fun y σ₂ => W2 g w B env A (compareOp op) VR x y σ₂ K) (hm : behindInMarks op r = false := by with_unfolding_all rfl) :
    WE g w B env A (.Compare l [op] [r] pos) σ K := fun fm ρ s Q E O rel q => by
  refine wpG_Compare1 (h fm ρ s _ E O rel fun x σ₁ ρ₁ a s₁ l₁ r₁ v₁ h₁ => h₁ fm ρ₁ s₁ _ E O r₁ fun y σ₂ ρ₂ b s₂ l₂ r₂ v₂ h₂ => ?_) hm
  exact h₂ fm ρ₂ s₂ a b Q E O r₂ (v₁.mono l₂) v₂ fun v σ' ρ' c s' l' r' vr kk => q v σ' ρ' c s' ((l₁.trans l₂).trans l') r' vr kk
/- a test whose comparison gives a bool -/
theorem wb_cmp {l r : Expr} {op : CmpOp} {K : Bool → St → Prop} (h : WE g w B env A l σ fun x σ₁ => WE g w B env A r σ₁ fun y σ₂ => W2 g w B env A (compareOp op) VR x y σ₂ fun v σ' => ∃ b, v = .bool b ∧ K b σ')
    (hm : behindInMarks op r = false := by with_unfolding_all rfl) : WB g w B env A (.Compare l [op] [r] pos) σ K := fun fm ρ s Q E O rel q => by
  refine wpG_isTrue_Compare1 (h fm ρ s _ E O rel fun x σ₁ ρ₁ a s₁ l₁ r₁ v₁ h₁ => h₁ fm ρ₁ s₁ _ E O r₁ fun y σ₂ ρ₂ b s₂ l₂ r₂ v₂ h₂ => ?_) hm
  refine h₂ fm ρ₂ s₂ a b _ E O r₂ (v₁.mono l₂) v₂ fun v σ' ρ' c s' l' r' vr kk => ?_
  obtain ⟨b', rfl, kk⟩ := kk
  cases vr
  exact wpG_of (wpAny_truthy_bool (q b' σ' ρ' b' s' ((l₁.trans l₂).trans l') r' rfl kk))
theorem wb_value {e : Expr} {K : Bool → St → Prop} (h : WE g w B env A e σ fun x σ₁ => W1 g w B env A truthy BR x σ₁ K)
    (he : isTrue e env (eval e env) = (do let v ← eval e env; standAt e.pos; holding [v] (truthy v)) := by rfl) : WB g w B env A e σ K := fun fm ρ s Q E O rel q => by
  refine wpG_isTrue_value (h fm ρ s _ E O rel fun x σ₁ ρ₁ a s₁ l₁ r₁ v₁ h₁ => ?_) he
  exact h₁ fm ρ₁ s₁ a Q E O r₁ v₁ fun v σ' ρ' c s' l' r' vr kk => q v σ' ρ' c s' (l₁.trans l') r' vr kk
/- and, or in a test -/
theorem wb_and {e : Expr} {es : List Expr} {K : Bool → St → Prop} (h : WB g w B env A e σ fun b σ₁ => if b then WT g w B env A (allTrue .And es env) BR σ₁ K else K false σ₁) : WT g w B env A (allTrue .And (e :: es) env) BR σ K := fun fm ρ s Q E O rel q => by
  refine wpG_allTrue_And_cons (h fm ρ s _ E O rel fun b σ₁ ρ₁ a s₁ l₁ r₁ v₁ h₁ => ?_)
  cases v₁
  cases b with
  | true => exact h₁ fm ρ₁ s₁ Q E O r₁ fun v σ' ρ' c s' l' r' vr kk => q v σ' ρ' c s' (l₁.trans l') r' vr kk
  | false => exact q _ _ _ _ _ l₁ r₁ rfl h₁
theorem wb_and_nil {K : Bool → St → Prop} (h : K true σ) : WT g w B env A (allTrue .And [] env) BR σ K := fun _ ρ s _ _ _ rel q => wpG_of (wpAny_allTrue_And_nil (q _ _ ρ _ s ρ.le_refl rel rfl h))
theorem wb_or {e : Expr} {es : List Expr} {K : Bool → St → Prop} (h : WB g w B env A e σ fun b σ₁ => if b then K true σ₁ else WT g w B env A (allTrue .Or es env) BR σ₁ K) : WT g w B env A (allTrue .Or (e :: es) env) BR σ K := fun fm ρ s Q E O rel q => by
  refine wpG_allTrue_Or_cons (h fm ρ s _ E O rel fun b σ₁ ρ₁ a s₁ l₁ r₁ v₁ h₁ => ?_)
  cases v₁
  cases b with
  | false => exact h₁ fm ρ₁ s₁ Q E O r₁ fun v σ' ρ' c s' l' r' vr kk => q v σ' ρ' c s' (l₁.trans l') r' vr kk
  | true => exact q _ _ _ _ _ l₁ r₁ rfl h₁
theorem wb_or_nil {K : Bool → St → Prop} (h : K false σ) : WT g w B env A (allTrue .Or [] env) BR σ K := fun _ ρ s _ _ _ rel q => wpG_of (wpAny_allTrue_Or_nil (q _ _ ρ _ s ρ.le_refl rel rfl h))
theorem wb_boolop {op : BoolOp} {es : List Expr} {K : Bool → St → Prop} (h : WT g w B env A (allTrue op es env) BR σ K) : WB g w B env A (.BoolOp op es pos) σ K := fun fm ρ s Q E O rel q =>
  wpG_isTrue_BoolOp (h fm ρ s Q E O rel q)
theorem wb_not {e : Expr} {K : Bool → St → Prop} (h : WB g w B env A e σ fun b σ₁ => K (!b) σ₁) : WB g w B env A (.UnaryOp .Not e pos) σ K := fun fm ρ s Q E O rel q =>
  wpG_isTrue_Not (h fm ρ s _ E O rel fun b σ₁ ρ₁ a s₁ l₁ r₁ v₁ h₁ => by cases v₁; exact q _ _ _ _ _ l₁ r₁ rfl h₁)

theorem op_add_int {i j : Int} (h : K (.int (i + j)) σ) : W2 g w B env A (binaryOp .Add) VR (.int i) (.int j) σ K := by
  rintro fm ρ s _ _ Q E O r ⟨t, rfl⟩ ⟨u, rfl⟩ q
  exact wpG_of (add_int (q _ _ ρ _ _ ρ.le_refl (r.tok _) vint h))
theorem op_sub_int {i j : Int} (h : K (.int (i - j)) σ) : W2 g w B env A (binaryOp .Sub) VR (.int i) (.int j) σ K := by
  rintro fm ρ s _ _ Q E O r ⟨t, rfl⟩ ⟨u, rfl⟩ q
  exact wpG_of (sub_int (q _ _ ρ _ _ ρ.le_refl (r.tok _) vint h))
theorem op_mul_int {i j : Int} (hm : IntMulOk i j) (h : K (.int (i * j)) σ) : W2 g w B env A (binaryOp .Mult) VR (.int i) (.int j) σ K := by
  rintro fm ρ s _ _ Q E O r ⟨t, rfl⟩ ⟨u, rfl⟩ q
  exact wpG_of (mul_int (q _ _ ρ _ _ ρ.le_refl (r.tok _) vint h) hm)
theorem op_mod_int {i j : Int} (hj : j ≠ 0) (h : K (.int (i.fmod j)) σ) : W2 g w B env A (binaryOp .Mod) VR (.int i) (.int j) σ K := by
  rintro fm ρ s _ _ Q E O r ⟨t, rfl⟩ ⟨u, rfl⟩ q
  exact wpG_of (mod_int hj (q _ _ ρ _ _ ρ.le_refl (r.tok _) vint h))
theorem op_div_int {i j : Int} (hj : j ≠ 0) (hp : Builtin.divisionGoesByPylong i j = false) (h : K (.int (i.fdiv j)) σ) : W2 g w B env A (binaryOp .FloorDiv) VR (.int i) (.int j) σ K := by
  rintro fm ρ s _ _ Q E O r ⟨t, rfl⟩ ⟨u, rfl⟩ q
  exact wpG_of (floordiv_int hj (q _ _ ρ _ _ ρ.le_refl (r.tok _) vint h) (.inl hp))
end
end Mine
end
section
set_option maxRecDepth 100000
set_option autoImplicit false
namespace Mine
open PySem PySem.Calls PySem.Spec PyProof.Rows PySem.W

section
variable {g : Bool} {w : World} {B : Heap} {env : Env} {A : Around} {σ : St}

/- a name that the block may bind -/
noncomputable def Binds (env : Env) (x : Str) : Prop := env.kindOf x = some .local ∨ (env.kindOf x = some .cell ∧ ∃ c, env.cells.lookup x = some c ∧ env.locals < c)

theorem store_ {fm : Fm} {ρ : Rho} {s : Shared} {x : Str} {v : V} {y : Value} {Q : Unit → Shared → Prop} {E : Value → Shared → Prop} (O : FmOk B env A fm) (r : Rel w env fm ρ σ s) (hv : VR ρ v y)
    (hx : Binds env x) (hk : env.scope.kind = .function) (q : ∀ s', Rel w env fm ρ (σ.set x v) s' → Q () s') : wpG g (model PR w) A (storeName env x y) Q E s := by
  rcases hx with hl | ⟨hl, c, hc, hfn⟩
  · obtain ⟨m, n, _⟩ := r.ns
    exact wpG_of (wpAny_storeName_local hl n (fun h' hn hs => q _ (r.setLocal O _ n hv hn hs hl)) (by rw [hk]; rfl))
  · obtain ⟨v₀, hv₀⟩ := r.cells _ (mem_of_lookup hc)
    exact wpG_of (wpAny_storeName_cell hk hl hc hv₀ fun h' hn hs => q _ (r.setCell O s.toks hv hc hn hs hl hfn))

variable {K : Fl → St → Prop} {pos px : Pos}
noncomputable def thenK (g : Bool) (w : World) (B : Heap) (env : Env) (A : Around) (rest : List Stmt) (K : Fl → St → Prop) : Fl → St → Prop
  | .next, σ => WS g w B env A rest σ K
  | f, σ => K f σ

theorem ws_nil (h : K .next σ) : WS g w B env A [] σ K := fun _ ρ s _ _ _ r q => wpG_of (wpAny_execs_nil (q .next _ ρ _ s ρ.le_refl r rfl h))

/- one statement, then the rest -/
theorem ws_cons {st : Stmt} {rest : List Stmt} (h : WT g w B env A (exec st env) FR σ (thenK g w B env A rest K)) : WS g w B env A (st :: rest) σ K := fun fm ρ s Q E O r q => by
  refine wpG_execs_cons (h fm ρ s _ E O r fun f σ' ρ' a s' l r' fr kk => ?_)
  cases f with
  | next =>
    cases fr
    exact kk fm ρ' s' Q E O r' fun f σ'' ρ'' a s'' l' r'' fr kk => q f σ'' ρ'' a s'' (l.trans l') r'' fr kk
  | brk => cases fr; exact q .brk _ _ _ _ l r' rfl kk
  | cont => cases fr; exact q .cont _ _ _ _ l r' rfl kk
  | ret v => obtain ⟨x, rfl, vr⟩ := fr; exact q (.ret v) _ _ _ _ l r' ⟨x, rfl, vr⟩ kk

theorem ws_assign {x : Str} {e : Expr} {rest : List Stmt} (h : WE g w B env A e σ fun v σ₁ => WS g w B env A rest (σ₁.set x v) K)
    (hx : Binds env x := by exact .inl rfl) (hk : env.scope.kind = .function := by rfl) (hs : swapsWith e (some (.Name x px)) pos.line env = pure false := by rfl) : WS g w B env A (.Assign [.Name x px] e pos :: rest) σ K :=
  ws_cons fun fm ρ s Q E O r q => wpG_Assign_Name (h fm ρ s _ E O r fun v σ₁ ρ₁ a s₁ l₁ r₁ v₁ h₁ => store_ O r₁ v₁ hx hk fun s' r' => q .next _ _ _ _ l₁ r' rfl h₁) hs

theorem ws_if {test : Expr} {body orelse rest : List Stmt} (h : WB g w B env A test σ fun b σ₁ => if b then WS g w B env A body σ₁ (thenK g w B env A rest K) else WS g w B env A orelse σ₁ (thenK g w B env A rest K)) :
    WS g w B env A (.If test body orelse pos :: rest) σ K :=
  ws_cons fun fm ρ s Q E O r q => wpG_If (h fm ρ s _ E O r fun b σ₁ ρ₁ a s₁ l₁ r₁ v₁ h₁ => by
    cases v₁
    cases b with
    | true => exact h₁ fm ρ₁ s₁ Q E O r₁ fun f σ' ρ' c s' l' r' vr kk => q f σ' ρ' c s' (l₁.trans l') r' vr kk
    | false => exact h₁ fm ρ₁ s₁ Q E O r₁ fun f σ' ρ' c s' l' r' vr kk => q f σ' ρ' c s' (l₁.trans l') r' vr kk)
theorem ws_return {e : Expr} {rest : List Stmt} (h : WE g w B env A e σ fun v σ₁ => K (.ret v) σ₁) : WS g w B env A (.Return (some e) pos :: rest) σ K :=
  ws_cons fun fm ρ s Q E O r q => wpG_Return_some (h fm ρ s _ E O r fun v σ₁ ρ₁ a s₁ l₁ r₁ v₁ h₁ => q (.ret v) _ _ _ _ l₁ r₁ ⟨_, rfl, v₁⟩ h₁)
theorem ws_break {rest : List Stmt} (h : K .brk σ) : WS g w B env A (.Break pos :: rest) σ K :=
  ws_cons fun fm ρ s Q E O r q => wpG_of (wpAny_Break (q .brk _ ρ _ _ ρ.le_refl r rfl h))
theorem ws_continue {rest : List Stmt} (h : K .cont σ) : WS g w B env A (.Continue pos :: rest) σ K :=
  ws_cons fun fm ρ s Q E O r q => wpG_of (wpAny_Continue (q .cont _ ρ _ _ ρ.le_refl r rfl h))
theorem ws_expr {e : Expr} {rest : List Stmt} (h : WE g w B env A e σ fun _ σ₁ => WS g w B env A rest σ₁ K) (hi : interactive env = false := by rfl) (hs : swapsWith e none pos.line env = pure false := by rfl) :
    WS g w B env A (.Expr e pos :: rest) σ K :=
  ws_cons fun fm ρ s Q E O r q => wpG_Expr_any (h fm ρ s _ E O r fun v σ₁ ρ₁ a s₁ l₁ r₁ v₁ h₁ => q .next _ _ _ _ l₁ r₁ rfl h₁) hi hs

-- more that must stay
noncomputable def Fm.wk (fm : Fm) (I : Addr) (o : Obj) : Fm := { fm with keep := fun b => if b = I then some o else fm.keep b }
theorem Fm.wk_self {fm : Fm} {I : Addr} {o : Obj} : (fm.wk I o).keep I = some o := by simp [Fm.wk]
theorem Fm.wk_ne {fm : Fm} {I b : Addr} {o : Obj} (h : b ≠ I) : (fm.wk I o).keep b = fm.keep b := by simp [Fm.wk, h]

/- an address of nobody's -/
structure Apart (env : Env) (fm : Fm) (ρ : Rho) (σ : St) (I : Addr) : Prop where
  own : Own env fm I
  live : ∀ i, σ.obj i ≠ none → ρ i ≠ some I

theorem Rel.apart {fm : Fm} {ρ : Rho} {s : Shared} {I : Addr} (r : Rel w env fm ρ σ s) (h : s.heap.get? I = none) : Apart env fm ρ σ I := by
  refine ⟨r.newOwn h, fun i hi e => ?_⟩
  cases q : σ.obj i with
  | none => exact hi q
  | some o =>
    obtain ⟨a, ob, p, g, _⟩ := r.obj i o q
    rw [p] at e; cases e
    rw [g] at h; cases h
theorem FmOk.wk {fm : Fm} {I : Addr} {o : Obj} (O : FmOk B env A fm) (h : Own env fm I) : FmOk B env A (fm.wk I o) where
  frs := O.frs
  frok := O.frok
  base := fun b x e => by
    have := O.base b x e
    rw [Fm.wk_ne]
    · exact this
    · rintro rfl; rw [h.1] at this; cases this
  locs := ⟨by rw [Fm.wk_ne (Ne.symm h.2.2.1)]; exact O.locs.1, O.locs.2⟩
  cels := fun p hp => ⟨(O.cels p hp).1, (O.cels p hp).2.1, fun hfn => by rw [Fm.wk_ne (h.2.2.2 p hp)]; exact (O.cels p hp).2.2 hfn⟩
  dj := fun b hb => by
    by_cases e : b = I
    · subst e; exact h.2.1
    · rw [Fm.wk_ne e] at hb; exact O.dj b hb
  apart := O.apart
  outs := O.outs
theorem Rel.wk {fm : Fm} {ρ : Rho} {s : Shared} {I : Addr} {o : Obj} (r : Rel w env fm ρ σ s) (h : Apart env fm ρ σ I) (ho : s.heap.get? I = some o) : Rel w env (fm.wk I o) ρ σ s where
  same := r.same
  keep := fun b x e => by
    by_cases hb : b = I
    · subst hb; rw [Fm.wk_self] at e; cases e; exact ho
    · rw [Fm.wk_ne hb] at e; exact r.keep b x e
  dat := r.dat
  ns := r.ns
  cel := r.cel
  cells := r.cells
  obj := fun i x e => by
    obtain ⟨a, ob, p, g, q, own⟩ := r.obj i x e
    have ha : a ≠ I := fun e' => h.live i (by rw [e]; exact fun z => nomatch z) (e' ▸ p)
    exact ⟨a, ob, p, g, q, by rw [Fm.wk_ne ha]; exact own.1, own.2⟩
  inj := r.inj
  free := r.free
theorem Rel.unwk {fm : Fm} {ρ : Rho} {s : Shared} {I : Addr} {o : Obj} (r : Rel w env (fm.wk I o) ρ σ s) (h : Own env fm I) : Rel w env fm ρ σ s ∧ Apart env fm ρ σ I ∧ s.heap.get? I = some o := by
  have live : ∀ i x, σ.obj i = some x → ρ i ≠ some I := fun i x e q => by
    obtain ⟨a, ob, p, g, _, own⟩ := r.obj i x e
    rw [p] at q; cases q
    have := own.1; rw [Fm.wk_self] at this; cases this
  refine ⟨⟨r.same, fun b x e => ?_, r.dat, r.ns, r.cel, r.cells, fun i x e => ?_, r.inj, r.free⟩, ⟨h, fun i hi => ?_⟩, r.keep I o Fm.wk_self⟩
  · refine r.keep b x ?_
    rw [Fm.wk_ne]
    · exact e
    · rintro rfl; rw [h.1] at e; cases e
  · obtain ⟨a, ob, p, g, q, own⟩ := r.obj i x e
    have ha : a ≠ I := fun e' => live i x e (e' ▸ p)
    refine ⟨a, ob, p, g, q, ?_, own.2⟩
    have := own.1; rwa [Fm.wk_ne ha] at this
  · cases q : σ.obj i with
    | none => exact absurd q hi
    | some x => exact live i x q
/- an object of nobody's is changed -/
theorem Rel.besides {fm : Fm} {ρ : Rho} {s : Shared} {I : Addr} {h' : Heap} (r : Rel w env fm ρ σ s) (tk : Nat) (h : Apart env fm ρ σ I) (hs : Heap.ExtBut I s.heap h') : Rel w env fm ρ σ { s with heap := h', toks := tk } where
  same := let ⟨_, _, e⟩ := r.same; ⟨h', tk, by rw [e]⟩
  keep := fun b x e => hs b x (by rintro rfl; rw [h.own.1] at e; cases e) (r.keep b x e)
  dat := fun b d e => let ⟨x, g, q⟩ := r.dat b d e; ⟨x, hs b x (by rintro rfl; rw [h.own.2.1] at e; cases e) g, q⟩
  ns := let ⟨m, n, q⟩ := r.ns; ⟨m, n.extBut hs (Ne.symm h.own.2.2.1), q⟩
  cel := fun p hp n => let ⟨c, x, e, f, v⟩ := r.cel p hp n; ⟨c, x, e, IsCell_of f fun y => hs c y (h.own.2.2.2 (p.1, c) (mem_of_lookup e)), v⟩
  cells := fun p hp => let ⟨v, f⟩ := r.cells p hp; ⟨v, IsCell_of f fun y => hs p.2 y (h.own.2.2.2 p hp)⟩
  obj := fun i x e => let ⟨a, ob, p, g, q⟩ := r.obj i x e; ⟨a, ob, p, hs a ob (fun e' => h.live i (by rw [e]; exact fun z => nomatch z) (e' ▸ p)) g, q⟩
  inj := r.inj
  free := r.free

/- an iterator: n items, the k-th as P says, while Inv holds of the state -/
structure It (g : Bool) (w : World) (A : Around) (I : Addr) (n : Nat) (P : Nat → V → Prop) (Inv : St → Prop) (ρ₀ : Rho) (S : Nat → Obj → Prop) : Prop where
  item : ∀ (env : Env) (k : Nat) (σ : St) (fm : Fm) (ρ : Rho) (s : Shared) (Q : Option Value → Shared → Prop) (E : Value → Shared → Prop) (ob : Obj), k < n → Inv σ → ρ₀.le ρ → Rel w env fm ρ σ s → s.heap.get? I = some ob → S k ob →
    (∀ v x h' tk ob', P k v → VR ρ v x → Heap.ExtBut I s.heap h' → h'.get? I = some ob' → S (k + 1) ob' → Q (some x) { s with heap := h', toks := tk }) → wpG g (model PR w) A (pyNext (.ref I)) Q E s
  done : ∀ (env : Env) (σ : St) (fm : Fm) (ρ : Rho) (s : Shared) (Q : Option Value → Shared → Prop) (E : Value → Shared → Prop) (ob : Obj), Inv σ → ρ₀.le ρ → Rel w env fm ρ σ s → s.heap.get? I = some ob → S n ob →
    (∀ h' tk, Heap.ExtBut I s.heap h' → Q none { s with heap := h', toks := tk }) → wpG g (model PR w) A (pyNext (.ref I)) Q E s
  self : ∀ (k : Nat) (s : Shared) (Q : Value → Shared → Prop) (E : Value → Shared → Prop) (ob : Obj), s.heap.get? I = some ob → S k ob → Q (.ref I) s → wpAny (model PR w) A (pyIter (.ref I)) Q E s

/- what is iterated over: pyIter gives such an iterator -/
noncomputable def Iters (g : Bool) (w : World) (B : Heap) (env : Env) (A : Around) (v : V) (n : Nat) (P : Nat → V → Prop) (Inv : St → Prop) : Prop :=
  ∀ (σ : St) (fm : Fm) (ρ : Rho) (s : Shared) (x : Value) (Q : Value → Shared → Prop) (E : Value → Shared → Prop), FmOk B env A fm → Rel w env fm ρ σ s → Inv σ → VR ρ v x →
    (∀ I ob S h' tk, It g w A I n P Inv ρ S → s.heap.get? I = none → (∀ b o, s.heap.get? b = some o → h'.get? b = some o) → h'.get? I = some ob → S 0 ob → Q (.ref I) { s with heap := h', toks := tk }) →
    wpG g (model PR w) A (pyIter x) Q E s

theorem ws_for {x : Str} {iter : Expr} {body rest : List Stmt} (h : WE g w B env A iter σ fun v σ₁ => ∃ n P Inv, Iters g w B env A v n P Inv ∧ ∃ J : Nat → St → Prop, J 0 σ₁ ∧ (∀ k σ', J k σ' → Inv σ') ∧
      (∀ k u σ', k < n → P k u → J k σ' → WS g w B env A body (σ'.set x u) fun f σ'' => match f with | .next | .cont => J (k + 1) σ'' | .brk => WS g w B env A rest σ'' K | .ret u => K (.ret u) σ'') ∧
      ∀ σ', J n σ' → WS g w B env A rest σ' K)
    (hx : Binds env x := by exact .inl rfl) (hk : env.scope.kind = .function := by rfl) (hs : ∀ y, foldedSetIterable iter env y = pure y := by intro _; rfl) : WS g w B env A (.For (.Name x px) iter body [] pos :: rest) σ K :=
  ws_cons fun fm ρ s Q E O r q => by
    refine wpG_For (h fm ρ s _ E O r fun v σ₁ ρ₁ a s₁ l₁ r₁ v₁ h₁ => ?_) hs
    obtain ⟨n, P, Inv, it, J, j0, inv, turn, fin⟩ := h₁
    refine it σ₁ fm ρ₁ s₁ a _ E O r₁ (inv 0 _ j0) v₁ fun I ob S h' tk IT hI hk' hob s0 => ?_
    have ap := r₁.apart hI
    refine codeG_forLoop (fun d s' => ∃ k σ' ρ' ob', d = n + 1 - k ∧ k ≤ n ∧ J k σ' ∧ ρ₁.le ρ' ∧ Rel w env fm ρ' σ' s' ∧ Apart env fm ρ' σ' I ∧ s'.heap.get? I = some ob' ∧ S k ob') ?_ (n + 1)
      ⟨0, σ₁, ρ₁, ob, rfl, Nat.zero_le _, j0, ρ₁.le_refl, r₁.kept tk hk', ap, hob, s0⟩
    rintro d s' ⟨k, σ', ρ', ob', rfl, hkn, jk, l', r', ap', hob', sk⟩
    by_cases hlt : k < n
    · refine IT.item env k σ' fm ρ' s' _ _ ob' hlt (inv k σ' jk) l' r' hob' sk fun u y h₂ tk₂ ob₂ hu vu hs₂ ho₂ sk₂ => ?_
      have r₂ := r'.besides tk₂ ap' hs₂
      have ap₂ : Apart env fm ρ' σ' I := ap'
      refine wpG_assign_Name (store_ (O.wk ap'.own) (r₂.wk ap₂ ho₂) vu hx hk fun s₃ r₃ => ?_)
      refine turn k u σ' hlt hu jk (fm.wk I ob₂) ρ' s₃ _ _ (O.wk ap'.own) r₃ fun f σ₄ ρ₄ c s₄ l₄ r₄ fr kk => ?_
      obtain ⟨r₅, ap₅, g₅⟩ := r₄.unwk ap'.own
      cases f with
      | next => cases fr; exact ⟨n + 1 - (k + 1), by lia, k + 1, σ₄, ρ₄, ob₂, rfl, hlt, kk, l'.trans l₄, r₅, ap₅, g₅, sk₂⟩
      | cont => cases fr; exact ⟨n + 1 - (k + 1), by lia, k + 1, σ₄, ρ₄, ob₂, rfl, hlt, kk, l'.trans l₄, r₅, ap₅, g₅, sk₂⟩
      | brk => cases fr; exact q .next _ _ _ _ ((l₁.trans l').trans l₄) r₅ rfl kk
      | ret u => obtain ⟨z, rfl, vz⟩ := fr; exact q (.ret u) _ _ _ _ ((l₁.trans l').trans l₄) r₅ ⟨z, rfl, vz⟩ kk
    · have hkn' : k = n := by lia
      subst hkn'
      refine IT.done env σ' fm ρ' s' _ _ ob' (inv k σ' jk) l' r' hob' sk fun h₂ tk₂ hs₂ => ?_
      exact wpG_of (wpAny_execs_nil (q .next _ _ _ _ (l₁.trans l') (r'.besides tk₂ ap' hs₂) rfl (fin σ' jk)))
end
end Mine
end
section
set_option maxRecDepth 100000
set_option autoImplicit false
namespace Mine
open PySem PySem.Calls PySem.Spec PyProof.Rows PySem.W

section
variable {g : Bool} {M : Model} {A : Around} {E : Value → Shared → Prop} {s : Shared} {env : Env} {f : Value} {first : List Value} {pos : Pos}
theorem wpG_spliced_cons {x : Sem Value} {rest : List (Bool × Sem Value)} {Q : List Value → Shared → Prop}
    (h : wpG g M A x (fun v s₁ => wpG g M A (spliced rest) (fun vs s₂ => Q (v :: vs) s₂) E s₁) E s) : wpG g M A (spliced ((false, x) :: rest)) Q E s := by
  rw [spliced]
  refine wpG_bind (wpG_mono h (fun v s₁ h₁ => ?_) fun _ _ x => x)
  simp only [Bool.false_eq_true, if_false]
  exact wpG_bind (wpG_pure (wpG_bind (wpG_holding (wpG_mono h₁ (fun vs s₂ h₂ => wpG_pure h₂) fun _ _ x => x))))
theorem wpG_evalArgs_plain {x : Sem Value} {rest : List (Bool × Sem Value)} {Q : Args → Shared → Prop}
    (h : wpG g M A (spliced ((false, x) :: rest)) (fun vs s' => Q ⟨vs, []⟩ s') E s) : wpG g M A (evalArgs f true ((false, x) :: rest) []) Q E s := by
  unfold evalArgs
  show wpG g M A (spliced ((false, x) :: rest) >>= _) Q E s
  refine wpG_bind (wpG_mono h (fun vs s' h' => ?_) fun _ _ x => x)
  refine wpG_holding ?_
  exact wpG_bind (wpG_pure (wpG_bind (wpG_pure (wpG_pure h'))))
theorem wpG_callWith_of {P : Heap → Prop} {Q : Value → Shared → Prop} {args : List (Bool × Sem Value)} {keywords : List (Option Str × Sem Value)} (hplain : (args.any (·.1) || keywords.any (·.1.isNone)) = false)
    (hk : ∀ h, P h → ∃ k, (k = Keeper.frame ∨ k = Keeper.machine ∨ k = Keeper.boundFrame) ∧ Looks M h (keeperOf f) k)
    (h : wpG g M A (evalArgs f true args keywords) (fun a s₁ => P s₁.heap ∧ wpG g M A (call f (first ++ a.pos) a.kw) Q E s₁) E s) : wpG g M A (callWith pos f first args keywords) Q E s := by
  unfold callWith
  refine wpG_bind (wpG_holding (wpG_mono h (fun a s₁ h₁ => wpG_bind (wpG_standAt ?_)) fun _ _ x => x))
  obtain ⟨k, hk', L⟩ := hk _ h₁.1
  simp only [hplain]
  refine wpG_bind (wpG_of (L.here ?_))
  have tail : ∀ {t : Sem Value}, wpG g M A t Q E s₁ → wpG g M A (t >>= fun r => holding [r] point >>= fun _ => pure r) Q E s₁ :=
    fun ht => wpG_bind (wpG_mono ht (fun r s₂ hr => wpG_bind (wpG_holding (wpG_point (wpG_pure hr)))) fun _ _ x => x)
  have marked (mk : Value) : wpG g M A (callMarked mk f (first ++ a.pos) a.kw) Q E s₁ := by unfold callMarked; exact wpG_keep h₁.2
  rcases hk' with rfl | rfl | rfl <;> dsimp only <;> first | exact tail h₁.2 | (split <;> first | exact tail h₁.2 | exact tail (marked _))
theorem wpG_Call_ofName {x : Str} {np : Pos} {args : List Expr} {keywords : List Keyword} {Q : Value → Shared → Prop}
    (h : wpG g M A (eval (.Name x np) env) (fun f s₁ => wpG g M A (callWith pos f [] (backTo pos (starEach args env)) (backToKw pos (keywordEach keywords env))) Q E s₁) E s) :
    wpG g M A (eval (.Call (.Name x np) args keywords pos) env) Q E s := by
  show wpG g M A (do callWith pos (← eval (.Name x np) env) [] (backTo pos (starEach args env)) (backToKw pos (keywordEach keywords env))) Q E s
  exact wpG_bind h
end

section
variable {g : Bool} {w : World} {B : Heap} {env : Env} {A : Around} {σ : St} {K : V → St → Prop} {pos px apos : Pos}

noncomputable abbrev WA (g : Bool) (w : World) (B : Heap) (env : Env) (A : Around) (pos : Pos) (es : List Expr) (σ : St) (K : List V → St → Prop) : Prop := WT g w B env A (spliced (backTo pos (starEach es env))) LR σ K
theorem wa_nil {K : List V → St → Prop} (h : K [] σ) : WA g w B env A pos [] σ K := fun _ ρ s _ _ _ r q => wpG_of (spliced_nil (q [] _ ρ _ s ρ.le_refl r trivial h))
theorem wa_cons {e : Expr} {es : List Expr} {K : List V → St → Prop} (h : WE g w B env A e σ fun v σ₁ => WA g w B env A pos es σ₁ fun vs σ₂ => K (v :: vs) σ₂)
    (he : starEach (e :: es) env = (false, eval e env) :: starEach es env := by rfl) : WA g w B env A pos (e :: es) σ K := fun fm ρ s Q E O r q => by
  rw [he]
  show wpG g _ _ (spliced ((false, eval e env) :: backTo pos (starEach es env))) Q E s
  exact wpG_spliced_cons (h fm ρ s _ E O r fun v σ₁ ρ₁ a s₁ l₁ r₁ v₁ h₁ => h₁ fm ρ₁ s₁ _ E O r₁ fun vs σ₂ ρ₂ b s₂ l₂ r₂ v₂ h₂ => q (v :: vs) _ _ _ _ (l₁.trans l₂) r₂ ⟨v₁.mono l₂, v₂⟩ h₂)

/- a call with the values at hand -/
noncomputable def WC (g : Bool) (w : World) (B : Heap) (env : Env) (A : Around) (f : Value) (vs : List V) (σ : St) (K : V → St → Prop) : Prop :=
  ∀ fm ρ s xs (Q : Value → Shared → Prop) E, FmOk B env A fm → Rel w env fm ρ σ s → LR ρ vs xs → (∀ v σ' ρ' c s', ρ.le ρ' → Rel w env fm ρ' σ' s' → VR ρ' v c → K v σ' → Q c s') →
    wpG g (model PR w) A (call f xs) Q E s

theorem WC.up {f : Value} {vs : List V} (h : WC false w B env A f vs σ K) : WC g w B env A f vs σ K := fun fm ρ s xs Q E O r l q => wpG_up (h fm ρ s xs Q E O r l q)
theorem WC.mono {f : Value} {vs : List V} {K' : V → St → Prop} (h : WC g w B env A f vs σ K) (hK : ∀ b σ', K b σ' → K' b σ') : WC g w B env A f vs σ K' :=
  fun fm ρ s xs Q E O r l q => h fm ρ s xs Q E O r l fun b σ' ρ' a s' l r' e k => q b σ' ρ' a s' l r' e (hK b σ' k)

/- a callee whose call is plain -/
noncomputable def Kp (w : World) (f : Value) : Prop := ∀ h, (KK w.params).In h → ∃ k, (k = Keeper.frame ∨ k = Keeper.machine ∨ k = Keeper.boundFrame) ∧ Looks (model PR w) h (keeperOf f) k
theorem kp_builtin (id : String) : Kp w (.builtin id) := fun _ _ => ⟨.machine, .inr (.inl rfl), Looks.now⟩
theorem kp_type (T : String) : Kp w (.type T) := fun _ _ => ⟨.machine, .inr (.inl rfl), Looks.now⟩
theorem kp_ref {a : Addr} (h : keepIn (KK w.params) (.ref a) = true) : Kp w (.ref a) := fun _ X => keeps_K h _ X

theorem Rel.inK {fm : Fm} {ρ : Rho} {s : Shared} (HB : BaseOk w B) (r : Rel w env fm ρ σ s) (O : FmOk B env A fm) : (KK w.params).In s.heap := HB.kin.keeps (r.base O)

theorem callWith_ {fm : Fm} {ρ : Rho} {s : Shared} {f : Value} {first : List V} {xs : List Value} {es : List Expr} {Q : Value → Shared → Prop} {E : Value → Shared → Prop} (HB : BaseOk w B) (hf : Kp w f) (O : FmOk B env A fm) (r : Rel w env fm ρ σ s)
    (hfirst : LR ρ first xs) (h : WA g w B env A pos es σ fun vs σ₂ => WC g w B env A f (first ++ vs) σ₂ K) (hplain : (backTo pos (starEach es env)).any (·.1) = false)
    (q : ∀ v σ' ρ' c s', ρ.le ρ' → Rel w env fm ρ' σ' s' → VR ρ' v c → K v σ' → Q c s') : wpG g (model PR w) A (callWith pos f xs (backTo pos (starEach es env)) []) Q E s := by
  refine wpG_callWith_of (P := fun h => (KK w.params).In h) (by rw [hplain]; rfl) hf ?_
  have key : wpG g (model PR w) A (spliced (backTo pos (starEach es env))) (fun vs s₁ => (KK w.params).In s₁.heap ∧ wpG g (model PR w) A (call f (xs ++ vs)) Q E s₁) E s :=
    h fm ρ s _ E O r fun vs σ₂ ρ₂ b s₂ l₂ r₂ v₂ h₂ => ⟨r₂.inK HB O, h₂ fm ρ₂ s₂ _ Q E O r₂ ((hfirst.mono l₂).append v₂) fun v σ' ρ' c s' l' r' vr kk => q v σ' ρ' c s' (l₂.trans l') r' vr kk⟩
  have step : ∀ args, args = backTo pos (starEach es env) → wpG g (model PR w) A (evalArgs f true args []) (fun a s₁ => (KK w.params).In s₁.heap ∧ wpG g (model PR w) A (call f (xs ++ a.pos) a.kw) Q E s₁) E s := by
    intro args e
    rw [← e] at key hplain
    match args, hplain, key with
    | [], _, key =>
      unfold evalArgs
      show wpG g _ _ (spliced [] >>= _) _ _ _
      refine wpG_bind (wpG_mono key (fun vs s₁ h₁ => ?_) fun _ _ x => x)
      refine wpG_bind (wpG_pure ?_)
      refine wpG_holding ?_
      exact wpG_bind (wpG_pure (wpG_bind (wpG_pure (wpG_pure h₁))))
    | (false, x) :: rest, _, key => exact wpG_evalArgs_plain key
    | (true, x) :: rest, hp, _ => simp at hp
  exact step _ rfl

/- a call of a name -/
theorem we_call {x : Str} {es : List Expr} (HB : BaseOk w B) (h : WE g w B env A (.Name x px) σ fun f σ₁ => ∃ fv, f = .raw fv ∧ Kp w fv ∧ WA g w B env A pos es σ₁ fun vs σ₂ => WC g w B env A fv vs σ₂ K)
    (hp : (backTo pos (starEach es env)).any (·.1) = false := by rfl) : WE g w B env A (.Call (.Name x px) es [] pos) σ K := fun fm ρ s Q E O r q => by
  refine wpG_Call_ofName (h fm ρ s _ E O r fun f σ₁ ρ₁ a s₁ l₁ r₁ v₁ h₁ => ?_)
  obtain ⟨fv, rfl, hk, h₂⟩ := h₁
  cases v₁
  exact callWith_ (first := []) (xs := []) HB hk O r₁ trivial h₂ hp fun v σ' ρ' c s' l' r' vr kk => q v σ' ρ' c s' (l₁.trans l') r' vr kk

/- what type a value of the call has -/
noncomputable def TyV (w : World) (env : Env) (v : V) (T : String) (σ : St) : Prop :=
  ∀ fm ρ s x, Rel w env fm ρ σ s → VR ρ v x → s.TypeIs x T ∧ ∀ a, x = .ref a → ∃ ob, s.heap.get? a = some ob ∧ ob.dict = none
theorem ty_str {x : Str} : TyV w env (.str x) "str" σ := by rintro fm ρ s _ r ⟨t, rfl⟩; exact ⟨rfl, fun _ e => nomatch e⟩
theorem ty_bytes {x : Array UInt8} : TyV w env (.bytes x) "bytes" σ := by rintro fm ρ s _ r ⟨t, rfl⟩; exact ⟨rfl, fun _ e => nomatch e⟩
theorem ty_int {x : Int} : TyV w env (.int x) "int" σ := by rintro fm ρ s _ r ⟨t, rfl⟩; exact ⟨rfl, fun _ e => nomatch e⟩
theorem ty_list {i : Nat} {xs : List V} (h : σ.obj i = some (.list xs)) : TyV w env (.ref i) "list" σ := by
  rintro fm ρ s _ r ⟨a, e, rfl⟩
  obtain ⟨a', ob, p, g, ⟨vs, n, rfl, _⟩, _⟩ := r.obj i _ h
  rw [e] at p; cases p
  exact ⟨⟨_, g, rfl⟩, fun b q => by cases q; exact ⟨_, g, rfl⟩⟩

/- a method of a built-in type -/
theorem we_meth {o : Expr} {name : Str} {es : List Expr} {T id : String} (HB : BaseOk w B) (pa : PlainAttrs T) (slot : Slot T name id) (hty : typeOf (.builtin id) = pure (.type "method_descriptor"))
    (h : WE false w B env A o σ fun ov σ₁ => TyV w env ov T σ₁ ∧ WA false w B env A pos es σ₁ fun vs σ₂ => WC false w B env A (.builtin id) (ov :: vs) σ₂ K)
    (hbase : attributeBase o name env (eval o env) = eval o env := by rfl) (hline : (apos.endLine == pos.line) = true := by rfl)
    (hfew : ((backTo pos (starEach es env)).all (fun x => !x.1) && (backToKw pos (keywordEach [] env)).all (fun x => x.1.isSome)
      && decide (es.length + ([] : List Keyword).length + (if ([] : List Keyword).isEmpty then 0 else 1) < 30)) = true := by rfl)
    (hp : (backTo pos (starEach es env)).any (·.1) = false := by rfl) : WE g w B env A (.Call (.Attribute o name apos) es [] pos) σ K := fun fm ρ s Q E O r q => by
  refine wpG_of (wpAny_Call_method hbase hfew hline pa slot hty (wpG_any (h fm ρ s _ E O r fun ov σ₁ ρ₁ a s₁ l₁ r₁ v₁ h₁ => ?_)))
  obtain ⟨ht, h₂⟩ := h₁
  obtain ⟨h3, h4⟩ := ht fm ρ₁ s₁ a r₁ v₁
  exact ⟨h3, h4, wpG_any (callWith_ (first := [ov]) (xs := [a]) HB (kp_builtin id) O r₁ ⟨v₁, trivial⟩ h₂ hp fun v σ' ρ' c s' l' r' vr kk => q v σ' ρ' c s' (l₁.trans l') r' vr kk)⟩
end
end Mine
end
section
set_option maxRecDepth 100000
set_option autoImplicit false
namespace Mine
open PySem PySem.Calls PySem.Spec PyProof.Rows PySem.W
open Classical in
/- what a callee must leave -/
noncomputable def Fm.inner (fm : Fm) (env : Env) (ρ : Rho) (σ : St) (s : Shared) : Fm where
  keep := fun b => if (∃ i, σ.obj i ≠ none ∧ ρ i = some b) ∨ b = env.locals ∨ fm.dat b ≠ none then none else s.heap.get? b
  dat := fun b => if b = env.locals ∨ fm.dat b ≠ none then (s.heap.get? b).map (·.data) else none
  outs := env :: fm.outs
  s0 := s

section
variable {g : Bool} {w : World} {B : Heap} {env : Env} {A : Around} {σ : St} {fm : Fm} {ρ : Rho} {s : Shared}

theorem Fm.inner_keep {b : Addr} {o : Obj} (h1 : ∀ i, σ.obj i ≠ none → ρ i ≠ some b) (h2 : b ≠ env.locals) (h3 : fm.dat b = none) (h : s.heap.get? b = some o) : (fm.inner env ρ σ s).keep b = some o := by
  have : ¬ ((∃ i, σ.obj i ≠ none ∧ ρ i = some b) ∨ b = env.locals ∨ fm.dat b ≠ none) := by
    rintro (⟨i, hi, e⟩ | e | e)
    · exact h1 i hi e
    · exact h2 e
    · exact e h3
  simp only [Fm.inner, if_neg this, h]
theorem Fm.inner_dat {b : Addr} {o : Obj} (h : b = env.locals ∨ fm.dat b ≠ none) (ho : s.heap.get? b = some o) : (fm.inner env ρ σ s).dat b = some o.data := by
  simp only [Fm.inner, if_pos h, ho, Option.map_some]
theorem Fm.of_inner_keep {b : Addr} {o : Obj} (h : (fm.inner env ρ σ s).keep b = some o) : s.heap.get? b = some o := by
  simp only [Fm.inner] at h
  split at h
  · cases h
  · exact h
theorem Fm.of_inner_dat {b : Addr} {d : Data} (h : (fm.inner env ρ σ s).dat b = some d) : (b = env.locals ∨ fm.dat b ≠ none) ∧ ∃ o, s.heap.get? b = some o ∧ o.data = d := by
  simp only [Fm.inner] at h
  split at h
  · rename_i q
    refine ⟨q, ?_⟩
    cases g : s.heap.get? b with
    | none => rw [g] at h; cases h
    | some o => rw [g] at h; cases h; exact ⟨o, rfl, rfl⟩
  · cases h

theorem Rel.own_ne {i : Nat} {b : Addr} (r : Rel w env fm ρ σ s) (hi : σ.obj i ≠ none) (e : ρ i = some b) : Own env fm b ∧ ∃ o, s.heap.get? b = some o := by
  cases q : σ.obj i with
  | none => exact absurd q hi
  | some o =>
    obtain ⟨a, ob, p, g, _, own⟩ := r.obj i o q
    rw [p] at e; cases e
    exact ⟨own, ob, g⟩

/- what a called def finds -/
theorem FmOk.inner {env' : Env} {cm m : Str → Option Value} {s₁ : Shared} (O : FmOk B env A fm) (r : Rel w env fm ρ σ s) (hf : env.frame = some env.locals) (hkind : env.scope.kind = .function)
    (hL : env'.locals = s.heap.objs.size) (hfr' : env'.frame = some env'.locals) (ic : InCallC s env'.locals m env'.cells cm s₁) : FmOk B env' (A.deeper env') (fm.inner env ρ σ s) where
  frok := fun L e => .inl (by rw [hfr'] at e; exact (Option.some.inj e).symm)
  frs := fun _ => by show A.frames.map (env' :: ·) = _; rw [O.frs hf]; rfl
  base := fun b o e => by
    have hk := O.base b o e
    refine Fm.inner_keep (fun i hi q => ?_) ?_ (O.dj b (by rw [hk]; exact Option.some_ne_none _)) (r.keep b o hk)
    · rw [(r.own_ne hi q).1.1] at hk; cases hk
    · rintro rfl; rw [O.locs.1] at hk; cases hk
  locs := by
    have : s.heap.get? env'.locals = none := by
      cases g : s.heap.get? env'.locals with
      | none => rfl
      | some o => exact absurd (Heap.lt_size g) (by rw [hL]; exact Nat.lt_irrefl _)
    refine ⟨?_, ?_⟩
    · cases q : (fm.inner env ρ σ s).keep env'.locals with
      | none => rfl
      | some o => rw [Fm.of_inner_keep q] at this; cases this
    · cases q : (fm.inner env ρ σ s).dat env'.locals with
      | none => rfl
      | some o => obtain ⟨_, o', g, _⟩ := Fm.of_inner_dat q; rw [g] at this; cases this
  cels := fun p hp => by
    have hlt := ic.above p.1 p.2 hp
    have : s.heap.get? p.2 = none := by
      cases g : s.heap.get? p.2 with
      | none => rfl
      | some o => exact absurd (Heap.lt_size g) (Nat.not_lt.mpr (Nat.le_of_lt (hL ▸ hlt)))
    refine ⟨?_, Nat.ne_of_gt hlt, fun _ => ?_⟩
    · cases q : (fm.inner env ρ σ s).dat p.2 with
      | none => rfl
      | some o => obtain ⟨_, o', g, _⟩ := Fm.of_inner_dat q; rw [g] at this; cases this
    · cases q : (fm.inner env ρ σ s).keep p.2 with
      | none => rfl
      | some o => rw [Fm.of_inner_keep q] at this; cases this
  dj := fun b hb => by
    cases q : (fm.inner env ρ σ s).dat b with
    | none => rfl
    | some d =>
      obtain ⟨h, _⟩ := Fm.of_inner_dat q
      refine absurd ?_ hb
      simp only [Fm.inner]
      rw [if_pos (.inr h)]
  apart := ic.apart
  outs := fun e he => by
    rcases List.mem_cons.mp he with rfl | he
    · obtain ⟨m₀, ⟨o, es, ep, g, hd, _⟩, _⟩ := r.ns
      refine ⟨by rw [hkind]; decide, e.locals, o.data, hf, ?_, Fm.inner_dat (.inl rfl) g, fun vs => by rw [hd]; intro h; cases h⟩
      cases q : B.get? e.locals with
      | none => rfl
      | some x => have := O.base _ _ q; rw [O.locs.1] at this; cases this
    · obtain ⟨h1, L, d, h2, h3, h4, h5⟩ := O.outs e he
      obtain ⟨o, g, hd⟩ := r.dat L d h4
      exact ⟨h1, L, d, h2, h3, hd ▸ Fm.inner_dat (.inr (by rw [h4]; exact Option.some_ne_none _)) g, h5⟩

theorem Rel.enter {env' : Env} {cm m : Str → Option Value} {s₁ : Shared} {loc : List (Str × V)} (O : FmOk B env A fm) (r : Rel w env fm ρ σ s) (hL : env'.locals = s.heap.objs.size) (ic : InCallC s env'.locals m env'.cells cm s₁)
    (hloc : ∀ p ∈ loc, env'.kindOf p.1 = some .local → ∃ x, m p.1 = some x ∧ VR ρ p.2 x)
    (hcel : ∀ p ∈ loc, env'.kindOf p.1 ≠ some .local → ∃ c x, env'.cells.lookup p.1 = some c ∧ cm p.1 = some x ∧ VR ρ p.2 x)
    (hnd : (env'.cells.map (·.1)).Nodup) : Rel w env' (fm.inner env ρ σ s) ρ { loc := loc, obj := σ.obj, free := σ.free } s₁ where
  same := ic.toInCall.same
  keep := fun b o e => ic.toInCall.keep b o (Fm.of_inner_keep e)
  dat := fun b d e => let ⟨_, o, g, q⟩ := Fm.of_inner_dat e; ⟨o, ic.toInCall.keep b o g, q⟩
  ns := ⟨m, ic.toInCall.ns, hloc⟩
  cel := fun p hp n => let ⟨c, x, e, f, v⟩ := hcel p hp n; ⟨c, x, e, f ▸ ic.cell p.1 c e, v⟩
  cells := fun p hp => by
    have : ∀ (l : List (Str × Addr)), (l.map (·.1)).Nodup → p ∈ l → l.lookup p.1 = some p.2 := by
      intro l
      induction l with
      | nil => intro _ h; cases h
      | cons q l ih =>
        intro hn h
        obtain ⟨x, c⟩ := q
        rw [List.map_cons, List.nodup_cons] at hn
        rcases List.mem_cons.mp h with e | h
        · subst e; simp
        · have hne : p.1 ≠ x := fun e => hn.1 (e ▸ List.mem_map.mpr ⟨p, h, rfl⟩)
          rw [List.lookup_cons, beq_eq_false_iff_ne.mpr hne]
          exact ih hn.2 h
    exact ⟨_, ic.cell p.1 p.2 (this _ hnd hp)⟩
  obj := fun i o e => by
    obtain ⟨a, ob, p, g, q, own⟩ := r.obj i o e
    have hlt := Heap.lt_size g
    refine ⟨a, ob, p, ic.toInCall.keep a ob g, q, ?_, ?_, ?_, fun c hc => ?_⟩
    · simp only [Fm.inner]
      rw [if_pos (.inl ⟨i, (by rw [e]; exact Option.some_ne_none _), p⟩)]
    · cases q : (fm.inner env ρ σ s).dat a with
      | none => rfl
      | some d =>
        obtain ⟨h, _⟩ := Fm.of_inner_dat q
        rcases h with h | h
        · exact absurd h own.2.2.1
        · exact absurd own.2.1 h
    · rw [hL]; exact Nat.ne_of_lt hlt
    · have h1 : env'.locals < c.2 := ic.above c.1 c.2 hc
      rw [hL] at h1
      exact Nat.ne_of_gt (Nat.lt_trans hlt h1)
  inj := r.inj
  free := r.free

/- back from it -/
theorem Rel.leave {env' : Env} {σ' : St} {ρ' : Rho} {s' : Shared} (O : FmOk B env A fm) (r : Rel w env fm ρ σ s) (hle : ρ.le ρ') (r' : Rel w env' (fm.inner env ρ σ s) ρ' σ' s') :
    Rel w env fm ρ' { loc := σ.loc, obj := σ'.obj, free := σ'.free } s' := by
  have cellok : ∀ p ∈ env.cells, ∀ o, s.heap.get? p.2 = some o → (fm.inner env ρ σ s).keep p.2 = some o := fun p hp o g =>
    Fm.inner_keep (fun i hi e => (r.own_ne hi e).1.2.2.2 p hp rfl) (O.cels p hp).2.1 (O.cels p hp).1 g
  refine ⟨?_, fun b o e => ?_, fun b d e => ?_, ?_, fun p hp n => ?_, fun p hp => ?_, fun i o e => ?_, r'.inj, r'.free⟩
  · obtain ⟨h, tk, e⟩ := r.same
    obtain ⟨h', tk', e'⟩ := r'.same
    exact ⟨h', tk', by rw [e']; show ({ s with heap := h', toks := tk' } : Shared) = _; rw [e]⟩
  · refine r'.keep b o (Fm.inner_keep (fun i hi q => ?_) ?_ (O.dj b (by rw [e]; exact Option.some_ne_none _)) (r.keep b o e))
    · rw [(r.own_ne hi q).1.1] at e; cases e
    · rintro rfl; rw [O.locs.1] at e; cases e
  · obtain ⟨o, g, hd⟩ := r.dat b d e
    exact hd ▸ r'.dat b o.data (Fm.inner_dat (.inr (by rw [e]; exact Option.some_ne_none _)) g)
  · obtain ⟨m, ⟨o, es, ep, g, hd, hs, hn⟩, q⟩ := r.ns
    obtain ⟨o', g', hd'⟩ := r'.dat env.locals o.data (Fm.inner_dat (.inl rfl) g)
    exact ⟨m, ⟨o', es, ep, g', hd'.trans hd, hs, hn⟩, fun p hp hl => let ⟨x, e, v⟩ := q p hp hl; ⟨x, e, v.mono hle⟩⟩
  · obtain ⟨c, x, e, ⟨o, g, hd⟩, v⟩ := r.cel p hp n
    exact ⟨c, x, e, ⟨o, r'.keep c o (cellok (p.1, c) (mem_of_lookup e) o g), hd⟩, v.mono hle⟩
  · obtain ⟨v, o, g, hd⟩ := r.cells p hp
    exact ⟨v, o, r'.keep p.2 o (cellok p hp o g), hd⟩
  · obtain ⟨a, ob, p, g, q, own⟩ := r'.obj i o e
    refine ⟨a, ob, p, g, q, ?_⟩
    by_cases hold : ∃ j, σ.obj j ≠ none ∧ ρ j = some a
    · obtain ⟨j, hj, ej⟩ := hold
      exact (r.own_ne hj ej).1
    · have nolive : ∀ j, σ.obj j ≠ none → ρ j ≠ some a := fun j hj ej => hold ⟨j, hj, ej⟩
      have h2 : fm.dat a = none := by
        cases hq : fm.dat a with
        | none => rfl
        | some d =>
          obtain ⟨o', g', _⟩ := r.dat a d hq
          have := Fm.inner_dat (env := env) (ρ := ρ) (σ := σ) (fm := fm) (.inr (by rw [hq]; exact Option.some_ne_none _)) g'
          rw [own.2.1] at this; cases this
      have h3 : a ≠ env.locals := by
        rintro rfl
        obtain ⟨m, ⟨o', es, ep, g', _⟩, _⟩ := r.ns
        have := Fm.inner_dat (env := env) (ρ := ρ) (σ := σ) (fm := fm) (.inl rfl) g'
        rw [own.2.1] at this; cases this
      refine ⟨?_, h2, h3, fun c hc ec => ?_⟩
      · cases hq : fm.keep a with
        | none => rfl
        | some o' =>
          have := Fm.inner_keep (env := env) (σ := σ) (fm := fm) nolive h3 h2 (r.keep a o' hq)
          rw [own.1] at this; cases this
      · obtain ⟨v, o', g', _⟩ := r.cells c hc
        have := cellok c hc o' g'
        rw [ec, own.1] at this; cases this

theorem zip_at {α : Type} {x : Str} {v : α} : ∀ {ns : List Str} {vs : List α}, (x, v) ∈ ns.zip vs → ∃ i : Nat, ns[i]? = some x ∧ vs[i]? = some v := by
  intro ns
  induction ns with
  | nil => intro vs h; cases vs <;> cases h
  | cons n ns ih =>
    intro vs h
    cases vs with
    | nil => cases h
    | cons u vs =>
      rcases List.mem_cons.mp h with e | h
      · cases e; exact ⟨0, rfl, rfl⟩
      · obtain ⟨i, h1, h2⟩ := ih h
        exact ⟨i + 1, h1, h2⟩
/- the names of the parameters bear the arguments -/
theorem bindL_get {kd : Str → Option NameKind} : ∀ {ns : List Str} {xs : List Value} {m : Str → Option Value} {x : Str} {y : Value} {i : Nat}, ns.Nodup → ns[i]? = some x → xs[i]? = some y → kd x = some .local → bindL kd (ns.zip xs) m x = some y := by
  have pass : ∀ {ns : List Str} {xs : List Value} {m : Str → Option Value} {x : Str}, x ∉ ns → bindL kd (ns.zip xs) m x = m x := by
    intro ns
    induction ns with
    | nil => intro xs m x _; cases xs <;> rfl
    | cons n ns ih =>
      intro xs m x hx
      cases xs with
      | nil => rfl
      | cons u xs =>
        show bindL kd (ns.zip xs) (if kd n = some .local then fun y => if y = n then some u else m y else m) x = m x
        rw [ih fun h => hx (.tail _ h)]
        split
        · exact if_neg (by rintro rfl; exact hx (.head _))
        · rfl
  intro ns
  induction ns with
  | nil => intro xs m x y i _ h; cases h
  | cons n ns ih =>
    intro xs m x y i hn h1 h2 hk
    obtain ⟨hn1, hn2⟩ := List.nodup_cons.mp hn
    cases xs with
    | nil => cases h2
    | cons u xs =>
      show bindL kd (ns.zip xs) (if kd n = some .local then fun y => if y = n then some u else m y else m) x = some y
      cases i with
      | zero =>
        cases h1; cases h2
        rw [pass hn1, if_pos hk]
        exact if_pos rfl
      | succ i => exact ih hn2 h1 h2 hk
theorem bindC_get {kd : Str → Option NameKind} : ∀ {ns : List Str} {xs : List Value} {m : Str → Option Value} {x : Str} {y : Value} {i : Nat}, ns.Nodup → ns[i]? = some x → xs[i]? = some y → kd x ≠ some .local → bindC kd (ns.zip xs) m x = some y := by
  have pass : ∀ {ns : List Str} {xs : List Value} {m : Str → Option Value} {x : Str}, x ∉ ns → bindC kd (ns.zip xs) m x = m x := by
    intro ns
    induction ns with
    | nil => intro xs m x _; cases xs <;> rfl
    | cons n ns ih =>
      intro xs m x hx
      cases xs with
      | nil => rfl
      | cons u xs =>
        show bindC kd (ns.zip xs) (if kd n = some .local then m else fun y => if y = n then some u else m y) x = m x
        rw [ih fun h => hx (.tail _ h)]
        split
        · rfl
        · exact if_neg (by rintro rfl; exact hx (.head _))
  intro ns
  induction ns with
  | nil => intro xs m x y i _ h; cases h
  | cons n ns ih =>
    intro xs m x y i hn h1 h2 hk
    obtain ⟨hn1, hn2⟩ := List.nodup_cons.mp hn
    cases xs with
    | nil => cases h2
    | cons u xs =>
      show bindC kd (ns.zip xs) (if kd n = some .local then m else fun y => if y = n then some u else m y) x = some y
      cases i with
      | zero =>
        cases h1; cases h2
        rw [pass hn1, if_neg hk]
        exact if_pos rfl
      | succ i => exact ih hn2 h1 h2 hk

noncomputable def retOf : Fl → V
  | .ret v => v
  | _ => .none

/- what is fixed of a def -/
structure DefOk (w : World) (fa : Addr) (fd : FuncData) (body : List Stmt) (ns : List Str) : Prop where
  obj : ∃ ob, (KK w.params).lookup fa = some ob ∧ ob.data = .func fd
  body : fd.body = .stmts body
  code : codeIn (KK w.params) fd.code fd.qualname = true
  clo : fd.closure = []
  nodup : ns.Nodup
  kinds : ∀ n, ∀ x ∈ ns, fd.scope.names.lookup x = some .local ∨ (fd.scope.names.lookup x = some .cell ∧ ((cellsFrom n fd.scope.names []).lookup x).isSome = true)
  cellsNodup : ∀ n, ((cellsFrom n fd.scope.names []).map (·.1)).Nodup
  co : fd.scope.isCoroutine = false
  gen : fd.scope.isGenerator = false
  fn : fd.scope.kind = .function

theorem AOk.deeper {n : Nat} {env' : Env} (h : AOk (n + 1) A) : AOk n (A.deeper env') where
  depth := by have := h.depth; show A.depth + 1 + n < recursionLimit; lia
  units := by have := h.units; show A.units + 3 + 60 * n + 60 < cLine; lia
  handled := h.handled
  guards := h.guards

/- a def is called with as many values as it has names -/
theorem wc_def {n : Nat} {fa : Addr} {fd : FuncData} {body : List Stmt} {ns : List Str} {vs : List V} {K : V → St → Prop} (HB : BaseOk w B) (D : DefOk w fa fd body ns)
    (hbind : ∀ xs : List Value, xs.length = ns.length → bindArgs fd ⟨xs, []⟩ = pure (ns.zip xs)) (hlen : vs.length = ns.length) (hA : AOk (n + 1) A) (hf : env.frame = some env.locals) (hkind : env.scope.kind = .function)
    (h : ∀ L A', AOk n A' → WS g w B (callEnvC fd L fa) A' body { loc := ns.zip vs, obj := σ.obj, free := σ.free } fun fl σ' => K (retOf fl) { σ with obj := σ'.obj, free := σ'.free }) :
    WC g w B env A (.ref fa) vs σ K := fun fm ρ s xs Q E O r hv q => by
  obtain ⟨ob, hob, hd⟩ := D.obj
  obtain ⟨p, l, m, mg, mb, T⟩ := HB.top
  have hX := r.inK HB O
  have hlx : xs.length = ns.length := hv.length ▸ hlen
  refine wpG_call (codeG_call_cells (fd := fd) (body := body) (binds := ns.zip xs) (by have := hA.depth; lia) (hX _ _ hob) hd (T.nolimit.keeps (r.base O)) (codeRec_of hX D.code) D.body (by rw [hbind xs hlx]; exact wpG_pure ⟨rfl, rfl⟩) D.clo
    (fun x hx => ?_) (fun s₁ ic => ?_) D.co D.gen D.fn)
  · obtain ⟨i, h1, _⟩ := zip_at (x := x.1) (v := x.2) hx
    exact D.kinds _ x.1 (List.mem_of_getElem? h1)
  · have O' := O.inner r hf hkind (env' := callEnvC fd s.heap.objs.size fa) rfl rfl ic
    have r' := Rel.enter (loc := ns.zip vs) O r (env' := callEnvC fd s.heap.objs.size fa) rfl ic (fun x hx hl => ?_) (fun x hx hl => ?_) (D.cellsNodup _)
    · refine h _ _ hA.deeper _ _ _ _ _ O' r' fun fl σ' ρ' a s' le r'' fr kk => ?_
      have rb := Rel.leave O r le r''
      cases fl with
      | ret v => obtain ⟨x, rfl, vr⟩ := fr; exact q v _ _ _ _ le rb vr kk
      | next => cases fr; exact q .none _ _ _ _ le rb rfl kk
      | brk => cases fr; exact q .none _ _ _ _ le rb rfl kk
      | cont => cases fr; exact q .none _ _ _ _ le rb rfl kk
    · obtain ⟨i, h1, h2⟩ := zip_at (x := x.1) (v := x.2) hx
      obtain ⟨y, h3, h4⟩ := hv.get h2
      exact ⟨y, bindL_get D.nodup h1 h3 hl, h4⟩
    · obtain ⟨i, h1, h2⟩ := zip_at (x := x.1) (v := x.2) hx
      obtain ⟨y, h3, h4⟩ := hv.get h2
      have hk := D.kinds (s.heap.objs.size + 1) x.1 (List.mem_of_getElem? h1)
      rcases hk with hk | ⟨_, hk⟩
      · exact absurd hk hl
      · obtain ⟨c, hc⟩ := Option.isSome_iff_exists.mp hk
        exact ⟨c, y, hc, bindC_get D.nodup h1 h3 hl, h4⟩
end
end Mine
end
section
set_option maxRecDepth 100000
set_option autoImplicit false
namespace Mine
open PySem PySem.Calls PySem.Spec PyProof.Rows PySem.W

section
variable {w : World}
theorem defSep : DefOk w 155 fdSep (dBody (stN 10)) ["path"] where
  obj := ⟨{ cls := .type "function", data := .func _ }, by kernel_rfl, rfl⟩
  body := rfl
  code := by kernel_rfl
  clo := rfl
  nodup := by decide
  kinds := fun n x hx => by simp only [List.mem_singleton] at hx; subst hx; exact .inl (by kernel_rfl)
  cellsNodup := fun n => by rw [show (cellsFrom n fdSep.scope.names []).map (·.1) = [] by kernel_rfl]; exact List.nodup_nil
  co := by kernel_rfl
  gen := by kernel_rfl
  fn := by kernel_rfl
theorem defByteswap : DefOk w 28 fdByteswap (dBody (stN 2)) ["data", "width"] where
  obj := ⟨{ cls := .type "function", data := .func _ }, by kernel_rfl, rfl⟩
  body := rfl
  code := by kernel_rfl
  clo := rfl
  nodup := by decide
  kinds := fun n x hx => by simp only [List.mem_cons, List.not_mem_nil, or_false] at hx; rcases hx with rfl | rfl <;> exact .inl (by kernel_rfl)
  cellsNodup := fun n => by rw [show (cellsFrom n fdByteswap.scope.names []).map (·.1) = [] by kernel_rfl]; exact List.nodup_nil
  co := by kernel_rfl
  gen := by kernel_rfl
  fn := by kernel_rfl
end
section
variable {g : Bool} {w : World} {B : Heap} {A : Around} {env : Env} {σ : St} {K : V → St → Prop}
theorem sep_spec {n : Nat} {v : V} (HB : BaseOk w B) (hA : AOk (n + 1) A) (hf : env.frame = some env.locals) (hkind : env.scope.kind = .function)
    (h : ∀ L A', AOk n A' → WS g w B (callEnvC fdSep L 155) A' (dBody (stN 10)) { loc := [(Str.ofString "path", v)], obj := σ.obj, free := σ.free } fun fl σ' => K (retOf fl) { σ with obj := σ'.obj, free := σ'.free }) :
    WC g w B env A (.ref 155) [v] σ K :=
  wc_def HB defSep (fun xs hl => by
    obtain ⟨x, rfl⟩ := len1 hl
    kernel_rfl) rfl hA hf hkind h
end
end Mine
end
section
set_option maxRecDepth 100000
set_option autoImplicit false
namespace Mine
open PySem PySem.Calls PySem.Spec PyProof.Rows PySem.W
section
variable {g : Bool} {w : World} {B : Heap} {A : Around} {env : Env} {σ : St} {K : V → St → Prop}
theorem wc_isi_str {x : Str} (h : K (.bool false) σ) : WC g w B env A (.builtin "isinstance") [.str x, .raw (.type "bytes")] σ K := by
  rintro fm ρ s xs Q E O r hv q
  obtain ⟨y0, y1, rfl, ⟨t, rfl⟩, rfl⟩ := LR.two hv
  exact wpG_of (IsiPair.str_bytes (q _ _ ρ _ _ ρ.le_refl (r.tok _) vbool h))
theorem wc_isi_bytes {x : Array UInt8} (h : K (.bool true) σ) : WC g w B env A (.builtin "isinstance") [.bytes x, .raw (.type "bytes")] σ K := by
  rintro fm ρ s xs Q E O r hv q
  obtain ⟨y0, y1, rfl, ⟨t, rfl⟩, rfl⟩ := LR.two hv
  exact wpG_of (call_isinstance (isinstance_true (Tx := "bytes") F.isi_meta_bytes F.sub_bytes_bytes) ⟨rfl, q _ _ ρ _ s ρ.le_refl r vbool h⟩)
theorem truthy_b {b : Bool} {K : Bool → St → Prop} (h : K b σ) : W1 g w B env A truthy BR (.bool b) σ K := by
  rintro fm ρ s _ Q E O r rfl q
  exact wpG_of (wpAny_truthy_bool (q _ _ ρ _ s ρ.le_refl r rfl h))

theorem sep_bytes {n : Nat} {x : Array UInt8} (HB : BaseOk w B) (hA : AOk (n + 1) A) (hf : env.frame = some env.locals) (hkind : env.scope.kind = .function) (h : K (.bytes #[47]) σ) :
    WC g w B env A (.ref 155) [.bytes x] σ K := by
  refine sep_spec HB hA hf hkind fun L A' hA' => ?_
  refine ws_if (wb_value (we_call HB (we_blt (v := .builtin "isinstance") HB ⟨_, rfl, kp_builtin _, ?_⟩)))
  refine wa_cons (we_local rfl (wa_cons (we_blt (v := .type "bytes") HB (wa_nil ?_))))
  refine wc_isi_bytes ?_
  refine truthy_b ?_
  refine ws_return (we_bytes ?_)
  exact h
end
end Mine
end
section
set_option maxRecDepth 100000
set_option autoImplicit false
namespace Mine
open PySem PySem.Calls PySem.Spec PyProof.Rows PySem.W
open Sem (wp)

namespace BA
theorem mro : mroOf (.type "bytearray") = pure [.type "bytearray", .type "object"] := by rw [mroOf_type]; kernel_rfl
theorem lookup_new : typeLookup (.type "bytearray") "__new__" = pure (some (.builtin "bytearray.__new__")) := by rw [typeLookup_type, builtinLookup_eq_fast]; kernel_rfl
theorem slot_init : Slot "bytearray" "__init__" "bytearray.__init__" :=
  .of (owner := "bytearray") (n := "__init__") (by rw [typeLookup_type, builtinLookup_eq_fast]; kernel_rfl) (by decide +kernel) (by decide +kernel) (by decide +kernel)
    (by first | exact .inl (by decide +kernel) | exact .inr (by decide +kernel)) (by rw [isSubtype_type]; kernel_rfl)
theorem slot_setitem : Slot "bytearray" "__setitem__" "bytearray.__setitem__" :=
  .of (owner := "bytearray") (n := "__setitem__") (by rw [typeLookup_type, builtinLookup_eq_fast]; kernel_rfl) (by decide +kernel) (by decide +kernel) (by decide +kernel)
    (by first | exact .inl (by decide +kernel) | exact .inr (by decide +kernel)) (by rw [isSubtype_type]; kernel_rfl)
theorem called : TypeCalled "bytearray" "bytearray.__new__" "bytearray.__init__" :=
  ⟨by decide +kernel, by decide +kernel, ⟨_, _, mro⟩, madeBy_type mro lookup_new (by decide +kernel), by decide +kernel, by rw [isSubtype_type]; kernel_rfl, slot_init⟩
theorem typeCall (a : Value) : checkTypeCall "bytearray" ⟨[a], []⟩ = pure () := by kernel_rfl
theorem newCall (a : Value) : checkBuiltinCall "bytearray.__new__" ⟨[.type "bytearray", a], []⟩ = pure () := by kernel_rfl
theorem entry_new : entryFor table "bytearray.__new__" = some Builtin.«list.__new__» := entryFor_alias (id' := "list.__new__") (by kernel_rfl) (by decide +kernel) (by kernel_rfl) (by kernel_rfl)
theorem entry_init : entryFor table "bytearray.__init__" = some Builtin.«bytearray.__init__» := by first | exact entryFor_of_fast (by kernel_rfl) | exact entryFor_of_tree (by kernel_rfl)
theorem entry_setitem : entryFor table "bytearray.__setitem__" = some Builtin.«bytearray.__setitem__» := by first | exact entryFor_of_fast (by kernel_rfl) | exact entryFor_of_tree (by kernel_rfl)
theorem plain_new : plainId "bytearray.__new__" = true := by decide +kernel
theorem sub : isSubtype (.type "bytearray") (.type "bytearray") = pure true := F.sub_bytearray_bytearray
theorem lk_release : typeLookup (.type "bytearray") "__release_buffer__" = pure (some (.builtin "bytearray.__release_buffer__")) := by rw [typeLookup_type, builtinLookup_eq_fast]; kernel_rfl
theorem lk_buffer : typeLookup (.type "bytearray") "__buffer__" = pure (some (.builtin "bytearray.__buffer__")) := by rw [typeLookup_type, builtinLookup_eq_fast]; kernel_rfl
theorem no_bytes : typeLookup (.type "bytearray") "__bytes__" = pure none := by rw [typeLookup_type, builtinLookup_eq_fast]; kernel_rfl
theorem noIndex : typeLookup (.type "bytearray") "__index__" = pure none := by rw [typeLookup_type, builtinLookup_eq_fast]; kernel_rfl
theorem bind (v : Value) : Builtin.Bytes.bindOptional "bytearray.__init__" "bytearray" ["source", "encoding", "errors"] [v] [] = pure [some v, none, none] := by kernel_rfl
theorem owner : Manifest.owners.lookup (String.ofList ['y', 'a', 'r', 'r', 'a', 'e', 't', 'y', 'b'].reverse) = some Manifest.sig_bytearray := by kernel_rfl
theorem args_init (x v : Value) : argsOk "bytearray.__init__" ⟨[x, v], []⟩ := by
  unfold argsOk; rw [signature?_of (id := "bytearray.__init__") (n := ['_', '_', 't', 'i', 'n', 'i', '_', '_']) (o := ['y', 'a', 'r', 'r', 'a', 'e', 't', 'y', 'b']) (by kernel_rfl) owner]; kernel_rfl
theorem args_setitem (x v u : Value) : argsOk "bytearray.__setitem__" ⟨[x, v, u], []⟩ := by
  unfold argsOk; rw [signature?_of (id := "bytearray.__setitem__") (n := ['_', '_', 'm', 'e', 't', 'i', 't', 'e', 's', '_', '_']) (o := ['y', 'a', 'r', 'r', 'a', 'e', 't', 'y', 'b']) (by kernel_rfl) owner]; kernel_rfl
theorem ends_release : ("bytearray.__release_buffer__".endsWith ("." ++ "__release_buffer__")) = true := by decide +kernel
theorem drop_release : "bytearray.__release_buffer__".dropRight ("__release_buffer__".length + 1) = "bytearray" := by decide +kernel
theorem ends_buffer : ("bytearray.__buffer__".endsWith ("." ++ "__buffer__")) = true := by decide +kernel
theorem drop_buffer : "bytearray.__buffer__".dropRight ("__buffer__".length + 1) = "bytearray" := by decide +kernel
set_option maxRecDepth 1000000 in
set_option maxHeartbeats 4000000 in
theorem owner_new : ("bytearray.__new__".splitOn ".__new__").headD "" = "bytearray" := by simp +decide [String.splitOn, String.splitOnAux]
end BA
end Mine
end
section
set_option maxRecDepth 100000
set_option autoImplicit false
namespace Mine
open PySem PySem.Calls PySem.Spec PyProof.Rows PySem.W
open Sem (wp)

section
variable {prog : Program} {w : World} {A : Around} {E : Value → Shared → Prop} {s : Shared}

theorem ba_new (a : Value) {Q₁ : Value → Shared → Prop}
    (h : Q₁ (.ref s.heap.objs.size) { s with heap := s.heap.push { cls := .type "bytearray", data := .bytearray #[] } }) :
    codeAny (model prog w) A (.call (.builtin "bytearray.__new__") ⟨[.type "bytearray", a], []⟩) (wants Q₁ E) s := by
  refine codeAny_of_tree ?_
  show wpAny _ A.in1 (do checkBuiltinCall "bytearray.__new__" ⟨[.type "bytearray", a], []⟩; again (.builtin "bytearray.__new__" ⟨[.type "bytearray", a], []⟩)) _ _ s
  refine wpAny_bind (wpAny_of_eq (BA.newCall a) (wpAny_pure ⟨plainId_quiet BA.plain_new _, codeAny_builtin_stack BA.entry_new rfl fun p st => ?_⟩))
  rw [Around.under_plainId BA.plain_new _]
  have hsub := BA.sub
  have hown := BA.owner_new
  obtain ⟨hp, g, d, tk, os⟩ := s
  simp only [hown]
  wp_walk
  exact h

noncomputable abbrev baObj (b : Array UInt8) : Obj := { cls := .type "bytearray", data := .bytearray b }
theorem ba_ownRelease {a : Addr} {b : Array UInt8} {Q : Bool → Shared → Prop} (ho : s.heap.get? a = some (baObj b)) (h : Q false s) : wpAny (model prog w) A (Builtin.Bytes.ownRelease (.ref a)) Q E s := by
  have hT : s.TypeIs (.ref a) "bytearray" := ⟨_, ho, rfl⟩
  unfold Builtin.Bytes.ownRelease Builtin.Bytes.slotIsOwn
  refine wpAny_bind (wpAny_bind (wpAny_specialOf hT BA.lk_release ?_))
  dsimp only
  rw [BA.ends_release, BA.drop_release]
  refine wpAny_ite ?_
  rw [if_neg (by decide)]
  exact wpAny_isInstance hT BA.sub (wpAny_pure h)

theorem wpG_exported {M : Model} {v : Value} {Q : Bool → Shared → Prop} (hg : A.guards = some []) (h : Q false s) : wpG true M A (Builtin.Bytes.exported v) Q E s := fun Γ p hΓ hd => by
  unfold Builtin.Bytes.exported
  show Q (((Γ.code, p) :: Γ.below).any _) s
  have hgs : guardsOf ((Γ.code, p) :: Γ.below) = [] := by rw [guardsOf_cons]; exact hΓ.2.2.2.1 [] hg
  have hnd : Nod ((Γ.code, p) :: Γ.below) := fun c hc => by
    rcases List.mem_cons.mp hc with rfl | hc
    · exact (hd rfl).1
    · exact (hd rfl).2 c hc
  have key : ∀ c ∈ (Γ.code, p) :: Γ.below, c.1.isGuard = false ∧ isDec c.1 = false := by
    intro c hc
    refine ⟨?_, hnd c hc⟩
    cases e : c.1.isGuard with
    | false => rfl
    | true =>
      have : c.1 ∈ guardsOf ((Γ.code, p) :: Γ.below) := List.mem_filter.mpr ⟨List.mem_map.mpr ⟨c, hc, rfl⟩, e⟩
      rw [hgs] at this
      cases this
  generalize (Γ.code, p) :: Γ.below = l at key
  rw [List.any_eq_false.mpr]
  · exact h
  · rintro ⟨c, q⟩ hc
    obtain ⟨h1, h2⟩ := key _ hc
    dsimp only at h1 h2
    cases c with
    | builtin id args =>
      have ne : ∀ s : String, (Code.builtin s args).isGuard = true → ¬ id = s := fun s hs e => by rw [e, hs] at h1; cases h1
      have h3 : Builtin.Bytes.decodersThatHold.contains id = false := h2
      delta Builtin.Bytes.exported.match_1
      dsimp only
      delta Builtin.Bytes.exported._sparseCasesOn_1
      dsimp only
      rw [dif_neg (ne _ rfl), dif_neg (ne _ rfl), dif_neg (ne _ rfl), dif_neg (ne _ rfl), dif_neg (ne _ rfl)]
      cases args with
      | mk pos kw => cases pos with
        | nil => exact Bool.false_ne_true
        | cons v t =>
          show ¬ ((_ && Builtin.Bytes.decodersThatHold.contains id) = true)
          rw [h3, Bool.and_false]
          exact Bool.false_ne_true
    | _ => exact Bool.false_ne_true

theorem wpG_callSpecial {g : Bool} {M : Model} {self : Value} {T : String} {name : Str} {id : String} {args : List Value} {kw : List (Str × Value)}
    {Q : Option Value → Shared → Prop} (hT : s.TypeIs self T) (h : Slot T name id)
    (hc : wpG g M A (call (.builtin id) (self :: args) kw) (fun v => Q (some v)) E s) : wpG g M A (callSpecial? self name args kw) Q E s := by
  simp only [callSpecial?]
  refine wpG_bind (wpG_of (wpAny_specialOf hT h.lookup ?_))
  simp only [h.bind]
  exact wpG_holding (wpG_bind (wpG_pure (wpG_bind (wpG_mono hc (fun v s' h' => wpG_pure h') fun _ _ h' => h'))))

theorem codeG_builtin {g : Bool} {id : String} {args : Args} {b : Builtin} {R : Result → Shared → Prop} (hn : isDec (.builtin id args) = false) (hb : entryFor table id = some b)
    (h : wpG g (model prog w) (A.under (.builtin id args)) (b args)
      (fun fin s' => match fin with | .done f => R (.ok f) s' | .again c' => c'.quiet = true ∧ codeG g (model prog w) A c' R s') (fun e s' => R (.error e) s') s) :
    codeG g (model prog w) A (.builtin id args) R s := by
  refine codeG_of_tree hn ?_
  show wpG g _ _ (match entryFor table id with | some b => b args | none => unsupported ((withoutEnding? id "#data").getD id)) _ _ s
  rw [hb]; exact h
theorem wpG_call_builtin {g : Bool} {id : String} {args : Args} {b : Builtin} {R : Result → Shared → Prop} (hq : plainId id = true) (hn : isDec (.builtin id args) = false) (hb : entryFor table id = some b)
    (h : wpG g (model prog w) A.in1 (checkBuiltinCall id args) (fun _ s₁ => wpG g (model prog w) A.in1 (b args)
      (fun fin s' => match fin with | .done f => R (.ok f) s' | .again c' => c'.quiet = true ∧ codeG g (model prog w) A c' R s') (fun e s' => R (.error e) s') s₁)
      (fun e s' => R (.error e) s') s) : codeG g (model prog w) A (.call (.builtin id) args) R s := by
  refine codeG_of_tree rfl ?_
  show wpG g _ A.in1 (do checkBuiltinCall id args; again (.builtin id args)) _ _ s
  refine wpG_bind (wpG_mono h (fun _ s₁ h₁ => wpG_pure ⟨plainId_quiet hq args, codeG_of_tree hn ?_⟩) fun _ _ e => e)
  show wpG g _ _ (match entryFor table id with | some b => b args | none => unsupported ((withoutEnding? id "#data").getD id)) _ _ s₁
  rw [hb, Around.under_plainId hq args]
  exact h₁

theorem wpG_ifF {g : Bool} {α : Type} {M : Model} {c : Bool} {a b : Sem α} {Q : α → Shared → Prop} (hc : c = false) (h : wpG g M A b Q E s) : wpG g M A (if c = true then a else b) Q E s := by
  subst hc
  exact h
theorem ba_write {a : Addr} {b : Array UInt8} {f : Array UInt8 → Array UInt8} {Q : Unit → Shared → Prop} (ho : s.heap.get? a = some (baObj b)) (hz : (f b).size ≤ 1000)
    (h : ∀ h', h'.get? a = some (baObj (f b)) → Heap.SameBut a s.heap h' → Q () { s with heap := h' }) : wpAny (model prog w) A (Builtin.Bytes.write (.ref a) f) Q E s := by
  show wpAny _ _ (updateBytearray a f) _ _ _
  unfold updateBytearray
  refine wpAny_bind (wpAny_load ho ?_)
  show wpAny _ _ (update a (Obj.mapBytearray f) >>= fun _ => lookBehind a) _ _ _
  refine wpAny_bind (wpAny_update ho ?_)
  have h2 : (s.heap.update a (Obj.mapBytearray f)).get? a = some (baObj (f b)) := Heap.get?_update_self (Obj.mapBytearray f) ho rfl
  refine wpAny_lookBehind h2 ?_ (h _ h2 (Heap.SameBut.update ..))
  show (if (f b).size > sizeLine then some "bytearray:memory" else none) = none
  rw [if_neg]
  exact Nat.not_lt.mpr (Nat.le_trans hz (by decide))

theorem ba_asStr (i : Int) (t : Tok) : asStr? (.int i t) = pure none := by unfold asStr?; rfl
theorem ba_init {a : Addr} {n : Int} {t : Tok} {R : Result → Shared → Prop} (hg : A.guards = some []) (ho : s.heap.get? a = some (baObj #[])) (hn : 0 < n) (hz : n ≤ 1000)
    (hR : ∀ h', h'.get? a = some (baObj (Array.replicate n.toNat 0)) → Heap.SameBut a s.heap h' → R (.ok (.ret .none)) { s with heap := h' }) :
    codeG true (model prog w) A (.call (.builtin "bytearray.__init__") ⟨[.ref a, .int n t], []⟩) R s := by
  have hT : s.TypeIs (.ref a) "bytearray" := ⟨_, ho, rfl⟩
  refine wpG_call_builtin BA.slot_init.plain (by show Builtin.Bytes.decodersThatHold.contains "bytearray.__init__" = false; decide) BA.entry_init (wpG_of (BA.slot_init.check _ _ _ _ _ _ _ _ hT (BA.args_init _ _) ?_))
  unfold Builtin.«bytearray.__init__»
  show wpG true _ _ (Builtin.Bytes.ownRelease (.ref a) >>= _) _ _ s
  refine wpG_bind (wpG_of (ba_ownRelease ho ?_))
  refine wpG_ifF rfl ?_
  refine wpG_bind (wpG_of_eq (BA.bind _) (wpG_pure ?_))
  refine wpG_bind (wpG_of_eq (t' := pure ()) rfl (wpG_pure ?_))
  refine wpG_bind (wpG_of_eq (t' := pure ()) rfl (wpG_pure ?_))
  refine wpG_bind ?_
  unfold orM
  refine wpG_bind (wpG_exported hg ?_)
  show wpG true _ _ (Builtin.Bytes.exportsOf (.ref a) >>= _) _ _ s
  unfold Builtin.Bytes.exportsOf
  refine wpG_bind (wpG_bind (wpG_of (wpAny_load ho ?_)))
  refine wpG_pure (wpG_pure ?_)
  refine wpG_ifF rfl ?_
  refine wpG_bind (wpG_of (ba_write ho (Nat.zero_le _) fun h1 ho1 hs1 => ?_))
  refine wpG_bind ?_
  refine wpG_of ?_
  refine (wpAny_of_eq (ba_asStr _ _) ?_)
  refine wpG_ifF rfl ?_
  refine wpG_bind (wpG_of_eq (t' := pure ()) rfl (wpG_pure ?_))
  refine wpG_bind (wpG_of (wpAny_specialOf (typeIs_int _ _ _) F.slot_int_index.lookup ?_))
  refine wpG_of ?_
  refine bm_if_true rfl ?_
  refine wpAny_bind (wpAny_attempt (wpAny_of_eq (rfl : asIndex (.int n t) = pure n) ?_))
  dsimp only
  refine bm_if_false (by have : Builtin.Bytes.fitsIndex n = true := by simp only [Builtin.Bytes.fitsIndex, Bool.and_eq_true, decide_eq_true_eq]; lia
                         rw [this]; rfl) ?_
  rw [if_neg (by lia)]
  refine bm_if_false (by rw [beq_eq_false_iff_ne]; lia) ?_
  refine bm_if_false (decide_eq_false (Nat.not_lt.mpr (Nat.le_trans (m := 1000) (by lia) (by decide)))) ?_
  refine wpAny_bind (wpAny_rule ?_)
  rw [if_pos (by lia)]
  refine wpAny_bind (ba_write ho1 (by simp only [Array.size_replicate]; lia) fun h2 ho2 hs2 => ?_)
  exact wpAny_pure (hR _ ho2 (hs1.trans hs2))

theorem call_bytearray {n : Int} {t : Tok} {Q : Value → Shared → Prop} (hg : A.guards = some []) (hn : 0 < n) (hz : n ≤ 1000)
    (hQ : ∀ h', h'.get? s.heap.objs.size = some (baObj (Array.replicate n.toNat 0)) → (∀ b o, s.heap.get? b = some o → h'.get? b = some o) → Q (.ref s.heap.objs.size) { s with heap := h' }) :
    wpG true (model prog w) A (call (.type "bytearray") [.int n t]) Q E s := by
  obtain ⟨c, tl, hmro⟩ := BA.called.mro
  refine wpG_call (codeG_of_tree rfl ?_)
  show wpG true _ A.in1 (callAny (.type "bytearray") _) _ _ _
  refine wpG_pure ⟨Code.quiet_builtin _ (by decide +kernel), codeG_builtin (by show Builtin.Bytes.decodersThatHold.contains "type.__call__" = false; decide) F.entry_type_call ?_⟩
  rw [Around.under_plain (weight_type_call_type "bytearray" _ []) (units_type_call_type "bytearray" _ [])]
  unfold Builtin.«type.__call__»
  refine wpG_ifF BA.called.notType ?_
  refine wpG_ifF BA.called.canCreate ?_
  refine wpG_bind (wpG_of_eq (BA.typeCall _) (wpG_pure ?_))
  refine wpG_bind (wpG_of_eq hmro (wpG_pure ?_))
  refine wpG_ifF rfl ?_
  refine wpG_bind (wpG_of_eq BA.called.made (wpG_pure ?_))
  refine wpG_bind (wpG_pure ?_)
  refine wpG_bind (wpG_holding (wpG_of (wpAny_call (codeAny_mono (ba_new (E := fun _ _ => False) (.int n t) (Q₁ := fun v s' => v = .ref s.heap.objs.size ∧ s' = { s with heap := s.heap.push (baObj #[]) }) ⟨rfl, rfl⟩) fun r s' hr => ?_))))
  cases r with
  | error e => exact hr.elim
  | ok fl =>
    cases fl with
    | ret obj =>
      obtain ⟨rfl, rfl⟩ := hr
      have ho : (s.heap.push (baObj #[])).get? s.heap.objs.size = some (baObj #[]) := Heap.get?_push_size _ rfl
      have hT : ({ s with heap := s.heap.push (baObj #[]) } : Shared).TypeIs (.ref s.heap.objs.size) "bytearray" := ⟨_, ho, rfl⟩
      refine wpG_bind (wpG_of (wpAny_isInstance hT BA.sub ?_))
      refine wpG_ifF rfl ?_
      refine wpG_bind (wpG_holding (wpG_callSpecial hT BA.slot_init (wpG_call (ba_init (s := { s with heap := s.heap.push (baObj #[]) }) hg ho hn hz fun h' ho' hs' => ?_))))
      refine wpG_ifF (by decide) ?_
      exact wpG_pure (hQ h' ho' fun b o e => (hs'.2 b (Nat.ne_of_lt (Heap.lt_size e))).trans (Heap.get?_push_of_some _ e))
    | _ => exact hr.elim

theorem ba_setItem {a : Addr} {b : Array UInt8} {k x : Int} {t u : Tok} {Q : Unit → Shared → Prop} (ho : s.heap.get? a = some (baObj b)) (hb : b.size ≤ 1000) (h0 : 0 ≤ k) (h1 : k < b.size) (hx0 : 0 ≤ x) (hx1 : x < 256)
    (hQ : ∀ h', h'.get? a = some (baObj (b.setIfInBounds k.toNat x.toNat.toUInt8)) → Heap.SameBut a s.heap h' → Q () { s with heap := h' }) :
    wpAny (model prog w) A (setItem (.ref a) (.int k t) (.int x u)) Q E s := by
  have hT : s.TypeIs (.ref a) "bytearray" := ⟨_, ho, rfl⟩
  unfold setItem
  try with_reducible refine wpAny_holding ?_
  refine wpAny_bind (wpAny_sequenceKey hT (by decide) ?_)
  refine wpAny_bind (wpAny_callSpecial?_slot (name := Str.ofString "__setitem__") hT BA.slot_setitem
    (wpAny_call_entry BA.slot_setitem hT BA.entry_setitem ?_ (BA.args_setitem _ _ _)))
  unfold Builtin.«bytearray.__setitem__»
  refine bm_if_false rfl ?_
  show wpAny _ _ (Builtin.Bytes.subscript? (.int k t) >>= _) _ _ s
  refine wpAny_bind ?_
  unfold Builtin.Bytes.subscript?
  refine wpAny_bind (wpAny_specialOf (typeIs_int s k t) F.slot_int_index.lookup ?_)
  refine bm_if_false rfl ?_
  refine wpAny_bind (wpAny_of_eq (rfl : asIndex (.int k t) = pure k) ?_)
  refine bm_if_false (by have : Builtin.Bytes.fitsIndex k = true := by simp only [Builtin.Bytes.fitsIndex, Bool.and_eq_true, decide_eq_true_eq]; lia
                         rw [this]; rfl) ?_
  refine wpAny_pure ?_
  dsimp only
  refine wpAny_bind ?_
  unfold Builtin.Bytes.byteValue
  refine wpAny_bind (wpAny_of_eq (rfl : asIndex (.int x u) = pure x) ?_)
  refine bm_if_false (by simp only [Bool.or_eq_false_iff, decide_eq_false_iff_not]; lia) ?_
  refine wpAny_pure ?_
  refine wpAny_bind ?_
  unfold Builtin.Bytes.payload Builtin.Bytes.payload?
  refine wpAny_bind (wpAny_bind (wpAny_load ho ?_))
  refine wpAny_pure (wpAny_pure ?_)
  have hi : seqIndex? k b.size = some k.toNat := by
    have hn : ¬ k < 0 := by lia
    simp [seqIndex?, hn, h0, h1]
  dsimp only
  rw [hi]
  refine wpAny_bind (ba_write ho (by simpa using hb) fun h' ho' hs' => ?_)
  exact wpAny_pure ⟨_, rfl, wpAny_pure (hQ h' ho' hs')⟩
end
end Mine
end
section
set_option maxRecDepth 100000
set_option autoImplicit false
namespace Mine
open PySem PySem.Calls PySem.Spec PyProof.Rows PySem.W
open Sem (wp)

section
variable {prog : Program} {w : World} {A : Around} {E : Value → Shared → Prop} {s : Shared}
theorem ba_slotIsOwn_buffer {a : Addr} {b : Array UInt8} {Q : Bool → Shared → Prop} (ho : s.heap.get? a = some (baObj b)) (h : Q true s) : wpAny (model prog w) A (Builtin.Bytes.slotIsOwn (.ref a) "__buffer__") Q E s := by
  have hT : s.TypeIs (.ref a) "bytearray" := ⟨_, ho, rfl⟩
  unfold Builtin.Bytes.slotIsOwn
  refine wpAny_bind (wpAny_specialOf hT BA.lk_buffer ?_)
  dsimp only
  rw [BA.ends_buffer, BA.drop_buffer]
  refine wpAny_ite ?_
  rw [if_neg (by decide)]
  exact wpAny_isInstance hT BA.sub h
theorem ba_bytes_new {a : Addr} {b : Array UInt8} {Q : Value → Shared → Prop} (ho : s.heap.get? a = some (baObj b)) (hz : b.size ≤ 1000)
    (hQ : ∀ t k, Q (.bytes b t) { s with toks := k }) :
    codeAny (model prog w) A (.call (.builtin "bytes.__new__") ⟨[.type "bytes", .ref a], []⟩) (wants Q E) s := by
  refine codeAny_of_tree ?_
  show wpAny _ A.in1 (do checkBuiltinCall "bytes.__new__" ⟨[.type "bytes", .ref a], []⟩; again (.builtin "bytes.__new__" ⟨[.type "bytes", .ref a], []⟩)) _ _ s
  refine wpAny_bind (wpAny_of_eq (F.bm_newCall _) (wpAny_pure ⟨plainId_quiet F.bm_plain _, codeAny_builtin F.bm_entry ?_⟩))
  rw [Around.under_plainId F.bm_plain _]
  have hT : s.TypeIs (.ref a) "bytearray" := ⟨_, ho, rfl⟩
  unfold Builtin.«bytes.__new__»
  refine wpAny_bind (wpAny_of_eq (a := true) rfl ?_)
  refine bm_if_false rfl ?_
  refine wpAny_bind (wpAny_of_eq F.bm_sub ?_)
  refine bm_if_false rfl ?_
  refine wpAny_bind (wpAny_of_eq (F.bm_bind _) ?_)
  refine wpAny_bind (wpAny_of_eq (a := ()) rfl ?_)
  refine wpAny_bind (wpAny_of_eq (a := ()) rfl ?_)
  refine bm_if_false rfl ?_
  refine wpAny_bind (wpAny_specialOf hT BA.no_bytes ?_)
  refine wpAny_bind (wpAny_bind ?_)
  show wpAny _ _ (load a >>= _) _ _ _
  refine wpAny_bind (wpAny_load ho ?_)
  refine wpAny_pure (wpAny_pure ?_)
  refine bm_if_false rfl ?_
  refine wpAny_bind (wpAny_specialOf hT BA.noIndex ?_)
  refine bm_if_true rfl ?_
  refine wpAny_bind ?_
  unfold Builtin.Bytes.buffer?
  refine wpAny_bind (wpAny_specialOf hT BA.lk_buffer ?_)
  refine wpAny_bind (ba_slotIsOwn_buffer ho ?_)
  refine bm_if_false rfl ?_
  refine wpAny_bind (wpAny_specialOf hT BA.lk_buffer ?_)
  refine wpAny_bind (ba_ownRelease ho ?_)
  refine bm_if_false rfl ?_
  refine wpAny_bind ?_
  unfold Builtin.Bytes.payload Builtin.Bytes.payload?
  refine wpAny_bind (wpAny_bind (wpAny_load ho ?_))
  refine wpAny_pure (wpAny_pure (wpAny_pure ?_))
  dsimp only
  refine wpAny_bind (wpAny_rule ?_)
  refine wpAny_bind (wpAny_mkBytes ?_ (Nat.le_trans hz (by decide)))
  show wpAny _ _ (if (Value.type "bytes" == Value.type "bytes") = true then _ else _) _ _ _
  refine bm_if_true (by decide) ?_
  first
   | exact wpAny_pure (hQ _ _)
   | exact wpAny_pure (wpAny_pure (hQ _ _))
   | exact wpAny_bind (wpAny_pure (wpAny_pure (wpAny_pure (hQ _ _))))
theorem call_bytes_ba {a : Addr} {b : Array UInt8} {Q : Value → Shared → Prop} (ho : s.heap.get? a = some (baObj b)) (hz : b.size ≤ 1000)
    (hQ : ∀ t k, Q (.bytes b t) { s with toks := k }) : wpAny (model prog w) A (call (.type "bytes") [.ref a]) Q E s := by
  refine callType_codes (Q₁ := fun obj s₁ => s₁.TypeIs obj "bytes" ∧ Q obj s₁) F.bm_called (F.bm_typeCall _) F.entry_object_init
    (ba_bytes_new ho hz fun t k => ⟨PySem.W.typeIs_bytes _ _ _, hQ t k⟩) fun obj s₁ h₁ => ?_
  exact ⟨h₁.1, F.args_object_init_2 obj _, object_init_meets F.bm_called.init.lookup F.bm_called.made (by decide) prog w A.in1 _ s₁ ⟨h₁.1, rfl, h₁.2⟩⟩
end
end Mine
end
section
set_option maxRecDepth 100000
set_option autoImplicit false
namespace Mine
open PySem PySem.Calls PySem.Spec PyProof.Rows PySem.W

/- no reference to an id of F -/
noncomputable def VOut (F : Nat → Prop) : V → Prop
  | .ref i => ¬ F i
  | _ => True
noncomputable def OOut (F : Nat → Prop) : O → Prop
  | .list xs | .tuple xs => ∀ v ∈ xs, VOut F v
  | .dict _ es _ => ∀ p ∈ es, VOut F p.2
  | .set _ _ _ | .barr _ | .range _ _ _ => True
  | .iter l _ => ¬ F l
  | .nextOf it => ¬ F it
  | .inst _ d => ¬ F d
  | .attrs es => ∀ p ∈ es, VOut F p.2
  | .slots _ d xs => ¬ F d ∧ ∀ v, some v ∈ xs → VOut F v
  | .values d => ¬ F d
  | .gen ids _ => ∀ i ∈ ids, ¬ F i
open Classical in
noncomputable def Rho.cut (ρ : Rho) (F : Nat → Prop) : Rho := fun i => if F i then none else ρ i
theorem Rho.cut_of {ρ : Rho} {F : Nat → Prop} {i : Nat} (h : ¬ F i) : ρ.cut F i = ρ i := by simp [Rho.cut, h]
theorem Rho.cut_in {ρ : Rho} {F : Nat → Prop} {i : Nat} (h : F i) : ρ.cut F i = none := by simp [Rho.cut, h]
theorem Rho.of_cut {ρ : Rho} {F : Nat → Prop} {i : Nat} {a : Addr} (h : ρ.cut F i = some a) : ¬ F i ∧ ρ i = some a := by
  by_cases hF : F i
  · rw [Rho.cut_in hF] at h; cases h
  · exact ⟨hF, by rwa [Rho.cut_of hF] at h⟩

section
variable {F : Nat → Prop} {ρ ρ' : Rho}
theorem VR.cut : ∀ {v : V} {x : Value}, VOut F v → VR ρ v x → VR (ρ.cut F) v x
  | .none, _, _, e | .bool _, _, _, e | .int _, _, _, e | .str _, _, _, e | .bytes _, _, _, e | .raw _, _, _, e => e
  | .ref i, _, h, ⟨a, e, q⟩ => ⟨a, by rw [Rho.cut_of h]; exact e, q⟩
theorem LR.cut : ∀ {vs : List V} {xs : List Value}, (∀ v ∈ vs, VOut F v) → LR ρ vs xs → LR (ρ.cut F) vs xs
  | [], [], _, _ => trivial
  | v :: vs, _ :: _, h, ⟨a, b⟩ => ⟨a.cut (h v (.head _)), LR.cut (fun u hu => h u (.tail _ hu)) b⟩
theorem ER.cut {w : World} {f : Bool} : ∀ {es : List (Str × V)} {ds : List DictEntry}, (∀ p ∈ es, VOut F p.2) → ER w f ρ es ds → ER w f (ρ.cut F) es ds := by
  intro es
  induction es with
  | nil => intro ds _ x; cases ds with
    | nil => trivial
    | cons _ _ => exact x.elim
  | cons p es ih => intro ds h x; cases p; cases ds with
    | nil => exact x.elim
    | cons e ds => exact ⟨⟨x.1.1, x.1.2.1, x.1.2.2.cut (h _ (.head _))⟩, ih (fun u hu => h u (.tail _ hu)) x.2⟩
theorem SR.cut : ∀ {vs : List (Option V)} {xs : List (Option Value)}, (∀ v, some v ∈ vs → VOut F v) → SR ρ vs xs → SR (ρ.cut F) vs xs
  | [], [], _, _ => trivial
  | some v :: vs, some _ :: _, h, ⟨a, b⟩ => ⟨VR.cut (h v (.head _)) a, SR.cut (fun u hu => h u (.tail _ hu)) b⟩
  | none :: vs, none :: _, h, ⟨a, b⟩ => ⟨trivial, SR.cut (fun u hu => h u (.tail _ hu)) b⟩
theorem lookup_mem {es : List (Str × V)} {x : Str} {v : V} (h : es.lookup x = some v) : (x, v) ∈ es := mem_of_lookup h
theorem IdsR.cut : ∀ {is : List Nat} {as : List Addr}, (∀ i ∈ is, ¬ F i) → IdsR ρ is as → IdsR (ρ.cut F) is as
  | [], [], _, _ => trivial
  | i :: is, _ :: _, h, ⟨a, b⟩ => ⟨by rw [Rho.cut_of (h i (.head _))]; exact a, IdsR.cut (fun u hu => h u (.tail _ hu)) b⟩
theorem OR.cut {w : World} : ∀ {o : O} {ob : Obj}, OOut F o → OR w ρ o ob → OR w (ρ.cut F) o ob := by
  intro o ob h x
  cases o with
  | list => obtain ⟨vs, n, c, d⟩ := x; exact ⟨vs, n, c, d.cut h⟩
  | tuple => obtain ⟨vs, n, c, d⟩ := x; exact ⟨vs, n, c, d.cut h⟩
  | dict => obtain ⟨a, vs, c, d⟩ := x; exact ⟨a, vs, c, d.cut h⟩
  | set => exact x
  | barr => exact x
  | iter => obtain ⟨a, b, c⟩ := x; exact ⟨a, (Rho.cut_of h).trans b, c⟩
  | nextOf => obtain ⟨a, b, c⟩ := x; exact ⟨a, (Rho.cut_of h).trans b, c⟩
  | inst => obtain ⟨a, b, c⟩ := x; exact ⟨a, (Rho.cut_of h).trans b, c⟩
  | attrs => obtain ⟨ds, n, b, c, k, m, e⟩ := x; exact ⟨ds, n, b, c, k, m, fun x v q => (e x v q).imp fun y p => ⟨p.1, p.2.cut (h (x, v) (lookup_mem q))⟩⟩
  | slots => obtain ⟨a, sl, b, c, d⟩ := x; exact ⟨a, sl, (Rho.cut_of h.1).trans b, c, d.cut h.2⟩
  | range => exact x
  | values => obtain ⟨a, b, c⟩ := x; exact ⟨a, (Rho.cut_of h).trans b, c⟩
  | gen => obtain ⟨a, b, c⟩ := x; exact ⟨a, b.cut h, c⟩
end

/- from σ to σ', of which σ'' is what stays when the ids of F are given back -/
structure Cut (F : Nat → Prop) (σ σ' σ'' : St) : Prop where
  obj : ∀ i o, σ''.obj i = some o → σ'.obj i = some o ∧ ((σ.obj i = some o) ∨ (¬ F i ∧ OOut F o))
  loc : ∀ p ∈ σ''.loc, p ∈ σ'.loc ∧ (p ∈ σ.loc ∨ VOut F p.2)
  free : ∀ i, σ''.free i → σ'.free i ∨ F i

section
variable {g : Bool} {w : World} {B : Heap} {env : Env} {A : Around} {σ : St} {F : Nat → Prop} {ρ ρ' : Rho} {fm : Fm} {s s' : Shared}
theorem Rho.le_cut (hF : ∀ i, F i → ρ i = none) (hle : ρ.le ρ') : ρ.le (ρ'.cut F) := fun i a e => by
  rw [Rho.cut_of (fun h => by rw [hF i h] at e; cases e)]
  exact hle i a e
theorem Rel.cut {σ' σ'' : St} (r : Rel w env fm ρ σ s) (r' : Rel w env fm ρ' σ' s') (hle : ρ.le ρ') (hF : ∀ i, F i → σ.free i) (c : Cut F σ σ' σ'') : Rel w env fm (ρ'.cut F) σ'' s' := by
  have hle' := Rho.le_cut (fun i h => r.free i (hF i h)) hle
  have back : ∀ p x, (p ∈ σ.loc → ∃ y, VR ρ p.2 y) → (p ∈ σ.loc ∨ VOut F p.2) → VR ρ' p.2 x → VR (ρ'.cut F) p.2 x := by
    intro p x h0 h1 h2
    rcases h1 with h1 | h1
    · obtain ⟨y, hy⟩ := h0 h1
      exact (VR.back hle hy h2).mono hle'
    · exact h2.cut h1
  have old : ∀ p ∈ σ.loc, ∃ y, VR ρ p.2 y := by
    intro p hp
    by_cases hl : env.kindOf p.1 = some .local
    · obtain ⟨m, _, q⟩ := r.ns
      obtain ⟨y, _, v⟩ := q p hp hl
      exact ⟨y, v⟩
    · obtain ⟨_, y, _, _, v⟩ := r.cel p hp hl
      exact ⟨y, v⟩
  refine ⟨r'.same, r'.keep, r'.dat, ?_, fun p hp n => ?_, r'.cells, fun i o e => ?_, fun i j a hi hj ei ej => ?_, fun i hi => ?_⟩
  · obtain ⟨m, n, q⟩ := r'.ns
    refine ⟨m, n, fun p hp hl => ?_⟩
    obtain ⟨h1, h2⟩ := c.loc p hp
    obtain ⟨x, e, v⟩ := q p h1 hl
    exact ⟨x, e, back p x (old p) h2 v⟩
  · obtain ⟨h1, h2⟩ := c.loc p hp
    obtain ⟨cc, x, e, f, v⟩ := r'.cel p h1 n
    exact ⟨cc, x, e, f, back p x (old p) h2 v⟩
  · obtain ⟨h1, h2⟩ := c.obj i o e
    obtain ⟨a, ob, p, gg, q, own⟩ := r'.obj i o h1
    rcases h2 with h2 | ⟨h2, h3⟩
    · obtain ⟨a', ob', p', _, q', _⟩ := r.obj i o h2
      have := hle _ _ p'
      rw [p] at this; cases this
      exact ⟨a, ob, hle' _ _ p', gg, (OR.back hle q' q).mono hle', own⟩
    · exact ⟨a, ob, by rw [Rho.cut_of h2]; exact p, gg, q.cut h3, own⟩
  · have nn : ∀ l, σ''.obj l ≠ none → σ'.obj l ≠ none := fun l hl => by
      cases q : σ''.obj l with
      | none => exact absurd q hl
      | some o => rw [(c.obj l o q).1]; exact Option.some_ne_none _
    exact r'.inj i j a (nn i hi) (nn j hj) (Rho.of_cut ei).2 (Rho.of_cut ej).2
  · by_cases h : F i
    · exact Rho.cut_in h
    · rw [Rho.cut_of h]
      exact r'.free i ((c.free i hi).resolve_right h)

/- what may be said when the ids of F are given back -/
theorem WT.cut {α β : Type} {t : Sem α} {R : Rho → β → α → Prop} {K : β → St → Prop} (F : Nat → Prop) (hF : ∀ i, F i → σ.free i)
    (h : WT g w B env A t R σ fun b σ' => ∃ σ'', Cut F σ σ' σ'' ∧ (∀ ρ a, R ρ b a → R (ρ.cut F) b a) ∧ K b σ'') : WT g w B env A t R σ K :=
  fun fm ρ s Q E O r q => h fm ρ s Q E O r fun b σ' ρ' a s' l r' e k => by
    obtain ⟨σ'', c, hR, hk⟩ := k
    exact q b σ'' _ a s' (Rho.le_cut (fun i h => r.free i (hF i h)) l) (r.cut r' l hF c) (hR _ _ e) hk
theorem WC.cut {f : Value} {vs : List V} {K : V → St → Prop} (F : Nat → Prop) (hF : ∀ i, F i → σ.free i)
    (h : WC g w B env A f vs σ fun v σ' => ∃ σ'', Cut F σ σ' σ'' ∧ VOut F v ∧ K v σ'') : WC g w B env A f vs σ K :=
  fun fm ρ s xs Q E O r lr q => h fm ρ s xs Q E O r lr fun b σ' ρ' a s' l r' e k => by
    obtain ⟨σ'', c, hR, hk⟩ := k
    exact q b σ'' _ a s' (Rho.le_cut (fun i h => r.free i (hF i h)) l) (r.cut r' l hF c) (e.cut hR) hk
/- a call that leaves all as it was -/
theorem WC.plain {f : Value} {vs : List V} {K : V → St → Prop} (h : WC g w B env A f vs σ fun v σ' => σ'.loc = σ.loc ∧ (∀ i o, σ.obj i = some o → σ'.obj i = some o) ∧ VOut σ.free v ∧ K v σ) : WC g w B env A f vs σ K :=
  WC.cut σ.free (fun _ h => h) (h.mono fun v σ' ⟨h1, h2, h3, h4⟩ => ⟨σ, ⟨fun i o e => ⟨h2 i o e, .inl e⟩, fun p hp => ⟨h1 ▸ hp, .inl hp⟩, fun i hi => .inr hi⟩, h3, h4⟩)

theorem mem_lset_self {x : Str} {v : V} : ∀ {l : List (Str × V)}, (x, v) ∈ lset x v l
  | [] => by simp [lset]
  | (y, u) :: l => by
    unfold lset
    split
    · exact .head _
    · exact .tail _ mem_lset_self
theorem mem_lset_of {x : Str} {v : V} {p : Str × V} (hp : p.1 ≠ x) : ∀ {l : List (Str × V)}, p ∈ l → p ∈ lset x v l
  | (y, u) :: l, h => by
    unfold lset
    split
    · rename_i e
      rcases List.mem_cons.mp h with h | h
      · subst h; exact absurd e hp
      · exact .tail _ (List.mem_filter.mpr ⟨h, by simpa using hp⟩)
    · rcases List.mem_cons.mp h with h | h
      · subst h; exact .head _
      · exact .tail _ (mem_lset_of hp h)
theorem St.le.set {σ' : St} (h : σ'.le σ) {x : Str} {v : V} : (σ'.set x v).le (σ.set x v) :=
  ⟨fun p hp => by
    rcases mem_lset hp with e | ⟨h1, h2⟩
    · subst e; exact mem_lset_self
    · exact mem_lset_of h2 (h.loc p h1), h.obj, h.free⟩
theorem St.le.trans {a b c : St} (h : a.le b) (k : b.le c) : a.le c := ⟨fun p hp => k.loc p (h.loc p hp), fun i o e => k.obj i o (h.obj i o e), fun i hi => k.free i (h.free i hi)⟩
end
end Mine
end
section
set_option maxRecDepth 100000
set_option autoImplicit false
namespace Mine
open PySem PySem.Calls PySem.Spec PyProof.Rows PySem.W

section
variable {g : Bool} {w : World} {B : Heap} {env : Env} {A : Around} {σ : St} {K : V → St → Prop} {pos px : Pos}

theorem Heap.new_none {h : Heap} : h.get? h.objs.size = none := by
  cases e : h.get? h.objs.size with
  | none => rfl
  | some o => exact absurd (Heap.lt_size e) (Nat.lt_irrefl _)
/- a new object at the end of the heap -/
theorem Rel.push {fm : Fm} {ρ : Rho} {s : Shared} {i : Nat} {o : O} {ob : Obj} (R : Rel w env fm ρ σ s) (tk : Nat) (hi : σ.free i) (hf : ob.isFreed = false) (hO : OR w (ρ.upd i s.heap.objs.size) o ob) :
    ρ.le (ρ.upd i s.heap.objs.size) ∧ Rel w env fm (ρ.upd i s.heap.objs.size) (σ.new i o) { s with heap := s.heap.push ob, toks := tk } ∧ VR (ρ.upd i s.heap.objs.size) (.ref i) (.ref s.heap.objs.size) := by
  obtain ⟨h1, h2⟩ := R.new tk hi (h' := s.heap.push ob) (a := s.heap.objs.size) (ob := ob) (o := o) (fun b o e => Heap.get?_push_of_some _ e) Heap.new_none (Heap.get?_push_size _ hf) hO
  exact ⟨h1, h2, ⟨_, by simp [Rho.upd], rfl⟩⟩

/- the place of a known object -/
theorem Rel.at {fm : Fm} {ρ : Rho} {s : Shared} {i : Nat} {o : O} {x : Value} (R : Rel w env fm ρ σ s) (hi : σ.obj i = some o) (hx : VR ρ (.ref i) x) : ∃ a ob, x = .ref a ∧ ρ i = some a ∧ s.heap.get? a = some ob ∧ OR w ρ o ob ∧ Own env fm a := by
  obtain ⟨a, e, rfl⟩ := hx
  obtain ⟨a', ob, p, q⟩ := R.obj i o hi
  rw [e] at p; cases p
  exact ⟨a, ob, rfl, e, q⟩
theorem Rel.list {fm : Fm} {ρ : Rho} {s : Shared} {i : Nat} {xs : List V} {x : Value} (R : Rel w env fm ρ σ s) (hi : σ.obj i = some (.list xs)) (hx : VR ρ (.ref i) x) :
    ∃ a vs, x = .ref a ∧ ρ i = some a ∧ s.heap.IsList a vs ∧ LR ρ xs vs.toList := by
  obtain ⟨a, ob, rfl, e, q, ⟨vs, n, rfl, h4⟩, _⟩ := R.at hi hx
  exact ⟨a, vs, rfl, e, ⟨_, q, rfl, n, rfl⟩, h4⟩
theorem Rel.plist {fm : Fm} {ρ : Rho} {s : Shared} {i : Nat} {xs : List V} {x : Value} (R : Rel w env fm ρ σ s) (hi : σ.obj i = some (.list xs)) (hx : VR ρ (.ref i) x) :
    ∃ a vs n, x = .ref a ∧ ρ i = some a ∧ s.heap.get? a = some { cls := .type "list", data := .seq vs n } ∧ LR ρ xs vs.toList := by
  obtain ⟨a, ob, rfl, e, q, ⟨vs, n, rfl, h4⟩, _⟩ := R.at hi hx
  exact ⟨a, vs, n, rfl, e, q, h4⟩

noncomputable def W3 (g : Bool) (w : World) (B : Heap) (env : Env) (A : Around) (t : Value → Value → Value → Sem Unit) (x y z : V) (σ : St) (K : St → Prop) : Prop :=
  ∀ fm ρ s a b c (Q : Unit → Shared → Prop) E, FmOk B env A fm → Rel w env fm ρ σ s → VR ρ x a → VR ρ y b → VR ρ z c → (∀ σ' ρ' s', ρ.le ρ' → Rel w env fm ρ' σ' s' → K σ' → Q () s') →
    wpG g (model PR w) A (t a b c) Q E s

/- an item is asked for -/
noncomputable def Sub (w : World) (B : Heap) (env : Env) (A : Around) (o i : V) (σ : St) (K : V → St → Prop) : Prop :=
  ∃ T id, typeLookup (.type T) "__getitem__" = pure (some (.builtin id)) ∧ TyV w env o T σ ∧ W2 false w B env A getItem VR o i σ K

theorem we_sub {value slice : Expr} (h : WE false w B env A value σ fun o σ₁ => WE false w B env A slice σ₁ fun i σ₂ => Sub w B env A o i σ₂ K)
    (hs : ∀ o i, subscripted slice false o i = operate [o, i] (getItem o i) := by intro _ _; rfl) :
    WE g w B env A (.Subscript value slice pos) σ K := fun fm ρ s Q E O r q => wpG_of <| by
  rw [eval_Subscript]
  refine wpAny_bind (wpG_any (h fm ρ s _ E O r fun o σ₁ ρ₁ a s₁ l₁ r₁ v₁ h₁ => ?_))
  refine (wpAny_bind (wpAny_holding (wpG_any (h₁ fm ρ₁ s₁ _ E O r₁ fun i σ₂ ρ₂ b s₂ l₂ r₂ v₂ h₂ => ?_))))
  obtain ⟨T, id, hl, ty, hg⟩ := h₂
  have hT := (ty fm ρ₂ s₂ a r₂ (v₁.mono l₂)).1
  refine (wpAny_bind (wpAny_standAt ?_))
  refine wpAny_bind ?_
  rw [getitemInPython_of_ne hT.not_modules]
  refine wpAny_bind (wpAny_specialOf hT hl ?_)
  refine wpAny_pure ?_
  rw [hs]
  refine wpAny_bind (wpAny_operating (wpG_any (hg fm ρ₂ s₂ a b _ E O r₂ (v₁.mono l₂) v₂ fun v σ' ρ' c s' l' r' vr kk => ?_)))
  exact (wpAny_bind (wpAny_letTemporaryGo (wpAny_pure (q v σ' ρ' c s' ((l₁.trans l₂).trans l') r' vr kk))))

theorem ws_setsub {o i value : Expr} {rest : List Stmt} {K : Fl → St → Prop} (h : WE false w B env A value σ fun v σ₁ => WE false w B env A o σ₁ fun ov σ₂ => WE false w B env A i σ₂ fun iv σ₃ =>
      W3 false w B env A setItem ov iv v σ₃ fun σ' => WS g w B env A rest σ' K)
    (hs : swapsWith value (some (.Subscript o i px)) pos.line env = pure false := by rfl) : WS g w B env A (.Assign [.Subscript o i px] value pos :: rest) σ K :=
  ws_cons fun fm ρ s Q E O r q => wpG_of (wpAny_Assign_Subscript (wpG_any (h fm ρ s _ E O r fun v σ₁ ρ₁ a s₁ l₁ r₁ v₁ h₁ => wpG_any (h₁ fm ρ₁ s₁ _ E O r₁ fun ov σ₂ ρ₂ b s₂ l₂ r₂ v₂ h₂ =>
    wpG_any (h₂ fm ρ₂ s₂ _ E O r₂ fun iv σ₃ ρ₃ c s₃ l₃ r₃ v₃ h₃ => wpG_any (h₃ fm ρ₃ s₃ b c a _ E O r₃ (v₂.mono l₃) v₃ (v₁.mono (l₂.trans l₃)) fun σ' ρ' s' l' r' kk =>
      q .next _ _ _ _ (((l₁.trans l₂).trans l₃).trans l') r' rfl kk))))) hs)

-- items
theorem sub_bytes {b : List UInt8} {i : Int} (hz : b.length ≤ 1000) (h0 : 0 ≤ i) (h1 : i < b.length) (h : K (.int (b.getD i.toNat 0).toNat) σ) : Sub w B env A (.bytes b.toArray) (.int i) σ K := by
  refine ⟨"bytes", _, FB.slot_bytes_getitem.lookup, ty_bytes, ?_⟩
  rintro fm ρ s _ _ Q E O r ⟨t, rfl⟩ ⟨u, rfl⟩ q
  exact wpG_of (getItem_bytes (Nat.le_trans hz (by decide)) h0 h1 (q _ _ ρ _ _ ρ.le_refl (r.tok _) vint h))
theorem sub_list {j : Nat} {xs : List V} {i : Int} {v : V} (hj : σ.obj j = some (.list xs)) (h0 : 0 ≤ i) (hf : i < 1000) (hv : xs[i.toNat]? = some v) (h : K v σ) : Sub w B env A (.ref j) (.int i) σ K := by
  refine ⟨"list", _, slot_list_getitem.lookup, ty_list hj, ?_⟩
  rintro fm ρ s x _ Q E O r hx ⟨u, rfl⟩ q
  obtain ⟨a, vs, rfl, e, hl, lr⟩ := r.list hj hx
  obtain ⟨y, hy, vr⟩ := lr.get hv
  refine wpG_of (wpAny_getItem_list hl h0 (by lia) (by rw [← Array.getElem?_toList]; exact hy) ?_)
  exact q v σ ρ y s ρ.le_refl r vr h
theorem set_barr {j : Nat} {b : Array UInt8} {i x : Int} {K : St → Prop} (hj : σ.obj j = some (.barr b)) (hb : b.size ≤ 1000) (h0 : 0 ≤ i) (h1 : i < b.size) (hx0 : 0 ≤ x) (hx1 : x < 256)
    (h : K (σ.put j (.barr (b.setIfInBounds i.toNat x.toNat.toUInt8)))) : W3 g w B env A setItem (.ref j) (.int i) (.int x) σ K := by
  rintro fm ρ s y _ _ Q E O r hy ⟨t, rfl⟩ ⟨u, rfl⟩ q
  obtain ⟨a, ob, rfl, e, ho, hO, own⟩ := r.at hj hy
  cases hO
  exact wpG_of (ba_setItem ho hb h0 h1 hx0 hx1 fun h' ho' hs' => q _ ρ _ ρ.le_refl (r.put (o := .barr (b.setIfInBounds i.toNat x.toNat.toUInt8)) s.toks hj e hs'.extBut ho' rfl) h)

-- calls of built-ins
theorem wc_len_bytes {b : Array UInt8} (hz : b.size ≤ 1000) (h : K (.int b.size) σ) : WC g w B env A (.builtin "len") [.bytes b] σ K := by
  rintro fm ρ s xs Q E O r hv q
  obtain ⟨y0, rfl, ⟨t, rfl⟩⟩ := LR.one hv
  exact wpG_of (len_bytes (Nat.le_trans hz (by decide)) (q _ _ ρ _ _ ρ.le_refl (r.tok _) vint h))
theorem wc_len_list {j : Nat} {xs : List V} (hj : σ.obj j = some (.list xs)) (hz : xs.length ≤ 1000) (h : K (.int xs.length) σ) : WC g w B env A (.builtin "len") [.ref j] σ K := by
  rintro fm ρ s ys Q E O r hv q
  obtain ⟨y, rfl, hy⟩ := LR.one hv
  obtain ⟨a, vs, rfl, e, hl, lr⟩ := r.list hj hy
  have hlen : vs.size = xs.length := by rw [← Array.length_toList]; exact lr.length.symm
  refine wpG_of (call_len_list hl (by lia) ?_)
  rw [hlen]
  exact q _ _ ρ _ _ ρ.le_refl (r.tok _) vint h
theorem wc_range1 {i : Nat} {n : Int} (hi : σ.free i) (h : K (.ref i) (σ.new i (.range 0 n 1))) : WC g w B env A (.type "range") [.int n] σ K := by
  rintro fm ρ s ys Q E O r hv q
  obtain ⟨y0, rfl, ⟨t, rfl⟩⟩ := LR.one hv
  refine wpG_of (call_range_1 ?_)
  obtain ⟨h1, h2, h3⟩ := r.push (i := i) (o := .range 0 n 1) (s.toks + 1 + 1) hi (ob := { cls := .type "range", data := .fields #[.int 0 s.toks, .int n t, .int 1 (s.toks + 1)] }) rfl ⟨_, _, _, rfl⟩
  exact q _ _ _ _ _ h1 h2 h3 h
theorem wc_range2 {i : Nat} {m n : Int} (hi : σ.free i) (h : K (.ref i) (σ.new i (.range m n 1))) : WC g w B env A (.type "range") [.int m, .int n] σ K := by
  rintro fm ρ s ys Q E O r hv q
  obtain ⟨y0, y1, rfl, ⟨t, rfl⟩, ⟨u, rfl⟩⟩ := LR.two hv
  refine wpG_of (call_range_2 ?_)
  obtain ⟨h1, h2, h3⟩ := r.push (i := i) (o := .range m n 1) (s.toks + 1) hi (ob := { cls := .type "range", data := .fields #[.int m t, .int n u, .int 1 s.toks] }) rfl ⟨_, _, _, rfl⟩
  exact q _ _ _ _ _ h1 h2 h3 h
theorem wc_range3 {i : Nat} {m n c : Int} (hi : σ.free i) (hc : c ≠ 0) (hp : Builtin.divisionGoesByPylong (n - m) c = false) (h : K (.ref i) (σ.new i (.range m n c))) : WC g w B env A (.type "range") [.int m, .int n, .int c] σ K := by
  rintro fm ρ s ys Q E O r hv q
  obtain ⟨y0, y1, y2, rfl, ⟨t, rfl⟩, ⟨u, rfl⟩, ⟨v, rfl⟩⟩ := LR.three hv
  refine wpG_of (call_range_3 hc ?_ (.inl hp))
  obtain ⟨h1, h2, h3⟩ := r.push (i := i) (o := .range m n c) s.toks hi (ob := { cls := .type "range", data := .fields #[.int m t, .int n u, .int c v] }) rfl ⟨_, _, _, rfl⟩
  exact q _ _ _ _ _ h1 h2 h3 h
theorem wc_bytearray {i : Nat} {n : Int} {k : Nat} (hA : AOk k A) (hi : σ.free i) (h0 : 0 < n) (h1 : n ≤ 1000) (h : K (.ref i) (σ.new i (.barr (Array.replicate n.toNat 0)))) : WC true w B env A (.type "bytearray") [.int n] σ K := by
  rintro fm ρ s ys Q E O r hv q
  obtain ⟨y0, rfl, ⟨t, rfl⟩⟩ := LR.one hv
  refine call_bytearray hA.guards h0 h1 fun h' ho hk => ?_
  obtain ⟨l, r'⟩ := r.new s.toks hi hk Heap.new_none ho (o := .barr (Array.replicate n.toNat 0)) rfl
  exact q (.ref i) _ _ _ _ l r' ⟨_, by simp [Rho.upd], rfl⟩ h
theorem wc_bytes_barr {j : Nat} {b : Array UInt8} (hj : σ.obj j = some (.barr b)) (hz : b.size ≤ 1000) (h : K (.bytes b) σ) : WC g w B env A (.type "bytes") [.ref j] σ K := by
  rintro fm ρ s ys Q E O r hv q
  obtain ⟨y, rfl, hy⟩ := LR.one hv
  obtain ⟨a, ob, rfl, e, ho, hO, own⟩ := r.at hj hy
  cases hO
  exact wpG_of (call_bytes_ba ho hz fun t k => q _ _ ρ _ _ ρ.le_refl (r.tok _) vbytes h)

-- what is walked over
theorem rangeSize_pos (a b c : Int) : 0 ≤ Builtin.Range.rangeSize a b c := by
  unfold Builtin.Range.rangeSize
  split <;> split <;> first | lia | (have := Int.ediv_nonneg (a := b - a - 1) (b := c) (by lia) (by lia); lia) | (have := Int.ediv_nonneg (a := a - b - 1) (b := -c) (by lia) (by lia); lia)
theorem iters_range {i : Nat} {a b c : Int} {k : Nat} (hA : AOk k A) (hs : Builtin.Range.small a b c = true) :
    Iters g w B env A (.ref i) (Builtin.Range.rangeSize a b c).toNat (fun k v => v = .int (a + k * c)) (fun σ => σ.obj i = some (.range a b c)) := by
  rintro σ fm ρ s x Q E O r hj hx q
  obtain ⟨a', ob, rfl, e, ho, ⟨t, u, v, rfl⟩, own⟩ := r.at hj hx
  refine wpG_of (wpAny_pyIter_range ho hs ?_)
  refine q _ _ (fun k ob => ob = { cls := .type "range_iterator", dict := none, data := .fields #[rawInt (a + k * c), rawInt (Builtin.Range.rangeSize a b c - k), rawInt c], slots := #[] }) _ s.toks ⟨?_, ?_, fun k s Q E ob ho hs h => ?_⟩ Heap.new_none
    (fun b o e => Heap.get?_push_of_some _ e) (Heap.get?_push_size _ rfl) (by simp)
  · rintro env k σ fm ρ s Q E ob hk _ _ r hob rfl q
    refine wpG_of (wpAny_pyNext_range_item hob (by lia) fun h' h1 h2 => ?_)
    refine q _ _ h' _ _ rfl vint h2.extBut h1 ?_
    have e1 : a + ((k + 1 : Nat) : Int) * c = a + (k : Int) * c + c := by push_cast; rw [Int.add_mul, Int.one_mul, Int.add_assoc]
    have e2 : Builtin.Range.rangeSize a b c - ((k + 1 : Nat) : Int) = Builtin.Range.rangeSize a b c - k - 1 := by push_cast; lia
    rw [e1, e2]
  · rintro env σ fm ρ s Q E ob _ _ r hob rfl q
    have := rangeSize_pos a b c
    exact wpG_of (wpAny_pyNext_range_end hA.handled hob (by lia) fun h' h1 => q h' s.toks h1)
  · subst hs; exact wpAny_pyIter_rangeiter ho h
theorem iters_list {i : Nat} {xs : List V} {k : Nat} (hA : AOk k A) : Iters g w B env A (.ref i) xs.length (fun k v => xs[k]? = some v) (fun σ => σ.obj i = some (.list xs)) := by
  rintro σ fm ρ s x Q E O r hj hx q
  obtain ⟨a, vs, rfl, e, hl, lr⟩ := r.list hj hx
  refine wpG_of (wpAny_pyIter_list hl ?_)
  refine q _ _ (fun k ob => ob.cls = .type "list_iterator" ∧ ob.data = .fields #[.ref a, .int k 0]) _ s.toks ⟨?_, ?_, fun k s Q E ob ho hs h => wpAny_pyIter_listiter (i := k) ⟨ob, ho, hs.1, hs.2⟩ h⟩ Heap.new_none
    (fun b o e => Heap.get?_push_of_some _ e) (Heap.get?_push_size _ rfl) ⟨rfl, rfl⟩
  · rintro env k σ fm ρ s Q E ob hk hj le r hob ⟨h1, h2⟩ q
    obtain ⟨a', vs, e', e'', hl, lr⟩ := r.list (x := .ref a) hj ⟨a, le _ _ e, rfl⟩
    cases e'
    obtain ⟨v, hv⟩ : ∃ v, xs[k]? = some v := ⟨xs[k], List.getElem?_eq_getElem hk⟩
    obtain ⟨y, hy, vr⟩ := lr.get hv
    refine wpG_of (wpAny_pyNext_list_item (x := y) ⟨ob, hob, h1, h2⟩ hl (by rw [← Array.getElem?_toList]; exact hy) fun h' hit hs => ?_)
    obtain ⟨ob', g1, g2, g3⟩ := hit
    exact q v y h' s.toks ob' hv vr hs.extBut g1 ⟨g2, g3⟩
  · rintro env σ fm ρ s Q E ob hj le r hob ⟨h1, h2⟩ q
    obtain ⟨a', vs, e', e'', hl, lr⟩ := r.list (x := .ref a) hj ⟨a, le _ _ e, rfl⟩
    cases e'
    have hlen : vs.size = xs.length := by rw [← Array.length_toList]; exact lr.length.symm
    exact wpG_of (wpAny_pyNext_list_end hA.handled ⟨ob, hob, h1, h2⟩ hl (by rw [← hlen]; simp) fun h' he => q h' s.toks he)
end
end Mine
end
section
set_option maxRecDepth 100000
set_option autoImplicit false
namespace Mine
open PySem PySem.Calls PySem.Spec PyProof.Rows PySem.W

section
variable {g : Bool} {w : World} {B : Heap} {env : Env} {A : Around} {σ : St}
/- what is to hold behind gets a name: the terms stay small -/
theorem WT.gen {α β : Type} {t : Sem α} {R : Rho → β → α → Prop} {K : β → St → Prop} (h : ∀ K', (∀ b σ', K b σ' → K' b σ') → WT g w B env A t R σ K') : WT g w B env A t R σ K := h K fun _ _ x => x
theorem WT.less {α β : Type} {t : Sem α} {R : Rho → β → α → Prop} {K : β → St → Prop} (h : WT g w B env A t R σ fun b σ' => ∃ σ'', σ''.le σ' ∧ K b σ'') : WT g w B env A t R σ K :=
  fun fm ρ s Q E O r q => h fm ρ s Q E O r fun b σ' ρ' a s' l r' e k => by
    obtain ⟨σ'', c, hk⟩ := k
    exact q b σ'' _ a s' l (r'.weaken c) e hk
/- the ids from N to M -/
noncomputable def Rg (N M : Nat) (i : Nat) : Prop := N ≤ i ∧ i < M
theorem Cut.of {N M : Nat} {σ σ' σ'' : St} (hobj : ∀ i o, σ''.obj i = some o → ¬ Rg N M i ∧ σ'.obj i = some o ∧ (σ.obj i = some o ∨ OOut (Rg N M) o)) (hloc : ∀ p ∈ σ''.loc, p ∈ σ'.loc ∧ (p ∈ σ.loc ∨ VOut (Rg N M) p.2))
    (hfree : ∀ i, σ''.free i → Rg N M i ∨ σ'.free i) : Cut (Rg N M) σ σ' σ'' where
  obj := fun i o e => by
    obtain ⟨h1, h2, h3⟩ := hobj i o e
    exact ⟨h2, h3.imp id fun h => ⟨h1, h⟩⟩
  loc := hloc
  free := fun i hi => (hfree i hi).symm

noncomputable def Fresh (σ : St) (N M : Nat) : Prop := ∀ i, N ≤ i → i < M → σ.free i ∧ σ.obj i = none
theorem Fresh.sub {σ : St} {N M N' M' : Nat} (h : Fresh σ N M) (h1 : N ≤ N') (h2 : M' ≤ M) : Fresh σ N' M' := fun i hi hj => h i (Nat.le_trans h1 hi) (Nat.lt_of_lt_of_le hj h2)
end

/- where an octet comes from -/
noncomputable def rev (w p : Nat) : Nat := p / w * w + (w - 1 - p % w)
noncomputable def bs (w : Nat) (b : List UInt8) : List UInt8 := (List.range 12).map fun p => b.getD (rev w p) 0
noncomputable def Width (w : Nat) : Prop := w = 1 ∨ w = 2 ∨ w = 3 ∨ w = 4 ∨ w = 6 ∨ w = 12

/- what is written when the j-th octet of the k-th word is at hand -/
noncomputable def Done (d : List UInt8) (w k j : Nat) (arr : Array UInt8) : Prop := arr.size = 12 ∧ ∀ p, p < 12 → (p / w < k ∨ (p / w = k ∧ w - 1 - p % w < j)) → arr[p]? = some (d.getD (rev w p) 0)
theorem Done.step {d : List UInt8} {w k j : Nat} {arr : Array UInt8} {x : UInt8} (h : Done d w k j arr) (hj : j < w) (hk : k * w + j < 12) (hx : x = d.getD (k * w + j) 0) :
    Done d w k (j + 1) (arr.setIfInBounds (k * w + (w - 1 - j)) x) := by
  refine ⟨by simpa using h.1, fun p hp hq => ?_⟩
  have hw : 0 < w := by lia
  by_cases e : p = k * w + (w - 1 - j)
  · subst e
    have h1 : (k * w + (w - 1 - j)) / w = k := by
      rw [Nat.mul_comm, Nat.mul_add_div hw]
      simp; lia
    have h2 : (k * w + (w - 1 - j)) % w = w - 1 - j := by
      rw [Nat.mul_comm, Nat.mul_add_mod]
      exact Nat.mod_eq_of_lt (by lia)
    have h3 : rev w (k * w + (w - 1 - j)) = k * w + j := by
      unfold rev; rw [h1, h2]
      clear h1 h2 hk hx h
      generalize k * w = q at *
      lia
    rw [Array.getElem?_setIfInBounds, if_pos rfl, if_pos (by rw [h.1]; exact hp), h3, hx]
  · rw [Array.getElem?_setIfInBounds, if_neg (Ne.symm e)]
    refine h.2 p hp (hq.imp id fun ⟨h1, h2⟩ => ⟨h1, ?_⟩)
    have : w - 1 - p % w ≠ j := by
      intro h3
      apply e
      have h4 := Nat.div_add_mod p w
      have h5 := Nat.mod_lt p hw
      rw [h1, Nat.mul_comm] at h4
      clear hk hx h h1 e
      generalize k * w = q at h4 ⊢
      generalize p % w = r at *
      lia
    lia
theorem Done.next {d : List UInt8} {w k : Nat} {arr : Array UInt8} (h : Done d w k w arr) (hw : 0 < w) : Done d w (k + 1) 0 arr :=
  ⟨h.1, fun p hp hq => h.2 p hp (by
    rcases hq with hq | ⟨_, hq⟩
    · rcases Nat.lt_or_eq_of_le (Nat.lt_succ_iff.mp hq) with h1 | h1
      · exact .inl h1
      · exact .inr ⟨h1, by lia⟩
    · lia)⟩
theorem Done.all {d : List UInt8} {w : Nat} {arr : Array UInt8} (h : Done d w (12 / w) 0 arr) (hw : Width w) : arr = (bs w d).toArray := by
  apply Array.ext_getElem?
  intro p
  by_cases hp : p < 12
  · rw [h.2 p hp (.inl (by rcases hw with rfl | rfl | rfl | rfl | rfl | rfl <;> lia))]
    simp [bs, hp]
  · rw [Array.getElem?_eq_none (by rw [h.1]; lia)]
    rw [List.getElem?_toArray, List.getElem?_eq_none]
    simp [bs]; lia
theorem fin12 {P : Nat → Nat → Bool} (h : ([1, 2, 3, 4, 6, 12].all fun w => (List.range 12).all (P w)) = true) {w p : Nat} (hw : Width w) (hp : p < 12) : P w p = true := by
  have hm : w ∈ [1, 2, 3, 4, 6, 12] := by
    rcases hw with rfl | rfl | rfl | rfl | rfl | rfl
    · exact .head _
    · exact .tail _ (.head _)
    · exact .tail _ (.tail _ (.head _))
    · exact .tail _ (.tail _ (.tail _ (.head _)))
    · exact .tail _ (.tail _ (.tail _ (.tail _ (.head _))))
    · exact .tail _ (.tail _ (.tail _ (.tail _ (.tail _ (.head _)))))
  exact List.all_eq_true.mp (List.all_eq_true.mp h w hm) p (List.mem_range.mpr hp)
theorem Width.pos {w : Nat} (h : Width w) : 0 < w ∧ w ≤ 12 := by rcases h with rfl | rfl | rfl | rfl | rfl | rfl <;> lia
theorem Width.turns {w : Nat} (h : Width w) : (Builtin.Range.rangeSize 0 12 w).toNat = 12 / w := by rcases h with rfl | rfl | rfl | rfl | rfl | rfl <;> decide
theorem Width.in {w k : Nat} (h : Width w) (hk : k < 12 / w) : k * w + w ≤ 12 := by
  rcases h with rfl | rfl | rfl | rfl | rfl | rfl <;> lia
theorem Width.small {w : Nat} (h : Width w) : Builtin.Range.small 0 12 w = true := by rcases h with rfl | rfl | rfl | rfl | rfl | rfl <;> decide
theorem Width.small' {w : Nat} (h : Width w) : Builtin.Range.small 0 w 1 = true := by rcases h with rfl | rfl | rfl | rfl | rfl | rfl <;> decide
theorem Width.turns' {w : Nat} (h : Width w) : (Builtin.Range.rangeSize 0 w 1).toNat = w := by rcases h with rfl | rfl | rfl | rfl | rfl | rfl <;> decide
theorem Width.pylong {w : Nat} (h : Width w) : Builtin.divisionGoesByPylong (12 - 0) w = false := by rcases h with rfl | rfl | rfl | rfl | rfl | rfl <;> decide

section
variable {w : World} {B : Heap} {env : Env} {A : Around} {σ : St} {K : V → St → Prop}
theorem wc_byteswap {n : Nat} {d : List UInt8} {wd : Nat} (HB : BaseOk w B) (hA : AOk (n + 1) A) (hf : env.frame = some env.locals) (hkind : env.scope.kind = .function) (hd : d.length = 12) (hw : Width wd)
    (hfr : Fresh σ 1000 1003) (h : K (.bytes (bs wd d).toArray) σ) : WC true w B env A (.ref 28) [.bytes d.toArray, .int wd] σ K := by
  refine WC.plain (wc_def HB defByteswap (fun xs hl => by
    obtain ⟨x, y, rfl⟩ := len2 hl
    kernel_rfl) rfl hA hf hkind fun L A' hA' => ?_)
  refine ws_assign (we_call HB (we_blt (v := .type "bytearray") HB ⟨_, rfl, kp_type _, ?_⟩))
  refine wa_cons (we_call HB (we_blt (v := .builtin "len") HB ⟨_, rfl, kp_builtin _, wa_cons (we_local rfl (wa_nil (wc_len_bytes (by simp [hd]) (wa_nil ?_))))⟩))
  refine wc_bytearray (i := 1000) hA' (hfr 1000 (by decide) (by decide)).1 (by simp [hd]) (by simp [hd]) ?_
  have hd' : (d.toArray.size : Int) = 12 := by simp [hd]
  rw [hd']
  refine ws_for (we_call HB (we_blt (v := .type "range") HB ⟨_, rfl, kp_type _, wa_cons (we_int (wa_cons (we_call HB (we_blt (v := .builtin "len") HB
    ⟨_, rfl, kp_builtin _, wa_cons (we_local rfl (wa_nil (wc_len_bytes (by simp [hd]) (wa_cons (we_local rfl (wa_nil ?_))))))⟩))))⟩))
  rw [hd']
  refine wc_range3 (i := 1001) ⟨(hfr 1001 (by decide) (by decide)).1, by decide⟩ (by have := hw.pos; lia) hw.pylong ?_
  have hpos := hw.pos
  refine ⟨_, _, _, iters_range hA' hw.small, fun k σ' => ∃ arr, Done d wd k 0 arr ∧ σ' =
    { loc := [("data", .bytes d.toArray), ("width", .int wd), ("swapped_data", .ref 1000)], obj := fun i => if i = 1001 then some (.range 0 12 wd) else if i = 1000 then some (.barr arr) else σ.obj i, free := fun i => (σ.free i ∧ i ≠ 1000) ∧ i ≠ 1001 }, ?_, ?_, ?_, ?_⟩
  · exact ⟨Array.replicate 12 0, ⟨by simp, fun p hp hq => hq.elim (fun h => absurd h (Nat.not_lt_zero _)) fun h => absurd h.2 (Nat.not_lt_zero _)⟩, rfl⟩
  · rintro k σ' ⟨arr, _, rfl⟩; rfl
  · rintro k u σ' hk rfl ⟨arr, hD, rfl⟩
    rw [hw.turns] at hk
    have hin := hw.in hk
    refine WT.cut (Rg 1002 1003) (fun i hi => ⟨⟨(hfr i (Nat.le_trans (by decide) hi.1) hi.2).1, Nat.ne_of_gt (Nat.lt_of_lt_of_le (by decide) hi.1)⟩, Nat.ne_of_gt (Nat.lt_of_lt_of_le (by decide) hi.1)⟩) ?_
    refine WT.gen fun K0 hK0 => ?_
    refine ws_for (we_call HB (we_blt (v := .type "range") HB ⟨_, rfl, kp_type _, wa_cons (we_local rfl (wa_nil ?_))⟩))
    refine wc_range1 (i := 1002) ⟨⟨(hfr 1002 (by decide) (by decide)).1, by decide⟩, by decide⟩ ?_
    refine ⟨_, _, _, iters_range hA' hw.small', fun j σ' => ∃ arr, Done d wd k j arr ∧ σ' =
      { loc := [("data", .bytes d.toArray), ("width", .int wd), ("swapped_data", .ref 1000), ("i", .int (0 + k * wd))],
        obj := fun i => if i = 1002 then some (.range 0 wd 1) else if i = 1001 then some (.range 0 12 wd) else if i = 1000 then some (.barr arr) else σ.obj i, free := fun i => ((σ.free i ∧ i ≠ 1000) ∧ i ≠ 1001) ∧ i ≠ 1002 }, ?_, ?_, ?_, ?_⟩
    · exact ⟨arr, hD, rfl⟩
    · rintro j σ' ⟨arr, _, rfl⟩; rfl
    · rintro j u σ' hj rfl ⟨arr, hD, rfl⟩
      rw [hw.turns'] at hj
      refine WT.less (WT.gen fun K1 hK1 => ?_)
      refine ws_setsub (we_sub (we_local rfl (we_binop (we_local rfl (we_local rfl (op_add_int ?_))))))
      refine sub_bytes (by lia) (by lia) (by lia) ?_
      refine we_local rfl (we_binop (we_binop (we_binop (we_local rfl (we_local rfl (op_add_int (we_int (op_sub_int (we_local rfl (op_sub_int ?_))))))))))
      refine set_barr (b := arr) rfl (by rw [hD.1]; decide) (by lia) (by rw [hD.1]; lia) (by lia) (by have := (d.getD (0 + (k : Int) * wd + (0 + (j : Int) * 1)).toNat 0).toNat_lt; lia) ?_
      have hidx : (0 + (k : Int) * wd + wd - 1 - (0 + (j : Int) * 1)).toNat = k * wd + (wd - 1 - j) := by lia
      have hid2 : (0 + (k : Int) * wd + (0 + (j : Int) * 1)).toNat = k * wd + j := by lia
      rw [hidx, hid2]
      refine ws_nil (hK1 _ _ ⟨_, ⟨?_, ?_, ?_⟩, _, hD.step (x := (((d.getD (k * wd + j) 0).toNat : Nat) : Int).toNat.toUInt8) hj (by lia) (by simp), rfl⟩)
      · intro p hp; exact List.mem_append_left [(Str.ofString "j", V.int (0 + (j : Int) * 1))] hp
      · intro i o e
        refine Eq.trans ?_ e
        show (if i = 1000 then _ else if i = 1002 then _ else if i = 1001 then _ else if i = 1000 then _ else σ.obj i) = (if i = 1002 then _ else if i = 1001 then _ else if i = 1000 then _ else σ.obj i)
        by_cases h1 : i = 1000
        · subst h1; rfl
        · rw [if_neg h1, if_neg h1, if_neg h1]
      · exact fun i h => h
    · rintro σ' ⟨arr, hD', rfl⟩
      rw [hw.turns'] at hD'
      refine ws_nil (hK0 _ _ ⟨_, Cut.of ?_ ?_ ?_, ?_, ⟨arr, hD'.next hpos.1, rfl⟩⟩)
      · intro i o e
        have e' : (if i = 1001 then some (O.range 0 12 wd) else if i = 1000 then some (.barr arr) else σ.obj i) = some o := e
        have h2 : i ≠ 1002 := by
          rintro rfl
          rw [if_neg (by decide), if_neg (by decide), (hfr 1002 (by decide) (by decide)).2] at e'; cases e'
        refine ⟨fun h => h2 (by have h3 := h.1; have h4 := h.2; lia), ?_, ?_⟩
        · show (if i = 1002 then _ else if i = 1001 then _ else if i = 1000 then _ else σ.obj i) = _
          rw [if_neg h2]; exact e'
        · by_cases h1 : i = 1000
          · subst h1; cases e'; exact .inr trivial
          · refine .inl (Eq.trans ?_ e')
            show (if i = 1001 then _ else if i = 1000 then _ else σ.obj i) = _
            rw [if_neg h1, if_neg h1]
      · intro p hp
        exact ⟨List.mem_append_left [(Str.ofString "i", V.int (0 + (k : Int) * wd))] hp, .inl (List.mem_append_left [(Str.ofString "i", V.int (0 + (k : Int) * wd))] hp)⟩
      · exact fun i hi => by
          by_cases h2 : i = 1002
          · exact .inl ⟨by lia, by lia⟩
          · exact .inr ⟨hi, h2⟩
      · exact fun ρ a e => e
  · rintro σ' ⟨arr, hD, rfl⟩
    rw [hw.turns] at hD
    refine ws_return (we_call HB (we_blt (v := .type "bytes") HB ⟨_, rfl, kp_type _, wa_cons (we_local rfl (wa_nil ?_))⟩))
    refine wc_bytes_barr (b := arr) rfl (by rw [hD.1]; decide) ?_
    rw [hD.all hw]
    refine ⟨rfl, fun i o e => ?_, trivial, h⟩
    have h1 : i ≠ 1001 := by rintro rfl; rw [(hfr 1001 (by decide) (by decide)).2] at e; cases e
    have h2 : i ≠ 1000 := by rintro rfl; rw [(hfr 1000 (by decide) (by decide)).2] at e; cases e
    show (if i = 1001 then _ else if i = 1000 then _ else σ.obj i) = _
    rw [if_neg h1, if_neg h2, e]
end
end Mine
end
section
set_option maxRecDepth 100000
set_option autoImplicit false
namespace Mine
open PySem PySem.Calls PySem.Spec PyProof.Rows PySem.W

/- the places of the sign -/
noncomputable def cuts : List Nat → Nat → List Nat
  | [], _ => []
  | c :: l, k => if c = 47 then k :: cuts l (k + 1) else cuts l (k + 1)
/- names with the sign between -/
noncomputable def jn : List (List Nat) → List Nat
  | [] => []
  | [n] => n
  | n :: m :: r => n ++ 47 :: jn (m :: r)
noncomputable def NoSep (n : List Nat) : Prop := ∀ c ∈ n, c ≠ 47

theorem cuts_free {n : List Nat} (h : NoSep n) : ∀ k, cuts n k = [] := by
  induction n with
  | nil => intro k; rfl
  | cons c n ih =>
    intro k
    rw [cuts, if_neg (h c (.head _))]
    exact ih (fun d hd => h d (.tail _ hd)) _
theorem cuts_app {n : List Nat} (h : NoSep n) (m : List Nat) : ∀ k, cuts (n ++ m) k = cuts m (k + n.length) := by
  induction n with
  | nil => intro k; rfl
  | cons c n ih =>
    intro k
    rw [List.cons_append, cuts, if_neg (h c (.head _)), ih (fun d hd => h d (.tail _ hd)), List.length_cons]
    congr 1; lia
theorem cuts_sep {n : List Nat} (h : NoSep n) (m : List Nat) (k : Nat) : cuts (n ++ 47 :: m) k = (k + n.length) :: cuts m (k + n.length + 1) := by
  rw [cuts_app h, cuts, if_pos rfl]
theorem cuts_cat (a b : List Nat) : ∀ k, cuts (a ++ b) k = cuts a k ++ cuts b (k + a.length) := by
  induction a with
  | nil => intro k; rfl
  | cons c a ih =>
    intro k
    rw [List.cons_append, cuts, cuts, ih]
    have : k + 1 + a.length = k + (c :: a).length := by rw [List.length_cons]; lia
    rw [this]
    split <;> rfl

/- the pieces from a on -/
noncomputable def pieces {α : Type} (l : List α) : Nat → List Nat → List (List α)
  | a, [] => [l.drop a]
  | a, c :: cs => (l.drop a).take (c - a) :: pieces l (c + 1) cs
theorem pieces_jn : ∀ (ns : List (List Nat)), ns ≠ [] → (∀ n ∈ ns, NoSep n) → ∀ pre : List Nat, pieces (pre ++ jn ns) pre.length (cuts (jn ns) pre.length) = ns
  | [], h, _, _ => absurd rfl h
  | [n], _, h, pre => by
    show pieces (pre ++ n) pre.length (cuts n pre.length) = [n]
    rw [cuts_free (h n (.head _))]
    simp [pieces]
  | n :: m :: r, _, h, pre => by
    show pieces (pre ++ (n ++ 47 :: jn (m :: r))) pre.length (cuts (n ++ 47 :: jn (m :: r)) pre.length) = n :: m :: r
    rw [cuts_sep (h n (.head _)), pieces]
    have e1 : pre ++ (n ++ 47 :: jn (m :: r)) = (pre ++ n ++ [47]) ++ jn (m :: r) := by simp
    have e2 : pre.length + n.length + 1 = (pre ++ n ++ [47]).length := by simp; lia
    congr 1
    · rw [List.drop_left, Nat.add_sub_cancel_left, List.take_left]
    · rw [e1, e2]
      exact pieces_jn (m :: r) (by simp) (fun x hx => h x (.tail _ hx)) _

theorem jn_snoc (m : List Nat) : ∀ ns : List (List Nat), ns ≠ [] → jn (ns ++ [m]) = jn ns ++ 47 :: m
  | [], h => absurd rfl h
  | [n], _ => rfl
  | n :: p :: r, _ => by
    show n ++ 47 :: jn (p :: r ++ [m]) = n ++ 47 :: jn (p :: r) ++ 47 :: m
    rw [jn_snoc m (p :: r) (by simp)]
    simp
/- the last place -/
theorem cuts_last {a m : List Nat} (h : NoSep m) : (cuts (a ++ 47 :: m) 0).getLast? = some a.length := by
  rw [cuts_cat, cuts, if_pos rfl, cuts_free h, Nat.zero_add]
  simp

-- octets
section
variable {b : Array UInt8}
noncomputable abbrev nums (b : Array UInt8) : List Nat := b.toList.map (·.toNat)
theorem ext1 (b : Array UInt8) (k : Nat) (c : UInt8) (l : List UInt8) (h : b.toList.drop k = c :: l) : (b.extract k (k + 1) == #[47]) = decide (c.toNat = 47) := by
  have e : (b.extract k (k + 1)).toList = [c] := by
    rw [Array.toList_extract, List.extract_eq_take_drop, h]
    have : k + 1 - k = 1 := by lia
    rw [this]; rfl
  have e2 : b.extract k (k + 1) = #[c] := by rw [← Array.toArray_toList (xs := b.extract k (k + 1)), e]
  rw [e2]
  by_cases hc : c = 47
  · subst hc; rfl
  · have h1 : (#[c] == #[(47 : UInt8)]) = false := by simpa using hc
    have h2 : ¬ c.toNat = 47 := fun e => hc (UInt8.toNat_inj.mp e)
    rw [h1, decide_eq_false h2]
theorem drop_succ_of {l : List UInt8} {k : Nat} {c : UInt8} {r : List UInt8} (h : l.drop k = c :: r) : l.drop (k + 1) = r := by
  rw [← List.tail_drop, h]; rfl
theorem occ_fold (b : Array UInt8) : ∀ (l : List UInt8) (k : Nat) (acc : List Nat) (f : Nat), b.toList.drop k = l → f ≤ k →
    ((List.range' k l.length).foldl (fun (acc : List Nat × Nat) (i : Nat) => if i ≥ acc.2 && b.extract i (i + (#[47] : Array UInt8).size) == #[47] then (i :: acc.1, i + (#[47] : Array UInt8).size) else acc) (acc, f)).1 = (cuts (l.map (·.toNat)) k).reverse ++ acc := by
  intro l
  induction l with
  | nil => intro k acc f _ _; simp [cuts]
  | cons c l ih =>
    intro k acc f hd hf
    rw [List.length_cons, List.range'_succ, List.foldl_cons, List.map_cons, cuts]
    have e : (b.extract k (k + (#[47] : Array UInt8).size) == #[47]) = decide (c.toNat = 47) := ext1 b k c l hd
    dsimp only
    rw [e]
    by_cases hc : c.toNat = 47
    · rw [if_pos hc, if_pos (by simp [hc, hf])]
      have := ih (k + 1) (k :: acc) (k + (#[47] : Array UInt8).size) (drop_succ_of hd) (Nat.le_refl _)
      rw [this]; simp
    · rw [if_neg hc, if_neg (by simp [hc])]
      exact ih (k + 1) acc f (drop_succ_of hd) (by lia)
theorem occ_bytes (b : Array UInt8) : Builtin.Bytes.occurrences b #[47] 0 b.size = cuts (nums b) 0 := by
  unfold Builtin.Bytes.occurrences
  have h1 : b.size + 1 - (0 + (#[47] : Array UInt8).size) = b.toList.length := by simp
  have h2 : ((List.range b.toList.length).map (· + 0)) = List.range' 0 b.toList.length := by simp [List.range_eq_range']
  rw [h1, h2]
  have := occ_fold b b.toList 0 [] 0 rfl (Nat.le_refl _)
  dsimp only
  rw [this]; simp
theorem between_fold (b : Array UInt8) : ∀ (cs : List Nat) (parts : Array (Array UInt8)) (a : Nat),
    (let r := cs.foldl (fun (x : Array (Array UInt8) × Nat) p => (x.1.push (b.extract x.2 p), p + 1)) (parts, a); (r.1.push (b.extract r.2 b.size)).toList.map (·.toList)) = parts.toList.map (·.toList) ++ pieces b.toList a cs := by
  intro cs
  induction cs with
  | nil =>
    intro parts a
    simp [pieces, List.extract_eq_take_drop]
    rw [List.take_of_length_le]; simp
  | cons c cs ih =>
    intro parts a
    rw [List.foldl_cons]
    refine (ih _ _).trans ?_
    simp [pieces, List.extract_eq_take_drop]
theorem between_eq (b : Array UInt8) (cs : List Nat) : (Builtin.Bytes.between b 1 cs).map (·.toList) = pieces b.toList 0 cs := by
  have := between_fold b cs #[] 0
  simpa [Builtin.Bytes.between] using this
end
theorem pieces_map {α β : Type} (f : α → β) (l : List α) : ∀ (cs : List Nat) (a : Nat), pieces (l.map f) a cs = (pieces l a cs).map (·.map f)
  | [], a => by simp [pieces]
  | c :: cs, a => by simp [pieces, pieces_map f l cs]
end Mine
end
section
set_option maxRecDepth 100000
set_option autoImplicit false
namespace Mine
open PySem PySem.Calls PySem.Spec PyProof.Rows PySem.W
open PySem.Builtin PySem.Builtin.Str PySem.StrLaws

theorem filter_cuts (b : Array UInt8) : ∀ (l : List UInt8) (k : Nat), b.toList.drop k = l →
    (List.range' k l.length).filter (fun i => b.extract i (i + (#[47] : Array UInt8).size) == #[47]) = cuts (l.map (·.toNat)) k := by
  intro l
  induction l with
  | nil => intro k _; rfl
  | cons c l ih =>
    intro k hd
    have e : (b.extract k (k + (#[47] : Array UInt8).size) == #[47]) = decide (c.toNat = 47) := ext1 b k c l hd
    rw [List.length_cons, List.range'_succ, List.filter_cons, e, ih (k + 1) (drop_succ_of hd), List.map_cons, cuts]
    by_cases hc : c.toNat = 47 <;> simp [hc]
theorem range_shift (b : Array UInt8) : ((List.range (b.size + 1 - (0 + (#[47] : Array UInt8).size))).map (· + 0)) = List.range' 0 b.toList.length := by
  have h1 : b.size + 1 - (0 + (#[47] : Array UInt8).size) = b.toList.length := by simp
  rw [h1]; simp [List.range_eq_range']
theorem find_bytes (b : Array UInt8) : Bytes.find? b #[47] 0 b.size = (cuts (nums b) 0).head? := by
  unfold Bytes.find?
  rw [range_shift, ← List.head?_filter, filter_cuts b b.toList 0 rfl]
theorem rfind_bytes (b : Array UInt8) : Bytes.rfind? b #[47] 0 b.size = (cuts (nums b) 0).getLast? := by
  unfold Bytes.rfind?
  rw [range_shift, ← List.head?_filter, List.filter_reverse, filter_cuts b b.toList 0 rfl, List.head?_reverse]

noncomputable abbrev sepS : Str := ⟨#[47]⟩
theorem subAt1 {x : Str} {k : Nat} {c : Nat} {l : List Nat} (h : x.cps.toList.drop k = c :: l) : subAt x sepS k = decide (c = 47) := by
  rw [subAt_eq, h]
  show ([c] == [47]) = _
  by_cases hc : c = 47
  · subst hc; rfl
  · rw [decide_eq_false hc]; simpa using hc
theorem dropNat {l : List Nat} {k : Nat} {c : Nat} {r : List Nat} (h : l.drop k = c :: r) : l.drop (k + 1) = r := by
  rw [← List.tail_drop, h]; rfl
theorem occ_run (x : Str) : ∀ (l : List Nat) (k : Nat) (st : Array Nat × Nat), x.cps.toList.drop k = l → k + l.length = x.length → st.1.size ≤ k → st.2 ≤ k →
    (forIn (List.range' k (l.length + 1)) st (occBody x sepS x.length (x.length + 1))).run.fst.toList = st.1.toList ++ cuts l k := by
  intro l
  induction l with
  | nil =>
    intro k st hd hk h1 h2
    rw [List.length_nil, List.range'_succ, List.forIn_cons]
    have : ¬ (((st.1.size < x.length + 1 ∧ st.2 ≤ k) ∧ k + sepS.length ≤ x.length) ∧ subAt x sepS k = true) := by
      rintro ⟨⟨_, h⟩, _⟩
      have : sepS.length = 1 := rfl
      simp at hk; lia
    unfold occBody
    first
      | (rw [if_neg this]; simp [cuts])
      | (simp [cuts]; split <;> simp_all)
  | cons c l ih =>
    intro k st hd hk h1 h2
    rw [List.length_cons, List.range'_succ, List.forIn_cons]
    have hs := subAt1 hd
    have hl : sepS.length = 1 := rfl
    rw [List.length_cons] at hk
    unfold occBody
    rw [cuts]
    by_cases hc : c = 47
    · have hy : ((st.1.size < x.length + 1 ∧ st.2 ≤ k) ∧ k + sepS.length ≤ x.length) ∧ subAt x sepS k = true := ⟨⟨⟨by lia, h2⟩, by lia⟩, by rw [hs]; simp [hc]⟩
      have := ih (k + 1) (st.1.push k, k + sepS.length) (dropNat hd) (by lia) (by simp; lia) (by simp [hl])
      rw [if_pos hc]
      first
        | (rw [if_pos hy]; simpa [occBody] using this)
        | (simp [hy, hc] at this ⊢; exact this)
    · have hy : ¬ (((st.1.size < x.length + 1 ∧ st.2 ≤ k) ∧ k + sepS.length ≤ x.length) ∧ subAt x sepS k = true) := by rintro ⟨_, h⟩; rw [hs] at h; simp [hc] at h
      have := ih (k + 1) st (dropNat hd) (by lia) (by lia) (by lia)
      rw [if_neg hc]
      first
        | (rw [if_neg hy]; simpa [occBody] using this)
        | (simp [hy, hc] at this ⊢; exact this)
theorem occ_str (x : Str) : occurrences x sepS 0 x.length (x.length + 1) = cuts x.cps.toList 0 := by
  rw [occ_eq]
  have := occ_run x x.cps.toList 0 (#[], 0) rfl (by simp [Str.length]) (by simp) (by simp)
  have e : x.length + 1 - 0 = x.cps.toList.length + 1 := by simp [Str.length]
  rw [e, this]; rfl
theorem last_go (x : Str) : ∀ (l : List Nat) (k : Nat) (st : Option Nat), x.cps.toList.drop k = l → k + l.length = x.length →
    (forIn (List.range' k (l.length + 1)) st (lastBody x sepS x.length)).run = (cuts l k).getLast?.or st := by
  intro l
  induction l with
  | nil =>
    intro k st hd hk
    rw [List.length_nil, List.range'_succ, List.forIn_cons]
    have : ¬ (k + sepS.length ≤ x.length ∧ subAt x sepS k = true) := by
      rintro ⟨h, _⟩
      have : sepS.length = 1 := rfl
      simp at hk; lia
    unfold lastBody
    rw [if_neg this]; simp [cuts]
  | cons c l ih =>
    intro k st hd hk
    rw [List.length_cons, List.range'_succ, List.forIn_cons]
    have hs := subAt1 hd
    have hl : sepS.length = 1 := rfl
    rw [List.length_cons] at hk
    unfold lastBody
    rw [cuts]
    by_cases hc : c = 47
    · have hy : k + sepS.length ≤ x.length ∧ subAt x sepS k = true := ⟨by lia, by rw [hs]; simp [hc]⟩
      have := ih (k + 1) (some k) (dropNat hd) (by lia)
      rw [if_pos hy, if_pos hc]
      refine Eq.trans ?_ (this.trans ?_)
      · rfl
      · rw [List.getLast?_cons]
        cases cuts l (k + 1) with
        | nil => rfl
        | cons a r => simp
    · have hy : ¬ (k + sepS.length ≤ x.length ∧ subAt x sepS k = true) := by rintro ⟨_, h⟩; rw [hs] at h; simp [hc] at h
      have := ih (k + 1) st (dropNat hd) (by lia)
      rw [if_neg hy, if_neg hc]
      exact this
theorem last_str (x : Str) : lastOccurrence x sepS 0 x.length = (cuts x.cps.toList 0).getLast? := by
  rw [last_eq]
  have := last_go x x.cps.toList 0 none rfl (by simp [Str.length])
  have e : x.length + 1 - 0 = x.cps.toList.length + 1 := by simp [Str.length]
  rw [e, this]; simp
theorem partsFrom_eq (x : Str) : ∀ (cs : List Nat) (a : Nat), (∀ c ∈ cs, c < x.length) → (partsFrom x 1 a cs).map (·.cps.toList) = pieces x.cps.toList a cs
  | [], a, _ => by
    simp only [partsFrom, List.map_cons, List.map_nil, pieces, strSub_toList]
    rw [List.take_of_length_le]; simp [Str.length]
  | c :: cs, a, h => by
    simp only [partsFrom, List.map_cons, pieces, strSub_toList]
    rw [partsFrom_eq x cs (c + 1) fun d hd => h d (.tail _ hd)]
theorem split_str {x : Str} {ns : List (List Nat)} (hx : x.cps.toList = jn ns) (h0 : ns ≠ []) (hn : ∀ n ∈ ns, NoSep n) : (Txt.split x sepS).map (·.cps.toList) = ns := by
  have hp := pieces_jn ns h0 hn []
  rw [List.nil_append, ← hx, List.length_nil] at hp
  have hlt : ∀ (l : List Nat) (k c : Nat), c ∈ cuts l k → c < k + l.length := by
    intro l
    induction l with
    | nil => intro k c h; cases h
    | cons d l ih =>
      intro k c h
      rw [cuts] at h
      rw [List.length_cons]
      split at h
      · rcases List.mem_cons.mp h with rfl | h
        · lia
        · have := ih _ _ h; lia
      · have := ih _ _ h; lia
  unfold Txt.split
  rw [occ_str]
  by_cases hl : (decide (x.length < sepS.length) || decide (Builtin.Str.strKind x < Builtin.Str.strKind sepS)) = true
  · rw [if_pos hl]
    have hl' : x.length = 0 := by
      have h1 : sepS.length = 1 := rfl
      have h2 : Builtin.Str.strKind sepS = 1 := by simp [Builtin.Str.strKind]
      have h3 : 1 ≤ Builtin.Str.strKind x := by unfold Builtin.Str.strKind; split <;> (try split) <;> lia
      rw [h1, h2] at hl
      simp only [Bool.or_eq_true, decide_eq_true_eq] at hl
      lia
    have hx0 : x.cps.toList = [] := by
      have : x.cps.size = 0 := hl'
      exact Array.toList_eq_nil_iff.mpr (Array.eq_empty_of_size_eq_zero this)
    rw [hx0] at hp
    simpa [cuts, pieces, hx0] using hp
  · rw [if_neg hl]
    by_cases he : (cuts x.cps.toList 0).isEmpty = true
    · rw [if_pos he]
      rw [List.isEmpty_iff.mp he] at hp
      simpa [pieces] using hp
    · rw [if_neg he, partsBetween_eq]
      have := partsFrom_eq x (cuts x.cps.toList 0) 0 (fun c hc => by have := hlt _ _ _ hc; simpa [Str.length] using this)
      exact this.trans hp
end Mine
end
section
set_option maxRecDepth 100000
set_option autoImplicit false
namespace Mine
open PySem PySem.Calls PySem.Spec PyProof.Rows PySem.W
open PySem.Builtin

namespace BY
theorem slot_split : Slot "bytes" "split" "bytes.split" :=
  .of (owner := "bytes") (n := "split") (by rw [typeLookup_type, builtinLookup_eq_fast]; kernel_rfl) (by decide +kernel) (by decide +kernel) (by decide +kernel)
    (by first | exact .inl (by decide +kernel) | exact .inr (by decide +kernel)) (by rw [isSubtype_type]; kernel_rfl)
theorem slot_join : Slot "bytes" "join" "bytes.join" :=
  .of (owner := "bytes") (n := "join") (by rw [typeLookup_type, builtinLookup_eq_fast]; kernel_rfl) (by decide +kernel) (by decide +kernel) (by decide +kernel)
    (by first | exact .inl (by decide +kernel) | exact .inr (by decide +kernel)) (by rw [isSubtype_type]; kernel_rfl)
theorem slot_rpartition : Slot "bytes" "rpartition" "bytes.rpartition" :=
  .of (owner := "bytes") (n := "rpartition") (by rw [typeLookup_type, builtinLookup_eq_fast]; kernel_rfl) (by decide +kernel) (by decide +kernel) (by decide +kernel)
    (by first | exact .inl (by decide +kernel) | exact .inr (by decide +kernel)) (by rw [isSubtype_type]; kernel_rfl)
theorem type_split : typeOf (.builtin "bytes.split") = pure (.type "method_descriptor") := by show builtinType _ = _; rw [builtinType_eq_fast]; kernel_rfl
theorem type_join : typeOf (.builtin "bytes.join") = pure (.type "method_descriptor") := by show builtinType _ = _; rw [builtinType_eq_fast]; kernel_rfl
theorem type_rpartition : typeOf (.builtin "bytes.rpartition") = pure (.type "method_descriptor") := by show builtinType _ = _; rw [builtinType_eq_fast]; kernel_rfl
theorem entry_split : entryFor table "bytes.split" = some Builtin.«bytes.split» := entryFor_of_tree (by kernel_rfl)
theorem entry_join : entryFor table "bytes.join" = some Builtin.«bytes.join» := entryFor_of_tree (by kernel_rfl)
theorem entry_rpartition : entryFor table "bytes.rpartition" = some Builtin.«bytes.rpartition» := entryFor_of_tree (by kernel_rfl)
theorem args_split (a b : Value) : argsOk "bytes.split" ⟨[a, b], []⟩ := by
  unfold argsOk; rw [signature?_of (id := "bytes.split") (n := ['t', 'i', 'l', 'p', 's']) (o := ['s', 'e', 't', 'y', 'b']) (by kernel_rfl) FB.owner_bytes]; kernel_rfl
theorem args_join (a b : Value) : argsOk "bytes.join" ⟨[a, b], []⟩ := by
  unfold argsOk; rw [signature?_of (id := "bytes.join") (n := ['n', 'i', 'o', 'j']) (o := ['s', 'e', 't', 'y', 'b']) (by kernel_rfl) FB.owner_bytes]; kernel_rfl
theorem args_rpartition (a b : Value) : argsOk "bytes.rpartition" ⟨[a, b], []⟩ := by
  unfold argsOk; rw [signature?_of (id := "bytes.rpartition") (n := ['n', 'o', 'i', 't', 'i', 't', 'r', 'a', 'p', 'r']) (o := ['s', 'e', 't', 'y', 'b']) (by kernel_rfl) FB.owner_bytes]; kernel_rfl
theorem bind_split (id : String) (v : Value) : Bytes.bindOptional id "split" ["sep", "maxsplit"] [v] [] = pure [some v, none] := by kernel_rfl
end BY

section
variable {prog : Program} {w : World} {A : Around} {E : Value → Shared → Prop} {s : Shared}
/- some rows of octets are made -/
theorem mapM_new {M : Model} : ∀ (ls : List (Array UInt8)) (s : Shared) (Q : List Value → Shared → Prop), (∀ l ∈ ls, l.size ≤ 1000) →
    (∀ vs k, LR (fun _ => none) (ls.map V.bytes) vs → Q vs { s with toks := k }) → wpAny M A (ls.mapM Bytes.Kind.bytes.new) Q E s
  | [], s, Q, _, h => by rw [List.mapM_nil]; exact wpAny_pure (h [] s.toks trivial)
  | l :: ls, s, Q, hz, h => by
    rw [List.mapM_cons]
    refine wpAny_bind ?_
    show wpAny M A (mkBytes l) _ E s
    refine wpAny_mkBytes ?_ (Nat.le_trans (hz l (.head _)) (by decide))
    refine wpAny_bind (mapM_new ls _ _ (fun x hx => hz x (.tail _ hx)) fun vs k hv => wpAny_pure (h _ k ⟨⟨_, rfl⟩, hv⟩))

theorem call_bytes_split {b : Array UInt8} {t u : Tok} {Q : Value → Shared → Prop} (hz : b.size ≤ 900) (ht : ∀ p ∈ Bytes.between b 1 (cuts (nums b) 0), p.size ≤ 1000) (hc : cuts (nums b) 0 = [] → Bytes.between b 1 [] = [b])
    (h : ∀ vs tk, LR (fun _ => none) ((Bytes.between b 1 (cuts (nums b) 0)).map V.bytes) vs → Q (.ref s.heap.objs.size) { s with heap := s.heap.push { cls := .type "list", data := .seq vs.toArray }, toks := tk }) :
    wpAny (model prog w) A (call (.builtin "bytes.split") [.bytes b t, .bytes #[47] u]) Q E s := by
  refine wpAny_call_entry BY.slot_split (typeIs_bytes s b t) BY.entry_split ?_ (BY.args_split _ _)
  unfold Builtin.«bytes.split» Bytes.splitM
  dsimp only
  refine wpAny_bind (wpAny_of_eq (BY.bind_split _ _) ?_)
  dsimp only
  refine wpAny_bind (wpAny_pure ?_)
  refine wpAny_bind (wpAny_of_eq (rfl : Bytes.payload (.bytes b t) = pure b) ?_)
  refine wpAny_bind ?_
  unfold Bytes.bytesLike
  refine wpAny_bind (wpAny_of_eq KBy.buffer_eq (wpAny_pure ?_))
  refine bm_if_false rfl ?_
  have hlen : ∀ (l : List Nat) (k : Nat), (cuts l k).length ≤ l.length := by
    intro l
    induction l with
    | nil => intro k; exact Nat.le_refl _
    | cons d l ih => intro k; rw [cuts]; split <;> simp <;> have := ih (k + 1) <;> lia
  have htake : (if false = true then Bytes.occurrencesFromRight b #[47] (if (-1 : Int) < 0 then b.size + 1 else (-1 : Int).toNat) else
      List.take (if (-1 : Int) < 0 then b.size + 1 else (-1 : Int).toNat) (Bytes.occurrences b #[47] 0 b.size)) = cuts (nums b) 0 := by
    rw [if_neg (by decide), if_pos (by decide), occ_bytes]
    exact List.take_of_length_le (by have := hlen (nums b) 0; simp at this; lia)
  rw [htake]
  by_cases he : (cuts (nums b) 0).isEmpty = true
  · refine bm_if_true he ?_
    refine wpAny_bind (wpAny_rule ?_)
    refine wpAny_bind (wpAny_of_eq (rfl : Bytes.Kind.bytes.same (.bytes b t) = pure (.bytes b t)) ?_)
    refine wpAny_bind (wpAny_newObj_type ?_ (by show 1 ≤ sizeLine; decide))
    have e := List.isEmpty_iff.mp he
    refine wpAny_pure ⟨_, rfl, h [.bytes b t] s.toks ?_⟩
    rw [e, hc e]
    exact ⟨⟨_, rfl⟩, trivial⟩
  · refine bm_if_false (Bool.eq_false_iff.mpr he) ?_
    refine wpAny_bind (mapM_new _ s _ ht fun vs k hv => ?_)
    refine wpAny_bind (wpAny_newObj_type ?_ ?_)
    · exact wpAny_pure ⟨_, rfl, h vs k hv⟩
    · show vs.toArray.size ≤ sizeLine
      have h1 := hv.length
      have h2 : (Bytes.between b 1 (cuts (nums b) 0)).length = (cuts (nums b) 0).length + 1 := by
        rw [← List.length_map (f := Array.toList), between_eq]
        have : ∀ (cs : List Nat) (a : Nat), (pieces b.toList a cs).length = cs.length + 1 := by
          intro cs
          induction cs with
          | nil => intro a; rfl
          | cons c cs ih => intro a; simp [pieces, ih]
        exact this _ _
      have h3 := hlen (nums b) 0
      have h4 : (nums b).length = b.size := by simp
      have h5 : (1000 : Nat) ≤ sizeLine := by decide
      simp at h1 ⊢
      lia
end
end Mine
end
section
set_option maxRecDepth 100000
set_option autoImplicit false
namespace Mine
open PySem PySem.Calls PySem.Spec PyProof.Rows PySem.W
open PySem.Builtin

namespace BY
theorem noIndex : typeLookup (.type "bytes") "__index__" = pure none := by rw [typeLookup_type, builtinLookup_eq_fast]; kernel_rfl
theorem noInt : typeLookup (.type "bytes") "__int__" = pure none := by rw [typeLookup_type, builtinLookup_eq_fast]; kernel_rfl
theorem noTrunc : typeLookup (.type "bytes") "__trunc__" = pure none := by rw [typeLookup_type, builtinLookup_eq_fast]; kernel_rfl
end BY
section
variable {prog : Program} {w : World} {A : Around} {E : Value → Shared → Prop} {s : Shared}
theorem call_bytes_rpartition {b : Array UInt8} {i : Nat} {t u : Tok} {Q : Value → Shared → Prop} (hz : b.size ≤ 900) (hi : (cuts (nums b) 0).getLast? = some i)
    (h : ∀ t1 t2 tk, Q (.ref s.heap.objs.size) { s with heap := s.heap.push { cls := .type "tuple", data := .seq #[.bytes (b.extract 0 i) t1, .bytes #[47] u, .bytes (b.extract (i + 1) b.size) t2] }, toks := tk }) :
    wpAny (model prog w) A (call (.builtin "bytes.rpartition") [.bytes b t, .bytes #[47] u]) Q E s := by
  refine wpAny_call_entry BY.slot_rpartition (typeIs_bytes s b t) BY.entry_rpartition ?_ (BY.args_rpartition _ _)
  unfold Builtin.«bytes.rpartition» Bytes.partitionM
  dsimp only
  refine wpAny_bind (wpAny_pure ?_)
  dsimp only
  refine wpAny_bind (wpAny_of_eq KBy.buffer_eq ?_)
  dsimp only
  refine bm_if_false rfl ?_
  refine wpAny_bind (wpAny_of_eq (rfl : Bytes.payload (.bytes b t) = pure b) ?_)
  rw [if_pos rfl, rfind_bytes, hi]
  dsimp only
  rw [if_pos (by decide)]
  refine wpAny_bind (wpAny_pure ?_)
  refine wpAny_bind ?_
  show wpAny _ _ (mkBytes (b.extract 0 i)) _ _ _
  refine wpAny_mkBytes ?_ (Nat.le_trans (m := 1000) (by simp; lia) (by decide))
  refine wpAny_bind ?_
  show wpAny _ _ (mkBytes (b.extract (i + 1) b.size)) _ _ _
  refine wpAny_mkBytes ?_ (Nat.le_trans (m := 1000) (by simp; lia) (by decide))
  refine wpAny_bind (wpAny_newObj_type ?_ (by show 3 ≤ sizeLine; decide))
  exact wpAny_pure ⟨_, rfl, h _ _ _⟩

theorem in_bytes_sep {b : Array UInt8} {t u : Tok} {Q : Value → Shared → Prop} (hA : A.handled = none) (h : ∀ h' tk, (∀ x o, s.heap.get? x = some o → h'.get? x = some o) → Q (.bool (!(cuts (nums b) 0).isEmpty)) { s with heap := h', toks := tk }) :
    wpAny (model prog w) A (compareOp .In (.bytes #[47] u) (.bytes b t)) Q E s := by
  refine In_slot (typeIs_bytes s b t) FB.slot_bytes_contains (wpAny_call_entry FB.slot_bytes_contains (typeIs_bytes s b t) FB.entry_bytes_contains ?_ (FB.args_bytes_contains_2 _ _))
  unfold Builtin.«bytes.__contains__»
  refine wpAny_bind (wpAny_pure ?_)
  dsimp only
  unfold Bytes.containsIn
  refine wpAny_bind (wpAny_bind (wpAny_attempt ?_))
  unfold asIndex
  refine wpAny_bind (wpAny_of_eq (rfl : asInt? (.bytes #[47] u) = pure none) ?_)
  dsimp only
  refine wpAny_bind (wpAny_callSpecial?_none (typeIs_bytes s _ u) BY.noIndex ?_)
  dsimp only
  refine wpAny_bind ?_
  unfold typeNameOfCut
  refine wpAny_bind (m := shownTypeOf (.bytes #[47] u)) (wpAny_pure ?_)
  refine wpAny_of_eq (a := "bytes") (by kernel_rfl) ?_
  refine wpAny_raiseErrorMade plainExc_TypeError hA (fun h' tk e ne => ?_) (by decide)
  refine wpAny_bind (wpAny_of_eq KBy.buffer_eq ?_)
  dsimp only
  refine wpAny_bind (wpAny_of_eq KBy.buffer_eq ?_)
  dsimp only
  refine wpAny_bind (wpAny_rule ?_)
  refine wpAny_pure (wpAny_pure ⟨_, rfl, wpAny_truthy_bool ?_⟩)
  rw [find_bytes]
  have e : (cuts (nums b) 0).head?.isSome = !(cuts (nums b) 0).isEmpty := by cases cuts (nums b) 0 <;> rfl
  rw [e]
  exact h h' tk ne.keeps

end
end Mine
end
section
set_option maxRecDepth 100000
set_option autoImplicit false
namespace Mine
open PySem PySem.Calls PySem.Spec PyProof.Rows PySem.W
open PySem.Builtin

set_option maxHeartbeats 4000000 in
theorem gives_int_bytes {b : Array UInt8} {u : Tok} {n : Int} (hs : ((nums b).takeWhile (· != 0)).length ≤ 640) (hr : (int_private% "readNumeral") 0 10 ((nums b).takeWhile (· != 0)) = (int_private% "Numeral.value") n)
    (ha : (((nums b).takeWhile (· != 0)).length == (nums b).length) = true) : Gives (Builtin.«int.__new__» ⟨[.type "int", .bytes b u], []⟩) (.int n) :=
  .of_wp fun M A E s Q h => by
    obtain ⟨hp, g, d, tk, os⟩ := s
    have f1 := F.conv_sub_int
    have f2 := F.madeHere_int
    have f3 := BY.noInt
    have f4 := BY.noIndex
    have f5 := BY.noTrunc
    have f6 : typeOf (.bytes b u) = pure (.type "bytes") := rfl
    have hk := KIN.Hid.mk (And.intro hs (And.intro hr ha))
    clear hs hr ha
    repeat (any_goals (first
      | assumption
      | ((with_reducible show wpAny _ _ ((int_private% "intFromText") _ _ _) _ _ _); refine KIN.wp_text hk.out.1 hk.out.2.1 hk.out.2.2 ?_)
      | wp_step))
    all_goals first | exact ⟨_, rfl, h⟩ | skip
end Mine
end
section
set_option maxRecDepth 100000
set_option autoImplicit false
namespace Mine
open PySem PySem.Calls PySem.Spec PyProof.Rows PySem.W
open PySem.Builtin

section
variable {prog : Program} {w : World} {A : Around} {E : Value → Shared → Prop} {s : Shared}
theorem wpAny_forList {M : Model} {β : Type} {f : Nat → β → Sem (ForInStep β)} (I : Nat → β → Prop) {Q : β → Shared → Prop} {n : Nat}
    (step : ∀ i b (Q' : ForInStep β → Shared → Prop), i < n → I i b → (∀ b', I (i + 1) b' → Q' (.yield b') s) → wpAny M A (f i b) Q' E s) (hQ : ∀ b, I n b → Q b s) :
    ∀ (m k : Nat) (b : β), k + m = n → I k b → wpAny M A (forIn (List.range' k m) b f) Q E s
  | 0, k, b, hk, hI => by
    have : k = n := by lia
    subst this
    simp only [List.range'_zero, List.forIn_nil]
    exact wpAny_pure (hQ b hI)
  | m + 1, k, b, hk, hI => by
    rw [List.range'_succ, List.forIn_cons]
    refine wpAny_bind (step k b _ (by lia) hI fun b' hb' => ?_)
    exact wpAny_forList I step hQ m (k + 1) b' (by lia) hb'
theorem wpAny_forRange {M : Model} {β : Type} {f : Nat → β → Sem (ForInStep β)} (I : Nat → β → Prop) {Q : β → Shared → Prop} {n : Nat} {init : β} (h0 : I 0 init)
    (step : ∀ i b (Q' : ForInStep β → Shared → Prop), i < n → I i b → (∀ b', I (i + 1) b' → Q' (.yield b') s) → wpAny M A (f i b) Q' E s) (hQ : ∀ b, I n b → Q b s) : wpAny M A (forIn [0:n] init f) Q E s := by
  have e : (forIn [0:n] init f : Sem β) = forIn (List.range' 0 n) init f := by
    simp only [Std.Legacy.Range.forIn_eq_forIn_range', Std.Legacy.Range.size, Nat.sub_zero, Nat.add_one_sub_one, Nat.div_one]
  rw [e]
  exact wpAny_forList I step hQ n 0 init (by lia) h0

theorem takeQuiet_bytes {id : String} {b : Array UInt8} {t : Tok} {fl : Int} (hf : (fl == Bytes.fullReadOnly) = false) : Bytes.takeBufferQuiet? id (.bytes b t) fl = pure (some (b, none)) := by
  unfold Bytes.takeBufferQuiet? Bytes.takeBuffer?
  rw [KBy.special_eq KBy.look_buffer, KBy.own_buffer, hf, KBy.buffer_eq]
  rfl
theorem letGo_bytes {vs : List Value} {Q : Unit → Shared → Prop} (h : Q () s) : ∀ (taken : List (Value × Option Value)), (∀ p ∈ taken, p.2 = none) → wpAny (model prog w) A (Bytes.joinLetGo taken vs) Q E s
  | [], _ => wpAny_pure h
  | (x, w) :: rest, hw => by
    have e : w = none := hw (x, w) (.head _)
    subst e
    unfold Bytes.joinLetGo
    exact wpAny_bind (wpAny_letGo (letGo_bytes h rest fun p hp => hw p (.tail _ hp)))
noncomputable def bvals (ls : List (Array UInt8 × Tok)) : List Value := ls.map fun p => .bytes p.1 p.2
theorem take_snoc {α β : Type} (f : α → β) {l : List α} {i : Nat} (hi : i < l.length) : (l.take (i + 1)).map f = (l.take i).map f ++ [f l[i]] := by
  rw [List.take_add_one, List.getElem?_eq_getElem hi, List.map_append]; rfl
theorem noHeap (l : List (Array UInt8 × Tok)) : (l.map fun p => ((.bytes p.1 p.2 : Value), (none : Option Value))).any (fun x => x.1.onHeap) = false := by
  rw [List.any_eq_false]
  intro x hx
  obtain ⟨p, _, rfl⟩ := List.mem_map.mp hx
  exact Bool.false_ne_true
theorem call_bytes_join {a : Addr} {n : Nat} {ob : Obj} {u : Tok} {ls : List (Array UInt8 × Tok)} {Q : Value → Shared → Prop} (ho : s.heap.get? a = some ob) (hc : ob.cls = .type "list")
    (hd : ob.data = .seq (bvals ls).toArray n) (h2 : 2 ≤ ls.length) (hz : ((ls.map (·.1)).toArray.foldl (· + ·.size) ((#[47] : Array UInt8).size * (ls.length - 1))) ≤ 1000) (hj : (Bytes.joined #[47] (ls.map (·.1))).size ≤ 1000)
    (h : ∀ t k, Q (.bytes (Bytes.joined #[47] (ls.map (·.1))) t) { s with toks := k }) :
    wpAny (model prog w) A (call (.builtin "bytes.join") [.bytes #[47] u, .ref a]) Q E s := by
  have hT : s.TypeIs (.ref a) "list" := ⟨ob, ho, hc⟩
  refine wpAny_call_entry BY.slot_join (typeIs_bytes s _ u) BY.entry_join ?_ (BY.args_join _ _)
  unfold Builtin.«bytes.join» Bytes.joinM
  refine wpAny_bind (wpAny_pure ?_)
  refine wpAny_bind ?_
  unfold Bytes.joinItems
  refine wpAny_bind (wpAny_typeOf hT ?_)
  refine bm_if_true (by decide) ?_
  refine wpAny_pure ?_
  have hseq : ∀ {E : Value → Shared → Prop} {Q : Option (Array Value) → Shared → Prop}, Q (some (bvals ls).toArray) s → wpAny (model prog w) A.in1 (seqItems? (.ref a)) Q E s :=
    fun hq => wpAny_seqItems ho hd hq
  refine wpAny_bind (hseq ?_)
  have hsz : (bvals ls).toArray.size = ls.length := by simp [bvals]
  refine bm_if_true (by decide) ?_
  have key : ∀ {T : Sem PySem.Fin} {f : Value → Sem PySem.Fin} {P : PySem.Fin → Shared → Prop}, wpAny (model prog w) A.in1 T P E s → wpAny (model prog w) A.in1 (match (bvals ls).toArray with | #[x] => f x | _ => T) P E s := by
    intro T f P hT
    match ls, h2 with
    | p :: q :: r, _ => exact hT
  refine key ?_
  generalize hxs : (bvals ls).toArray = xs at hsz hseq ⊢
  · refine wpAny_bind (wpAny_forRange (fun i b => b.1 = ((ls.take i).map (·.1)).toArray ∧ b.2 = (ls.take i).map fun p => (.bytes p.1 p.2, none)) ⟨rfl, rfl⟩ ?_ ?_)
    · rintro i ⟨parts, taken⟩ Q' hi ⟨h1, h2⟩ hQ
      dsimp only at h1 h2
      subst h1 h2
      rw [hsz] at hi
      have hget : xs.getD i .none = .bytes ls[i].1 ls[i].2 := by rw [← hxs]; simp [bvals, hi]
      refine wpAny_bind (hseq ?_)
      refine bm_if_false ?_ ?_
      · exact (Bool.or_eq_false_iff.mpr ⟨by decide, noHeap _⟩)
      · refine wpAny_bind (wpAny_holding ?_)
        rw [hget]
        refine wpAny_of_eq (takeQuiet_bytes (by decide)) ?_
        refine wpAny_bind (hseq ?_)
        refine bm_if_false (bne_self_eq_false _) ?_
        refine wpAny_pure (hQ _ ⟨?_, ?_⟩)
        · show (_ : Array (Array UInt8)).push _ = _
          rw [take_snoc _ hi, List.push_toArray]
        · exact (take_snoc _ hi).symm
    · rintro ⟨parts, taken⟩ ⟨h1, h2⟩
      dsimp only at h1 h2
      rw [hsz, List.take_length] at h1 h2
      subst h1 h2
      refine wpAny_bind (wpAny_of_eq (rfl : Bytes.payload (.bytes #[47] u) = pure #[47]) ?_)
      refine bm_if_false ?_ ?_
      · have : (ls.map (·.1)).toArray.size = ls.length := by simp
        rw [← this] at hz
        exact decide_eq_false (Nat.not_lt.mpr (Nat.le_trans hz (by decide)))
      · refine wpAny_bind ?_
        show wpAny _ _ (mkBytes (Bytes.joined #[47] (ls.map (·.1)))) _ _ _
        refine wpAny_mkBytes ?_ (Nat.le_trans hj (by decide))
        refine wpAny_bind (wpAny_holding (wpAny_point ?_))
        refine wpAny_bind (letGo_bytes ?_ _ fun p hp => by obtain ⟨q, _, rfl⟩ := List.mem_map.mp hp; rfl)
        exact wpAny_pure ⟨_, rfl, h _ _⟩
end
end Mine
end
section
set_option maxRecDepth 100000
set_option autoImplicit false
namespace Mine
open PySem PySem.Calls PySem.Spec PyProof.Rows PySem.W
open PySem.Builtin

section
variable {prog : Program} {w : World} {A : Around} {E : Value → Shared → Prop} {s : Shared}
theorem wpAny_forTwo {M : Model} {β : Type} {f : Nat → β → Sem (ForInStep β)} {Q : β → Shared → Prop} {n : Nat} {init : β} (hn : 2 ≤ n)
    (h1 : wpAny M A (f 0 init) (fun r s' => ∃ b, r = .yield b ∧ wpAny M A (f 1 b) (fun r' s'' => ∃ b', r' = .done b' ∧ Q b' s'') E s') E s) : wpAny M A (forIn [0:n] init f) Q E s := by
  have e : (forIn [0:n] init f : Sem β) = forIn (List.range' 0 n) init f := by
    simp only [Std.Legacy.Range.forIn_eq_forIn_range', Std.Legacy.Range.size, Nat.sub_zero, Nat.add_one_sub_one, Nat.div_one]
  obtain ⟨m, rfl⟩ : ∃ m, n = m + 2 := ⟨n - 2, by lia⟩
  rw [e, List.range'_succ, List.range'_succ, List.forIn_cons]
  refine wpAny_bind (wpAny_mono h1 (fun r s' h' => ?_) fun _ _ x => x)
  obtain ⟨b, rfl, h2⟩ := h'
  dsimp only
  rw [List.forIn_cons]
  refine wpAny_bind (wpAny_mono h2 (fun r s' h' => ?_) fun _ _ x => x)
  obtain ⟨b', rfl, h3⟩ := h'
  exact wpAny_pure h3
theorem utf8_fold : ∀ (l : List Nat) (acc : Array UInt8), (∀ c ∈ l, c < 128) → l.foldl (fun acc y => acc ++ (Str.utf8Of y).toArray) acc = acc ++ (l.map Nat.toUInt8).toArray
  | [], acc, _ => by simp
  | c :: l, acc, h => by
    have e : Str.utf8Of c = [c.toUInt8] := by unfold Str.utf8Of; exact if_pos (h c (.head _))
    rw [List.foldl_cons, utf8_fold l _ fun d hd => h d (.tail _ hd), e]
    simp
open Builtin._codecs in
theorem call_encode {x : Str} {t : Tok} {Q : Value → Shared → Prop} (hx : ∀ c ∈ x.cps.toList, c < 128) (h2 : 2 ≤ x.length) (hz : x.length ≤ 900)
    (h : Q (.bytes (x.cps.map Nat.toUInt8) s.toks) { s with toks := s.toks + 1 }) : wpAny (model prog w) A (call (.builtin "str.encode") [.str x t]) Q E s := by
  refine wpAny_call_entry F.slot_str_encode (typeIs_str s x t) F.entry_str_encode ?_ (F.args_str_encode_1 _)
  rw [encode_tree, encodeRoad_utf8]
  refine wpAny_bind (wpAny_bind ?_)
  unfold encodeNarrow
  have hlen : x.cps.size = x.length := rfl
  have hbad : ∀ c ∈ x.cps.toList, utf8Codec.bad c = false := by
    intro c hc
    have := hx c hc
    show (decide (0xD800 ≤ c) && decide (c ≤ 0xDFFF)) = false
    rw [decide_eq_false (by lia)]; rfl
  have hex : x.cps.extract 0 x.cps.size = x.cps := by simp
  have hfind : (x.cps.findIdx? utf8Codec.bad) = none := by
    rw [Array.findIdx?_eq_none_iff]
    intro c hc
    exact hbad c (Array.mem_toList_iff.mpr hc)
  obtain ⟨c0, hc0⟩ : ∃ c, x.cps[0]? = some c := ⟨x.cps[0], Array.getElem?_eq_getElem (by lia)⟩
  have hm0 : c0 ∈ x.cps.toList := Array.mem_toList_iff.mpr (Array.mem_of_getElem? hc0)
  refine wpAny_bind (wpAny_forTwo h2 ?_)
  refine wpAny_ite ?_
  rw [if_neg (by simp)]
  rw [hc0]
  refine bm_if_true (by rw [hbad c0 hm0]; rfl) ?_
  refine wpAny_pure ⟨_, rfl, ?_⟩
  rw [hex, hfind]
  have hall : Array.foldl (fun acc y => acc ++ (utf8Codec.bytesOf y).toArray) #[] (x.cps.extract 0 (none.getD x.cps.size)) = x.cps.map Nat.toUInt8 := by
    rw [Option.getD_none, hex, ← Array.foldl_toList]
    have := utf8_fold x.cps.toList #[] hx
    refine this.trans ?_
    rw [← Array.toList_inj]; simp
  dsimp only
  rw [hall]
  refine wpAny_ite ?_
  rw [if_neg ?_]
  · have hn : x.cps[0 + none.getD x.cps.size]? = none := by simp
    rw [hn]
    refine wpAny_pure ⟨_, rfl, ?_⟩
    refine wpAny_pure (wpAny_mkBytes (wpAny_pure ⟨_, rfl, h⟩) ?_)
    exact Nat.le_trans (m := 900) (by simp [hlen]; lia) (by decide)
  · exact Nat.not_lt.mpr (Nat.le_trans (m := 900) (by simp [hlen]; lia) (by decide))
end
end Mine
end
section
set_option maxRecDepth 100000
set_option autoImplicit false
namespace Mine
open PySem PySem.Calls PySem.Spec PyProof.Rows PySem.W
open PySem.Builtin PySem.Builtin.Str

/- a text: octets (true) or signs -/
noncomputable def T : Bool → List Nat → V
  | true, l => .bytes (l.map Nat.toUInt8).toArray
  | false, l => .str ⟨l.toArray⟩
noncomputable def Asc (l : List Nat) : Prop := ∀ c ∈ l, c < 128
theorem toNat_toUInt8 {c : Nat} (h : c < 128) : c.toUInt8.toNat = c := by
  show c.toUInt8.toNat = c
  rw [Nat.toUInt8, UInt8.toNat_ofNat']
  exact Nat.mod_eq_of_lt (by lia)
theorem map_back : ∀ {l : List Nat}, Asc l → l.map (fun c => c.toUInt8.toNat) = l
  | [], _ => rfl
  | c :: l, h => by rw [List.map_cons, toNat_toUInt8 (h c (.head _)), map_back fun d hd => h d (.tail _ hd)]
theorem nums_T {l : List Nat} (h : Asc l) : nums (l.map Nat.toUInt8).toArray = l := by
  show ((l.map Nat.toUInt8).toArray.toList).map (·.toNat) = l
  rw [List.toList_toArray, List.map_map]
  exact map_back h
theorem asc_jn : ∀ {ns : List (List Nat)}, (∀ n ∈ ns, Asc n) → Asc (jn ns)
  | [], _ => fun c hc => by cases hc
  | [n], h => h n (.head _)
  | n :: m :: r, h => fun c hc => by
    rcases List.mem_append.mp hc with hc | hc
    · exact h n (.head _) c hc
    · rcases List.mem_cons.mp hc with rfl | hc
      · decide
      · exact asc_jn (fun x hx => h x (.tail _ hx)) c hc
theorem bytes_of_nums {b : Array UInt8} {l : List Nat} (h : nums b = l) : b = (l.map Nat.toUInt8).toArray := by
  subst h
  rw [← Array.toList_inj]
  simp [nums, Function.comp_def]
theorem joined_jn : ∀ (ns : List (List Nat)), (Bytes.joined #[47] (ns.map fun n => (n.map Nat.toUInt8).toArray)).toList = (jn ns).map Nat.toUInt8 := by
  have key : ∀ (ns : List (List Nat)) (k : Nat) (out : Array UInt8), 0 < k →
      (((ns.map fun n => (n.map Nat.toUInt8).toArray).zipIdx k).foldl (fun out (p : Array UInt8 × Nat) => (if p.2 > 0 then out ++ #[47] else out) ++ p.1) out).toList = out.toList ++ (ns.flatMap fun n => 47 :: n).map Nat.toUInt8 := by
    intro ns
    induction ns with
    | nil => intro k out _; simp
    | cons n ns ih =>
      intro k out hk
      rw [List.map_cons, List.zipIdx_cons, List.foldl_cons, ih (k + 1) _ (by lia)]
      simp [hk]
  have jf : ∀ (n : List Nat) (ns : List (List Nat)), jn (n :: ns) = n ++ ns.flatMap fun n => 47 :: n := by
    intro n ns
    induction ns generalizing n with
    | nil => simp [jn]
    | cons m ns ih => rw [show jn (n :: m :: ns) = n ++ 47 :: jn (m :: ns) from rfl, ih]; simp
  intro ns
  cases ns with
  | nil => rfl
  | cons n ns =>
    unfold Bytes.joined
    rw [List.map_cons, List.zipIdx_cons, List.foldl_cons]
    refine (key ns 1 _ (by decide)).trans ?_
    rw [jf]; simp
theorem glued_jn (ns : List (List Nat)) : (glued sepS (ns.map fun n => (⟨n.toArray⟩ : Str))).cps.toList = jn ns := by
  have key : ∀ (ns : List (List Nat)) (acc : Array Nat), ((ns.map fun n => (⟨n.toArray⟩ : Str)).foldl (fun acc p => acc ++ sepS.cps ++ p.cps) acc).toList = acc.toList ++ ns.flatMap fun n => 47 :: n := by
    intro ns
    induction ns with
    | nil => intro acc; simp
    | cons n ns ih => intro acc; rw [List.map_cons, List.foldl_cons, ih]; simp
  have jf : ∀ (n : List Nat) (ns : List (List Nat)), jn (n :: ns) = n ++ ns.flatMap fun n => 47 :: n := by
    intro n ns
    induction ns generalizing n with
    | nil => simp [jn]
    | cons m ns ih => rw [show jn (n :: m :: ns) = n ++ 47 :: jn (m :: ns) from rfl, ih]; simp
  cases ns with
  | nil => rfl
  | cons n ns =>
    unfold glued
    simp only [List.map_cons, List.drop_succ_cons, List.drop_zero, List.headD_cons]
    rw [key, jf]

section
variable {prog : Program} {w : World} {A : Around} {E : Value → Shared → Prop} {s : Shared}
theorem call_str_split {x : Str} {t u : Tok} {Q : Value → Shared → Prop} (hsz : x.length ≤ 900)
    (h : ∀ l k, l.map (·.1) = Txt.split x sepS → Q (.ref s.heap.objs.size) { s with heap := s.heap.push { cls := .type "list", data := .seq (strValues l).toArray }, toks := k }) :
    wpAny (model prog w) A (call (.builtin "str.split") [.str x t, .str sepS u]) Q E s := by
  have h9 : (1000 : Nat) ≤ sizeLine := by decide
  have hn : (partsBetween x (occurrences x sepS 0 x.length (x.length + 1)) sepS.length).length ≤ sizeLine := by
    have e1 := StrLaws.occ_length_le x sepS 0 x.length (x.length + 1)
    rw [length_partsBetween]; lia
  have hy : (sepS.length == 0) = false := by decide
  cases h1 : (decide (x.length < sepS.length) || decide (Builtin.Str.strKind x < Builtin.Str.strKind sepS))
  · cases hf : (occurrences x sepS 0 x.length (x.length + 1)).isEmpty
    · refine call_meets F.slot_str_split (typeIs_str _ _ _) F.entry_str_split (F.args_str_split_2 _ _) (meets_str_split_sep x sepS t u h1 hy hf (by lia) hn) ?_
      show wants Q E _ { s with toks := _, heap := s.heap.push { cls := .type "list", data := .seq (strsFrom s.toks (partsBetween x (occurrences x sepS 0 x.length (x.length + 1)) sepS.length)).toArray } }
      rw [strsFrom_eq]
      exact h (numbered s.toks _) _ ((numbered_texts _ _).trans ((if_neg (ne_true_of_eq_false h1)).trans (if_neg (ne_true_of_eq_false hf))).symm)
    · exact call_meets F.slot_str_split (typeIs_str _ _ _) F.entry_str_split (F.args_str_split_2 _ _) (meets_str_split_not_found x sepS t u h1 hy hf)
        (h [(x, t)] s.toks ((if_neg (ne_true_of_eq_false h1)).trans (if_pos hf)).symm)
  · exact call_meets F.slot_str_split (typeIs_str _ _ _) F.entry_str_split (F.args_str_split_2 _ _) (meets_str_split_cannot_occur x sepS t u h1)
      (h [(x, t)] s.toks (if_pos h1).symm)
end
noncomputable def tn : Bool → String
  | true => "bytes"
  | false => "str"
end Mine
end
section
set_option maxRecDepth 100000
set_option autoImplicit false
namespace Mine
open PySem PySem.Calls PySem.Spec PyProof.Rows PySem.W
open PySem.Builtin PySem.Builtin.Str

section
variable {g : Bool} {w : World} {B : Heap} {env : Env} {A : Around} {σ : St} {K : V → St → Prop} {pos px apos : Pos}
noncomputable def idSplit : Bool → String
  | true => "bytes.split"
  | false => "str.split"
noncomputable def idJoin : Bool → String
  | true => "bytes.join"
  | false => "str.join"
noncomputable def idRpart : Bool → String
  | true => "bytes.rpartition"
  | false => "str.rpartition"

theorem lr_strs {ρ : Rho} : ∀ {l : List (Str × Tok)} {ns : List (List Nat)}, l.map (·.1.cps.toList) = ns → LR ρ (ns.map (T false)) (strValues l)
  | [], _, rfl => trivial
  | p :: l, _, rfl => ⟨⟨p.2, by show Value.str p.1 p.2 = Value.str ⟨p.1.cps.toList.toArray⟩ p.2; rw [Array.toArray_toList]⟩, lr_strs rfl⟩
theorem LR.noref {ρ ρ' : Rho} : ∀ {vs : List V} {xs : List Value}, (∀ v ∈ vs, VOut (fun _ => True) v) → LR ρ vs xs → LR ρ' vs xs
  | [], [], _, _ => trivial
  | v :: vs, x :: xs, h, ⟨a, b⟩ => ⟨by
    have := h v (.head _)
    cases v with
    | ref i => exact absurd trivial this
    | _ => exact a, LR.noref (fun u hu => h u (.tail _ hu)) b⟩
theorem T_out (F : Nat → Prop) (f : Bool) (l : List Nat) : VOut F (T f l) := by cases f <;> trivial

theorem wc_split {f : Bool} {i : Nat} {ns : List (List Nat)} (hi : σ.free i) (h0 : ns ≠ []) (hn : ∀ n ∈ ns, NoSep n ∧ Asc n) (hz : (jn ns).length ≤ 900) (h : K (.ref i) (σ.new i (.list (ns.map (T f))))) :
    WC g w B env A (.builtin (idSplit f)) [T f (jn ns), T f [47]] σ K := by
  rintro fm ρ s ys Q E O r hv q
  have hns : ∀ n ∈ ns, NoSep n := fun n hx => (hn n hx).1
  have hasc : Asc (jn ns) := asc_jn fun n hx => (hn n hx).2
  cases f with
  | false =>
    obtain ⟨y0, y1, rfl, ⟨t, rfl⟩, ⟨u, rfl⟩⟩ := LR.two hv
    refine wpG_of (call_str_split (by simpa [Str.length] using hz) fun l k hl => ?_)
    have hsp := split_str (x := ⟨(jn ns).toArray⟩) (ns := ns) (by simp) h0 hns
    rw [← hl, List.map_map] at hsp
    obtain ⟨h1, h2, h3⟩ := r.push (i := i) (o := .list (ns.map (T false))) k hi (ob := { cls := .type "list", data := .seq (strValues l).toArray }) rfl ⟨_, _, rfl, by rw [List.toList_toArray]; exact lr_strs hsp⟩
    exact q _ _ _ _ _ h1 h2 h3 h
  | true =>
    obtain ⟨y0, y1, rfl, ⟨t, rfl⟩, ⟨u, rfl⟩⟩ := LR.two hv
    have hp := pieces_jn ns h0 hns []
    rw [List.nil_append, List.length_nil] at hp
    have hb : (Bytes.between ((jn ns).map Nat.toUInt8).toArray 1 (cuts (jn ns) 0)).map nums = ns := by
      have := between_eq ((jn ns).map Nat.toUInt8).toArray (cuts (jn ns) 0)
      rw [List.toList_toArray] at this
      have h2 := pieces_map UInt8.toNat ((jn ns).map Nat.toUInt8) (cuts (jn ns) 0) 0
      rw [List.map_map, show (UInt8.toNat ∘ Nat.toUInt8) = (fun c => c.toUInt8.toNat) from rfl, map_back hasc, hp] at h2
      refine Eq.trans ?_ h2.symm
      rw [← this, List.map_map]; rfl
    have hnum : nums ((jn ns).map Nat.toUInt8).toArray = jn ns := nums_T hasc
    refine wpG_of (call_bytes_split (by simpa using hz) ?_ ?_ fun vs tk hvs => ?_)
    · rw [hnum]
      intro p hp'
      have hm : nums p ∈ ns := by rw [← hb]; exact List.mem_map.mpr ⟨p, hp', rfl⟩
      have hlen : ∀ (ns : List (List Nat)) (n : List Nat), n ∈ ns → n.length ≤ (jn ns).length := by
        intro ns
        induction ns with
        | nil => intro n h; cases h
        | cons a r ih =>
          intro n h
          cases r with
          | nil => rcases List.mem_cons.mp h with rfl | h
                   · exact Nat.le_refl _
                   · cases h
          | cons b r =>
            show n.length ≤ (a ++ 47 :: jn (b :: r)).length
            simp only [List.length_append, List.length_cons]
            rcases List.mem_cons.mp h with rfl | h
            · lia
            · have := ih n h; lia
      have h3 := hlen ns _ hm
      have h4 : (nums p).length = p.size := by simp
      lia
    · rw [hnum]
      intro hc
      show [((jn ns).map Nat.toUInt8).toArray.extract 0 ((jn ns).map Nat.toUInt8).toArray.size] = _
      rw [Array.extract_size]
    · rw [hnum] at hvs
      have hlist : (Bytes.between ((jn ns).map Nat.toUInt8).toArray 1 (cuts (jn ns) 0)).map V.bytes = ns.map (T true) := by
        refine Eq.trans ?_ (congrArg (List.map (T true)) hb)
        rw [List.map_map]
        refine List.map_congr_left fun p _ => ?_
        show V.bytes p = V.bytes _
        rw [← bytes_of_nums rfl]
      rw [hlist] at hvs
      obtain ⟨h1, h2, h3⟩ := r.push (i := i) (o := .list (ns.map (T true))) tk hi (ob := { cls := .type "list", data := .seq vs.toArray }) rfl
        ⟨_, _, rfl, by rw [List.toList_toArray]; exact hvs.noref fun v hv => by obtain ⟨n, _, rfl⟩ := List.mem_map.mp hv; exact T_out _ _ _⟩
      exact q _ _ _ _ _ h1 h2 h3 h

theorem T_len {ρ : Rho} {f : Bool} : ∀ {ns : List (List Nat)} {vs : List Value}, LR ρ (ns.map (T f)) vs → vs.length = ns.length := fun h => by rw [← h.length, List.length_map]
theorem strs_lr {ρ : Rho} : ∀ {ns : List (List Nat)} {vs : List Value}, LR ρ (ns.map (T false)) vs → ∃ l, vs = strValues l ∧ l.map (·.1) = ns.map fun n => (⟨n.toArray⟩ : Str)
  | [], [], _ => ⟨[], rfl, rfl⟩
  | n :: ns, v :: vs, ⟨⟨t, ev⟩, b⟩ => by
    subst ev
    obtain ⟨l, rfl, e⟩ := strs_lr b
    exact ⟨(⟨n.toArray⟩, t) :: l, rfl, by rw [List.map_cons, List.map_cons, e]⟩
theorem bys_lr {ρ : Rho} : ∀ {ns : List (List Nat)} {vs : List Value}, LR ρ (ns.map (T true)) vs → ∃ l, vs = bvals l ∧ l.map (·.1) = ns.map fun n => (n.map Nat.toUInt8).toArray
  | [], [], _ => ⟨[], rfl, rfl⟩
  | n :: ns, v :: vs, ⟨⟨t, ev⟩, b⟩ => by
    subst ev
    obtain ⟨l, rfl, e⟩ := bys_lr b
    exact ⟨((n.map Nat.toUInt8).toArray, t) :: l, rfl, by rw [List.map_cons, List.map_cons, e]⟩
theorem foldS (c : Nat) : ∀ (l : List Str) (a : Nat), (∀ x ∈ l, x.length ≤ 10) → l.foldl (fun a x => a + x.length + c) a ≤ a + l.length * (10 + c)
  | [], a, _ => by simp
  | x :: l, a, h => by
    have := foldS c l (a + x.length + c) fun y hy => h y (.tail _ hy)
    have h1 := h x (.head _)
    rw [List.foldl_cons, List.length_cons, Nat.succ_mul]
    lia
theorem foldB : ∀ (l : List (Array UInt8)) (a : Nat), (∀ x ∈ l, x.size ≤ 10) → l.foldl (fun a x => a + x.size) a ≤ a + l.length * 10
  | [], a, _ => by simp
  | x :: l, a, h => by
    have := foldB l (a + x.size) fun y hy => h y (.tail _ hy)
    have h1 := h x (.head _)
    rw [List.foldl_cons, List.length_cons, Nat.succ_mul]
    lia
theorem wc_join {f : Bool} {j : Nat} {ns : List (List Nat)} (hj : σ.obj j = some (.list (ns.map (T f)))) (h2 : 2 ≤ ns.length) (h6 : ns.length ≤ 10) (hn : ∀ n ∈ ns, n.length ≤ 10) (hz : (jn ns).length ≤ 900) (h : K (T f (jn ns)) σ) :
    WC g w B env A (.builtin (idJoin f)) [T f [47], .ref j] σ K := by
  rintro fm ρ s ys Q E O r hv q
  cases f with
  | false =>
    obtain ⟨y0, y, rfl, ⟨t, rfl⟩, hy⟩ := LR.two hv
    obtain ⟨a, vs, rfl, e, hl, lr⟩ := r.list hj hy
    obtain ⟨l, hvs, hl'⟩ := strs_lr lr
    have hvs' : vs = (strValues l).toArray := by rw [← hvs, Array.toArray_toList]
    subst hvs'
    have hlen : l.length = ns.length := by have := congrArg List.length hl'; simpa using this
    have hS : ∀ x ∈ l.map (·.1), x.length ≤ 10 := by
      rw [hl']
      intro x hx
      obtain ⟨n, hm, rfl⟩ := List.mem_map.mp hx
      simpa [Str.length] using hn n hm
    refine wpG_of (call_meets F.slot_str_join (typeIs_str _ _ _) F.entry_str_join (F.args_str_join_2 _ _) (meets_str_join_list sepS t a l ?_) ⟨hl, ?_⟩)
    · have := foldS sepS.length (l.map (·.1)) 0 hS
      refine decide_eq_false (Nat.not_lt.mpr (Nat.le_trans (m := 1000) ?_ (by decide)))
      rw [List.foldl_toArray' ]
      · refine Nat.le_trans this ?_
        rw [List.length_map, hlen]
        have h1 : sepS.length = 1 := rfl
        rw [h1]; lia
      · simp
    · have hm : joinMade sepS l = .str (glued sepS (l.map (·.1))) := by
        match l, hlen with
        | [], hh => simp at hh; lia
        | [_], hh => simp at hh; lia
        | _ :: _ :: _, _ => rfl
      rw [hm, hl']
      have hg : glued sepS (ns.map fun n => (⟨n.toArray⟩ : Str)) = ⟨(jn ns).toArray⟩ := by
        have := glued_jn ns
        generalize glued sepS (ns.map fun n => (⟨n.toArray⟩ : Str)) = x at this ⊢
        obtain ⟨c⟩ := x
        rw [← this, Array.toArray_toList]
      rw [hg]
      refine ⟨?_, q _ _ ρ _ _ ρ.le_refl (r.tok _) vstr h⟩
      exact Nat.le_trans (m := 900) (by simpa [Str.length] using hz) (by decide)
  | true =>
    obtain ⟨y0, y, rfl, ⟨t, rfl⟩, hy⟩ := LR.two hv
    obtain ⟨a, vs, n, rfl, e, ho, lr⟩ := r.plist hj hy
    obtain ⟨l, hvs, hl'⟩ := bys_lr lr
    have hvs' : vs = (bvals l).toArray := by rw [← hvs, Array.toArray_toList]
    subst hvs'
    have hlen : l.length = ns.length := by have := congrArg List.length hl'; simpa using this
    have hS : ∀ x ∈ l.map (·.1), x.size ≤ 10 := by
      rw [hl']
      intro x hx
      obtain ⟨n, hm, rfl⟩ := List.mem_map.mp hx
      simpa using hn n hm
    have hjo : Bytes.joined #[47] (l.map (·.1)) = ((jn ns).map Nat.toUInt8).toArray := by
      rw [hl', ← joined_jn ns, Array.toArray_toList]
    refine wpG_of (call_bytes_join ho rfl rfl (by lia) ?_ ?_ fun t k => ?_)
    · have := foldB (l.map (·.1)) ((#[47] : Array UInt8).size * (l.length - 1)) hS
      rw [List.foldl_toArray']
      · refine Nat.le_trans this ?_
        rw [List.length_map, hlen]
        have h1 : (#[47] : Array UInt8).size = 1 := rfl
        rw [h1]; lia
      · simp
    · rw [hjo]; simp; lia
    · rw [hjo]
      exact q _ _ ρ _ _ ρ.le_refl (r.tok _) vbytes h
end
end Mine
end
section
set_option maxRecDepth 100000
set_option autoImplicit false
namespace Mine
open PySem PySem.Calls PySem.Spec PyProof.Rows PySem.W
open PySem.Builtin PySem.Builtin.Str

section
variable {g : Bool} {w : World} {B : Heap} {env : Env} {A : Around} {σ : St} {K : V → St → Prop} {pos px apos : Pos}
theorem ty_T {f : Bool} {l : List Nat} : TyV w env (T f l) (tn f) σ := by
  cases f
  · exact ty_str
  · exact ty_bytes
theorem strSub_eq (x : Str) (i j : Nat) : strSub x i j = ⟨((x.cps.toList.drop i).take (j - i)).toArray⟩ := by
  have := StrLaws.strSub_toList x i j
  generalize strSub x i j = y at this ⊢
  obtain ⟨c⟩ := y
  rw [← this, Array.toArray_toList]
theorem extract_T (l : List Nat) (i j : Nat) : ((l.map Nat.toUInt8).toArray.extract i j) = (((l.drop i).take (j - i)).map Nat.toUInt8).toArray := by
  rw [← Array.toList_inj]
  simp [List.extract_eq_take_drop, List.map_take, List.map_drop]
/- the text is cut at its last sign -/
theorem wc_rpart {f : Bool} {i : Nat} {a m : List Nat} (hi : σ.free i) (hm : NoSep m) (ha : Asc (a ++ 47 :: m)) (hz : (a ++ 47 :: m).length ≤ 900) (h : K (.ref i) (σ.new i (.tuple [T f a, T f [47], T f m]))) :
    WC g w B env A (.builtin (idRpart f)) [T f (a ++ 47 :: m), T f [47]] σ K := by
  rintro fm ρ s ys Q E O r hv q
  have hlast := cuts_last (a := a) hm
  have e1 : ((a ++ 47 :: m).drop 0).take (a.length - 0) = a := by simp
  have e2 : ((a ++ 47 :: m).drop (a.length + 1)).take ((a ++ 47 :: m).length - (a.length + 1)) = m := by
    have : (a ++ 47 :: m).drop (a.length + 1) = m := by
      have e : a ++ 47 :: m = (a ++ [47]) ++ m := by simp
      have e' : a.length + 1 = (a ++ [47]).length := by simp
      rw [e, e', List.drop_left]
    rw [this, List.take_of_length_le]; simp; lia
  cases f with
  | false =>
    obtain ⟨y0, y1, rfl, ⟨t, rfl⟩, ⟨u, rfl⟩⟩ := LR.two hv
    refine wpG_of (call_meets F.slot_str_rpartition (typeIs_str _ _ _) F.entry_str_rpartition (F.args_str_rpartition_2 _ _) (meets_str_rpartition _ sepS t u (by decide) (Nat.le_trans (m := 900) (by simpa [Str.length] using hz) (by decide))) ?_)
    have hl : lastOccurrence (⟨(a ++ 47 :: m).toArray⟩ : Str) sepS 0 (⟨(a ++ 47 :: m).toArray⟩ : Str).length = some a.length := by
      rw [last_str]; simpa using hlast
    rw [hl]
    dsimp only
    rw [strSub_eq, strSub_eq]
    have e3 : (⟨(a ++ 47 :: m).toArray⟩ : Str).length = (a ++ 47 :: m).length := by simp [Str.length]
    have e4 : sepS.length = 1 := rfl
    rw [e3, e4, List.toList_toArray, e1, e2]
    obtain ⟨h1, h2, h3⟩ := r.push (i := i) (o := .tuple [T false a, T false [47], T false m]) (s.toks + 1 + 1) hi
      (ob := { cls := .type "tuple", data := .seq [.str ⟨a.toArray⟩ s.toks, .str sepS u, .str ⟨m.toArray⟩ (s.toks + 1)].toArray }) rfl ⟨_, _, rfl, ⟨_, rfl⟩, ⟨_, rfl⟩, ⟨_, rfl⟩, trivial⟩
    exact q _ _ _ _ _ h1 h2 h3 h
  | true =>
    obtain ⟨y0, y1, rfl, ⟨t, rfl⟩, ⟨u, rfl⟩⟩ := LR.two hv
    have hnum := nums_T ha
    refine wpG_of (call_bytes_rpartition (i := a.length) (by simpa using hz) (by rw [hnum]; exact hlast) fun t1 t2 tk => ?_)
    have e3 : ((a ++ 47 :: m).map Nat.toUInt8).toArray.size = (a ++ 47 :: m).length := by simp
    rw [extract_T, extract_T, e3, e1, e2]
    obtain ⟨h1, h2, h3⟩ := r.push (i := i) (o := .tuple [T true a, T true [47], T true m]) tk hi
      (ob := { cls := .type "tuple", data := .seq #[.bytes (a.map Nat.toUInt8).toArray t1, .bytes #[47] u, .bytes (m.map Nat.toUInt8).toArray t2] }) rfl ⟨_, _, rfl, ⟨_, rfl⟩, ⟨_, rfl⟩, ⟨_, rfl⟩, trivial⟩
    exact q _ _ _ _ _ h1 h2 h3 h
theorem cuts_jn {ns : List (List Nat)} (hn : ∀ n ∈ ns, NoSep n) : (!(cuts (jn ns) 0).isEmpty) = decide (2 ≤ ns.length) := by
  match ns, hn with
  | [], _ => rfl
  | [n], hn => rw [show jn [n] = n from rfl, cuts_free (hn n (.head _))]; rfl
  | n :: m :: r, hn =>
    rw [show jn (n :: m :: r) = n ++ 47 :: jn (m :: r) from rfl, cuts_sep (hn n (.head _))]
    simp
theorem op_in_T {f : Bool} {k : Nat} {ns : List (List Nat)} (hA : AOk k A) (hn : ∀ n ∈ ns, NoSep n ∧ Asc n) (h : K (.bool (decide (2 ≤ ns.length))) σ) : W2 g w B env A (compareOp .In) VR (T f [47]) (T f (jn ns)) σ K := by
  have hc := cuts_jn fun n hx => (hn n hx).1
  cases f with
  | false =>
    rintro fm ρ s _ _ Q E O r ⟨t, rfl⟩ ⟨u, rfl⟩ q
    refine wpG_of (PyProof.Rows.in_str ?_)
    have e : (!(occurrences (⟨(jn ns).toArray⟩ : Str) ⟨#[47]⟩ 0 (⟨(jn ns).toArray⟩ : Str).length 1).isEmpty) = decide (2 ≤ ns.length) := by
      rw [StrLaws.found_one, ← hc]
      have key : ∀ (l : List Nat) (k : Nat), decide (47 ∈ l) = !(cuts l k).isEmpty := by
        intro l
        induction l with
        | nil => intro k; rfl
        | cons c l ih =>
          intro k
          rw [cuts]
          by_cases h : c = 47
          · subst h; simp
          · rw [if_neg h, ← ih (k + 1)]
            simp [Ne.symm h]
      simpa using key (jn ns) 0
    rw [e]
    exact q _ _ ρ _ _ ρ.le_refl r vbool h
  | true =>
    rintro fm ρ s _ _ Q E O r ⟨t, rfl⟩ ⟨u, rfl⟩ q
    refine wpG_of (in_bytes_sep hA.handled fun h' tk hk => ?_)
    rw [nums_T (asc_jn fun n hx => (hn n hx).2), hc]
    exact q _ _ ρ _ _ ρ.le_refl (r.kept tk hk) vbool h
theorem op_add_T {f : Bool} {a b : List Nat} (hz : a.length + b.length ≤ 900) (h : K (T f (a ++ b)) σ) : W2 g w B env A (binaryOp .Add) VR (T f a) (T f b) σ K := by
  cases f with
  | false =>
    rintro fm ρ s _ _ Q E O r ⟨t, rfl⟩ ⟨u, rfl⟩ q
    refine wpG_of (PyProof.Rows.add_str (fun t' tk => ?_) (Nat.le_trans (m := 900) (by simpa [Str.length] using hz) (by decide)))
    have e : (⟨a.toArray⟩ ++ ⟨b.toArray⟩ : Str) = ⟨(a ++ b).toArray⟩ := by
      show (⟨a.toArray ++ b.toArray⟩ : Str) = _
      simp
    rw [e]
    exact q _ _ ρ _ _ ρ.le_refl (r.tok _) vstr h
  | true =>
    rintro fm ρ s _ _ Q E O r ⟨t, rfl⟩ ⟨u, rfl⟩ q
    refine wpG_of (KBy.add_bytes (by simp; lia) fun t' k => ?_)
    have e : (a.map Nat.toUInt8).toArray ++ (b.map Nat.toUInt8).toArray = ((a ++ b).map Nat.toUInt8).toArray := by simp
    rw [e]
    exact q _ _ ρ _ _ ρ.le_refl (r.tok _) vbytes h
/- the sign between -/
theorem wc_sep {f : Bool} {n : Nat} {l : List Nat} (HB : BaseOk w B) (hA : AOk (n + 1) A) (hf : env.frame = some env.locals) (hkind : env.scope.kind = .function) (h : K (T f [47]) σ) : WC g w B env A (.ref 155) [T f l] σ K := by
  cases f with
  | true => exact sep_bytes HB hA hf hkind h
  | false =>
    refine sep_spec HB hA hf hkind fun L A' hA' => ?_
    refine ws_if (wb_value (we_call HB (we_blt (v := .builtin "isinstance") HB ⟨_, rfl, kp_builtin _, ?_⟩)))
    refine wa_cons (we_local rfl (wa_cons (we_blt (v := .type "bytes") HB (wa_nil ?_))))
    refine wc_isi_str ?_
    refine truthy_b ?_
    refine ws_return (we_str ?_)
    exact h
end
end Mine
end
section
set_option maxRecDepth 100000
set_option autoImplicit false
namespace Mine
open PySem PySem.Calls PySem.Spec PyProof.Rows PySem.W
open PySem.Builtin PySem.Builtin.Str

noncomputable def nm : Nat → List Nat
  | 1 => [49] | 2 => [50] | 3 => [51] | 4 => [52] | 6 => [54] | 12 => [49, 50] | _ => []
theorem Width.nm {w : Nat} (h : Width w) : NoSep (nm w) ∧ Asc (nm w) ∧ 1 ≤ (nm w).length ∧ (nm w).length ≤ 2 := by
  rcases h with rfl | rfl | rfl | rfl | rfl | rfl <;> (refine ⟨?_, ?_, ?_, ?_⟩ <;> first | decide | (intro c hc; simp only [Mine.nm, List.mem_cons, List.not_mem_nil, or_false] at hc; lia))
theorem jn_len : ∀ (ns : List (List Nat)), (∀ n ∈ ns, n.length ≤ 2) → (jn ns).length ≤ 3 * ns.length
  | [], _ => Nat.le_refl _
  | [n], h => by have := h n (.head _); show n.length ≤ 3; lia
  | n :: m :: r, h => by
    have h1 := h n (.head _)
    have h2 := jn_len (m :: r) fun x hx => h x (.tail _ hx)
    show (n ++ 47 :: jn (m :: r)).length ≤ 3 * (r.length + 1 + 1)
    simp only [List.length_append, List.length_cons] at h2 ⊢
    lia
noncomputable def Widths (ws : List Nat) : Prop := ∀ w ∈ ws, Width w
theorem Widths.names {ws : List Nat} (h : Widths ws) : ∀ n ∈ ws.map nm, NoSep n ∧ Asc n := fun n hn => by
  obtain ⟨w, hw, rfl⟩ := List.mem_map.mp hn
  exact ⟨(h w hw).nm.1, (h w hw).nm.2.1⟩
theorem Widths.len {ws : List Nat} (h : Widths ws) : ∀ n ∈ ws.map nm, n.length ≤ 2 := fun n hn => by
  obtain ⟨w, hw, rfl⟩ := List.mem_map.mp hn
  exact (h w hw).nm.2.2.2
noncomputable def pth (ws : List Nat) : List Nat := jn (ws.map nm)
theorem Widths.path {ws : List Nat} (h : Widths ws) (hl : ws.length ≤ 6) : (pth ws).length ≤ 18 := by
  have := jn_len (ws.map nm) h.len
  rw [List.length_map] at this
  unfold pth; lia
noncomputable def turn (ws : List Nat) (d : List UInt8) : List UInt8 := ws.foldl (fun d w => bs w d) d
theorem bs_length (w : Nat) (d : List UInt8) : (bs w d).length = 12 := by simp [bs]
theorem turn_length : ∀ (ws : List Nat) (d : List UInt8), d.length = 12 → (turn ws d).length = 12
  | [], d, h => h
  | w :: ws, d, _ => turn_length ws (bs w d) (bs_length w d)

section
variable {g : Bool} {w : World} {B : Heap} {env : Env} {A : Around} {σ : St} {K : V → St → Prop} {pos px apos : Pos}
theorem wc_int_T {f : Bool} {wd : Nat} (hw : Width wd) (h : K (.int wd) σ) : WC g w B env A (.type "int") [T f (nm wd)] σ K := by
  rintro fm ρ s ys Q E O r hv q
  cases f with
  | false =>
    obtain ⟨y0, rfl, ⟨t, rfl⟩⟩ := LR.one hv
    refine wpG_of (KIN.call_text (n := wd) ?_ ?_ (q _ _ ρ _ _ ρ.le_refl (r.tok _) vint h))
    · rcases hw with rfl | rfl | rfl | rfl | rfl | rfl <;> decide +kernel
    · have := hw.nm.2.2.2
      show (nm wd).toArray.size ≤ 640
      simp; lia
  | true =>
    obtain ⟨y0, rfl, ⟨t, rfl⟩⟩ := LR.one hv
    refine wpG_of (call_int_1 (gives_int_bytes (n := wd) ?_ ?_ ?_).meets (show (Made.int (wd : Int)).post _ s from ⟨rfl, q _ _ ρ _ _ ρ.le_refl (r.tok _) vint h⟩))
    · rcases hw with rfl | rfl | rfl | rfl | rfl | rfl <;> decide
    · rcases hw with rfl | rfl | rfl | rfl | rfl | rfl <;> kernel_rfl
    · rcases hw with rfl | rfl | rfl | rfl | rfl | rfl <;> decide
theorem defTurned : DefOk w 162 fdTurned (dBody (stN 12)) ["octets", "path"] where
  obj := ⟨{ cls := .type "function", data := .func _ }, by kernel_rfl, rfl⟩
  body := rfl
  code := by kernel_rfl
  clo := rfl
  nodup := by decide
  kinds := fun n x hx => by simp only [List.mem_cons, List.not_mem_nil, or_false] at hx; rcases hx with rfl | rfl <;> exact .inl (by kernel_rfl)
  cellsNodup := fun n => by rw [show (cellsFrom n fdTurned.scope.names []).map (·.1) = [] by kernel_rfl]; exact List.nodup_nil
  co := by kernel_rfl
  gen := by kernel_rfl
  fn := by kernel_rfl
/- a method of a text -/
theorem we_txt {o : Expr} {name : Str} {es : List Expr} {f : Bool} {id : Bool → String} (HB : BaseOk w B) (sl : ∀ f, Slot (tn f) name (id f)) (hty : ∀ f, typeOf (.builtin (id f)) = pure (.type "method_descriptor"))
    (h : WE false w B env A o σ fun ov σ₁ => ∃ l, ov = T f l ∧ WA false w B env A pos es σ₁ fun vs σ₂ => WC false w B env A (.builtin (id f)) (T f l :: vs) σ₂ K)
    (hbase : attributeBase o name env (eval o env) = eval o env := by rfl) (hline : (apos.endLine == pos.line) = true := by rfl)
    (hfew : ((backTo pos (starEach es env)).all (fun x => !x.1) && (backToKw pos (keywordEach [] env)).all (fun x => x.1.isSome)
      && decide (es.length + ([] : List Keyword).length + (if ([] : List Keyword).isEmpty then 0 else 1) < 30)) = true := by rfl)
    (hp : (backTo pos (starEach es env)).any (·.1) = false := by rfl) : WE g w B env A (.Call (.Attribute o name apos) es [] pos) σ K := by
  have pa : PlainAttrs (tn f) := by cases f; exact F.plainAttrs_str; exact FB.plainAttrs_bytes
  refine we_meth HB pa (sl f) (hty f) (h.mono fun ov σ₁ ⟨l, e, h'⟩ => ?_) hbase hline hfew hp
  subst e
  exact ⟨ty_T, h'⟩
theorem sl_split (f : Bool) : Slot (tn f) "split" (idSplit f) := by cases f; exact F.slot_str_split; exact BY.slot_split
theorem sl_join (f : Bool) : Slot (tn f) "join" (idJoin f) := by cases f; exact F.slot_str_join; exact BY.slot_join
theorem sl_rpart (f : Bool) : Slot (tn f) "rpartition" (idRpart f) := by cases f; exact F.slot_str_rpartition; exact BY.slot_rpartition
theorem tt_split (f : Bool) : typeOf (.builtin (idSplit f)) = pure (.type "method_descriptor") := by cases f; exact F.type_str_split; exact BY.type_split
theorem tt_join (f : Bool) : typeOf (.builtin (idJoin f)) = pure (.type "method_descriptor") := by cases f; exact F.type_str_join; exact BY.type_join
theorem tt_rpart (f : Bool) : typeOf (.builtin (idRpart f)) = pure (.type "method_descriptor") := by cases f; exact F.type_str_rpartition; exact BY.type_rpartition
theorem kp_fn {a : Addr} (h : keepIn (KK w.params) (.ref a) = true := by kernel_rfl) : Kp w (.ref a) := kp_ref h
theorem take_fold (ws : List Nat) (d : List UInt8) {k wd : Nat} (h : ws[k]? = some wd) : turn (ws.take (k + 1)) d = bs wd (turn (ws.take k) d) := by
  unfold turn
  rw [List.take_add_one, h, List.foldl_append]; rfl

theorem wc_turned {n : Nat} {f : Bool} {d : List UInt8} {ws : List Nat} (HB : BaseOk w B) (hA : AOk (n + 2) A) (hf : env.frame = some env.locals) (hkind : env.scope.kind = .function) (hd : d.length = 12) (hw : Widths ws)
    (h0 : ws ≠ []) (h6 : ws.length ≤ 6) (hfr : Fresh σ 1000 1004) (h : K (.bytes (turn ws d).toArray) σ) : WC true w B env A (.ref 162) [.bytes d.toArray, T f (pth ws)] σ K := by
  refine WC.plain (wc_def HB defTurned (fun xs hl => by
    obtain ⟨x, y, rfl⟩ := len2 hl
    kernel_rfl) rfl hA hf hkind fun L A' hA' => ?_)
  have hz := hw.path h6
  refine ws_for (we_txt (f := f) HB sl_split tt_split (we_local rfl ⟨_, rfl, wa_cons (we_call HB (we_glob (v := .ref 155) HB ⟨_, rfl, kp_fn, wa_cons (we_local rfl (wa_nil ?_))⟩))⟩))
  refine wc_sep HB hA' rfl rfl ?_
  refine wa_nil ?_
  refine wc_split (i := 1003) (ns := ws.map nm) (hfr 1003 (by decide) (by decide)).1 (by simpa using h0) hw.names (by unfold pth at hz; lia) ?_
  refine ⟨_, _, _, iters_list (xs := (ws.map nm).map (T f)) hA', fun k σ' => σ' =
    { loc := [("octets", .bytes (turn (ws.take k) d).toArray), ("path", T f (pth ws))], obj := fun i => if i = 1003 then some (.list ((ws.map nm).map (T f))) else σ.obj i, free := fun i => σ.free i ∧ i ≠ 1003 }, ?_, ?_, ?_, ?_⟩
  · rfl
  · rintro k σ' rfl; rfl
  · rintro k u σ' hk hu rfl
    obtain ⟨wd, hwd, rfl⟩ : ∃ wd, ws[k]? = some wd ∧ u = T f (nm wd) := by
      rw [List.getElem?_map, List.getElem?_map] at hu
      cases e : ws[k]? with
      | none => rw [e] at hu; cases hu
      | some wd => rw [e] at hu; cases hu; exact ⟨wd, rfl, rfl⟩
    have hwid := hw wd (List.mem_of_getElem? hwd)
    refine WT.less ?_
    refine ws_assign (we_call HB (we_glob (v := .ref 28) HB ⟨_, rfl, kp_fn, wa_cons (we_local rfl (wa_cons (we_call HB (we_blt (v := .type "int") HB ⟨_, rfl, kp_type _, wa_cons (we_local rfl (wa_nil (wc_int_T hwid (wa_nil ?_))))⟩))))⟩))
    refine wc_byteswap HB hA' rfl rfl (turn_length _ _ hd) hwid ?_ ?_
    · intro i hi hj
      have h3 : i ≠ 1003 := by lia
      refine ⟨⟨(hfr i hi (by lia)).1, h3⟩, ?_⟩
      show (if i = 1003 then _ else σ.obj i) = _
      rw [if_neg h3, (hfr i hi (by lia)).2]
    refine ws_nil ⟨_, ⟨?_, ?_, ?_⟩, rfl⟩
    · intro p hp
      rw [take_fold ws d hwd] at hp
      exact List.mem_append_left [(Str.ofString "name", T f (nm wd))] hp
    · exact fun i o e => e
    · exact fun i e => e
  · rintro σ' rfl
    refine ws_return (we_local rfl ?_)
    rw [List.length_map, List.length_map, List.take_length]
    refine ⟨rfl, fun i o e => ?_, trivial, h⟩
    have h2 : i ≠ 1003 := by rintro rfl; rw [(hfr 1003 (by decide) (by decide)).2] at e; cases e
    show (if i = 1003 then _ else σ.obj i) = _
    rw [if_neg h2, e]
end
end Mine
end
section
set_option maxRecDepth 100000
set_option autoImplicit false
namespace Mine
open PySem PySem.Calls PySem.Spec PyProof.Rows PySem.W

section
variable {g : Bool} {w : World} {B : Heap} {env : Env} {A : Around} {σ : St} {K : V → St → Prop} {pos px apos : Pos}

/- a list display -/
theorem we_list {es : List Expr} (h : WA false w B env A pos es σ fun vs σ₁ => ∃ i, σ₁.free i ∧ vs.length ≤ 1000 ∧ K (.ref i) (σ₁.new i (.list vs))) : WE g w B env A (.List es pos) σ K := fun fm ρ s Q E O r q => by
  refine wpG_of (wpAny_List_spliced (wpG_any (h fm ρ s _ E O r fun vs σ₁ ρ₁ xs s₁ l₁ r₁ v₁ h₁ => ?_)))
  obtain ⟨i, hi, hz, hk⟩ := h₁
  refine ⟨Nat.le_trans (m := 1000) (by rw [← v₁.length]; exact hz) (by decide), ?_⟩
  obtain ⟨h1, h2, h3⟩ := r₁.push (i := i) (o := .list vs) s₁.toks hi (ob := { cls := .type "list", data := .seq xs.toArray }) rfl ⟨_, _, rfl, by rw [List.toList_toArray]; exact v₁.mono (Rho.le_upd (r₁.free i hi))⟩
  exact q _ _ _ _ _ (l₁.trans h1) h2 h3 hk

/- a part of a slice -/
noncomputable def PR_ (_ : Rho) (o : Option Int) (v : Value) : Prop := IsPart v o
noncomputable abbrev WO (g : Bool) (w : World) (B : Heap) (env : Env) (A : Around) (e : Option Expr) (σ : St) (K : Option Int → St → Prop) : Prop := WT g w B env A (valueOrNone (evalOpt e env)) PR_ σ K
theorem wo_none {K : Option Int → St → Prop} (h : K none σ) : WO g w B env A none σ K := fun _ ρ s _ _ _ r q => wpG_pure (q _ _ ρ _ s ρ.le_refl r .none h)
theorem wo_some {e : Expr} {K : Option Int → St → Prop} (h : WE g w B env A e σ fun v σ₁ => ∃ i, v = .int i ∧ K (some i) σ₁) : WO g w B env A (some e) σ K := fun fm ρ s Q E O r q =>
  h fm ρ s Q E O r fun v σ₁ ρ₁ a s₁ l₁ r₁ v₁ h₁ => by
    obtain ⟨i, rfl, hk⟩ := h₁
    obtain ⟨t, rfl⟩ := v₁
    exact q _ _ _ _ _ l₁ r₁ (.int i t) hk

noncomputable def pick {α : Type} (xs : List α) (lo hi st : Option Int) : List α :=
  (sliceRange (sliceBounds lo hi st xs.length).1 (sliceBounds lo hi st xs.length).2.1 (sliceBounds lo hi st xs.length).2.2).filterMap (xs[·]?)
theorem LR.places {ρ : Rho} {vs : List V} {xs : List Value} (h : LR ρ vs xs) : ∀ js : List Nat, LR ρ (js.filterMap (vs[·]?)) (js.filterMap (xs[·]?))
  | [] => trivial
  | j :: js => by
    have ih := h.places js
    cases hn : vs[j]? with
    | some n =>
      obtain ⟨x, hx, hv⟩ := h.get hn
      simp only [List.filterMap_cons, hn, hx]
      exact ⟨hv, ih⟩
    | none =>
      have hv : xs[j]? = none := by
        rw [List.getElem?_eq_none_iff] at hn ⊢
        rw [← h.length]; exact hn
      simp only [List.filterMap_cons, hn, hv]
      exact ih
theorem pick_rev {α : Type} (xs : List α) : pick xs none none (some (-1)) = xs.reverse := by
  unfold pick
  rw [krv_bounds]
  show (sliceRange ((xs.length : Int) - 1) (-1) (-1)).filterMap (xs[·]?) = _
  rw [krv_sliceRange, krv_range, List.filterMap_reverse]
  congr 1
  have := krv_all xs.toArray
  simpa using this

theorem we_slice {value : Expr} {lo hi st : Option Expr} (h : WE false w B env A value σ fun o σ₁ => WO false w B env A lo σ₁ fun l σ₂ => WO false w B env A hi σ₂ fun u σ₃ => WO false w B env A st σ₃ fun k σ₄ =>
      ∃ j xs i, o = .ref j ∧ σ₄.obj j = some (.list xs) ∧ xs.length ≤ 1000 ∧ k ≠ some 0 ∧ σ₄.free i ∧ K (.ref i) (σ₄.new i (.list (pick xs l u k))))
    (hs : ∃ f : Value → Value → List Value, ∀ o i, subscripted (.Slice lo hi st px) false o i = operate (f o i) (getItem o i) := by first | exact ⟨fun o i => [o, i], fun _ _ => rfl⟩ | exact ⟨fun o i => [i, o], fun _ _ => rfl⟩) :
    WE g w B env A (.Subscript value (.Slice lo hi st px) pos) σ K := fun fm ρ s Q E O r q => wpG_of <| by
  rw [eval_Subscript]
  refine wpAny_bind (wpG_any (h fm ρ s _ E O r fun o σ₁ ρ₁ a s₁ l₁ r₁ v₁ h₁ => ?_))
  refine wpAny_bind (wpAny_holding ?_)
  rw [arm_eval_Slice]
  refine wpAny_bind (wpG_any (h₁ fm ρ₁ s₁ _ E O r₁ fun pl σ₂ ρ₂ vl s₂ l₂ r₂ v₂ h₂ => ?_))
  refine wpAny_bind (wpAny_holding (wpG_any (h₂ fm ρ₂ s₂ _ E O r₂ fun pu σ₃ ρ₃ vu s₃ l₃ r₃ v₃ h₃ => ?_)))
  refine wpAny_bind (wpAny_holding (wpG_any (h₃ fm ρ₃ s₃ _ E O r₃ fun pk σ₄ ρ₄ vk s₄ l₄ r₄ v₄ h₄ => ?_)))
  obtain ⟨j, xs, i, rfl, hj, hz, h0, hi', hk⟩ := h₄
  unfold newFields
  refine wpAny_newObj_type ?_ (by size_fits)
  have r₅ := r₄.kept (h' := s₄.heap.push { cls := .type "slice", data := .fields [vl, vu, vk].toArray }) s₄.toks fun b o e => Heap.get?_push_of_some _ e
  obtain ⟨a', vs, rfl, e, hl, lr⟩ := r₅.list hj (v₁.mono ((l₂.trans l₃).trans l₄))
  have hT : (Shared.mk (s₄.heap.push { cls := .type "slice", data := .fields [vl, vu, vk].toArray }) s₄.gens s₄.drawn s₄.toks s₄.os).TypeIs (.ref a') "list" := Heap.IsList.typeIs (s := { s₄ with heap := s₄.heap.push { cls := .type "slice", data := .fields [vl, vu, vk].toArray } }) hl
  refine (wpAny_bind (wpAny_standAt ?_))
  refine wpAny_bind ?_
  rw [getitemInPython_of_ne hT.not_modules]
  refine wpAny_bind (wpAny_specialOf hT list_getitem_lookup ?_)
  refine wpAny_pure ?_
  obtain ⟨f, hs⟩ := hs
  rw [hs]
  have hlen : vs.size = xs.length := by rw [← Array.length_toList]; exact lr.length.symm
  refine wpAny_bind (wpAny_operating (wpAny_getItem_list_slice hl (Heap.IsSliceOf.new ..) v₂ v₃ v₄ h0 ?_ (Nat.le_trans (m := 1000) (by lia) (by decide))))
  refine wpAny_bind (wpAny_letTemporaryGo (wpAny_pure ?_))
  have hp : LR ρ₄ (pick xs pl pu pk) (slicePick vs pl pu pk).toList := by
    have e : (slicePick vs pl pu pk).toList = (sliceRange (sliceBounds pl pu pk xs.length).1 (sliceBounds pl pu pk xs.length).2.1 (sliceBounds pl pu pk xs.length).2.2).filterMap (vs.toList[·]?) := by
      simp [slicePick, hlen]
    rw [e]
    exact lr.places _
  obtain ⟨h1, h2, h3⟩ := r₅.push (i := i) (o := .list (pick xs pl pu pk)) s₄.toks hi' (ob := { cls := .type "list", data := .seq (slicePick vs pl pu pk) }) rfl ⟨_, _, rfl, hp.mono (Rho.le_upd (r₅.free i hi'))⟩
  exact q _ _ _ _ _ ((((l₁.trans l₂).trans l₃).trans l₄).trans h1) h2 h3 hk

-- methods of lists
theorem wc_append {j : Nat} {xs : List V} {v : V} (hj : σ.obj j = some (.list xs)) (hz : xs.length ≤ 1000) (h : K .none (σ.put j (.list (xs ++ [v])))) : WC g w B env A (.builtin "list.append") [.ref j, v] σ K := by
  rintro fm ρ s ys Q E O r hv q
  obtain ⟨y, x, rfl, hy, hx⟩ := LR.two hv
  obtain ⟨a, vs, n, rfl, e, ho, lr⟩ := r.plist hj hy
  have hlen : vs.size = xs.length := by rw [← Array.length_toList]; exact lr.length.symm
  refine wpG_of (wpAny_list_append_plain ⟨n, ho⟩ (fun h' hp hs => ?_) (Nat.le_trans (m := 1000) (by lia) (by decide)))
  obtain ⟨n', ho'⟩ := hp
  exact q .none _ ρ _ _ ρ.le_refl (r.put (o := .list (xs ++ [v])) s.toks hj e hs.extBut ho' ⟨_, _, rfl, by rw [Array.toList_push]; exact lr.append ⟨hx, trivial⟩⟩) rfl h
theorem wc_clear {j : Nat} {xs : List V} (hj : σ.obj j = some (.list xs)) (hz : xs.length ≤ 1000) (h : K .none (σ.put j (.list []))) : WC g w B env A (.builtin "list.clear") [.ref j] σ K := by
  rintro fm ρ s ys Q E O r hv q
  obtain ⟨y, rfl, hy⟩ := LR.one hv
  obtain ⟨a, vs, n, rfl, e, ho, lr⟩ := r.plist hj hy
  have hlen : vs.size = xs.length := by rw [← Array.length_toList]; exact lr.length.symm
  have hT : s.TypeIs (.ref a) "list" := ⟨_, ho, rfl⟩
  refine wpG_of (call_meets F.slot_list_clear hT F.entry_list_clear (F.args_list_clear_1 _) (AutoSeq1.list_clear_list_0 a vs n (Nat.le_trans (m := 1000) (by lia) (by decide))) ⟨ho, ?_⟩)
  obtain ⟨n', hd'⟩ := Obj.data_mapSeq (o := { cls := .type "list", data := .seq vs n }) rfl fun _ => #[]
  have ho' := Heap.get?_update_self (Obj.mapSeq fun _ => #[]) ho (Obj.isFreed_of_seq hd')
  have hob : Obj.mapSeq (fun _ => #[]) { cls := .type "list", data := .seq vs n } = { cls := .type "list", data := .seq #[] n' } := by
    simp only [Obj.mapSeq] at hd' ⊢
    rw [← hd']
  rw [hob] at ho'
  exact q .none _ ρ _ _ ρ.le_refl (r.put (o := .list []) s.toks hj e (Heap.SameBut.update ..).extBut ho' ⟨_, _, rfl, trivial⟩) rfl h
theorem wc_pop {j : Nat} {xs : List V} {v : V} (hj : σ.obj j = some (.list (xs ++ [v]))) (hz : xs.length ≤ 999) (h : K v (σ.put j (.list xs))) : WC g w B env A (.builtin "list.pop") [.ref j] σ K := by
  rintro fm ρ s ys Q E O r hv q
  obtain ⟨y, rfl, hy⟩ := LR.one hv
  obtain ⟨a, vs, n, rfl, e, ho, lr⟩ := r.plist hj hy
  have hlen : vs.size = xs.length + 1 := by rw [← Array.length_toList, ← lr.length]; simp
  have hT : s.TypeIs (.ref a) "list" := ⟨_, ho, rfl⟩
  obtain ⟨x, hx, hvx⟩ := lr.get (i := xs.length) (v := v) (by simp)
  have hx' : vs[vs.size - 1]? = some x := by rw [hlen, ← Array.getElem?_toList]; simpa using hx
  refine wpG_of (call_meets F.slot_list_pop hT F.entry_list_pop (F.args_list_pop_1 _) (PySem.MeetsSeq.list_pop_last a vs n x hx' (Nat.le_trans (m := 1000) (by lia) (by decide))) ⟨ho, ?_⟩)
  obtain ⟨n', hd'⟩ := Obj.data_mapSeq (o := { cls := .type "list", data := .seq vs n }) rfl fun xs => xs.eraseIdxIfInBounds (vs.size - 1)
  have ho' := Heap.get?_update_self (Obj.mapSeq fun xs => xs.eraseIdxIfInBounds (vs.size - 1)) ho (Obj.isFreed_of_seq hd')
  have hob : Obj.mapSeq (fun xs => xs.eraseIdxIfInBounds (vs.size - 1)) { cls := .type "list", data := .seq vs n } = { cls := .type "list", data := .seq (vs.eraseIdxIfInBounds (vs.size - 1)) n' } := by
    simp only [Obj.mapSeq] at hd' ⊢
    rw [← hd']
  rw [hob] at ho'
  have hl2 : (vs.eraseIdxIfInBounds (vs.size - 1)).toList = vs.toList.take xs.length := by
    rw [Array.eraseIdxIfInBounds, dif_pos (by lia), Array.toList_eraseIdx, hlen, Nat.add_sub_cancel, List.eraseIdx_eq_take_drop_succ, List.drop_of_length_le (by simp [hlen]), List.append_nil]
  have lr2 : LR ρ xs (vs.eraseIdxIfInBounds (vs.size - 1)).toList := by
    rw [hl2]
    have key : ∀ (xs ys : List V) (zs : List Value), LR ρ (xs ++ ys) zs → LR ρ xs (zs.take xs.length) := by
      intro xs
      induction xs with
      | nil => intro ys zs _; rw [List.length_nil, List.take_zero]; exact trivial
      | cons x xs ih =>
        intro ys zs h
        cases zs with
        | nil => exact h.elim
        | cons z zs => exact ⟨h.1, ih ys zs h.2⟩
    exact key xs [v] _ lr
  exact q v _ ρ _ _ ρ.le_refl (r.put (o := .list xs) s.toks hj e (Heap.SameBut.update ..).extBut ho' ⟨_, _, rfl, lr2⟩) hvx h
end
end Mine
end
section
set_option maxRecDepth 100000
set_option autoImplicit false
namespace Mine
open PySem PySem.Calls PySem.Spec PyProof.Rows PySem.W

section
variable {g : Bool} {w : World} {B : Heap} {env : Env} {A : Around} {σ : St} {K : V → St → Prop} {pos px apos : Pos}
theorem Rel.ptuple {fm : Fm} {ρ : Rho} {s : Shared} {i : Nat} {xs : List V} {x : Value} (R : Rel w env fm ρ σ s) (hi : σ.obj i = some (.tuple xs)) (hx : VR ρ (.ref i) x) :
    ∃ a vs n, x = .ref a ∧ ρ i = some a ∧ s.heap.get? a = some { cls := .type "tuple", data := .seq vs n } ∧ LR ρ xs vs.toList := by
  obtain ⟨a, ob, rfl, e, q, ⟨vs, n, rfl, h4⟩, _⟩ := R.at hi hx
  exact ⟨a, vs, n, rfl, e, q, h4⟩
theorem ty_tuple {i : Nat} {xs : List V} (h : σ.obj i = some (.tuple xs)) : TyV w env (.ref i) "tuple" σ := by
  rintro fm ρ s _ r hx
  obtain ⟨a, vs, n, rfl, e, g, _⟩ := r.ptuple h hx
  exact ⟨⟨_, g, rfl⟩, fun b q => by cases q; exact ⟨_, g, rfl⟩⟩
theorem sub_tuple {j : Nat} {xs : List V} {i : Int} {v : V} (hj : σ.obj j = some (.tuple xs)) (h0 : 0 ≤ i) (hf : i < 1000) (hv : xs[i.toNat]? = some v) (h : K v σ) : Sub w B env A (.ref j) (.int i) σ K := by
  refine ⟨"tuple", _, F.slot_tuple_getitem.lookup, ty_tuple hj, ?_⟩
  rintro fm ρ s x _ Q E O r hx ⟨u, rfl⟩ q
  obtain ⟨a, vs, n, rfl, e, ho, lr⟩ := r.ptuple hj hx
  obtain ⟨y, hy, vr⟩ := lr.get hv
  have hT : s.TypeIs (.ref a) "tuple" := ⟨_, ho, rfl⟩
  have hlt : i.toNat < vs.size := by
    have := List.getElem?_eq_some_iff.mp hy
    obtain ⟨h1, _⟩ := this
    simpa using h1
  have hk : seqIndex? i vs.size = some i.toNat := by
    have hn : ¬ i < 0 := by lia
    have h1 : i < vs.size := by lia
    simp [seqIndex?, hn, h0, h1]
  refine wpG_of (getItem_slot hT (by decide) F.slot_tuple_getitem (call_meets F.slot_tuple_getitem hT F.entry_tuple_getitem (F.args_tuple_getitem_2 _ _)
    (MeetsSeq.tuple_getitem_at a vs n i u i.toNat y (by lia) (by lia) hk (by rw [← Array.getElem?_toList]; exact hy)) ⟨ho, ?_⟩))
  exact q v σ ρ y s ρ.le_refl r vr h
theorem sub_list_neg {j : Nat} {xs : List V} {v : V} (hj : σ.obj j = some (.list (xs ++ [v]))) (hf : xs.length < 1000) (h : K v σ) : Sub w B env A (.ref j) (.int (-1)) σ K := by
  refine ⟨"list", _, slot_list_getitem.lookup, ty_list hj, ?_⟩
  rintro fm ρ s x _ Q E O r hx ⟨u, rfl⟩ q
  obtain ⟨a, vs, rfl, e, hl, lr⟩ := r.list hj hx
  obtain ⟨y, hy, vr⟩ := lr.get (i := xs.length) (v := v) (by simp)
  have hlen : vs.size = xs.length + 1 := by rw [← Array.length_toList, ← lr.length]; simp
  refine wpG_of (wpAny_getItem_list_neg (x := y) hl (by decide) (by lia) (by decide) ?_ (q v σ ρ y s ρ.le_refl r vr h))
  have : ((-1 : Int) + vs.size).toNat = xs.length := by lia
  rw [this, ← Array.getElem?_toList]; exact hy
theorem iters_tuple {i : Nat} {xs : List V} {k : Nat} (hA : AOk k A) : Iters g w B env A (.ref i) xs.length (fun k v => xs[k]? = some v) (fun σ => σ.obj i = some (.tuple xs)) := by
  rintro σ fm ρ s x Q E O r hj hx q
  obtain ⟨a, vs, n, rfl, e, hl, lr⟩ := r.ptuple hj hx
  refine wpG_of (wpAny_pyIter_tuple ⟨_, hl, rfl, _, rfl⟩ ?_)
  refine q _ _ (fun k ob => ob.cls = .type "tuple_iterator" ∧ ob.data = .fields #[.ref a, .int k 0]) _ s.toks ⟨?_, ?_, fun k s Q E ob ho hs h => wpAny_pyIter_tupleiter (i := k) ⟨ob, ho, hs.1, hs.2⟩ h⟩ Heap.new_none
    (fun b o e => Heap.get?_push_of_some _ e) (Heap.get?_push_size _ rfl) ⟨rfl, rfl⟩
  · rintro env k σ fm ρ s Q E ob hk hj le r hob ⟨h1, h2⟩ q
    obtain ⟨a', vs, n, e', e'', hl, lr⟩ := r.ptuple (x := .ref a) hj ⟨a, le _ _ e, rfl⟩
    cases e'
    obtain ⟨v, hv⟩ : ∃ v, xs[k]? = some v := ⟨xs[k], List.getElem?_eq_getElem hk⟩
    obtain ⟨y, hy, vr⟩ := lr.get hv
    refine wpG_of (wpAny_pyNext_tuple_item (x := y) ⟨ob, hob, h1, h2⟩ ⟨_, hl, rfl, _, rfl⟩ (by rw [← Array.getElem?_toList]; exact hy) fun h' hit hs => ?_)
    obtain ⟨ob', g1, g2, g3⟩ := hit
    exact q v y h' s.toks ob' hv vr hs.extBut g1 ⟨g2, g3⟩
  · rintro env σ fm ρ s Q E ob hj le r hob ⟨h1, h2⟩ q
    obtain ⟨a', vs, n, e', e'', hl, lr⟩ := r.ptuple (x := .ref a) hj ⟨a, le _ _ e, rfl⟩
    cases e'
    have hlen : vs.size = xs.length := by rw [← Array.length_toList]; exact lr.length.symm
    exact wpG_of (wpAny_pyNext_tuple_end hA.handled ⟨ob, hob, h1, h2⟩ ⟨_, hl, rfl, _, rfl⟩ (by rw [← hlen]; simp) fun h' he => q h' s.toks he)
theorem wc_tuple_list {j i : Nat} {xs : List V} (hj : σ.obj j = some (.list xs)) (hz : xs.length ≤ 1000) (hi : σ.free i) (h : K (.ref i) (σ.new i (.tuple xs))) : WC g w B env A (.type "tuple") [.ref j] σ K := by
  rintro fm ρ s ys Q E O r hv q
  obtain ⟨y, rfl, hy⟩ := LR.one hv
  obtain ⟨a, vs, rfl, e, hl, lr⟩ := r.list hj hy
  have hlen : vs.size = xs.length := by rw [← Array.length_toList]; exact lr.length.symm
  refine wpG_of (call_tuple_list hl (fun h' hk => ?_) (Nat.le_trans (m := 1000) (by lia) (by decide)))
  have r' := r.kept (h' := h') s.toks hk
  obtain ⟨h1, h2, h3⟩ := r'.push (i := i) (o := .tuple xs) s.toks hi (ob := { cls := .type "tuple", data := .seq vs }) rfl ⟨_, _, rfl, lr.mono (Rho.le_upd (r'.free i hi))⟩
  exact q _ _ _ _ _ h1 h2 h3 h
theorem ints_lr {ρ : Rho} : ∀ {ns : List Int} {vs : List Value}, LR ρ (ns.map V.int) vs → IntsAre vs ns
  | [], [], _ => .nil
  | n :: ns, v :: vs, ⟨⟨t, ev⟩, b⟩ => by subst ev; exact .cons n t (ints_lr b)
theorem wc_bytes_list {j k : Nat} {ns : List Int} (hA : AOk k A) (hj : σ.obj j = some (.list (ns.map V.int))) (hz : ns.length ≤ 1000) (hr : ∀ n ∈ ns, 0 ≤ n ∧ n < 256) (h : K (.bytes (byteArr ns)) σ) : WC g w B env A (.type "bytes") [.ref j] σ K := by
  rintro fm ρ s ys Q E O r hv q
  obtain ⟨y, rfl, hy⟩ := LR.one hv
  obtain ⟨a, vs, rfl, e, hl, lr⟩ := r.list hj hy
  have hlen : vs.size = ns.length := by rw [← Array.length_toList]; have := lr.length.symm; simpa using this
  have hl' : s.heap.IsList a vs.toList.toArray := by rw [Array.toArray_toList]; exact hl
  refine wpG_of (call_bytes_ints hl' (ints_lr lr) hr (Nat.le_trans (m := 1000) (by simp; lia) (by decide)) hA.handled fun h' t k hk => ?_)
  exact q _ _ ρ _ _ ρ.le_refl (r.kept k hk) vbytes h
theorem wc_len_tuple {j : Nat} {xs : List V} (hj : σ.obj j = some (.tuple xs)) (hz : xs.length ≤ 1000) (h : K (.int xs.length) σ) : WC g w B env A (.builtin "len") [.ref j] σ K := by
  rintro fm ρ s ys Q E O r hv q
  obtain ⟨y, rfl, hy⟩ := LR.one hv
  obtain ⟨a, vs, n, rfl, e, ho, lr⟩ := r.ptuple hj hy
  have hlen : vs.size = xs.length := by rw [← Array.length_toList]; exact lr.length.symm
  refine wpG_of (len_tuple (items := vs) ⟨_, ho, rfl, _, rfl⟩ (by lia) ?_)
  rw [hlen]
  exact q _ _ ρ _ _ ρ.le_refl (r.tok _) vint h
theorem op_neg_int {i : Int} (h : K (.int (-i)) σ) : W1 g w B env A (unaryOp .USub) VR (.int i) σ K := by
  rintro fm ρ s _ Q E O r ⟨t, rfl⟩ q
  exact wpG_of (PyProof.Rows.neg_int (q _ _ ρ _ _ ρ.le_refl (r.tok _) vint h))
end
end Mine
end
section
set_option maxRecDepth 100000
set_option autoImplicit false
namespace Mine
open PySem PySem.Calls PySem.Spec PyProof.Rows PySem.W

theorem rev_int {w p : Nat} (hw : 0 < w) : Int.fdiv (p : Int) (w : Int) * w + w - 1 - Int.fmod (p : Int) (w : Int) = ((rev w p : Nat) : Int) := by
  have h1 : Int.fdiv (p : Int) (w : Int) = ((p / w : Nat) : Int) := by rw [Int.fdiv_eq_ediv_of_nonneg _ (by lia)]; rfl
  have h2 : Int.fmod (p : Int) (w : Int) = ((p % w : Nat) : Int) := by rw [Int.fmod_eq_emod_of_nonneg _ (by lia)]; rfl
  have h3 := Nat.mod_lt p hw
  rw [h1, h2]
  unfold rev
  rw [← Int.natCast_mul]
  lia
/- where an octet comes from, by all the widths from the last -/
noncomputable def back : List Nat → Nat → Nat
  | [], p => p
  | w :: ws, p => back ws (rev w p)
noncomputable def told (ws : List Nat) (d : List UInt8) : List UInt8 := (List.range 12).map fun p => d.getD (back ws.reverse p) 0
theorem Width.rev_lt {w p : Nat} (h : Width w) (hp : p < 12) : rev w p < 12 := of_decide_eq_true (fin12 (P := fun w p => decide (rev w p < 12)) (by decide +kernel) h hp)
theorem back_lt : ∀ {ws : List Nat} {p : Nat}, Widths ws → p < 12 → back ws p < 12
  | [], p, _, hp => hp
  | w :: ws, p, h, hp => back_lt (ws := ws) (p := rev w p) (fun x hx => h x (List.mem_cons_of_mem _ hx)) ((h w (List.mem_cons_self ..)).rev_lt hp)

theorem back_take (l : List Nat) (p : Nat) {k wd : Nat} (h : l[k]? = some wd) : back (l.take (k + 1)) p = rev wd (back (l.take k) p) := by
  induction l generalizing p k with
  | nil => cases h
  | cons a l ih =>
    cases k with
    | zero => cases h; rfl
    | succ k => exact ih (rev a p) h
theorem back_some {ws : List Nat} {p m : Nat} (hw : Widths ws) (hp : p < 12) : back (ws.reverse.take m) p < 12 :=
  back_lt (fun x hx => hw x (List.mem_reverse.mp (List.mem_of_mem_take hx))) hp
section
variable {g : Bool} {w : World} {B : Heap} {env : Env} {A : Around} {σ : St} {K : V → St → Prop}
theorem defTold : DefOk w 169 fdTold (dBody (stN 13)) ["octets", "widths"] where
  obj := ⟨{ cls := .type "function", data := .func _ }, by kernel_rfl, rfl⟩
  body := rfl
  code := by kernel_rfl
  clo := rfl
  nodup := by decide
  kinds := fun n x hx => by simp only [List.mem_cons, List.not_mem_nil, or_false] at hx; rcases hx with rfl | rfl <;> exact .inl (by kernel_rfl)
  cellsNodup := fun n => by rw [show (cellsFrom n fdTold.scope.names []).map (·.1) = [] by kernel_rfl]; exact List.nodup_nil
  co := by kernel_rfl
  gen := by kernel_rfl
  fn := by kernel_rfl
noncomputable def vints (ws : List Nat) : List V := ws.map fun x : Nat => V.int (x : Int)
theorem byteArr_of (d : List UInt8) : byteArr (d.map fun c => ((c.toNat : Nat) : Int)) = d.toArray := by
  unfold byteArr
  rw [List.map_map]
  congr 1
  conv => rhs; rw [← List.map_id d]
  refine List.map_congr_left fun c _ => ?_
  simp
theorem wc_told {n j : Nat} {d : List UInt8} {ws : List Nat} (HB : BaseOk w B) (hA : AOk (n + 1) A) (hf : env.frame = some env.locals) (hkind : env.scope.kind = .function) (hd : d.length = 12) (hw : Widths ws)
    (h6 : ws.length ≤ 6) (hj : σ.obj j = some (.list (vints ws))) (hjn : j < 1000) (hfr : Fresh σ 1000 1004) (h : K (.bytes (told ws d).toArray) σ) : WC g w B env A (.ref 169) [.bytes d.toArray, .ref j] σ K := by
  refine WC.plain (wc_def HB defTold (fun xs hl => by
    obtain ⟨x, y, rfl⟩ := len2 hl
    kernel_rfl) rfl hA hf hkind fun L A' hA' => ?_)
  refine ws_assign (we_list (wa_nil ⟨1000, (hfr 1000 (by decide) (by decide)).1, by decide, ?_⟩))
  refine ws_for (we_call HB (we_blt (v := .type "range") HB ⟨_, rfl, kp_type _, wa_cons (we_int (wa_nil (wc_range1 (i := 1001) ⟨(hfr 1001 (by decide) (by decide)).1, by decide⟩ ?_)))⟩))
  refine ⟨_, _, _, iters_range (a := 0) (b := 12) (c := 1) hA' (by decide), fun k σ' => σ' =
    { loc := [("octets", .bytes d.toArray), ("widths", .ref j), ("told", .ref 1000)],
      obj := fun i => if i = 1001 then some (.range 0 12 1) else if i = 1000 then some (.list (((List.range k).map fun p => d.getD (back ws.reverse p) 0).map fun c => V.int ((c.toNat : Nat) : Int))) else σ.obj i, free := fun i => (σ.free i ∧ i ≠ 1000) ∧ i ≠ 1001 }, ?_, ?_, ?_, ?_⟩
  · rfl
  · rintro k σ' rfl; rfl
  · rintro k u σ' hk rfl rfl
    have hk12 : k < 12 := hk
    have ek : (0 + (k : Int) * 1) = k := by lia
    rw [ek]
    refine WT.cut (Rg 1002 1003) (fun i hi => ⟨⟨(hfr i (Nat.le_trans (by decide) hi.1) (Nat.lt_trans hi.2 (by decide))).1, Nat.ne_of_gt (Nat.lt_of_lt_of_le (by decide) hi.1)⟩, Nat.ne_of_gt (Nat.lt_of_lt_of_le (by decide) hi.1)⟩) ?_
    refine WT.gen fun K0 hK0 => ?_
    have hjw : (if j = 1001 then some (O.range 0 12 1) else if j = 1000 then some (.list (((List.range k).map fun p => d.getD (back ws.reverse p) 0).map fun c => V.int ((c.toNat : Nat) : Int))) else σ.obj j) = some (.list (vints ws)) := by
      rw [if_neg (by lia), if_neg (by lia), hj]
    refine ws_for (we_slice (we_local rfl (wo_none (wo_none (wo_some (we_unop (we_int (op_neg_int ⟨_, rfl, j, vints ws, 1002, rfl, hjw, ?_, by decide, ⟨⟨(hfr 1002 (by decide) (by decide)).1, by decide⟩, by decide⟩, ?_⟩))))))))
    · simp [vints]; lia
    rw [pick_rev]
    refine ⟨_, _, _, iters_list (xs := (vints ws).reverse) hA', fun m σ' => σ' =
      { loc := [("octets", .bytes d.toArray), ("widths", .ref j), ("told", .ref 1000), ("place", .int ((back (ws.reverse.take m) k : Nat) : Int))],
        obj := fun i => if i = 1002 then some (.list (vints ws).reverse) else if i = 1001 then some (.range 0 12 1) else if i = 1000 then some (.list (((List.range k).map fun p => d.getD (back ws.reverse p) 0).map fun c => V.int ((c.toNat : Nat) : Int))) else σ.obj i,
        free := fun i => ((σ.free i ∧ i ≠ 1000) ∧ i ≠ 1001) ∧ i ≠ 1002 }, ?_, ?_, ?_, ?_⟩
    · rfl
    · rintro m σ' rfl; rfl
    · rintro m u σ' hm hu rfl
      obtain ⟨wd, hwd, rfl⟩ : ∃ wd, ws.reverse[m]? = some wd ∧ u = V.int (wd : Nat) := by
        unfold vints at hu
        rw [← List.map_reverse, List.getElem?_map] at hu
        cases e : ws.reverse[m]? with
        | none => rw [e] at hu; cases hu
        | some wd => rw [e] at hu; cases hu; exact ⟨wd, rfl, rfl⟩
      have hwid := hw wd (List.mem_reverse.mp (List.mem_of_getElem? hwd))
      have hpos := hwid.pos
      have hb := back_some (m := m) hw hk12
      refine WT.less (WT.gen fun K1 hK1 => ?_)
      refine ws_assign (we_binop (we_binop (we_binop (we_binop (we_binop (we_local rfl (we_local rfl (op_div_int ?_ ?_ (we_local rfl (op_mul_int ?_ ?_))))))))))
      · lia
      · exact PyProof.noPylong_small (by lia)
      · exact IntMulOk.of_right (intBits_le_64 (by lia) (by lia))
      refine we_local rfl (op_add_int (we_int (op_sub_int (we_binop (we_local rfl (we_local rfl (op_mod_int ?_ (op_sub_int ?_))))))))
      · lia
      rw [rev_int hpos.1]
      refine ws_nil (hK1 _ _ ⟨_, ⟨?_, ?_, ?_⟩, rfl⟩)
      · intro p hp
        rw [back_take _ _ hwd] at hp
        exact List.mem_append_left [(Str.ofString "width", V.int (wd : Int))] hp
      · exact fun i o e => e
      · exact fun i e => e
    · rintro σ' rfl
      have hall : back (ws.reverse.take (vints ws).reverse.length) k = back ws.reverse k := by
        rw [List.take_of_length_le]; simp [vints]
      rw [hall]
      have hb : back ws.reverse k < 12 := back_lt (fun x hx => hw x (List.mem_reverse.mp hx)) hk12
      refine ws_expr (we_meth HB F.plainAttrs_list F.slot_list_append F.type_list_append (we_local rfl ⟨ty_list rfl, wa_cons (we_sub (we_local rfl (we_local rfl (sub_bytes (by lia) (by lia) (by lia) (wa_nil ?_)))))⟩))
      refine wc_append rfl (by simp; lia) ?_
      refine ws_nil (hK0 _ _ ⟨_, Cut.of ?_ ?_ ?_, fun ρ a e => e, rfl⟩)
      · intro i o e
        have e' : (if i = 1001 then some (O.range 0 12 1) else if i = 1000 then some (.list (((List.range (k + 1)).map fun p => d.getD (back ws.reverse p) 0).map fun c => V.int ((c.toNat : Nat) : Int))) else σ.obj i) = some o := e
        have h2 : i ≠ 1002 := by
          rintro rfl
          rw [if_neg (by decide), if_neg (by decide), (hfr 1002 (by decide) (by decide)).2] at e'; cases e'
        refine ⟨fun h => h2 (by have h3 := h.1; have h4 := h.2; lia), ?_, ?_⟩
        · by_cases h1 : i = 1000
          · subst h1
            rw [if_neg (by decide), if_pos rfl] at e'
            refine Eq.trans ?_ e'
            show some (O.list _) = some (O.list _)
            rw [List.range_succ]
            simp
          · show (if i = 1000 then _ else if i = 1002 then _ else if i = 1001 then _ else if i = 1000 then _ else σ.obj i) = _
            rw [if_neg h1, if_neg h2, if_neg h1]
            rw [if_neg h1] at e'
            exact e'
        · by_cases h1 : i = 1000
          · subst h1
            rw [if_neg (by decide), if_pos rfl] at e'
            cases e'
            refine .inr fun v hv => ?_
            obtain ⟨c, _, rfl⟩ := List.mem_map.mp hv
            trivial
          · refine .inl (Eq.trans ?_ e')
            show (if i = 1001 then _ else if i = 1000 then _ else σ.obj i) = _
            rw [if_neg h1, if_neg h1]
      · intro p hp
        exact ⟨List.mem_append_left [(Str.ofString "place", V.int _)] hp, .inl (List.mem_append_left [(Str.ofString "place", V.int _)] hp)⟩
      · intro i hi
        by_cases h2 : i = 1002
        · exact .inl ⟨by lia, by lia⟩
        · exact .inr ⟨hi, h2⟩
  · rintro σ' rfl
    refine ws_return (we_call HB (we_blt (v := .type "bytes") HB ⟨_, rfl, kp_type _, wa_cons (we_local rfl (wa_nil ?_))⟩))
    refine wc_bytes_list (ns := (told ws d).map fun c => ((c.toNat : Nat) : Int)) hA' ?_ (by simp [told]) (fun n hn => ?_) ?_
    · show some (O.list _) = some (O.list _)
      rw [List.map_map]
      rfl
    · obtain ⟨c, _, rfl⟩ := List.mem_map.mp hn
      have := c.toNat_lt
      lia
    · rw [byteArr_of]
      refine ⟨rfl, fun i o e => ?_, trivial, h⟩
      have h1 : i ≠ 1001 := by rintro rfl; rw [(hfr 1001 (by decide) (by decide)).2] at e; cases e
      have h2 : i ≠ 1000 := by rintro rfl; rw [(hfr 1000 (by decide) (by decide)).2] at e; cases e
      show (if i = 1001 then _ else if i = 1000 then _ else σ.obj i) = _
      rw [if_neg h1, if_neg h2, e]
end
end Mine
end
section
set_option maxRecDepth 100000
set_option autoImplicit false
namespace Mine
open PySem PySem.Calls PySem.Spec PyProof.Rows PySem.W

section
variable {g : Bool} {w : World} {B : Heap} {env : Env} {A : Around} {σ : St} {pos px apos : Pos}
theorem ws_while {test : Expr} {body orelse rest : List Stmt} {K : Fl → St → Prop} (J : Nat → St → Prop) (n : Nat) (h0 : J n σ)
    (turn : ∀ n σ', J n σ' → WB false w B env A test σ' fun b σ₁ => if b then
        WS false w B env A body σ₁ (fun f σ'' => match f with | .next | .cont => ∃ m, m < n ∧ J m σ'' | .brk => WS g w B env A rest σ'' K | .ret u => K (.ret u) σ'')
      else WS false w B env A orelse σ₁ (thenK g w B env A rest K)) : WS g w B env A (.While test body orelse pos :: rest) σ K :=
  ws_cons fun fm ρ s Q E O r q => by
    refine wpG_of (wpAny_While (codeAny_whileLoop (fun d s' => ∃ σ' ρ', J d σ' ∧ ρ.le ρ' ∧ Rel w env fm ρ' σ' s') ?_ n ⟨σ, ρ, h0, ρ.le_refl, r⟩))
    rintro d s' ⟨σ', ρ', jd, l', r'⟩
    refine wpG_any (turn d σ' jd fm ρ' s' _ _ O r' fun b σ₁ ρ₁ a s₁ l₁ r₁ v₁ h₁ => ?_)
    cases v₁
    cases b with
    | true =>
      refine wpG_any (h₁ fm ρ₁ s₁ _ _ O r₁ fun f σ'' ρ'' c s'' l'' r'' fr kk => ?_)
      cases f with
      | next => cases fr; obtain ⟨m, hm, jm⟩ := kk; exact ⟨m, hm, σ'', ρ'', jm, (l'.trans l₁).trans l'', r''⟩
      | cont => cases fr; obtain ⟨m, hm, jm⟩ := kk; exact ⟨m, hm, σ'', ρ'', jm, (l'.trans l₁).trans l'', r''⟩
      | brk => cases fr; exact q .next _ _ _ _ ((l'.trans l₁).trans l'') r'' rfl kk
      | ret u => obtain ⟨z, rfl, vz⟩ := fr; exact q (.ret u) _ _ _ _ ((l'.trans l₁).trans l'') r'' ⟨z, rfl, vz⟩ kk
    | false =>
      refine wpG_any (h₁ fm ρ₁ s₁ _ _ O r₁ fun f σ'' ρ'' c s'' l'' r'' fr kk => ?_)
      exact q f _ _ _ _ ((l'.trans l₁).trans l'') r'' fr kk

theorem defHeads : DefOk w 176 fdHeads (dBody (stN 14)) ["path"] where
  obj := ⟨{ cls := .type "function", data := .func _ }, by kernel_rfl, rfl⟩
  body := rfl
  code := by kernel_rfl
  clo := rfl
  nodup := by decide
  kinds := fun n x hx => by simp only [List.mem_cons, List.not_mem_nil, or_false] at hx; rcases hx with rfl; exact .inl (by kernel_rfl)
  cellsNodup := fun n => by rw [show (cellsFrom n fdHeads.scope.names []).map (·.1) = [] by kernel_rfl]; exact List.nodup_nil
  co := by kernel_rfl
  gen := by kernel_rfl
  fn := by kernel_rfl

/- the heads of a path, the shortest first -/
noncomputable def heads (f : Bool) (ws : List Nat) : List V := (List.range ws.length).map fun k => T f (pth (ws.take (k + 1)))
/- the heads that are longer than m names, the longest first -/
noncomputable def longs (f : Bool) (ws : List Nat) (m : Nat) : List V := ((List.range ws.length).drop m).reverse.map fun k => T f (pth (ws.take (k + 1)))
variable {K : V → St → Prop}
theorem pth_snoc {ws : List Nat} {m wd : Nat} (h : ws[m]? = some wd) (h0 : 0 < m) : pth (ws.take (m + 1)) = pth (ws.take m) ++ 47 :: nm wd := by
  unfold pth
  rw [List.take_add_one, h, List.map_append]
  refine jn_snoc _ _ ?_
  intro e
  have := congrArg List.length e
  have h1 := (List.getElem?_eq_some_iff.mp h).1
  rw [List.length_map, List.length_take, List.length_nil] at this
  lia
theorem wc_heads {n : Nat} {f : Bool} {ws : List Nat} {i : Nat} (HB : BaseOk w B) (hA : AOk (n + 2) A) (hf : env.frame = some env.locals) (hkind : env.scope.kind = .function) (hw : Widths ws)
    (h0 : ws ≠ []) (h6 : ws.length ≤ 6) (hi : σ.free i) (hio : σ.obj i = none) (hir : i < 1000) (hfr : Fresh σ 1000 1004) (h : K (.ref i) (σ.new i (.list (heads f ws)))) : WC g w B env A (.ref 176) [T f (pth ws)] σ K := by
  refine WC.cut (Rg 1000 1004) (fun j hj => (hfr j hj.1 hj.2).1) (wc_def HB defHeads (fun xs hl => by
    obtain ⟨x, rfl⟩ := len1 hl
    kernel_rfl) rfl hA hf hkind fun L A' hA' => ?_)
  refine ws_assign (we_list (wa_cons (we_local rfl (wa_nil ⟨1000, (hfr 1000 (by decide) (by decide)).1, by simp, ?_⟩))))
  refine ws_while (fun m σ' => m < ws.length ∧ σ' =
    { loc := [("path", T f (pth (ws.take (m + 1)))), ("heads", .ref 1000)], obj := fun i => if i = 1000 then some (.list (longs f ws m)) else σ.obj i, free := fun i => σ.free i ∧ i ≠ 1000 }) (ws.length - 1) ?_ ?_
  · have hl : 0 < ws.length := List.length_pos_iff.mpr h0
    refine ⟨by lia, ?_⟩
    have e1 : ws.length - 1 + 1 = ws.length := by lia
    have e2 : longs f ws (ws.length - 1) = [T f (pth ws)] := by
      unfold longs
      have : (List.range ws.length).drop (ws.length - 1) = [ws.length - 1] := by
        rw [List.range_eq_range', List.drop_range']
        have : ws.length - (ws.length - 1) = 1 := by lia
        rw [this]; simp
      rw [this]
      simp [e1]
    rw [e2, e1, List.take_length]
    rfl
  · rintro m σ' ⟨hm, rfl⟩
    have hwt : Widths (ws.take (m + 1)) := fun x hx => hw x (List.mem_of_mem_take hx)
    refine wb_cmp (we_call HB (we_glob (v := .ref 155) HB ⟨_, rfl, kp_fn, wa_cons (we_local rfl (wa_nil (wc_sep HB hA' rfl rfl (we_local rfl ?_))))⟩))
    refine op_in_T hA' hwt.names ⟨_, rfl, ?_⟩
    rw [List.length_map, List.length_take]
    by_cases hm1 : m = 0
    · subst hm1
      have : min (0 + 1) ws.length = 1 := by lia
      rw [this, decide_eq_false (by decide), if_neg (by decide)]
      refine ws_nil ?_
      refine ws_return (we_slice (we_local rfl (wo_none (wo_none (wo_some (we_unop (we_int (op_neg_int ⟨_, rfl, 1000, longs f ws 0, i, rfl, rfl, ?_, by decide, ⟨hi, by lia⟩, ?_⟩))))))))
      · simp [longs]; lia
      rw [pick_rev]
      have e3 : (longs f ws 0).reverse = heads f ws := by
        unfold longs heads
        rw [List.drop_zero, ← List.map_reverse, List.reverse_reverse]
      rw [e3]
      refine ⟨_, Cut.of ?_ ?_ ?_, ?_, h⟩
      · intro j o e
        have e' : (if j = i then some (O.list (heads f ws)) else σ.obj j) = some o := e
        have hnr : ¬ Rg 1000 1004 j := by
          rintro ⟨h1, h2⟩
          rw [if_neg (by lia), (hfr j h1 h2).2] at e'; cases e'
        refine ⟨hnr, ?_, ?_⟩
        · show (if j = i then _ else if j = 1000 then _ else σ.obj j) = _
          rw [if_neg (c := j = 1000) (fun e => hnr ⟨by lia, by lia⟩)]
          exact e'
        · by_cases hji : j = i
          · subst hji
            rw [if_pos rfl] at e'; cases e'
            refine .inr fun v hv => ?_
            obtain ⟨c, _, rfl⟩ := List.mem_map.mp hv
            exact T_out _ _ _
          · rw [if_neg hji] at e'; exact .inl e'
      · exact fun p hp => ⟨hp, .inl hp⟩
      · intro j hj
        have hj' : σ.free j ∧ j ≠ i := hj
        by_cases hr : Rg 1000 1004 j
        · exact .inl hr
        · exact .inr ⟨⟨hj'.1, fun e => hr ⟨by lia, by lia⟩⟩, hj'.2⟩
      · exact fun hr => absurd hr.1 (by lia)
    · have : min (m + 1) ws.length = m + 1 := by lia
      rw [this, decide_eq_true (by lia), if_pos rfl]
      obtain ⟨wd, hwd⟩ : ∃ wd, ws[m]? = some wd := ⟨ws[m], List.getElem?_eq_getElem hm⟩
      have hwid := hw wd (List.mem_of_getElem? hwd)
      have hsn := pth_snoc hwd (by lia)
      have hpl := hwt.path (by rw [List.length_take]; lia)
      have hasc : Asc (pth (ws.take (m + 1))) := asc_jn fun n hn => (hwt.names n hn).2
      refine WT.cut (Rg 1001 1002) (fun j hj => ⟨(hfr j (Nat.le_trans (by decide) hj.1) (Nat.lt_trans hj.2 (by decide))).1, Nat.ne_of_gt (Nat.lt_of_lt_of_le (by decide) hj.1)⟩) ?_
      refine WT.gen fun K0 hK0 => ?_
      refine ws_assign (we_sub (we_txt (f := f) HB sl_rpart tt_rpart (we_local rfl ⟨_, rfl, wa_cons (we_call HB (we_glob (v := .ref 155) HB ⟨_, rfl, kp_fn, wa_cons (we_local rfl (wa_nil (wc_sep HB hA' rfl rfl (wa_nil ?_))))⟩))⟩)))
      rw [hsn] at hpl hasc ⊢
      refine wc_rpart (i := 1001) ⟨(hfr 1001 (by decide) (by decide)).1, by decide⟩ hwid.nm.1 hasc (by lia) ?_
      refine we_int (sub_tuple (v := T f (pth (ws.take m))) rfl (by decide) (by decide) rfl ?_)
      refine ws_expr (we_meth HB F.plainAttrs_list F.slot_list_append F.type_list_append (we_local rfl ⟨ty_list rfl, wa_cons (we_local rfl (wa_nil ?_))⟩))
      refine wc_append rfl (by simp [longs]; lia) ?_
      have em : m - 1 + 1 = m := by lia
      have el : longs f ws m ++ [T f (pth (ws.take m))] = longs f ws (m - 1) := by
        unfold longs
        have : (List.range ws.length).drop (m - 1) = (m - 1) :: (List.range ws.length).drop m := by
          have h1 : m - 1 < (List.range ws.length).length := by simp; lia
          rw [List.drop_eq_getElem_cons h1, em]
          simp
        rw [this, List.reverse_cons, List.map_append, List.map_cons, em]
        rfl
      refine ws_nil (hK0 _ _ ⟨_, Cut.of ?_ ?_ ?_, fun ρ a e => e, m - 1, by lia, by lia, rfl⟩)
      · intro j o e
        have e' : (if j = 1000 then some (O.list (longs f ws (m - 1))) else σ.obj j) = some o := e
        have hn1 : j ≠ 1001 := by
          rintro rfl
          rw [if_neg (by decide), (hfr 1001 (by decide) (by decide)).2] at e'; cases e'
        refine ⟨fun h => hn1 (by have h3 := h.1; have h4 := h.2; lia), ?_, ?_⟩
        · show (if j = 1000 then some (O.list (longs f ws m ++ [T f (pth (ws.take m))])) else if j = 1001 then _ else if j = 1000 then _ else σ.obj j) = _
          rw [el]
          by_cases h1 : j = 1000
          · subst h1; exact e'
          · rw [if_neg h1, if_neg hn1, if_neg h1]
            rwa [if_neg h1] at e'
        · by_cases h1 : j = 1000
          · subst h1
            rw [if_pos rfl] at e'; cases e'
            refine .inr fun v hv => ?_
            obtain ⟨c, _, rfl⟩ := List.mem_map.mp hv
            exact T_out _ _ _
          · refine .inl (Eq.trans ?_ e')
            show (if j = 1000 then _ else σ.obj j) = _
            rw [if_neg h1, if_neg h1]
      · intro p hp
        have hp' : p ∈ [(Str.ofString "path", T f (pth (ws.take (m - 1 + 1)))), (Str.ofString "heads", V.ref 1000)] := hp
        rw [em] at hp'
        refine ⟨hp', .inr ?_⟩
        simp only [List.mem_cons, List.not_mem_nil, or_false] at hp'
        rcases hp' with rfl | rfl
        · exact T_out _ _ _
        · exact fun hr => absurd hr.1 (by decide)
      · intro j hj
        by_cases h2 : j = 1001
        · exact .inl ⟨by lia, by lia⟩
        · exact .inr ⟨hj, h2⟩
end
end Mine
end
section
set_option maxRecDepth 100000
set_option autoImplicit false
namespace Mine
open PySem PySem.Calls PySem.Spec PyProof.Rows PySem.W

theorem cellsFrom_acc : ∀ (names : List (Str × NameKind)) (n : Nat) (acc : List (Str × Addr)), cellsFrom n names acc = cellsFrom n names [] ++ acc
  | [], _, _ => rfl
  | (x, k) :: r, n, acc => by
    unfold cellsFrom
    split
    · rw [cellsFrom_acc r (n + 1) ((x, n) :: acc), cellsFrom_acc r (n + 1) [(x, n)]]
      simp
    · exact cellsFrom_acc r n acc

section
variable {w : World} {B : Heap} {env : Env} {A : Around} {σ : St} {fm : Fm} {ρ : Rho} {s : Shared}
noncomputable def Fm.comp (fm : Fm) (env : Env) (ρ : Rho) (σ : St) (s : Shared) : Fm := { fm.inner env ρ σ s with outs := fm.outs }
theorem Rel.outs {env' : Env} {fm fm' : Fm} {ρ' : Rho} {σ' : St} {s' : Shared} (r : Rel w env' fm ρ' σ' s') (h1 : fm'.keep = fm.keep) (h2 : fm'.dat = fm.dat) (h3 : fm'.s0 = fm.s0) : Rel w env' fm' ρ' σ' s' where
  same := h3 ▸ r.same
  keep := h1 ▸ r.keep
  dat := h2 ▸ r.dat
  ns := r.ns
  cel := r.cel
  cells := r.cells
  obj := fun i o e => by
    obtain ⟨a, ob, p, g, q, own⟩ := r.obj i o e
    exact ⟨a, ob, p, g, q, by unfold Own; rw [h1, h2]; exact own⟩
  inj := r.inj
  free := r.free

/- the cells of a comprehension's own names, and those that it shares -/
structure Shares (env : Env) (cl own : List (Str × Addr)) (C : Addr) : Prop where
  mem : ∀ p ∈ cl, p ∈ env.cells
  nodup : ((own ++ cl).map (·.1)).Nodup
  above : ∀ p ∈ own, C < p.2
  apart : own.Pairwise fun x y => x.2 ≠ y.2

theorem pairwise_of_names {cells : List (Str × Addr)} (hap : cells.Pairwise fun x y => x.2 ≠ y.2) : ∀ {cl : List (Str × Addr)}, (∀ p ∈ cl, p ∈ cells) → (cl.map (·.1)).Nodup → cl.Pairwise fun x y => x.2 ≠ y.2
  | [], _, _ => List.Pairwise.nil
  | p :: cl, hm, hn => by
    rw [List.map_cons, List.nodup_cons] at hn
    refine List.pairwise_cons.mpr ⟨fun q hq e => hn.1 ?_, pairwise_of_names hap (fun x hx => hm x (.tail _ hx)) hn.2⟩
    have h1 : (p.1, q.2) ∈ cells := e ▸ hm p (.head _)
    have := cell_name hap h1 (hm q (.tail _ hq))
    rw [this]
    exact List.mem_map.mpr ⟨q, hq, rfl⟩

theorem FmOk.comp {scope : Scope} {cl own : List (Str × Addr)} {C : Addr} (O : FmOk B env A fm) (r : Rel w env fm ρ σ s) (hC : ∀ b o, s.heap.get? b = some o → b < C) (sh : Shares env cl own C) :
    FmOk B (compEnvC scope (own ++ cl) C env) A (fm.comp env ρ σ s) where
  frs := fun e => by
    have e' : env.frame = some C := e
    exfalso
    rcases O.frok C e' with h | h
    · obtain ⟨m, ⟨o, _, _, g, _⟩, _⟩ := r.ns
      rw [← h] at g
      exact absurd (hC _ _ g) (Nat.lt_irrefl _)
    · cases q : fm.dat C with
      | none => exact h q
      | some d =>
        obtain ⟨o, g, _⟩ := r.dat C d q
        exact absurd (hC _ _ g) (Nat.lt_irrefl _)
  frok := fun L e => by
    have e' : env.frame = some L := e
    right
    rcases O.frok L e' with h | h
    · subst h
      obtain ⟨m, ⟨o, _, _, g, _⟩, _⟩ := r.ns
      have := Fm.inner_dat (env := env) (ρ := ρ) (σ := σ) (fm := fm) (.inl rfl) g
      show (fm.inner env ρ σ s).dat env.locals ≠ none
      rw [this]; exact Option.some_ne_none _
    · cases q : fm.dat L with
      | none => exact absurd q h
      | some d =>
        obtain ⟨o, g, _⟩ := r.dat L d q
        have := Fm.inner_dat (env := env) (ρ := ρ) (σ := σ) (fm := fm) (.inr h) g
        show (fm.inner env ρ σ s).dat L ≠ none
        rw [this]; exact Option.some_ne_none _
  base := fun b o e => by
    have hk := O.base b o e
    refine Fm.inner_keep (fun i hi q => ?_) ?_ (O.dj b (by rw [hk]; exact Option.some_ne_none _)) (r.keep b o hk)
    · rw [(r.own_ne hi q).1.1] at hk; cases hk
    · rintro rfl; rw [O.locs.1] at hk; cases hk
  locs := by
    have : s.heap.get? C = none := by
      cases g : s.heap.get? C with
      | none => rfl
      | some o => exact absurd (hC _ _ g) (Nat.lt_irrefl _)
    refine ⟨?_, ?_⟩
    · cases q : (fm.inner env ρ σ s).keep C with
      | none => exact q
      | some o => rw [Fm.of_inner_keep q] at this; cases this
    · cases q : (fm.inner env ρ σ s).dat C with
      | none => exact q
      | some o => obtain ⟨_, o', g, _⟩ := Fm.of_inner_dat q; rw [g] at this; cases this
  cels := fun p hp => by
    rcases List.mem_append.mp hp with hp | hp
    · have hlt := sh.above p hp
      have : s.heap.get? p.2 = none := by
        cases g : s.heap.get? p.2 with
        | none => rfl
        | some o => exact absurd (hC _ _ g) (Nat.not_lt.mpr (Nat.le_of_lt hlt))
      refine ⟨?_, Nat.ne_of_gt hlt, fun _ => ?_⟩
      · cases q : (fm.inner env ρ σ s).dat p.2 with
        | none => exact q
        | some o => obtain ⟨_, o', g, _⟩ := Fm.of_inner_dat q; rw [g] at this; cases this
      · cases q : (fm.inner env ρ σ s).keep p.2 with
        | none => exact q
        | some o => rw [Fm.of_inner_keep q] at this; cases this
    · have hm := sh.mem p hp
      obtain ⟨v, o, g, _⟩ := r.cells p hm
      have hlt : p.2 < C := hC _ _ g
      refine ⟨?_, Nat.ne_of_lt hlt, fun h => absurd h (Nat.not_lt.mpr (Nat.le_of_lt hlt))⟩
      cases q : (fm.inner env ρ σ s).dat p.2 with
      | none => exact q
      | some d =>
        obtain ⟨h, _⟩ := Fm.of_inner_dat q
        rcases h with h | h
        · exact absurd h (O.cels p hm).2.1
        · exact absurd (O.cels p hm).1 h
  dj := fun b hb => by
    cases q : (fm.inner env ρ σ s).dat b with
    | none => exact q
    | some d =>
      obtain ⟨h, _⟩ := Fm.of_inner_dat q
      refine absurd ?_ hb
      show (fm.inner env ρ σ s).keep b = none
      simp only [Fm.inner]
      rw [if_pos (.inr h)]
  apart := by
    have hn := sh.nodup
    rw [List.map_append, List.nodup_append] at hn
    refine List.pairwise_append.mpr ⟨sh.apart, pairwise_of_names O.apart sh.mem hn.2.1, fun p hp q hq => ?_⟩
    have h1 := sh.above p hp
    obtain ⟨v, o, g, _⟩ := r.cells q (sh.mem q hq)
    have h2 := hC _ _ g
    exact Nat.ne_of_gt (Nat.lt_trans h2 h1)
  outs := fun e he => by
    obtain ⟨h1, L, d, h2, h3, h4, h5⟩ := O.outs e he
    obtain ⟨o, g, hd⟩ := r.dat L d h4
    have hdd := Fm.inner_dat (env := env) (ρ := ρ) (σ := σ) (fm := fm) (s := s) (.inr (by rw [h4]; exact Option.some_ne_none _)) g
    rw [hd] at hdd
    exact ⟨h1, L, d, h2, h3, hdd, h5⟩

/- into a comprehension -/
theorem Rel.comp {scope : Scope} {cl own : List (Str × Addr)} {C : Addr} {loc : List (Str × V)} {h' : Heap} {σ₁ : St} {ρ₁ : Rho} {s₁ : Shared} (O : FmOk B env A fm) (r : Rel w env fm ρ σ s) (r₁ : Rel w env fm ρ₁ σ₁ s₁)
    (hks : ∀ b o, s.heap.get? b = some o → s₁.heap.get? b = some o) (hsame : ∃ h tk, s₁ = { s with heap := h, toks := tk }) (hC₁ : ∀ b o, s₁.heap.get? b = some o → b < C) (sh : Shares env cl own C)
    (hnew : ∀ i a, σ₁.obj i ≠ none → ρ₁ i = some a → (∃ j, σ.obj j ≠ none ∧ ρ j = some a) ∨ s.heap.get? a = none)
    (hk : ∀ b o, s₁.heap.get? b = some o → h'.get? b = some o) (hns : h'.Ns C fun _ => none) (hown : ∀ p ∈ own, h'.IsCell p.2 none)
    (hloc : ∀ p ∈ loc, p ∈ σ₁.loc ∧ env.kindOf p.1 ≠ some .local ∧ (compEnvC scope (own ++ cl) C env).kindOf p.1 ≠ some .local ∧ ∃ c, (own ++ cl).lookup p.1 = some c ∧ env.cells.lookup p.1 = some c) :
    Rel w (compEnvC scope (own ++ cl) C env) (fm.comp env ρ σ s) ρ₁ { loc := loc, obj := σ₁.obj, free := σ₁.free } { s₁ with heap := h' } where
  same := by
    obtain ⟨h, tk, e⟩ := hsame
    exact ⟨h', tk, by rw [e]; rfl⟩
  keep := fun b o e => hk b o (hks b o (Fm.of_inner_keep (env := env) (ρ := ρ) (σ := σ) (fm := fm) e))
  dat := fun b d e => let ⟨_, o, g, q⟩ := Fm.of_inner_dat (env := env) (ρ := ρ) (σ := σ) (fm := fm) (s := s) e; ⟨o, hk b o (hks b o g), q⟩
  ns := ⟨_, hns, fun p hp hl => absurd hl (hloc p hp).2.2.1⟩
  cel := fun p hp n => by
    obtain ⟨h1, h2, _, c, h3, h4⟩ := hloc p hp
    obtain ⟨c', x, e, f, v⟩ := r₁.cel p h1 h2
    rw [h4] at e; cases e
    exact ⟨c, x, h3, f.keeps hk, v⟩
  cells := fun p hp => by
    rcases List.mem_append.mp hp with hp | hp
    · exact ⟨_, hown p hp⟩
    · obtain ⟨v, f⟩ := r₁.cells p (sh.mem p hp)
      exact ⟨v, f.keeps hk⟩
  obj := fun i o e => by
    obtain ⟨a, ob, p, g, q, own'⟩ := r₁.obj i o e
    have hlt : a < C := hC₁ _ _ g
    refine ⟨a, ob, p, hk a ob g, q, ?_, ?_, Nat.ne_of_lt hlt, fun c hc => ?_⟩
    · show (fm.inner env ρ σ s).keep a = none
      rcases hnew i a (by rw [e]; exact Option.some_ne_none _) p with h | h
      · simp only [Fm.inner]
        rw [if_pos (.inl h)]
      · cases q : (fm.inner env ρ σ s).keep a with
        | none => rfl
        | some o => rw [Fm.of_inner_keep q] at h; cases h
    · cases q : (fm.inner env ρ σ s).dat a with
      | none => exact q
      | some d =>
        obtain ⟨h, _⟩ := Fm.of_inner_dat q
        rcases h with h | h
        · exact absurd h own'.2.2.1
        · exact absurd own'.2.1 h
    · rcases List.mem_append.mp hc with hc | hc
      · exact Nat.ne_of_gt (Nat.lt_trans hlt (sh.above c hc))
      · exact own'.2.2.2 c (sh.mem c hc)
  inj := r₁.inj
  free := r₁.free
end
end Mine
end
section
set_option maxRecDepth 100000
set_option autoImplicit false
namespace Mine
open PySem PySem.Calls PySem.Spec PyProof.Rows PySem.W

section
variable {M : Model} {A : Around} {E : Value → Shared → Prop} {s : Shared}
theorem newCompEnv {scope : Scope} {env : Env} {cl : List (Str × Addr)} {Q : Env → Shared → Prop}
    (hQ : ∀ h', (∀ b o, s.heap.get? b = some o → h'.get? b = some o) → h'.Ns s.heap.objs.size (fun _ => none) → (∀ p ∈ cellsFrom (s.heap.objs.size + 1) scope.names [], h'.IsCell p.2 none ∧ s.heap.objs.size < p.2) →
      ((cellsFrom (s.heap.objs.size + 1) scope.names []).Pairwise fun x y => x.2 ≠ y.2) →
      Q (newEnv scope s.heap.objs.size env.globals (cellsFrom (s.heap.objs.size + 1) scope.names [] ++ cl) env.qual none .none (some env) builtinsNs) { s with heap := h' }) :
    wpAny M A (newFunctionEnv scope env.globals cl [] env.qual none .none (some env)) Q E s := by
  simp only [newFunctionEnv, Option.isSome_some, if_true]
  refine wpAny_bind (wpAny_alloc ?_)
  refine wpAny_bind (wpAny_layCells _ (fun name kind cells => by cases hkc : kind == NameKind.cell <;> simp [hkc]) _ _ _ _ ?_)
  have ok := cellsFrom_ok scope.names (s.heap.push { cls := .type "dict", data := .dict #[] }) (s.heap.objs.size + 1) [] ⟨fun _ _ hm => (nomatch hm), List.Pairwise.nil⟩ (by rw [Heap.size_push]; exact Nat.le_refl _)
  rw [Heap.size_push] at ok
  rw [show ({ s with heap := s.heap.push { cls := .type "dict", data := .dict #[] } } : Shared).heap.objs.size = s.heap.objs.size + 1 from Heap.size_push .., cellsFrom_acc]
  refine wpAny_bind ?_
  rw [List.forIn_nil]
  refine wpAny_pure (wpAny_pure (hQ _ (fun b o e => pushCells_keeps _ _ b o (Heap.get?_push_of_some _ e)) ((Heap.Ns.new s.heap (.type "dict")).keeps (pushCells_keeps _ _)) (fun p hp => ?_) ok.apart))
  exact ⟨(ok.empty p.1 p.2 hp).1, (ok.empty p.1 p.2 hp).2⟩
end

/- what a test of a comprehension says -/
noncomputable abbrev WI (w : World) (B : Heap) (env : Env) (A : Around) (ifs : List Expr) (σ : St) (K : Bool → St → Prop) : Prop :=
  WT false w B env A (forIn ifs true fun c r => if r = true then do let ok ← isTrue c env (eval c env); pure (ForInStep.yield ok) else pure (ForInStep.yield r)) BR σ K
section
variable {g : Bool} {w : World} {B : Heap} {env : Env} {A : Around} {σ : St} {pos px apos : Pos}
theorem wi_nil {K : Bool → St → Prop} (h : K true σ) : WI w B env A [] σ K := fun _ ρ s _ _ _ r q => wpG_of (by rw [List.forIn_nil]; exact wpAny_pure (q true σ ρ true s ρ.le_refl r rfl h))
theorem wi_one {c : Expr} {K : Bool → St → Prop} (h : WB false w B env A c σ K) : WI w B env A [c] σ K := fun fm ρ s Q E O r q => wpG_of (wpAny_tests_one (wpG_any (h fm ρ s Q E O r q)))
theorem w1_name {x : Str} {u : V} {K : Unit → St → Prop} (h : K () (σ.set x u)) (hx : Binds env x := by exact .inl rfl) (hk : env.scope.kind = .function := by rfl) : W1 g w B env A (assign (.Name x px) env) UR u σ K :=
  fun fm ρ s a Q E O r hv q => wpG_assign_Name (store_ O r hv hx hk fun s' r' => q () _ ρ () s' ρ.le_refl r' trivial h)

/- an iteration that binds a target: the k-th turn begins -/
structure Head (w : World) (B : Heap) (cenv : Env) (A : Around) (target : Expr) (I : Addr) (n : Nat) (Inv : St → Prop) (up : Nat → St → St → Prop) (ρ₀ : Rho) (S : Nat → Obj → Prop) : Prop where
  item : ∀ (k : Nat) (σ : St) (fm : Fm) (ρ : Rho) (s : Shared) (Q : Option Value → Shared → Prop) (E : Value → Shared → Prop) (ob : Obj), k < n → Inv σ → ρ₀.le ρ → FmOk B cenv A fm → Rel w cenv fm ρ σ s → Apart cenv fm ρ σ I → s.heap.get? I = some ob → S k ob →
    (∀ v s₁, (∀ (Q' : Unit → Shared → Prop) (E' : Value → Shared → Prop), (∀ ob' σ' s₂, up k σ σ' → FmOk B cenv A (fm.wk I ob') → Rel w cenv (fm.wk I ob') ρ σ' s₂ → S (k + 1) ob' → Q' () s₂) → wpAny (model PR w) A (assign target cenv v) Q' E' s₁) → Q (some v) s₁) →
    wpAny (model PR w) A (pyNext (.ref I)) Q E s
  done : ∀ (σ : St) (fm : Fm) (ρ : Rho) (s : Shared) (Q : Option Value → Shared → Prop) (E : Value → Shared → Prop) (ob : Obj), Inv σ → ρ₀.le ρ → Rel w cenv fm ρ σ s → s.heap.get? I = some ob → S n ob →
    (∀ h' tk, Heap.ExtBut I s.heap h' → Q none { s with heap := h', toks := tk }) → wpAny (model PR w) A (pyNext (.ref I)) Q E s

theorem head_name {cenv : Env} {x : Str} {I : Addr} {n : Nat} {P : Nat → V → Prop} {Inv : St → Prop} {ρ₀ : Rho} {S : Nat → Obj → Prop} (it : It false w A I n P Inv ρ₀ S) (hx : Binds cenv x) (hk : cenv.scope.kind = .function) :
    Head w B cenv A (.Name x px) I n Inv (fun k σ σ' => ∃ u, P k u ∧ σ' = σ.set x u) ρ₀ S where
  item := fun k σ fm ρ s Q E ob hkn hI hle O r ap ho hs q => by
    refine wpG_any (it.item cenv k σ fm ρ s Q E ob hkn hI hle r ho hs fun v x' h' tk ob' hP hv he ho' hs' => q x' _ fun Q' E' q' => ?_)
    have r₂ := r.besides tk ap he
    exact wpAny_assign_Name (wpG_any (store_ (g := false) (O.wk ap.own) (r₂.wk ap ho') hv hx hk fun s₃ r₃ => q' ob' _ s₃ ⟨v, hP, rfl⟩ (O.wk ap.own) r₃ hs'))
  done := fun σ fm ρ s Q E ob hI hle r ho hs q => wpG_any (it.done cenv σ fm ρ s Q E ob hI hle r ho hs q)
end
end Mine
end
section
set_option maxRecDepth 100000
set_option autoImplicit false
namespace Mine
open PySem PySem.Calls PySem.Spec PyProof.Rows PySem.W

section
variable {g : Bool} {w : World} {B : Heap} {env : Env} {A : Around} {σ : St} {pos px apos : Pos}
/- the environment of a comprehension whose names lie at C -/
noncomputable abbrev cenv (scope : Scope) (cl : List (Str × Addr)) (env : Env) (C : Addr) : Env := compEnvC scope (cellsFrom (C + 1) scope.names [] ++ cl) C env

/- what is walked over by a comprehension's clause -/
noncomputable def ItersH (w : World) (B : Heap) (env : Env) (A : Around) (ce : Addr → Env) (target : Expr) (v : V) (n : Nat) (Inv : St → Prop) (up : Nat → St → St → Prop) : Prop :=
  ∀ (σ : St) (fm : Fm) (ρ : Rho) (s : Shared) (x : Value) (Q : Value → Shared → Prop) (E : Value → Shared → Prop), FmOk B env A fm → Rel w env fm ρ σ s → Inv σ → VR ρ v x →
    (∀ I ob S h' tk, (∀ C, Head w B (ce C) A target I n Inv up ρ S) → (∀ (s : Shared) (Q : Value → Shared → Prop) (E : Value → Shared → Prop) (ob : Obj), s.heap.get? I = some ob → S 0 ob → Q (.ref I) s → wpAny (model PR w) A (pyIter (.ref I)) Q E s) →
      s.heap.get? I = none → (∀ b o, s.heap.get? b = some o → h'.get? b = some o) → h'.get? I = some ob → S 0 ob → Q (.ref I) { s with heap := h', toks := tk }) →
    wpAny (model PR w) A (pyIter x) Q E s
theorem itersH_name {ce : Addr → Env} {x : Str} {v : V} {n : Nat} {P : Nat → V → Prop} {Inv : St → Prop} (h : Iters false w B env A v n P Inv) (hx : ∀ C, Binds (ce C) x) (hk : ∀ C, (ce C).scope.kind = .function) :
    ItersH w B env A ce (.Name x px) v n Inv (fun k σ σ' => ∃ u, P k u ∧ σ' = σ.set x u) := fun σ fm ρ s y Q E O r hI hv q =>
  wpG_any (h σ fm ρ s y Q E O r hI hv fun I ob S h' tk it hn hk' ho hs => q I ob S h' tk (fun C => head_name it (hx C) (hk C)) (fun s Q E ob => it.self 0 s Q E ob) hn hk' ho hs)

/- a comprehension of one clause: what is asked once its iterable is known -/
noncomputable def CompI (w : World) (B : Heap) (env : Env) (A : Around) (elt target : Expr) (ifs : List Expr) (scope : Scope) (cl : List (Str × Addr)) (v : V) (σ : St) (Kx : Nat → St → Prop) : Prop :=
  ∃ (i : Nat) (loc : List (Str × V)) (n : Nat) (Inv : St → Prop) (up : Nat → St → St → Prop), σ.free i ∧
      (∀ p ∈ loc, p ∈ σ.loc ∧ env.kindOf p.1 ≠ some .local ∧ ∀ C, (cenv scope cl env C).kindOf p.1 ≠ some .local ∧ ∃ c, (cellsFrom (C + 1) scope.names [] ++ cl).lookup p.1 = some c ∧ env.cells.lookup p.1 = some c) ∧
      ItersH w B env A (cenv scope cl env) target v n Inv up ∧ Inv σ ∧ ∃ J : Nat → St → Prop, J 0 { loc := loc, obj := (σ.new i (.list [])).obj, free := (σ.new i (.list [])).free } ∧ (∀ k σ', J k σ' → Inv σ') ∧
      (∀ C k σ' σ'', k < n → J k σ' → up k σ' σ'' → WI w B (cenv scope cl env C) A ifs σ'' fun b σ₃ => if b then WE false w B (cenv scope cl env C) A elt σ₃ fun y σ₄ => ∃ ys, σ₄.obj i = some (.list ys) ∧ ys.length ≤ 1000 ∧ J (k + 1) (σ₄.put i (.list (ys ++ [y]))) else J (k + 1) σ₃) ∧
      ∀ σ', J n σ' → Kx i σ'
theorem comp_mk {target elt : Expr} {ifs : List Expr} {scope : Scope} {cl : List (Str × Addr)} {Kx : Nat → St → Prop} {v : V} (i : Nat) (loc : List (Str × V)) (n : Nat) (Inv : St → Prop) (up : Nat → St → St → Prop) (h1 : σ.free i)
    (h2 : ∀ p ∈ loc, p ∈ σ.loc ∧ env.kindOf p.1 ≠ some .local ∧ ∀ C, (cenv scope cl env C).kindOf p.1 ≠ some .local ∧ ∃ c, (cellsFrom (C + 1) scope.names [] ++ cl).lookup p.1 = some c ∧ env.cells.lookup p.1 = some c)
    (h3 : ItersH w B env A (cenv scope cl env) target v n Inv up) (h4 : Inv σ) (J : Nat → St → Prop) (h5 : J 0 { loc := loc, obj := (σ.new i (.list [])).obj, free := (σ.new i (.list [])).free }) (h6 : ∀ k σ', J k σ' → Inv σ')
    (h7 : ∀ C k σ' σ'', k < n → J k σ' → up k σ' σ'' → WI w B (cenv scope cl env C) A ifs σ'' fun b σ₃ => if b then WE false w B (cenv scope cl env C) A elt σ₃ fun y σ₄ => ∃ ys, σ₄.obj i = some (.list ys) ∧ ys.length ≤ 1000 ∧ J (k + 1) (σ₄.put i (.list (ys ++ [y]))) else J (k + 1) σ₃)
    (h8 : ∀ σ', J n σ' → Kx i σ') : CompI w B env A elt target ifs scope cl v σ Kx := ⟨i, loc, n, Inv, up, h1, h2, h3, h4, J, h5, h6, h7, h8⟩

section
variable {scope : Scope} {cl own : List (Str × Addr)} {fm : Fm} {ρ ρ' : Rho} {s s' : Shared} {σ' : St} {C D I : Addr} {i : Nat} {loc : List (Str × V)}
theorem Rho.upd_self : (ρ.upd i D) i = some D := if_pos rfl
theorem new_obj_cases {j : Nat} {b : Addr} {o : O} (hj : (σ.new i o).obj j ≠ none) (eb : (ρ.upd i D) j = some b) : b = D ∨ (σ.obj j ≠ none ∧ ρ j = some b) := by
  by_cases hji : j = i
  · subst hji
    rw [Rho.upd_self] at eb; cases eb
    exact .inl rfl
  · exact .inr ⟨fun e => hj ((if_neg hji).trans e), (if_neg hji).symm.trans eb⟩
theorem comp_out (O : FmOk B env A fm) (r : Rel w env fm ρ σ s) (hC : ∀ b o, s.heap.get? b = some o → b < C) (l : ρ.le ρ') (r' : Rel w (compEnvC scope own C env) (fm.comp env ρ σ s) ρ' σ' s') :
    (∃ m, s'.heap.Ns C m) ∧ Rel w env fm ρ' { loc := σ.loc, obj := σ'.obj, free := σ'.free } s' ∧ Apart env fm ρ' { loc := σ.loc, obj := σ'.obj, free := σ'.free } C := by
  obtain ⟨m, hm, _⟩ := r'.ns
  have no : ∀ o, s.heap.get? C ≠ some o := fun o e => Nat.lt_irrefl _ (hC C o e)
  refine ⟨⟨m, hm⟩, Rel.leave O r l (r'.outs rfl rfl rfl), ⟨?_, ?_, ?_, fun p hp => ?_⟩, fun j hj e => ?_⟩
  · cases q : fm.keep C with
    | none => rfl
    | some o => exact absurd (r.keep C o q) (no o)
  · cases q : fm.dat C with
    | none => rfl
    | some d => obtain ⟨o, g, _⟩ := r.dat C d q; exact absurd g (no o)
  · rintro rfl
    obtain ⟨m, ⟨o, _, _, g, _⟩, _⟩ := r.ns
    exact no o g
  · rintro rfl
    obtain ⟨_, o, g, _⟩ := r.cells p hp
    exact no o g
  · obtain ⟨own, _⟩ := r'.own_ne (i := j) hj e
    exact own.2.2.1 rfl
theorem comp_apart (r : Rel w env fm ρ σ s) (hI : s.heap.get? I = none) (hIC : I < C) (hDI : D ≠ I) (hcl : ∀ p ∈ cl, p ∈ env.cells) (hab : ∀ p ∈ own, C < p.2) :
    Apart (compEnvC scope (own ++ cl) C env) (fm.comp env ρ σ s) (ρ.upd i D) { loc := loc, obj := (σ.new i (.list [])).obj, free := (σ.new i (.list [])).free } I := by
  refine ⟨⟨?_, ?_, Nat.ne_of_lt hIC, fun p hp => ?_⟩, fun j hj e => ?_⟩
  · cases q : (fm.inner env ρ σ s).keep I with
    | none => exact q
    | some o => rw [Fm.of_inner_keep q] at hI; cases hI
  · cases q : (fm.inner env ρ σ s).dat I with
    | none => exact q
    | some o => obtain ⟨_, o', g, _⟩ := Fm.of_inner_dat q; rw [g] at hI; cases hI
  · rcases List.mem_append.mp hp with hp | hp
    · exact Nat.ne_of_gt (Nat.lt_trans hIC (hab p hp))
    · obtain ⟨_, o, g, _⟩ := r.cells p (hcl p hp)
      rintro rfl
      rw [g] at hI; cases hI
  · rcases new_obj_cases hj e with h | ⟨h1, h2⟩
    · exact hDI h.symm
    · obtain ⟨_, o, g⟩ := r.own_ne h1 h2
      rw [g] at hI; cases hI
/- the list and the environment of a comprehension are made -/
theorem comp_enter {h' : Heap} {tk : Nat} {E : Value → Shared → Prop} {Q : Value → Env → Shared → Prop} (i : Nat) (loc : List (Str × V)) (O : FmOk B env A fm) (r : Rel w env fm ρ σ s) (hk' : ∀ b o, s.heap.get? b = some o → h'.get? b = some o) (hi : σ.free i)
    (hcl : ∀ p ∈ cl, p ∈ env.cells) (hnd : ∀ n, ((cellsFrom n scope.names [] ++ cl).map (·.1)).Nodup)
    (hloc : ∀ p ∈ loc, p ∈ σ.loc ∧ env.kindOf p.1 ≠ some .local ∧ ∀ C, (cenv scope cl env C).kindOf p.1 ≠ some .local ∧ ∃ c, (cellsFrom (C + 1) scope.names [] ++ cl).lookup p.1 = some c ∧ env.cells.lookup p.1 = some c)
    (k : ∀ C D h4, (∀ b o, h'.get? b = some o → h4.get? b = some o ∧ b < C ∧ D ≠ b) → (∀ p ∈ cellsFrom (C + 1) scope.names [], C < p.2) → ρ.le (ρ.upd i D) → FmOk B (cenv scope cl env C) A (fm.comp env ρ σ s) →
      Rel w (cenv scope cl env C) (fm.comp env ρ σ s) (ρ.upd i D) { loc := loc, obj := (σ.new i (.list [])).obj, free := (σ.new i (.list [])).free } { s with heap := h4, toks := tk } →
      Q (.ref D) (cenv scope cl env C) { s with heap := h4, toks := tk }) :
    wpAny (model PR w) A (newList []) (fun acc s₃ => wpAny (model PR w) A (newFunctionEnv scope env.globals cl [] env.qual none .none (some env)) (fun ce s₄ => Q acc { ce with scope := relabel scope env } s₄) E s₃) E { s with heap := h', toks := tk } := by
  have r₂ := r.kept tk hk'
  refine wpAny_newObj_type ?_ (by show ([] : List Value).toArray.size ≤ sizeLine; decide)
  obtain ⟨l₃, r₃, v₃⟩ := r₂.push (i := i) (o := .list []) tk hi (ob := { cls := .type "list", data := .seq ([] : List Value).toArray }) rfl ⟨_, _, rfl, trivial⟩
  refine newCompEnv fun h4 hk4 hns hown hap => ?_
  have hlt : ∀ b o, (h'.push { cls := .type "list", data := .seq ([] : List Value).toArray }).get? b = some o → b < (h'.push { cls := .type "list", data := .seq ([] : List Value).toArray }).objs.size := fun b o e => Heap.lt_size e
  have hk3 : ∀ b o, h'.get? b = some o → (h'.push { cls := .type "list", data := .seq ([] : List Value).toArray }).get? b = some o := fun b o e => Heap.get?_push_of_some _ e
  have hDb : ∀ b o, h'.get? b = some o → h'.objs.size ≠ b := fun b o e => Nat.ne_of_gt (Heap.lt_size e)
  dsimp only at hk4 hns hown hap l₃ r₃ ⊢
  clear v₃ r₂
  generalize h'.push { cls := .type "list", data := .seq ([] : List Value).toArray } = H at hk4 hns hown hap r₃ hlt hk3 ⊢
  generalize h'.objs.size = D at l₃ r₃ hDb ⊢
  generalize H.objs.size = C at hk4 hns hown hap hlt ⊢
  have sh : Shares env cl (cellsFrom (C + 1) scope.names []) C := ⟨hcl, hnd _, fun p hp => (hown p hp).2, hap⟩
  have hsC : ∀ b o, s.heap.get? b = some o → b < C := fun b o e => hlt b o (hk3 b o (hk' b o e))
  refine k C D h4 (fun b o e => ⟨hk4 b o (hk3 b o e), hlt b o (hk3 b o e), hDb b o e⟩) sh.above l₃ (O.comp (scope := scope) r (C := C) hsC sh) ?_
  refine Rel.comp (scope := scope) (loc := loc) (h' := h4) O r r₃ (fun b o e => hk3 b o (hk' b o e)) ⟨_, _, rfl⟩ hlt sh (fun j b hj eb => ?_) hk4 hns (fun p hp => (hown p hp).1) (fun p hp => ⟨(hloc p hp).1, (hloc p hp).2.1, (hloc p hp).2.2 C⟩)
  rcases new_obj_cases hj eb with h | h
  · right
    cases e : s.heap.get? b with
    | none => rfl
    | some o => exact absurd h.symm (hDb b o (hk' _ _ e))
  · exact .inl ⟨j, h⟩
end

/- the turns of a comprehension of one clause -/
theorem comp_loop {elt target iter : Expr} {ifs : List Expr} {scope : Scope} {ce : Env} {fm : Fm} {ρ₁ ρ₂ : Rho} {σ₂ : St} {s₂ : Shared} {I D : Addr} {i n : Nat} {Inv : St → Prop} {up : Nat → St → St → Prop} {J : Nat → St → Prop} {S : Nat → Obj → Prop} {ob : Obj}
    {R : Result → Shared → Prop} (hd : Head w B ce A target I n Inv up ρ₁ S) (inv : ∀ k σ', J k σ' → Inv σ')
    (turn : ∀ k σ' σ'', k < n → J k σ' → up k σ' σ'' → WI w B ce A ifs σ'' fun b σ₃ => if b then WE false w B ce A elt σ₃ fun y σ₄ => ∃ ys, σ₄.obj i = some (.list ys) ∧ ys.length ≤ 1000 ∧ J (k + 1) (σ₄.put i (.list (ys ++ [y]))) else J (k + 1) σ₃)
    (l₃ : ρ₁.le ρ₂) (O : FmOk B ce A fm) (r₄ : Rel w ce fm ρ₂ σ₂ s₂) (ap : Apart ce fm ρ₂ σ₂ I) (j0 : J 0 σ₂) (hI : s₂.heap.get? I = some ob) (s0 : S 0 ob) (vD : VR ρ₂ (.ref i) (.ref D)) (ht : ∀ it v, letOwnedTupleGo target it v = pure ())
    (fin : ∀ ρ' σ' s', ρ₂.le ρ' → Rel w ce fm ρ' σ' s' → J n σ' → R (.ok .next) s') :
    codeAny (model PR w) A (.compLoop (.ListComp elt [⟨target, iter, ifs, 0⟩] scope pos) 0 (.ref I) (.ref D) ce) R s₂ := by
  refine codeAny_compLoop_tests (fun d s' => ∃ k σ' ρ' ob', d = n + 1 - k ∧ k ≤ n ∧ J k σ' ∧ ρ₂.le ρ' ∧ Rel w ce fm ρ' σ' s' ∧ Apart ce fm ρ' σ' I ∧ s'.heap.get? I = some ob' ∧ S k ob') ?_ (n + 1)
    ⟨0, _, _, ob, rfl, Nat.zero_le _, j0, Rho.le_refl _, r₄, ap, hI, s0⟩ (ht _)
  rintro d s' jj
  refine ex4 jj fun k σ' ρ' ob' jz => ?_
  clear jj
  refine and8 jz fun ee hkn jk l' r' ap' hob' sk => ?_
  clear jz
  subst ee
  rcases Nat.lt_or_eq_of_le hkn with hltn | hkn'
  · have hm : n + 1 - (k + 1) < n + 1 - k := Nat.sub_lt_sub_left (Nat.lt_succ_of_lt hltn) (Nat.lt_succ_self k)
    refine hd.item k σ' _ ρ' s' _ _ ob' hltn (inv k σ' jk) (l₃.trans l') O r' ap' hob' sk fun v₀ s₂ asg => ?_
    refine asg _ _ fun ob₂ σ'' s₃ hup O₂ r₅ sk₂ => ?_
    refine wpG_any (turn k σ' σ'' hltn jk hup _ ρ' s₃ _ _ O₂ r₅ fun b σ₆ ρ₆ c s₆ l₆ r₆ br kk => ?_)
    cases br
    cases b with
    | false =>
      obtain ⟨r₇, ap₇, g₇⟩ := r₆.unwk ap'.own
      exact ⟨n + 1 - (k + 1), hm, k + 1, σ₆, ρ₆, ob₂, rfl, hltn, kk, l'.trans l₆, r₇, ap₇, g₇, sk₂⟩
    | true =>
      refine wpG_any (kk _ ρ₆ s₆ _ _ O₂ r₆ fun y σ₇ ρ₇ z s₇ l₇ r₇ vr₇ kk₇ => ?_)
      obtain ⟨ys, hy, hz, jn⟩ := kk₇
      refine wpG_any (wc_append (g := false) (K := fun _ σ₈ => J (k + 1) σ₈) hy hz jn _ ρ₇ s₇ [.ref D, z] _ _ O₂ r₇ ⟨vD.mono ((l'.trans l₆).trans l₇), vr₇, trivial⟩ fun _ σ₈ ρ₈ _ s₈ l₈ r₈ _ j₈ => ?_)
      obtain ⟨r₉, ap₉, g₉⟩ := r₈.unwk ap'.own
      exact ⟨n + 1 - (k + 1), hm, k + 1, σ₈, ρ₈, ob₂, rfl, hltn, j₈, (((l'.trans l₆).trans l₇).trans l₈), r₉, ap₉, g₉, sk₂⟩
  · subst hkn'
    exact hd.done σ' _ ρ' s' _ _ ob' (inv k σ' jk) (l₃.trans l') r' hob' sk fun h₅ tk₅ hs₅ => fin ρ' σ' _ l' (r'.besides tk₅ ap' hs₅) jk

theorem comp_run {elt target iter : Expr} {ifs : List Expr} {scope : Scope} {cl : List (Str × Addr)} {use : Option (Value → Sem Unit)} {Q E : Value → Shared → Prop} {Kx : Nat → St → Prop} {v : V} {a : Value} {fm : Fm} {ρ : Rho} {s : Shared}
    (O : FmOk B env A fm) (r : Rel w env fm ρ σ s) (v₁ : VR ρ v a) (h : CompI w B env A elt target ifs scope cl v σ Kx) (hcl : ∀ p ∈ cl, p ∈ env.cells) (hnd : ∀ n, ((cellsFrom n scope.names [] ++ cl).map (·.1)).Nodup)
    (ht : ∀ it v, letOwnedTupleGo target it v = pure ())
    (fin : ∀ i C D ρ' σ' s', ρ.le ρ' → (∃ m, s'.heap.Ns C m) → Rel w env fm ρ' { loc := σ.loc, obj := σ'.obj, free := σ'.free } s' → Apart env fm ρ' { loc := σ.loc, obj := σ'.obj, free := σ'.free } C → VR ρ' (.ref i) (.ref D) → Kx i σ' →
      compPost (model PR w) A E use Q (.ref D) C (.ok .next) s') :
    wpAny (model PR w) A (pyIter a) (fun it s₂ => wpAny (model PR w) A (newList []) (fun acc s₃ => wpAny (model PR w) A (newFunctionEnv scope env.globals cl [] env.qual none .none (some env)) (fun ce s₄ =>
      codeAny (model PR w) A (.compStart (.ListComp elt [⟨target, iter, ifs, 0⟩] scope pos) 0 it acc { ce with scope := relabel scope env }) (compPost (model PR w) A E use Q acc ce.locals) s₄) E s₃) E s₂) E s := by
  refine ex5 h fun i loc n Inv up jk => ?_
  refine and5 jk fun hi hloc itH hInv jl => ?_
  clear jk
  refine ex1 jl fun J jk => ?_
  refine and4 jk fun j0 inv turn last => ?_
  clear jk jl h
  refine itH σ fm ρ s a _ E O r hInv v₁ fun I ob S h' tk hd self hI hk' hob s0 => ?_
  refine comp_enter (Q := fun acc ce s₄ => codeAny (model PR w) A (.compStart (.ListComp elt [⟨target, iter, ifs, 0⟩] scope pos) 0 (.ref I) acc ce) (compPost (model PR w) A E use Q acc ce.locals) s₄) i loc O r hk' hi hcl hnd hloc fun C D h4 hb hab l₃ O' r₄ => ?_
  have vD : VR (ρ.upd i D) (.ref i) (.ref D) := ⟨_, Rho.upd_self, rfl⟩
  obtain ⟨hI4, hIC, hDI⟩ := hb I ob hob
  have loop : codeAny (model PR w) A (.compLoop (.ListComp elt [⟨target, iter, ifs, 0⟩] scope pos) 0 (.ref I) (.ref D) (cenv scope cl env C)) (compPost (model PR w) A E use Q (.ref D) C) { s with heap := h4, toks := tk } := by
    refine comp_loop (hd C) inv (turn C) l₃ O' r₄ (comp_apart r hI hIC hDI hcl hab) j0 hI4 s0 vD ht fun ρ' σ' s' l' r' jn => ?_
    have co := comp_out O r (fun b o e => (hb b o (hk' b o e)).2.1) (l₃.trans l') r'
    exact fin i C D ρ' σ' s' (l₃.trans l') co.1 co.2.1 co.2.2 (vD.mono l') (last σ' jn)
  exact codeAny_compStart_list loop (self _ _ _ ob hI4 s0 loop)

theorem we_comp {elt target iter : Expr} {ifs : List Expr} {scope : Scope} {cl : List (Str × Addr)} {K : V → St → Prop}
    (h : WE false w B env A iter σ fun v σ₁ => CompI w B env A elt target ifs scope cl v σ₁ fun i σ' => K (.ref i) { loc := σ₁.loc, obj := σ'.obj, free := σ'.free })
    (hclos : closureFor scope env = pure cl) (hcl : ∀ p ∈ cl, p ∈ env.cells) (hnd : ∀ n, ((cellsFrom n scope.names [] ++ cl).map (·.1)).Nodup) (hnames : ∀ x ∈ scope.names, x.2 = .local → scope.names.lookup x.1 = some .local)
    (hkind : scope.kind = .function := by rfl) (hs : ∀ y, foldedSetIterable iter env y = pure y := by intro _; rfl) (ht : ∀ it v, letOwnedTupleGo target it v = pure () := by intro _ _; rfl) :
    WE g w B env A (.ListComp elt [⟨target, iter, ifs, 0⟩] scope pos) σ K := fun fm ρ s Q E O r q => by
  refine wpG_of ?_
  rw [eval_ListComp]
  refine wpAny_comprehension_free (use := none) rfl hs hclos hkind hnames ?_
  refine wpG_any (h fm ρ s _ E O r fun v σ₁ ρ₁ a s₁ l₁ r₁ v₁ h₁ => ?_)
  refine comp_run O r₁ v₁ h₁ hcl hnd ht fun i C D ρ' σ' s' l' hm r' ap' vi kk => ?_
  obtain ⟨m, hm⟩ := hm
  exact ⟨m, hm, fun h₆ hs₆ => q (.ref i) _ ρ' _ _ (l₁.trans l') (r'.besides s'.toks ap' hs₆.extBut) vi kk⟩
end
end Mine
end
section
set_option maxRecDepth 100000
set_option autoImplicit false
namespace Mine
open PySem PySem.Calls PySem.Spec PyProof.Rows PySem.W

noncomputable def PlainV : V → Prop
  | .raw _ => False
  | _ => True
theorem PlainV.handed {ρ : Rho} {v : V} {x : Value} (h : PlainV v) (hv : VR ρ v x) : handedIn x = true := by
  cases v with
  | raw r => exact h.elim
  | none => cases hv; rfl
  | bool b => cases hv; rfl
  | int i => obtain ⟨t, rfl⟩ := hv; rfl
  | str i => obtain ⟨t, rfl⟩ := hv; rfl
  | bytes i => obtain ⟨t, rfl⟩ := hv; rfl
  | ref i => obtain ⟨a, _, rfl⟩ := hv; rfl
theorem lookup_lset {x y : Str} {v : V} : ∀ {l : List (Str × V)}, (lset x v l).lookup y = if y = x then some v else l.lookup y
  | [] => by
    unfold lset
    by_cases h : y = x
    · subst h; simp
    · rw [if_neg h, List.lookup_cons, beq_eq_false_iff_ne.mpr h]
  | (z, u) :: l => by
    unfold lset
    by_cases hz : z = x
    · rw [if_pos hz]
      by_cases h : y = x
      · subst h; simp
      · rw [if_neg h, List.lookup_cons, beq_eq_false_iff_ne.mpr h, List.lookup_cons, beq_eq_false_iff_ne.mpr (by rw [hz]; exact h)]
        dsimp only
        induction l with
        | nil => rfl
        | cons p l ih =>
          obtain ⟨a, b⟩ := p
          rw [List.filter_cons, List.lookup_cons]
          by_cases ha : a = x
          · subst ha
            rw [if_neg (by simp), beq_eq_false_iff_ne.mpr h]; exact ih
          · rw [if_pos (by simpa using ha), List.lookup_cons, ih]
    · rw [if_neg hz, List.lookup_cons, List.lookup_cons, lookup_lset (l := l)]
      by_cases hy : y = z
      · subst hy
        simp [hz]
      · rw [beq_eq_false_iff_ne.mpr hy]

section
variable {g : Bool} {w : World} {B : Heap} {env : Env} {A : Around} {σ : St} {K : V → St → Prop} {pos px apos : Pos}
theorem look_of {ds : Array DictEntry} {name : Str} {n : Nat} {c d : _} {sl : _} {y : Value} (hf : nsFind ds name = some y) : lookIn name ⟨c, d, .dict ds n, sl⟩ = some (some y) := by
  unfold lookIn
  dsimp only
  unfold nsFind findBy at hf
  rw [← Array.find?_toList] at hf
  cases e : ds.toList.find? (·.key.isStr name) with
  | none => rw [e] at hf; cases hf
  | some en => rw [e] at hf; cases hf; rfl
theorem Rel.inst {fm : Fm} {ρ : Rho} {s : Shared} {j d : Nat} {C : Addr} {es : List (Str × V)} {x : Value} (r : Rel w env fm ρ σ s) (hj : σ.obj j = some (.inst C d)) (hd : σ.obj d = some (.attrs es)) (hx : VR ρ (.ref j) x) :
    ∃ a da od ds n, x = .ref a ∧ ρ d = some da ∧ s.heap.get? a = some { cls := .ref C, dict := some da, data := .plain } ∧ s.heap.get? da = some od ∧ od.data = .dict ds n ∧ ds.size ≤ es.length ∧ AttrsAre ρ es ds ∧
      InstAt s.heap a { cls := .ref C, dict := some da, data := .plain } C (some od) := by
  obtain ⟨a, ob, rfl, e, g, ⟨da, h1, rfl⟩, own⟩ := r.at hj hx
  obtain ⟨da', od, p, g', ⟨ds, n, h2, h3, h4⟩, own'⟩ := r.obj d _ hd
  rw [h1] at p; cases p
  exact ⟨a, da, od, ds, n, rfl, h1, g, g', h2, h3, h4, g, rfl, rfl, g'⟩
theorem ga_inst {j d : Nat} {C : Addr} {es : List (Str × V)} {name : Str} {v : V} (HB : BaseOk w B) (hj : σ.obj j = some (.inst C d)) (hd : σ.obj d = some (.attrs es)) (hv : es.lookup name = some v) (hp : PlainV v) (h : K v σ)
    (hg : plainGet (KK w.params) C name = true := by kernel_rfl) (hh : hasDictIn (KK w.params) C = true := by kernel_rfl) (ha : findIn (KK w.params) (.ref C) name = some none := by kernel_rfl) :
    W1 g w B env A (fun a => getAttr a name true) VR (.ref j) σ K := by
  rintro fm ρ s x Q E O r hx q
  obtain ⟨a, da, od, ds, n, rfl, h1, g1, g2, h2, h3, ⟨_, _, h6⟩, I⟩ := r.inst hj hd hx
  obtain ⟨y, hy, vr⟩ := h6 name v hv
  obtain ⟨oc, odd, oda, osl⟩ := od
  dsimp only at h2
  subst h2
  exact wpG_of (get_value (r.inK HB O) I (plainGet_of hg).1 (findObj_own hh ha rfl (look_of hy)) (hp.handed vr) (q v σ ρ y _ ρ.le_refl (r.tok _) vr h))
theorem we_attr {o : Expr} {name : Str} (h : WE false w B env A o σ fun ov σ₁ => W1 false w B env A (fun a => getAttr a name true) VR ov σ₁ K) (hbase : attributeBase o name env (eval o env) = eval o env := by rfl) :
    WE g w B env A (.Attribute o name apos) σ K := fun fm ρ s Q E O r q => wpG_of <| by
  rw [arm_eval_Attribute, hbase]
  refine wpAny_bind (wpG_any (h fm ρ s _ E O r fun ov σ₁ ρ₁ a s₁ l₁ r₁ v₁ h₁ => ?_))
  refine wpAny_bind (wpAny_standAt ?_)
  refine wpAny_bind (wpAny_holding (wpG_any (h₁ fm ρ₁ s₁ a _ E O r₁ v₁ fun v σ' ρ' c s' l' r' vr kk => ?_)))
  exact wpAny_bind (wpAny_letTemporaryGo (wpAny_pure (q v σ' ρ' c s' (l₁.trans l') r' vr kk)))
end
end Mine
end
section
set_option maxRecDepth 100000
set_option autoImplicit false
namespace Mine
open PySem PySem.Calls PySem.Spec PyProof.Rows PySem.W

theorem lset_length {x : Str} {v : V} : ∀ {l : List (Str × V)}, (l.map (·.1)).Nodup → (lset x v l).length = if (l.lookup x).isSome then l.length else l.length + 1
  | [], _ => rfl
  | (z, u) :: l, hn => by
    rw [List.map_cons, List.nodup_cons] at hn
    unfold lset
    by_cases hz : z = x
    · subst hz
      have : l.filter (fun p => p.1 ≠ z) = l := List.filter_eq_self.mpr fun p hp => by
        have : p.1 ≠ z := fun e => hn.1 (e ▸ List.mem_map.mpr ⟨p, hp, rfl⟩)
        simpa using this
      rw [if_pos rfl, List.length_cons, this, List.lookup_cons, beq_self_eq_true]
      rfl
    · rw [if_neg hz, List.length_cons, lset_length hn.2, List.lookup_cons, beq_eq_false_iff_ne.mpr (Ne.symm hz)]
      dsimp only
      split <;> simp

section
variable {g : Bool} {w : World} {B : Heap} {env : Env} {A : Around} {σ : St} {pos px apos : Pos}
theorem sa_inst {j d : Nat} {C : Addr} {es : List (Str × V)} {name : Str} {v : V} {K : Unit → St → Prop} (HB : BaseOk w B) (hj : σ.obj j = some (.inst C d)) (hd : σ.obj d = some (.attrs es)) (hz : es.length ≤ 100) (hnd : (es.map (·.1)).Nodup)
    (h : K () (σ.put d (.attrs (lset name v es)))) (hs : findIn (KK w.params) (.ref C) "__setattr__" = some (some (.builtin "object.__setattr__")) := by kernel_rfl) (hp : plainOver (KK w.params) C = true := by kernel_rfl)
    (ht : takerIn (KK w.params) C name = some none := by kernel_rfl) (hh : hasDictIn (KK w.params) C = true := by kernel_rfl) : W2 g w B env A (fun a b => setAttr a name b) UR (.ref j) v σ K := by
  rintro fm ρ s x y Q E O r hx hy q
  obtain ⟨a, da, od, ds, n, rfl, h1, g1, g2, h2, h3, ⟨h4, h5, h6⟩, I⟩ := r.inst hj hd hx
  have X := r.inK HB O
  have X' : (KK w.params).In ({ s with toks := s.toks + 1 } : Shared).heap := X
  refine wpG_of (set_plain X I hs (osa_open (s := { s with toks := s.toks + 1 }) X' I hp ht fun b => ?_))
  obtain ⟨cd, hc, hd'⟩ := any_some hh
  refine wpAny_bind (wpAny_pure (wpAny_bind (wpAny_bind (wpAny_loadPart g1 (wpAny_bind ((looks_clsIn X' hc).here ?_))))))
  rw [hd']
  refine wpAny_pure (a := some da) (wpAny_bind (wpAny_pure (wpAny_bind ?_)))
  obtain ⟨oc, odd, oda, osl⟩ := od
  dsimp only at h2
  subst h2
  unfold nsSet
  refine wpAny_bind (wpAny_bind (wpAny_askSetting (wpAny_pure (wpAny_bind (wpAny_mkText (wpAny_bind (wpAny_loadPart g2 ?_)))))))
  have hany : ds.any (·.refKey) = false := by
    rw [Array.any_eq_false']; intro e he; obtain ⟨n, t, h⟩ := h4 e he; simp [DictEntry.refKey, h]
  dsimp only
  rw [aRefKeyMayBeTheName_at, hany, Bool.and_false]
  refine wpAny_updatePart g2 ?_
  generalize (if name.cps.isEmpty = true then 0 else reduceHash ((model PR w).w.params.strHash name.cps)) = hsh
  have key : ∃ ds' n', Obj.putName name hsh (.str name (s.toks + 1)) y ⟨oc, odd, .dict ds n, osl⟩ = ⟨oc, odd, .dict ds' n', osl⟩ ∧ StrKeys ds' ∧ (∀ z, nsFind ds' z = if z = name then some y else nsFind ds z) ∧
      ds'.size = if (nsFind ds name).isSome then ds.size else ds.size + 1 := by
    rw [Obj.putName_eq]
    simp only [Obj.putNameByArray]
    cases hi : ds.findIdx? (·.key.isStr name) with
    | some i =>
      refine ⟨_, _, rfl, h4.modify _ _, fun z => findBy_modify (fun n v => v.isStr n) Value.isStr_inj ds name z y i hi, ?_⟩
      have : (nsFind ds name).isSome = true := by
        unfold nsFind findBy
        rw [Option.isSome_map, Array.find?_isSome]
        obtain ⟨hlt, hq, _⟩ := Array.findIdx?_eq_some_iff_getElem.mp hi
        exact ⟨ds[i], Array.getElem_mem hlt, hq⟩
      rw [if_pos this]; simp
    | none =>
      refine ⟨_, _, rfl, h4.push _ _ _ _, fun z => findBy_push (fun n v => v.isStr n) ds name z _ _ y (fun y => by
        show (name == y) = decide (y = name)
        by_cases e : y = name
        · subst e; simp
        · rw [decide_eq_false e]; exact beq_eq_false_iff_ne.mpr (Ne.symm e)) hi, ?_⟩
      have : (nsFind ds name).isSome = false := by
        unfold nsFind findBy
        rw [Option.isSome_map]
        have hno := Array.findIdx?_eq_none_iff.mp hi
        cases hq : ds.find? (·.key.isStr name) with
        | none => rfl
        | some en =>
          have h1 := Array.mem_of_find?_eq_some hq
          have h2 := Array.find?_some hq
          have h3 := hno en h1
          rw [h3] at h2; cases h2
      rw [this]; simp
  obtain ⟨ds', n', e1, e2, e3, e4⟩ := key
  have hsz : ds'.size ≤ (lset name v es).length := by
    rw [e4, lset_length hnd]
    have : (nsFind ds name).isSome = (es.lookup name).isSome := by
      have := h5 name
      cases p : nsFind ds name <;> cases q : es.lookup name <;> simp_all
    rw [this]
    split <;> lia
  have g3 := Heap.get?_update_self (Obj.putName name hsh (.str name (s.toks + 1)) y) g2 (by rw [e1]; rfl)
  rw [e1] at g3
  refine wpAny_bind (wpAny_lookBehind g3 (pastItsLine_dict (Nat.le_trans (m := 101) ?_ (by decide))) ?_)
  · rw [e4]; split <;> lia
  refine wpAny_pure (q () _ ρ () _ ρ.le_refl (r.put (o := .attrs (lset name v es)) (s.toks + 1 + 1) hd h1 (Heap.SameBut.update ..).extBut g3 ⟨ds', n', rfl, hsz, e2, fun z => ?_, fun z u hu => ?_⟩) trivial h)
  · rw [e3, lookup_lset]
    by_cases hzn : z = name
    · simp [hzn]
    · rw [if_neg hzn, if_neg hzn]; exact h5 z
  · rw [lookup_lset] at hu
    rw [e3]
    by_cases hzn : z = name
    · rw [if_pos hzn] at hu ⊢; cases hu; exact ⟨y, rfl, hy⟩
    · rw [if_neg hzn] at hu ⊢; exact h6 z u hu
end
end Mine
end
section
set_option maxRecDepth 100000
set_option autoImplicit false
namespace Mine
open PySem PySem.Calls PySem.Spec PyProof.Rows PySem.W

section
variable {g : Bool} {w : World} {B : Heap} {env : Env} {A : Around} {σ : St} {fm : Fm} {ρ : Rho} {s : Shared}

theorem FmOk.around {A' : Around} (O : FmOk B env A fm) (h : A'.frames = A.frames) : FmOk B env A' fm :=
  ⟨fun e => h.trans (O.frs e), O.frok, O.base, O.locs, O.cels, O.dj, O.apart, O.outs⟩
theorem AOk.less {n m : Nat} (h : AOk n A) (hm : m ≤ n) : AOk m A := ⟨by have := h.depth; lia, by have := h.units; lia, h.handled, h.guards⟩

/- a call as a code -/
noncomputable def CC (g : Bool) (w : World) (B : Heap) (env : Env) (A : Around) (f : Value) (vs : List V) (σ : St) (K : V → St → Prop) : Prop :=
  ∀ fm ρ s xs (R : Result → Shared → Prop), FmOk B env A fm → Rel w env fm ρ σ s → LR ρ vs xs → (∀ v σ' ρ' c s', ρ.le ρ' → Rel w env fm ρ' σ' s' → VR ρ' v c → K v σ' → R (.ok (.ret c)) s') →
    codeG g (model PR w) A (.call f ⟨xs, []⟩) R s
theorem CC.wc {f : Value} {vs : List V} {K : V → St → Prop} (h : CC g w B env A f vs σ K) : WC g w B env A f vs σ K := fun fm ρ s xs Q E O r hv q =>
  wpG_call (h fm ρ s xs _ O r hv fun v σ' ρ' c s' l r' vr kk => q v σ' ρ' c s' l r' vr kk)
theorem CC.mono {f : Value} {vs : List V} {K K' : V → St → Prop} (h : CC g w B env A f vs σ K) (hK : ∀ b σ', K b σ' → K' b σ') : CC g w B env A f vs σ K' :=
  fun fm ρ s xs R O r l q => h fm ρ s xs R O r l fun b σ' ρ' a s' l r' e k => q b σ' ρ' a s' l r' e (hK b σ' k)

theorem codeG_call_bind {prog : Program} {R : Result → Shared → Prop} {a : Addr} {o : Obj} {fd : FuncData} {body : List Stmt} {vals : List Value}
    (hroom : A.depth < recursionLimit) (ho : s.heap.get? a = some o) (hdata : o.data = .func fd) (hcd : s.heap.CodeRec fd.code fd.qualname)
    (hbody : fd.body = .stmts body) (hclo : fd.closure = [])
    (hbind : wpG g (model prog w) A.in1 (bindArgs fd ⟨vals, []⟩) (fun binds s₀ => s₀.heap.NoLimit ∧
      (∀ x ∈ binds, fd.scope.names.lookup x.1 = some .local ∨ (fd.scope.names.lookup x.1 = some .cell ∧ ((cellsFrom (s₀.heap.objs.size + 1) fd.scope.names []).lookup x.1).isSome = true)) ∧
      ∀ s₁, InCallC s₀ (callEnvC fd s₀.heap.objs.size a).locals (bindL (callEnvC fd s₀.heap.objs.size a).kindOf binds fun _ => none) (callEnvC fd s₀.heap.objs.size a).cells
        (bindC (callEnvC fd s₀.heap.objs.size a).kindOf binds fun _ => none) s₁ →
      wpG g (model prog w) (A.deeper (callEnvC fd s₀.heap.objs.size a)) (execs body (callEnvC fd s₀.heap.objs.size a)) (fun f s' => R (.ok (.ret (match f with | .ret v => v | _ => .none))) s')
        (fun _ _ => False) s₁) (fun _ _ => False) s)
    (hco : fd.scope.isCoroutine = false) (hgen : fd.scope.isGenerator = false) (hk : fd.scope.kind = .function) :
    codeG g (model prog w) A (.call (.ref a) ⟨vals, []⟩) R s := by
  refine codeG_of_tree rfl ?_
  show wpG g _ A.in1 (callAny (.ref a) ⟨vals, []⟩) _ _ s
  simp only [callAny]
  refine wpG_bind (wpG_of (wpAny_load ho ?_))
  obtain ⟨c, oc, vs, tq, hc, hoc, hdc, hq⟩ := hcd
  simp only [hdata, callFunction, hco, hgen, hbody, hc]
  refine wpG_bind (m := field (.ref c) 1) (wpG_of (wpAny_field hoc hdc hq ?_))
  refine wpG_bind (wpG_pure ?_)
  refine wpG_bind (wpG_mono hbind (fun bs s₁ e => ?_) fun _ _ e => e.elim)
  obtain ⟨hlim, hkind, h⟩ := e
  rw [hclo, ← hc]
  refine wpG_bind (wpG_of (wpAny_newFunctionEnv_cells hk hkind fun env he s' x => ?_))
  subst he
  exact wpG_bind (wpG_of (wpAny_enterFrame (hlim.keeps x.toInCall.keep) hroom (wpG_pure ⟨rfl, codeG_func (h s' x)⟩)))

/- how the arguments are bound: the names ns to the values us, in the state σ₀ -/
noncomputable def BindTo (g : Bool) (w : World) (B : Heap) (env : Env) (A : Around) (fd : FuncData) (ns : List Str) (vs : List V) (σ : St) (us : List V) (σ₀ : St) : Prop :=
  ∀ fm ρ s xs (Q : List (Str × Value) → Shared → Prop), FmOk B env A fm → Rel w env fm ρ σ s → LR ρ vs xs →
    (∀ ρ₀ ys s₀, ρ.le ρ₀ → Rel w env fm ρ₀ σ₀ s₀ → LR ρ₀ us ys → Q (ns.zip ys) s₀) → wpG g (model PR w) A.in1 (bindArgs fd ⟨xs, []⟩) Q (fun _ _ => False) s

theorem cc_def {n : Nat} {fa : Addr} {fd : FuncData} {body : List Stmt} {ns : List Str} {vs us : List V} {σ₀ : St} {K : V → St → Prop} (HB : BaseOk w B) (D : DefOk w fa fd body ns)
    (hbind : BindTo g w B env A fd ns vs σ us σ₀) (hloc : σ₀.loc = σ.loc) (hA : AOk (n + 1) A) (hf : env.frame = some env.locals) (hkind : env.scope.kind = .function)
    (h : ∀ L A', AOk n A' → WS g w B (callEnvC fd L fa) A' body { loc := ns.zip us, obj := σ₀.obj, free := σ₀.free } fun fl σ' => K (retOf fl) { σ with obj := σ'.obj, free := σ'.free }) :
    CC g w B env A (.ref fa) vs σ K := fun fm ρ s xs R O r hv q => by
  obtain ⟨ob, hob, hd⟩ := D.obj
  obtain ⟨p, l, m, mg, mb, T⟩ := HB.top
  have hX := r.inK HB O
  refine codeG_call_bind (fd := fd) (body := body) (by have := hA.depth; lia) (hX _ _ hob) hd (codeRec_of hX D.code) D.body D.clo ?_ D.co D.gen D.fn
  refine hbind fm ρ s xs _ O r hv fun ρ₀ ys s₀ l₀ r₀ hv₀ => ⟨T.nolimit.keeps (r₀.base O), fun x hx => ?_, fun s₁ ic => ?_⟩
  · obtain ⟨i, h1, _⟩ := zip_at (x := x.1) (v := x.2) hx
    exact D.kinds _ x.1 (List.mem_of_getElem? h1)
  · have O' := O.inner r₀ hf hkind (env' := callEnvC fd s₀.heap.objs.size fa) rfl rfl ic
    have r' := Rel.enter (loc := ns.zip us) O r₀ (env' := callEnvC fd s₀.heap.objs.size fa) rfl ic (fun x hx hl => ?_) (fun x hx hl => ?_) (D.cellsNodup _)
    · refine h _ _ hA.deeper _ _ _ _ _ O' r' fun fl σ' ρ' a s' le r'' fr kk => ?_
      have rb := Rel.leave O r₀ le r''
      rw [hloc] at rb
      cases fl with
      | ret v => obtain ⟨x, rfl, vr⟩ := fr; exact q v _ _ _ _ (l₀.trans le) rb vr kk
      | next => cases fr; exact q .none _ _ _ _ (l₀.trans le) rb rfl kk
      | brk => cases fr; exact q .none _ _ _ _ (l₀.trans le) rb rfl kk
      | cont => cases fr; exact q .none _ _ _ _ (l₀.trans le) rb rfl kk
    · obtain ⟨i, h1, h2⟩ := zip_at (x := x.1) (v := x.2) hx
      obtain ⟨y, h3, h4⟩ := hv₀.get h2
      exact ⟨y, bindL_get D.nodup h1 h3 hl, h4⟩
    · obtain ⟨i, h1, h2⟩ := zip_at (x := x.1) (v := x.2) hx
      obtain ⟨y, h3, h4⟩ := hv₀.get h2
      have hk := D.kinds (s₀.heap.objs.size + 1) x.1 (List.mem_of_getElem? h1)
      rcases hk with hk | ⟨_, hk⟩
      · exact absurd hk hl
      · obtain ⟨c, hc⟩ := Option.isSome_iff_exists.mp hk
        exact ⟨c, y, hc, bindC_get D.nodup h1 h3 hl, h4⟩

theorem bind_plain {fd : FuncData} {ns : List Str} {vs : List V} (hlen : vs.length = ns.length) (hb : ∀ xs : List Value, xs.length = ns.length → bindArgs fd ⟨xs, []⟩ = pure (ns.zip xs)) : BindTo g w B env A fd ns vs σ vs σ :=
  fun fm ρ s xs Q O r hv q => by
    rw [hb xs (hv.length ▸ hlen)]
    exact wpG_pure (q ρ xs s ρ.le_refl r hv)

/- an object of a class is made -/
theorem cc_class {n : Nat} {C fI : Addr} {i d : Nat} {vs : List V} {K : V → St → Prop} (o : O) (HB : BaseOk w B) (ho : o = .inst C d ∨ o = .slots C d []) (hA : AOk (n + 1) A) (hi : σ.free i) (hd : σ.free d) (hid : i ≠ d)
    (h : ∀ A', AOk n A' → CC false w B env A' (.ref fI) (.ref i :: vs) ((σ.new d (.attrs [])).new i o) fun v σ' => v = .none ∧ K (.ref i) σ')
    (hm : makesIn (KK w.params) C = true := by kernel_rfl) (hI : findIn (KK w.params) (.ref C) "__init__" = some (some (.ref fI)) := by kernel_rfl) (hf : typeIn (KK w.params) (.ref fI) = some (.type "function") := by kernel_rfl) :
    CC g w B env A (.ref C) vs σ K := fun fm ρ s xs R O r hv q => by
  have X := r.inK HB O
  obtain ⟨hh, gg, dr, t, os⟩ := s
  refine codeG_of (make_core (makes_of X hm) (looks_findIn X hI) (fun self => bind_fn X self hf) (.inl rfl) ?_)
  obtain ⟨l1, r1, v1⟩ := r.push (i := d) (o := .attrs []) t hd (ob := emptyDict) rfl ⟨#[], _, rfl, Nat.le_refl _, fun e he => (nomatch he), fun x => ⟨fun _ => rfl, fun _ => rfl⟩, fun x v e => nomatch e⟩
  obtain ⟨l2, r2, v2⟩ := r1.push (i := i) (o := o) t ⟨hi, hid⟩ (ob := instObj C hh.objs.size) rfl (by
    rcases ho with rfl | rfl
    · exact ⟨hh.objs.size, by simp [Rho.upd, Ne.symm hid], rfl⟩
    · exact ⟨hh.objs.size, #[], by simp [Rho.upd, Ne.symm hid], rfl, trivial⟩)
  have hA' : AOk n (A.under (.builtin "type.__call__" ⟨.ref C :: xs, []⟩)) := by
    refine ⟨?_, ?_, hA.handled, ?_⟩
    · have := hA.depth
      show A.depth + 1 + n < recursionLimit
      lia
    · have := hA.units
      show A.units + _ + 60 * n + 60 < cLine
      have : Code.cUnits (.builtin "type.__call__" ⟨.ref C :: xs, []⟩) ≤ 4 := by
        show 1 + 3 * Code.frames _ ≤ 4
        have : Code.frames (.builtin "type.__call__" ⟨.ref C :: xs, []⟩) = 0 := rfl
        lia
      lia
    · have hg : Code.guards (.builtin "type.__call__" ⟨.ref C :: xs, []⟩) = [] := by
        unfold Code.guards
        exact if_neg (by show ¬ (guardIds.contains "type.__call__" = true); decide)
      unfold Around.under
      dsimp only
      rw [hg, hA.guards]; rfl
  have hfr : (A.under (.builtin "type.__call__" ⟨.ref C :: xs, []⟩)).frames = A.frames := by
    have hg : Code.envs (.builtin "type.__call__" ⟨.ref C :: xs, []⟩) = [] := rfl
    unfold Around.under
    dsimp only
    rw [hg]; rfl
  refine codeG_any (h _ hA' fm _ _ (.ref (hh.objs.size + 1) :: xs) _ (O.around hfr) r2 ⟨?_, hv.mono (l1.trans l2)⟩ fun v σ' ρ' c s' l' r' vr kk => ?_)
  · refine ⟨_, ?_, rfl⟩
    have : (hh.push emptyDict).objs.size = hh.objs.size + 1 := Heap.size_push ..
    show (if i = i then some (hh.push emptyDict).objs.size else _) = _
    rw [if_pos rfl, this]
  · obtain ⟨rfl, kk⟩ := kk
    cases vr
    refine ⟨rfl, q (.ref i) σ' ρ' _ s' ((l1.trans l2).trans l') r' ⟨_, l' _ _ ?_, rfl⟩ kk⟩
    have : (hh.push emptyDict).objs.size = hh.objs.size + 1 := Heap.size_push ..
    show (if i = i then some (hh.push emptyDict).objs.size else _) = _
    rw [if_pos rfl, this]
end
end Mine
end
section
set_option maxRecDepth 100000
set_option autoImplicit false
namespace Mine
open PySem PySem.Calls PySem.Spec PyProof.Rows PySem.W Builtin Builtin.ObjectAttr Builtin.Getset_descriptor

theorem SR.get {ρ : Rho} : ∀ {vs : List (Option V)} {xs : List (Option Value)}, SR ρ vs xs → ∀ {i : Nat} {v : V}, vs[i]? = some (some v) → ∃ x, xs[i]? = some (some x) ∧ VR ρ v x := by
  intro vs
  induction vs with
  | nil => intro xs _ i v e; cases e
  | cons o vs ih => intro xs h i v e; cases xs with
    | nil => exact h.elim
    | cons x xs => cases i with
      | zero => cases e; cases x with
        | none => exact h.1.elim
        | some x => exact ⟨x, rfl, h.1⟩
      | succ i => exact ih h.2 (i := i) e
theorem SR.length {ρ : Rho} : ∀ {vs : List (Option V)} {xs : List (Option Value)}, SR ρ vs xs → vs.length = xs.length
  | [], [], _ => rfl
  | _ :: _, _ :: _, ⟨_, b⟩ => congrArg (· + 1) (SR.length b)
theorem SR.append {ρ : Rho} : ∀ {vs ws : List (Option V)} {xs ys : List (Option Value)}, SR ρ vs xs → SR ρ ws ys → SR ρ (vs ++ ws) (xs ++ ys)
  | [], _, [], _, _, h => h
  | _ :: _, _, _ :: _, _, ⟨a, b⟩, h => ⟨a, SR.append b h⟩
theorem SR.nones {ρ : Rho} : ∀ n : Nat, SR ρ (List.replicate n none) (List.replicate n none)
  | 0 => trivial
  | n + 1 => ⟨trivial, SR.nones n⟩
theorem SR.set {ρ : Rho} {v : V} {x : Value} (hv : VR ρ v x) : ∀ {vs : List (Option V)} {xs : List (Option Value)} {i : Nat}, SR ρ vs xs → SR ρ (vs.set i (some v)) (xs.set i (some x))
  | [], [], _, _ => trivial
  | _ :: _, _ :: _, 0, ⟨_, b⟩ => ⟨hv, b⟩
  | _ :: _, _ :: _, _ + 1, ⟨a, b⟩ => ⟨a, SR.set hv b⟩
noncomputable def putSlot (xs : List (Option V)) (i : Nat) (v : V) : List (Option V) := (xs ++ List.replicate (i + 1 - xs.length) none).set i (some v)

section
variable {g : Bool} {w : World} {B : Heap} {env : Env} {A : Around} {σ : St} {pos px apos : Pos}
theorem Rel.slots {fm : Fm} {ρ : Rho} {s : Shared} {j d : Nat} {C : Addr} {xs : List (Option V)} {es : List (Str × V)} {x : Value} (r : Rel w env fm ρ σ s) (hj : σ.obj j = some (.slots C d xs)) (hd : σ.obj d = some (.attrs es)) (hx : VR ρ (.ref j) x) :
    ∃ a da od sl, x = .ref a ∧ ρ j = some a ∧ ρ d = some da ∧ s.heap.get? a = some { cls := .ref C, dict := some da, data := .plain, slots := sl } ∧ SR ρ xs sl.toList ∧
      InstAt s.heap a { cls := .ref C, dict := some da, data := .plain, slots := sl } C (some od) := by
  obtain ⟨a, ob, rfl, e, g, ⟨da, sl, h1, rfl, h2⟩, own⟩ := r.at hj hx
  obtain ⟨da', od, p, g', _⟩ := r.obj d _ hd
  rw [h1] at p; cases p
  exact ⟨a, da, od, sl, rfl, e, h1, g, h2, g, rfl, rfl, g'⟩
theorem ga_slot {j d i : Nat} {C p : Addr} {xs : List (Option V)} {es : List (Str × V)} {name : Str} {v : V} {K : V → St → Prop} (HB : BaseOk w B) (hj : σ.obj j = some (.slots C d xs)) (hd : σ.obj d = some (.attrs es)) (hi : slotIn (KK w.params) p C = some i)
    (hv : xs[i]? = some (some v)) (hp : PlainV v) (h : K v σ) (ha : findIn (KK w.params) (.ref C) name = some (some (.ref p)))
    (hg : plainGet (KK w.params) C name = true := by kernel_rfl) (hc : isClsIn (KK w.params) C = true := by kernel_rfl)
    (hn : specialIn (KK w.params) (.ref p) "__get__" = some (some (.builtin "member_descriptor.__get__")) := by kernel_rfl) (ht : takesIn (KK w.params) (.ref p) = some true := by kernel_rfl) :
    W1 g w B env A (fun a => getAttr a name true) VR (.ref j) σ K := by
  rintro fm ρ s x Q E O r hx q
  obtain ⟨a, da, od, sl, rfl, h1, h2, g1, sr, I⟩ := r.slots hj hd hx
  obtain ⟨y, hy, vr⟩ := sr.get hv
  have X := r.inK HB O
  refine wpG_of (get_bind X I (plainGet_of hg).1 (findObj_data hc ha hn ht) (plainGet_of hg).2 (wpAny_call (slot_get (s := { s with toks := s.toks + 1 }) X I hi ?_ (handed_on (hp.handed vr) (q v σ ρ y _ ρ.le_refl (r.tok _) vr h)))))
  dsimp only
  rw [← Array.getElem?_toList, hy]; rfl

theorem sa_slot {j d i : Nat} {C p : Addr} {xs : List (Option V)} {es : List (Str × V)} {name : Str} {v : V} {K : Unit → St → Prop} (HB : BaseOk w B) (hj : σ.obj j = some (.slots C d xs)) (hd : σ.obj d = some (.attrs es)) (hi : slotIn (KK w.params) p C = some i)
    (hz : i < 1000) (h : K () (σ.put j (.slots C d (putSlot xs i v)))) (ht : takerIn (KK w.params) C name = some (some (.ref p)))
    (hs : findIn (KK w.params) (.ref C) "__setattr__" = some (some (.builtin "object.__setattr__")) := by kernel_rfl) (hp : plainOver (KK w.params) C = true := by kernel_rfl)
    (hT : typeIn (KK w.params) (.ref p) = some (.type "member_descriptor") := by kernel_rfl) : W2 g w B env A (fun a b => setAttr a name b) UR (.ref j) v σ K := by
  rintro fm ρ s x y Q E O r hx hy q
  obtain ⟨a, da, od, sl, rfl, h1, h2, g1, sr, I⟩ := r.slots hj hd hx
  have X := r.inK HB O
  have X' : (KK w.params).In ({ s with toks := s.toks + 1 } : Shared).heap := X
  refine wpG_of (set_plain X I hs (osa_descr (s := { s with toks := s.toks + 1 }) KF.slot_mset X I hp ht hT ?_))
  obtain ⟨n, tn, owner, behind, tb, dd, ssl, cd, ho, hc, hm, hb, rfl⟩ := slot_of X hi
  have hput : (s.heap.update a (fun o => { o with slots := (o.slots ++ Array.replicate (cd.slotNames.length - 1 - behind.toNat + 1 - o.slots.size) none).setIfInBounds (cd.slotNames.length - 1 - behind.toNat) (some y) })).get? a =
      some { cls := .ref C, dict := some da, data := .plain, slots := (sl ++ Array.replicate (cd.slotNames.length - 1 - behind.toNat + 1 - sl.size) none).setIfInBounds (cd.slotNames.length - 1 - behind.toNat) (some y) } :=
    Heap.get?_update_self (fun o => { o with slots := (o.slots ++ Array.replicate (cd.slotNames.length - 1 - behind.toNat + 1 - o.slots.size) none).setIfInBounds (cd.slotNames.length - 1 - behind.toNat) (some y) }) g1 rfl
  have fin := q () _ ρ () _ ρ.le_refl (r.put (o := .slots C d (putSlot xs (cd.slotNames.length - 1 - behind.toNat) v)) (s.toks + 1) hj h1 (Heap.SameBut.update ..).extBut hput ⟨da, _, h2, rfl, by
    have hl : sl.size = xs.length := by rw [← Array.length_toList]; exact sr.length.symm
    rw [Array.toList_setIfInBounds, Array.toList_append, Array.toList_replicate, hl]
    exact SR.set hy (sr.append (SR.nones _))⟩) trivial h
  obtain ⟨hh, gg, dr, t, os⟩ := s
  have L0 := I.type (M := model PR w)
  have L1 := looks_mroIn (M := model PR w) X hm
  have L2 : Looks (model PR w) hh (Slots.slotNamesOf (.ref C)) cd.slotNames := (looks_clsIn X hc).andThen .now
  have hx := I.at_
  dsimp only at ho hx L0 L1 fin
  have f0 := looks_field (M := model PR w) ho 0 (v := .str n tn) rfl
  have f1 := looks_field (M := model PR w) ho 1 (v := owner) rfl
  have f3 := looks_field (M := model PR w) ho 3 (v := .builtin "proto.slot#set") rfl
  have f4 := looks_field (M := model PR w) ho 4 (v := .int behind tb) rfl
  refine codeAny_call_builtin KF.slot_mset.plain KF.entry_mset (KF.slot_mset.check _ _ _ _ _ _ _ _ ⟨_, ho, rfl⟩ (KF.args_mset _ _ _) ?_)
  unfold Builtin.«member_descriptor.__set__» descrSet descrStoreThrough descrCheckInstance descrNameAndClass isInstance
  have f5 : Looks (model PR w) hh (descrItself (.ref p)) [.ref p] := ((Looks.ld (part := none) ho).andThen .now).andThen (Looks.of_pure (by kernel_rfl))
  repeat lk
  refine ⟨Code.quiet_builtin _ (by decide +kernel), codeAny_builtin KF.entry_slotset ?_⟩
  unfold Builtin.«proto.slot#set» Slots.target
  repeat lk
  rw [if_neg hb]
  refine wpAny_pure (wpAny_bind ?_)
  unfold setSlotAt
  dsimp only
  rw [if_neg (by rw [sizeLine_eq]; lia)]
  exact wpAny_updatePart hx (wpAny_pure fin)

-- storing an attribute
theorem ws_setattr {o value : Expr} {name : Str} {rest : List Stmt} {K : Fl → St → Prop} (h : WE false w B env A value σ fun v σ₁ => WE false w B env A o σ₁ fun ov σ₂ => W2 false w B env A (fun a b => setAttr a name b) UR ov v σ₂ fun _ σ' => WS g w B env A rest σ' K)
    (hs : swapsWith value (some (.Attribute o name px)) pos.line env = pure false := by rfl) : WS g w B env A (.Assign [.Attribute o name px] value pos :: rest) σ K :=
  ws_cons fun fm ρ s Q E O r q => wpG_of (plainObj_wpAny_Assign_Attribute (wpG_any (h fm ρ s _ E O r fun v σ₁ ρ₁ a s₁ l₁ r₁ v₁ h₁ => wpG_any (h₁ fm ρ₁ s₁ _ E O r₁ fun ov σ₂ ρ₂ b s₂ l₂ r₂ v₂ h₂ =>
    wpG_any (h₂ fm ρ₂ s₂ b a _ E O r₂ v₂ (v₁.mono l₂) fun _ σ' ρ' _ s' l' r' _ kk => q .next _ _ _ _ ((l₁.trans l₂).trans l') r' rfl kk)))) hs)
theorem ws_augattr {o value : Expr} {name : Str} {op : Operator} {rest : List Stmt} {K : Fl → St → Prop} (h : WE false w B env A o σ fun ov σ₁ => W1 false w B env A (fun a => getAttr a name true) VR ov σ₁ fun old σ₂ => WE false w B env A value σ₂ fun v σ₃ =>
      W2 false w B env A (inplaceOp op) VR old v σ₃ fun new σ₄ => W2 false w B env A (fun a b => setAttr a name b) UR ov new σ₄ fun _ σ' => WS g w B env A rest σ' K) : WS g w B env A (.AugAssign (.Attribute o name px) op value pos :: rest) σ K :=
  ws_cons fun fm ρ s Q E O r q => wpG_of (wpAny_AugAssign_AttributeAny (wpG_any (h fm ρ s _ E O r fun ov σ₁ ρ₁ a s₁ l₁ r₁ v₁ h₁ => wpG_any (h₁ fm ρ₁ s₁ a _ E O r₁ v₁ fun old σ₂ ρ₂ b s₂ l₂ r₂ v₂ h₂ =>
    wpG_any (h₂ fm ρ₂ s₂ _ E O r₂ fun v σ₃ ρ₃ c s₃ l₃ r₃ v₃ h₃ => wpG_any (h₃ fm ρ₃ s₃ b c _ E O r₃ (v₂.mono l₃) v₃ fun new σ₄ ρ₄ d s₄ l₄ r₄ v₄ h₄ =>
      wpG_any (h₄ fm ρ₄ s₄ a d _ E O r₄ (v₁.mono ((l₂.trans l₃).trans l₄)) v₄ fun _ σ' ρ' _ s' l' r' _ kk => q .next _ _ _ _ ((((l₁.trans l₂).trans l₃).trans l₄).trans l') r' rfl kk)))))))
theorem op_iadd_int {i j : Int} {K : V → St → Prop} (h : K (.int (i + j)) σ) : W2 g w B env A (inplaceOp .Add) VR (.int i) (.int j) σ K := by
  rintro fm ρ s _ _ Q E O r ⟨t, rfl⟩ ⟨u, rfl⟩ q
  exact wpG_of (PySem.AutoIntOps.iadd_0 (show (Made.int (i + j)).post _ s from q _ _ ρ _ _ ρ.le_refl (r.tok _) vint h))
theorem op_isub_int {i j : Int} {K : V → St → Prop} (h : K (.int (i - j)) σ) : W2 g w B env A (inplaceOp .Sub) VR (.int i) (.int j) σ K := by
  rintro fm ρ s _ _ Q E O r ⟨t, rfl⟩ ⟨u, rfl⟩ q
  exact wpG_of (PySem.AutoIntOps.isub_0 (show (Made.int (i - j)).post _ s from q _ _ ρ _ _ ρ.le_refl (r.tok _) vint h))
end
end Mine
end
section
set_option maxRecDepth 100000
set_option autoImplicit false
namespace Mine
open PySem PySem.Calls PySem.Spec PyProof.Rows PySem.W

section
variable {g : Bool} {w : World} {B : Heap} {env : Env} {A : Around} {σ : St} {pos px apos : Pos} {K : V → St → Prop}
theorem look_none {ds : Array DictEntry} {name : Str} {n : Nat} {c d : _} {sl : _} (hs : StrKeys ds) (hf : nsFind ds name = none) : lookIn name ⟨c, d, .dict ds n, sl⟩ = some none := by
  unfold lookIn
  dsimp only
  unfold nsFind findBy at hf
  rw [← Array.find?_toList] at hf
  cases e : ds.toList.find? (·.key.isStr name) with
  | some en => rw [e] at hf; cases hf
  | none =>
    have hany : ds.toList.any (·.refKey) = false := by
      rw [List.any_eq_false]; intro e he; obtain ⟨n, t, h⟩ := hs e (Array.mem_toList_iff.mp he); simp [DictEntry.refKey, h]
    dsimp only
    rw [hany]; rfl

/- a method of an object -/
theorem we_imeth {o : Expr} {name : Str} {es : List Expr} {C f : Addr} (HB : BaseOk w B)
    (h : WE false w B env A o σ fun ov σ₁ => ∃ j d at', ov = .ref j ∧ σ₁.obj j = some (.inst C d) ∧ σ₁.obj d = some (.attrs at') ∧ at'.lookup name = none ∧ WA false w B env A pos es σ₁ fun vs σ₂ => WC false w B env A (.ref f) (.ref j :: vs) σ₂ K)
    (hf : findIn (KK w.params) (.ref C) name = some (some (.ref f)) := by kernel_rfl) (ht : isFn (KK w.params) (.ref f) = true := by kernel_rfl) (hg : plainGet (KK w.params) C name = true := by kernel_rfl) (hk : keepIn (KK w.params) (.ref f) = true := by kernel_rfl)
    (hbase : attributeBase o name env (eval o env) = eval o env := by rfl) (hline : (apos.endLine == pos.line) = true := by rfl)
    (hfew : methodCallForm (es.length + ([] : List Keyword).length) (backTo pos (starEach es env)) (backToKw pos (keywordEach [] env)) = true := by rfl)
    (hp : (backTo pos (starEach es env)).any (·.1) = false := by rfl) : WE g w B env A (.Call (.Attribute o name apos) es [] pos) σ K := fun fm ρ s Q E O r q => by
  refine wpG_of ?_
  rw [arm_eval_Call, hbase]
  refine wpAny_bind (wpG_any (h fm ρ s _ E O r fun ov σ₁ ρ₁ a s₁ l₁ r₁ v₁ h₁ => ?_))
  obtain ⟨j, d, at', rfl, hj, hd, hn, h₂⟩ := h₁
  refine wpAny_bind (wpAny_standAt ?_)
  have hpos : methodCallPos true o env apos pos = pure pos := by unfold methodCallPos; simp [hline]
  obtain ⟨x, da, od, ds, n, rfl, h1, g1, g2, h2, h3, ⟨h4, h5, h6⟩, I⟩ := r₁.inst hj hd v₁
  obtain ⟨oc, odd, oda, osl⟩ := od
  dsimp only at h2
  subst h2
  unfold methodCall
  rw [hfew]
  refine wpAny_bind (wpAny_holding (method_fn (r₁.inK HB O) I (plainGet_of hg).1 (plainGet_of hg).2 hf (beq_iff_eq.mp ht) (by show (lookIn name _).map _ = _; rw [look_none h4 ((h5 name).mpr hn)]; rfl) ?_))
  refine wpAny_bind (wpAny_of_eq hpos ?_)
  exact wpG_any (callWith_ (first := [.ref j]) (xs := [.ref x]) HB (kp_ref hk) O r₁ ⟨v₁, trivial⟩ h₂ hp fun v σ' ρ' c s' l' r' vr kk => q v σ' ρ' c s' (l₁.trans l') r' vr kk)

/- arguments with a star among them -/
noncomputable def AR (ρ : Rho) (vs : List V) (a : Args) : Prop := a.kw = [] ∧ LR ρ vs a.pos
noncomputable abbrev WG (w : World) (B : Heap) (env : Env) (A : Around) (f : Value) (pos : Pos) (es : List Expr) (σ : St) (K : List V → St → Prop) : Prop := WT false w B env A (evalArgs f true (backTo pos (starEach es env)) []) AR σ K

theorem star_ {fm : Fm} {ρ : Rho} {s : Shared} {i : Nat} {xs : List V} {x : Value} {Q : List Value → Shared → Prop} {E : Value → Shared → Prop} (r : Rel w env fm ρ σ s) (hx : VR ρ (.ref i) x) (hi : σ.obj i = some (.list xs) ∨ σ.obj i = some (.tuple xs)) (hz : xs.length ≤ 1000)
    (q : ∀ ys s', LR ρ xs ys → Rel w env fm ρ σ s' → Q ys s') : StarOf (model PR w) A E x Q s := by
  unfold StarOf notIterableAtAll
  rcases hi with hi | hi
  · obtain ⟨a, vs, n, rfl, e, ho, lr⟩ := r.plist hi hx
    have hT : s.TypeIs (.ref a) "list" := ⟨_, ho, rfl⟩
    have hlen : vs.size = xs.length := by rw [← Array.length_toList]; exact lr.length.symm
    refine wpAny_bind (wpAny_specialOf hT PySem.F.slot_list_iter.lookup (wpAny_pure ⟨rfl, ?_⟩))
    exact wpAny_collect_seq a (.inl rfl) ho rfl rfl (fun h' hk => q _ _ lr (r.kept s.toks hk)) (Nat.le_trans (m := 1000) (by lia) (by decide))
  · obtain ⟨a, vs, n, rfl, e, ho, lr⟩ := r.ptuple hi hx
    have hT : s.TypeIs (.ref a) "tuple" := ⟨_, ho, rfl⟩
    have hlen : vs.size = xs.length := by rw [← Array.length_toList]; exact lr.length.symm
    refine wpAny_bind (wpAny_specialOf hT PySem.F.slot_tuple_iter.lookup (wpAny_pure ⟨rfl, ?_⟩))
    exact wpAny_collect_seq a (.inr rfl) ho rfl rfl (fun h' hk => q _ _ lr (r.kept s.toks hk)) (Nat.le_trans (m := 1000) (by lia) (by decide))

theorem wa_star {e : Expr} {es : List Expr} {K : List V → St → Prop} (h : WE false w B env A e σ fun v σ₁ => ∃ i xs, v = .ref i ∧ (σ₁.obj i = some (.list xs) ∨ σ₁.obj i = some (.tuple xs)) ∧ xs.length ≤ 1000 ∧ WA false w B env A pos es σ₁ fun vs σ₂ => K (xs ++ vs) σ₂)
    (he : starEach (.Starred e px :: es) env = (true, eval e env) :: starEach es env := by rfl) : WA g w B env A pos (.Starred e px :: es) σ K := fun fm ρ s Q E O r q => by
  refine wpG_of ?_
  rw [he]
  refine ks_spliced (wpG_any (h fm ρ s _ E O r fun v σ₁ ρ₁ a s₁ l₁ r₁ v₁ h₁ => ?_))
  obtain ⟨i, xs, rfl, hi, hz, h₂⟩ := h₁
  refine star_ r₁ v₁ hi hz fun ys s' ly r' => wpG_any (h₂ fm ρ₁ s' _ E O r' fun vs σ₂ ρ₂ b s₂ l₂ r₂ v₂ h₃ => ?_)
  exact q _ _ _ _ _ (l₁.trans l₂) r₂ ((ly.mono l₂).append v₂) h₃
theorem wg_lone {f : Value} {e : Expr} {K : List V → St → Prop} (h : WE false w B env A e σ fun v σ₁ => ∃ i xs, v = .ref i ∧ (σ₁.obj i = some (.list xs) ∨ σ₁.obj i = some (.tuple xs)) ∧ xs.length ≤ 1000 ∧ K xs σ₁)
    (he : starEach [.Starred e px] env = [(true, eval e env)] := by rfl) : WG w B env A f pos [.Starred e px] σ K := fun fm ρ s Q E O r q => by
  refine wpG_of ?_
  rw [he]
  refine ks_lone (wpG_any (h fm ρ s _ E O r fun v σ₁ ρ₁ a s₁ l₁ r₁ v₁ h₁ => ?_))
  obtain ⟨i, xs, rfl, hi, hz, h₂⟩ := h₁
  exact star_ r₁ v₁ hi hz fun ys s' ly r' => q _ _ _ _ _ l₁ r' ⟨rfl, ly⟩ h₂
theorem wg_plain {f : Value} {e : Expr} {es : List Expr} {K : List V → St → Prop} (h : WA false w B env A pos (e :: es) σ K) (he : starEach (e :: es) env = (false, eval e env) :: starEach es env := by rfl) : WG w B env A f pos (e :: es) σ K := fun fm ρ s Q E O r q => by
  have h' := h fm ρ s (fun vs s' => Q ⟨vs, []⟩ s') E O r fun vs σ' ρ' a s' l r' lr kk => q _ _ _ _ _ l r' ⟨rfl, lr⟩ kk
  rw [he] at h' ⊢
  exact wpG_evalArgs_plain h'

/- a method of an object, called with a star -/
theorem we_imstar {o : Expr} {name : Str} {es : List Expr} {C f : Addr} (HB : BaseOk w B)
    (h : WE false w B env A o σ fun ov σ₁ => ∃ j d at', ov = .ref j ∧ σ₁.obj j = some (.inst C d) ∧ σ₁.obj d = some (.attrs at') ∧ at'.lookup name = none ∧ ∀ q, WG w B env A (.ref q) pos es σ₁ fun vs σ₂ => CC false w B env A (.ref f) (.ref j :: vs) σ₂ K)
    (hf : findIn (KK w.params) (.ref C) name = some (some (.ref f)) := by kernel_rfl) (ht : isFn (KK w.params) (.ref f) = true := by kernel_rfl) (hg : plainGet (KK w.params) C name = true := by kernel_rfl) (hk : fnIn (KK w.params) f = true := by kernel_rfl)
    (hh : hasDictIn (KK w.params) C = true := by kernel_rfl) (hgf : specialIn (KK w.params) (.ref f) "__get__" = some (some (.builtin "function.__get__")) := by kernel_rfl) (htk : takesIn (KK w.params) (.ref f) = some false := by kernel_rfl)
    (hcn : copiedNames.contains name = false := by decide)
    (hbase : attributeBase o name env (eval o env) = eval o env := by rfl)
    (hfew : methodCallForm (es.length + ([] : List Keyword).length) (backTo pos (starEach es env)) (backToKw pos (keywordEach [] env)) = false := by rfl)
    (hp : (backTo pos (starEach es env)).any (·.1) = true := by rfl) : WE g w B env A (.Call (.Attribute o name apos) es [] pos) σ K := fun fm ρ s Q E O r q => by
  refine wpG_of ?_
  rw [arm_eval_Call, hbase]
  refine wpAny_bind (wpG_any (h fm ρ s _ E O r fun ov σ₁ ρ₁ a s₁ l₁ r₁ v₁ h₁ => ?_))
  obtain ⟨j, d, at', rfl, hj, hd, hn, h₂⟩ := h₁
  refine wpAny_bind (wpAny_standAt ?_)
  have hpos : methodCallPos false o env apos pos = pure pos := by unfold methodCallPos; simp
  obtain ⟨x, da, od, ds, n, rfl, h1, g1, g2, h2, h3, ⟨h4, h5, h6⟩, I⟩ := r₁.inst hj hd v₁
  obtain ⟨oc, odd, oda, osl⟩ := od
  dsimp only at h2
  subst h2
  have X := r₁.inK HB O
  unfold methodCall
  rw [hfew]
  refine wpAny_bind (wpAny_holding ?_)
  show wpAny _ _ (getAttr (.ref x) name true >>= fun v => pure (v, ([] : List Value))) _ _ _
  refine wpAny_bind (get_bind X I (plainGet_of hg).1 (findObj_fn hh hf hgf htk hcn (look_none h4 ((h5 name).mpr hn))) (plainGet_of hg).2
    (wpAny_call (fn_get (s := { s₁ with toks := s₁.toks + 1 }) X (beq_iff_eq.mp ht) (handed_on rfl ?_))))
  refine wpAny_pure (wpAny_bind (wpAny_of_eq hpos ?_))
  have hI : s₁.heap.get? s₁.heap.objs.size = none := Heap.new_none
  have ap := r₁.apart hI
  have ho : (s₁.heap.push (methodObj (.ref f) (.ref x))).get? s₁.heap.objs.size = some (methodObj (.ref f) (.ref x)) := Heap.get?_push_size _ rfl
  have r₂ := r₁.kept (h' := s₁.heap.push (methodObj (.ref f) (.ref x))) (s₁.toks + 1) fun b o e => Heap.get?_push_of_some _ e
  refine ks_call hp (P := MethP (KK w.params) s₁.heap.objs.size f (.ref x)) (keeps_M hk) ?_
  refine wpG_any (h₂ s₁.heap.objs.size (fm.wk s₁.heap.objs.size (methodObj (.ref f) (.ref x))) ρ₁ _ _ E (O.wk ap.own) (r₂.wk ap ho) fun vs σ₂ ρ₂ as s₂ l₂ r₃ v₂ h₃ => ?_)
  obtain ⟨r₄, ap₄, g₄⟩ := r₃.unwk ap.own
  obtain ⟨asp, ask⟩ := as
  obtain ⟨e, v₂⟩ := v₂
  dsimp only at e v₂
  subst e
  refine ⟨⟨g₄, r₄.inK HB O⟩, ?_⟩
  refine wpAny_call (method_call g₄ (codeG_any (h₃ fm ρ₂ s₂ (.ref x :: asp) _ O r₄ ⟨v₁.mono l₂, v₂⟩ fun v σ' ρ' c s' l' r' vr kk => ?_)))
  exact q v σ' ρ' c s' ((l₁.trans l₂).trans l') r' vr kk
end
end Mine
end
section
set_option maxRecDepth 100000
set_option autoImplicit false
namespace Mine
open PySem PySem.Calls PySem.Spec PyProof.Rows PySem.W

/- a text as a key -/
noncomputable def key (l : List Nat) : Str := ⟨l.toArray⟩
theorem key_inj {a b : List Nat} (h : key a = key b) : a = b := by
  unfold key at h
  injection h with h
  exact List.toArray_inj h
theorem key_is {w : World} {f : Bool} {l : List Nat} {ρ : Rho} {x : Value} (ha : Asc l) (h : VR ρ (T f l) x) : (knd PR w f).is (key l) x = true ∧ x.scannable = true := by
  cases f with
  | false =>
    obtain ⟨t, rfl⟩ := h
    exact ⟨by show Value.isStrOf (key l) (.str ⟨l.toArray⟩ t) = true; simp [Value.isStrOf, key], rfl⟩
  | true =>
    obtain ⟨t, rfl⟩ := h
    refine ⟨?_, rfl⟩
    show ((l.map Nat.toUInt8).toArray.map (·.toNat) == (key l).cps) = true
    have : (l.map Nat.toUInt8).toArray.map (·.toNat) = l.toArray := by
      rw [← Array.toList_inj]
      simp only [Array.toList_map, List.map_map]
      exact map_back ha
    rw [this]; simp [key]
theorem is_key {w : World} {f : Bool} {l : List Nat} {ρ : Rho} {x : Value} (h : (knd PR w f).is (key l) x = true) : VR ρ (T f l) x := by
  cases f with
  | false =>
    obtain ⟨t, rfl⟩ := Value.isStrOf_shape h
    exact ⟨t, rfl⟩
  | true =>
    obtain ⟨b, t, rfl, e⟩ := isBytesOf_shape h
    refine ⟨t, ?_⟩
    have : nums b = l := by
      have := congrArg Array.toList e
      simpa [key, nums] using this
    rw [bytes_of_nums this]

noncomputable def KV (ρ : Rho) : List (Str × V) → List (Str × Value) → Prop
  | [], [] => True
  | (k, v) :: es, (k', x) :: kvs => (k = k' ∧ VR ρ v x) ∧ KV ρ es kvs
  | _, _ => False
theorem KV.keys {ρ : Rho} : ∀ {es : List (Str × V)} {kvs : List (Str × Value)}, KV ρ es kvs → es.map (·.1) = kvs.map (·.1)
  | [], [], _ => rfl
  | (k, v) :: es, (k', x) :: kvs, ⟨⟨e, _⟩, h⟩ => by rw [List.map_cons, List.map_cons, KV.keys h, e]
theorem KV.length {ρ : Rho} {es : List (Str × V)} {kvs : List (Str × Value)} (h : KV ρ es kvs) : es.length = kvs.length := by
  have := congrArg List.length h.keys
  simpa using this
theorem KV.lookup {ρ : Rho} {k : Str} : ∀ {es : List (Str × V)} {kvs : List (Str × Value)}, KV ρ es kvs → (es.lookup k = none ∧ valueAt kvs k = none) ∨ ∃ v x, es.lookup k = some v ∧ valueAt kvs k = some x ∧ VR ρ v x
  | [], [], _ => .inl ⟨rfl, rfl⟩
  | (k', v) :: es, (k'', x) :: kvs, ⟨⟨e, hv⟩, h⟩ => by
    subst e
    by_cases hk : k = k'
    · subst hk
      exact .inr ⟨v, x, by simp, by simp [valueAt], hv⟩
    · have h1 : ((k', v) :: es).lookup k = es.lookup k := by rw [List.lookup_cons, beq_eq_false_iff_ne.mpr hk]
      have h2 : valueAt ((k', x) :: kvs) k = valueAt kvs k := by simp [valueAt, Ne.symm hk]
      rw [h1, h2]
      exact KV.lookup h
theorem KV.get {ρ : Rho} : ∀ {es : List (Str × V)} {kvs : List (Str × Value)} {i : Nat} {k : Str} {v : V}, KV ρ es kvs → es[i]? = some (k, v) → ∃ x, kvs[i]? = some (k, x) ∧ VR ρ v x := by
  intro es
  induction es with
  | nil => intro kvs i k v _ e; cases e
  | cons p es ih => intro kvs i k v h e; cases p; cases kvs with
    | nil => exact h.elim
    | cons q kvs => cases q; cases i with
      | zero => cases e; have e' := h.1.1; subst e'; exact ⟨_, rfl, h.1.2⟩
      | succ i => exact ih h.2 (i := i) e
theorem KV.append {ρ : Rho} : ∀ {es es' : List (Str × V)} {kvs kvs' : List (Str × Value)}, KV ρ es kvs → KV ρ es' kvs' → KV ρ (es ++ es') (kvs ++ kvs')
  | [], _, [], _, _, h => h
  | (_, _) :: _, _, (_, _) :: _, _, ⟨a, b⟩, h => ⟨a, KV.append b h⟩
theorem KV.filter {ρ : Rho} (p : Str → Bool) : ∀ {es : List (Str × V)} {kvs : List (Str × Value)}, KV ρ es kvs → KV ρ (es.filter fun e => p e.1) (kvs.filter fun e => p e.1)
  | [], [], _ => trivial
  | (k, v) :: es, (k', x) :: kvs, ⟨⟨e, hv⟩, h⟩ => by
    subst e
    rw [List.filter_cons, List.filter_cons]
    dsimp only
    cases p k with
    | true => exact ⟨⟨rfl, hv⟩, KV.filter p h⟩
    | false => exact KV.filter p h

section
variable {w : World} {f : Bool} {ρ : Rho}
theorem ER.kv : ∀ {es : List (Str × V)} {ds : List DictEntry}, ER w f ρ es ds → ∃ kvs, KV ρ es kvs ∧ PySem.Pairs (knd PR w f) ds kvs ∧ ∀ e ∈ ds, ∃ k, (knd PR w f).is k e.key = true ∧ e.hash = (knd PR w f).hash k := by
  intro es
  induction es with
  | nil => intro ds h; cases ds with
    | nil => exact ⟨[], trivial, .nil, fun e he => by cases he⟩
    | cons _ _ => exact h.elim
  | cons p es ih => intro ds h; cases p with
    | mk k v => cases ds with
      | nil => exact h.elim
      | cons e ds =>
        obtain ⟨kvs, h1, h2, h3⟩ := ih h.2
        refine ⟨(k, e.val) :: kvs, ⟨⟨rfl, h.1.2.2⟩, h1⟩, .cons h.1.1 rfl h2, fun e' he => ?_⟩
        rcases List.mem_cons.mp he with rfl | he
        · exact ⟨k, h.1.1, h.1.2.1⟩
        · exact h3 e' he
theorem ER.of : ∀ {es : List (Str × V)} {ds : List DictEntry} {kvs : List (Str × Value)}, KV ρ es kvs → PySem.Pairs (knd PR w f) ds kvs → (∀ e ∈ ds, ∃ k, (knd PR w f).is k e.key = true ∧ e.hash = (knd PR w f).hash k) → ER w f ρ es ds := by
  intro es
  induction es with
  | nil => intro ds kvs h p _; cases kvs with
    | nil => cases p; trivial
    | cons _ _ => exact h.elim
  | cons q es ih => intro ds kvs h p hk; cases q with
    | mk k v => cases kvs with
      | nil => exact h.elim
      | cons q kvs => cases q with
        | mk k' x => cases p with
          | cons a b c =>
            have e' := h.1.1
            subst e'
            subst b
            obtain ⟨k'', h1, h2⟩ := hk _ (.head _)
            have := (knd PR w f).inj _ _ _ a h1
            subst this
            exact ⟨⟨a, h2, h.1.2⟩, ih h.2 c fun e he => hk e (.tail _ he)⟩
end

section
variable {g : Bool} {w : World} {B : Heap} {env : Env} {A : Around} {σ : St} {pos px apos : Pos} {K : V → St → Prop}
theorem Rel.dict {fm : Fm} {ρ : Rho} {s : Shared} {i ep : Nat} {f : Bool} {es : List (Str × V)} {x : Value} (HB : BaseOk w B) (O : FmOk B env A fm) (R : Rel w env fm ρ σ s) (hi : σ.obj i = some (.dict f es ep)) (hn : (es.map (·.1)).Nodup) (hx : VR ρ (.ref i) x) :
    ∃ a kvs, x = .ref a ∧ ρ i = some a ∧ s.heap.DictAt (knd PR w f) a kvs ep ∧ KV ρ es kvs ∧ (a == sysModules) = false := by
  obtain ⟨a, ob, rfl, e, q, ⟨hex, ds, hd, hER⟩, own⟩ := R.at hi hx
  obtain ⟨kvs, h1, h2, h3⟩ := hER.kv
  refine ⟨a, kvs, rfl, e, ⟨ob, ds, q, hex, hd, fun e he => h3 e (Array.mem_toList_iff.mpr he), h2, h1.keys ▸ hn⟩, h1, ?_⟩
  refine beq_eq_false_iff_ne.mpr fun hs => ?_
  obtain ⟨o, ho⟩ := HB.mods
  have := O.base _ _ ho
  rw [← hs, own.1] at this; cases this
theorem Rel.putDict {fm : Fm} {ρ : Rho} {s : Shared} {i : Nat} {a : Addr} {f : Bool} {o₀ : O} {es : List (Str × V)} {kvs : List (Str × Value)} {h' : Heap} (tk : Nat) (R : Rel w env fm ρ σ s) (hi : σ.obj i = some o₀) (ha : ρ i = some a) (hs : Heap.ExtBut a s.heap h')
    (hd : h'.DictOf (knd PR w f) a kvs) (hkv : KV ρ es kvs) : ∃ ep, Rel w env fm ρ (σ.put i (.dict f es ep)) { s with heap := h', toks := tk } := by
  obtain ⟨o, ds, ep, ho, hex, hdat, hk, hp, hn⟩ := hd
  exact ⟨ep, R.put (o := .dict f es ep) tk hi ha hs ho ⟨hex, ds, hdat, ER.of hkv hp fun e he => hk e (Array.mem_toList_iff.mp he)⟩⟩
theorem ty_dict {i ep : Nat} {f : Bool} {es : List (Str × V)} (h : σ.obj i = some (.dict f es ep)) : TyV w env (.ref i) "dict" σ := by
  rintro fm ρ s _ r hx
  obtain ⟨a, ob, rfl, e, q, ⟨⟨h1, h2, h3⟩, _⟩, own⟩ := r.at h hx
  exact ⟨⟨_, q, h1⟩, fun b q' => by cases q'; exact ⟨_, q, h2⟩⟩
theorem sub_dict {j ep : Nat} {f : Bool} {es : List (Str × V)} {l : List Nat} {v : V} (HB : BaseOk w B) (hj : σ.obj j = some (.dict f es ep)) (hn : (es.map (·.1)).Nodup) (hl : Asc l) (hv : es.lookup (key l) = some v) (h : K v σ) : Sub w B env A (.ref j) (T f l) σ K := by
  refine ⟨"dict", _, slot_dict_getitem.lookup, ty_dict hj, ?_⟩
  rintro fm ρ s x y Q E O r hx hy q
  obtain ⟨a, kvs, rfl, e, hd, kv, hsm⟩ := r.dict HB O hj hn hx
  rcases kv.lookup (k := key l) with ⟨h1, _⟩ | ⟨v', z, h1, h2, h3⟩
  · rw [hv] at h1; cases h1
  · rw [hv] at h1; cases h1
    exact wpG_of (wpAny_getItem_of (key_is hl hy).1 hd.dictOf.mapOf h2 (q v σ ρ z _ ρ.le_refl (r.tok _) h3 h))
theorem op_in_dict {j ep : Nat} {f : Bool} {es : List (Str × V)} {l : List Nat} (HB : BaseOk w B) (hj : σ.obj j = some (.dict f es ep)) (hn : (es.map (·.1)).Nodup) (hl : Asc l) (h : K (.bool (es.lookup (key l)).isSome) σ) : W2 g w B env A (compareOp .In) VR (T f l) (.ref j) σ K := by
  rintro fm ρ s y x Q E O r hy hx q
  obtain ⟨a, kvs, rfl, e, hd, kv, hsm⟩ := r.dict HB O hj hn hx
  refine wpG_of (wpAny_in_of (key_is hl hy).1 hsm hd.dictOf.mapOf ?_)
  have : (valueAt kvs (key l)).isSome = (es.lookup (key l)).isSome := by
    rcases kv.lookup (k := key l) with ⟨h1, h2⟩ | ⟨v', z, h1, h2, h3⟩ <;> rw [h1, h2] <;> rfl
  rw [this]
  exact q _ σ ρ _ _ ρ.le_refl (r.tok _) vbool h
theorem wc_dget {j ep : Nat} {f : Bool} {es : List (Str × V)} {l : List Nat} (HB : BaseOk w B) (hj : σ.obj j = some (.dict f es ep)) (hn : (es.map (·.1)).Nodup) (hl : Asc l) (h : K ((es.lookup (key l)).getD .none) σ) : WC g w B env A (.builtin "dict.get") [.ref j, T f l] σ K := by
  rintro fm ρ s ys Q E O r hv q
  obtain ⟨x, y, rfl, hx, hy⟩ := LR.two hv
  obtain ⟨a, kvs, rfl, e, hd, kv, hsm⟩ := r.dict HB O hj hn hx
  refine wpG_of (call_meetsIn PySem.F.slot_dict_get hd.dictOf.typeIs PySem.F.entry_dict_get (PySem.F.args_dict_get_2 _ _) (meets_dict_get (knd PR w f) a (key_is hl hy).1 hsm) ⟨_, hd.dictOf.mapOf, ?_⟩)
  rcases kv.lookup (k := key l) with ⟨h1, h2⟩ | ⟨v', z, h1, h2, h3⟩
  · rw [h2]; rw [h1] at h; exact q .none σ ρ _ _ ρ.le_refl (r.tok _) rfl h
  · rw [h2]; rw [h1] at h; exact q _ σ ρ _ _ ρ.le_refl (r.tok _) h3 h
theorem st_dict {j ep : Nat} {f : Bool} {es : List (Str × V)} {l : List Nat} {v : V} {K : St → Prop} (HB : BaseOk w B) (hj : σ.obj j = some (.dict f es ep)) (hn : (es.map (·.1)).Nodup) (hz : es.length ≤ 1000) (hl : Asc l) (hv : key l ∉ es.map (·.1))
    (h : ∀ ep', K (σ.put j (.dict f (es ++ [(key l, v)]) ep'))) : W3 g w B env A setItem (.ref j) (T f l) v σ K := by
  rintro fm ρ s x y z Q E O r hx hy hz' q
  obtain ⟨a, kvs, rfl, e, hd, kv, hsm⟩ := r.dict HB O hj hn hx
  refine wpG_of (wpAny_setItem_pairs (key_is hl hy).1 hd.dictOf (fun h' hd' hs' => ?_) (Nat.le_trans (m := 1000) (by rw [← kv.length]; exact hz) (by decide)))
  have hst : stored kvs (key l) z = kvs ++ [(key l, z)] := by
    unfold stored
    rw [if_neg]
    intro hc
    obtain ⟨p, hp, hk⟩ := List.any_eq_true.mp hc
    exact hv (by rw [kv.keys]; exact List.mem_map.mpr ⟨p, hp, by simpa using hk⟩)
  rw [hst] at hd'
  obtain ⟨ep', r'⟩ := r.putDict (s.toks + 1) hj e hs'.extBut hd' (kv.append (es' := [(key l, v)]) ⟨⟨rfl, hz'⟩, trivial⟩)
  exact q _ ρ _ ρ.le_refl r' (h ep')
theorem wd_dict {j ep : Nat} {f : Bool} {es : List (Str × V)} {l : List Nat} {v : V} {K : Unit → St → Prop} (HB : BaseOk w B) (hj : σ.obj j = some (.dict f (es ++ [(key l, v)]) ep)) (hn : ((es ++ [(key l, v)]).map (·.1)).Nodup) (hz : es.length ≤ 999) (hl : Asc l)
    (h : ∀ ep', K () (σ.put j (.dict f es ep'))) : W2 g w B env A delItem UR (.ref j) (T f l) σ K := by
  rintro fm ρ s x y Q E O r hx hy q
  obtain ⟨a, kvs, rfl, e, hd, kv, hsm⟩ := r.dict HB O hj hn hx
  have hwo : KV ρ es (without kvs (key l)) := by
    have := KV.filter (fun k => decide (k ≠ key l)) kv
    have e1 : (es ++ [(key l, v)]).filter (fun p => decide (p.1 ≠ key l)) = es := by
      rw [List.map_append, List.nodup_append] at hn
      rw [List.filter_append, List.filter_eq_self.mpr fun p hp => by
        have : p.1 ≠ key l := hn.2.2 p.1 (List.mem_map.mpr ⟨p, hp, rfl⟩) _ (by simp)
        simpa using this]
      simp
    rw [e1] at this
    exact this
  have hsome : (valueAt kvs (key l)).isSome = true := by
    rcases kv.lookup (k := key l) with ⟨h1, h2⟩ | ⟨v', z, h1, h2, h3⟩
    · have : (es ++ [(key l, v)]).lookup (key l) ≠ none := by
        rw [List.lookup_append]
        cases es.lookup (key l) <;> simp
      exact absurd h1 this
    · rw [h2]; rfl
  refine wpG_of (wpAny_delItem_slot hd.dictOf.typeIs (by decide) PySem.F.slot_dict_delitem (call_meetsIn PySem.F.slot_dict_delitem hd.dictOf.typeIs PySem.F.entry_dict_delitem (PySem.F.args_dict_delitem_2 _ _)
    (meets_dict_delitem_pairs (knd PR w f) a (key_is hl hy).1) ⟨kvs, hd.dictOf, Nat.le_trans (m := 1000) (by rw [← kv.length]; simp; lia) (by decide), hsome, fun h' hm hs => ?_⟩))
  obtain ⟨ep', r'⟩ := r.putDict (s.toks + 1) hj e hs.extBut hm hwo
  exact q () _ ρ () _ ρ.le_refl r' trivial (h ep')
theorem we_dict0 {f : Bool} {i : Nat} (hi : σ.free i) (h : K (.ref i) (σ.new i (.dict f [] 0))) : WE g w B env A (.Dict [] [] pos) σ K := fun fm ρ s Q E O r q => by
  refine wpG_of (wpAny_Dict_empty ?_)
  obtain ⟨h1, h2, h3⟩ := r.push (i := i) (o := .dict f [] 0) s.toks hi (ob := { cls := .type "dict", data := .dict #[] }) rfl ⟨⟨rfl, rfl, rfl⟩, #[], rfl, trivial⟩
  exact q _ _ _ _ _ h1 h2 h3 h
theorem iters_dict {i ep k : Nat} {f : Bool} {es : List (Str × V)} {ls : List (List Nat)} (HB : BaseOk w B) (hA : AOk k A) (hn : (es.map (·.1)).Nodup) (hk : es.map (·.1) = ls.map key) :
    Iters g w B env A (.ref i) es.length (fun k v => ∃ l, ls[k]? = some l ∧ v = T f l) (fun σ => σ.obj i = some (.dict f es ep)) := by
  rintro σ fm ρ s x Q E O r hj hx q
  obtain ⟨a, kvs, rfl, e, hd, kv, hsm⟩ := r.dict HB O hj hn hx
  refine wpG_of (wpAny_pyIter_dict hsm hd ?_)
  have hlen := kv.length
  have hown : ∀ (o : Obj), B.get? a = some o → False := fun o ho => by
    obtain ⟨a', ob, e1, e2, _, _, own⟩ := r.at hj ⟨a, e, rfl⟩
    cases e1
    have := O.base _ _ ho
    rw [own.1] at this; cases this
  have getD : ∀ {env' : Env} {σ' : St} {fm' : Fm} {ρ' : Rho} {s' : Shared}, ρ.le ρ' → Rel w env' fm' ρ' σ' s' → σ'.obj i = some (.dict f es ep) → ∃ kvs', s'.heap.DictAt (knd PR w f) a kvs' ep ∧ KV ρ' es kvs' := by
    intro env' σ' fm' ρ' s' le r' hj'
    obtain ⟨a', ob, e1, e2, hq, ⟨hex, ds, hdd, hER⟩, own⟩ := r'.at hj' ⟨a, le _ _ e, rfl⟩
    cases e1
    obtain ⟨kvs', h1, h2, h3⟩ := hER.kv
    exact ⟨kvs', ⟨ob, ds, hq, hex, hdd, fun e he => h3 e (Array.mem_toList_iff.mpr he), h2, h1.keys ▸ hn⟩, h1⟩
  refine q _ _ (fun k ob => ob.cls = .type "dict_keyiterator" ∧ ob.data = .fields #[.ref a, .int k 0, .int es.length 0, .int ep 0]) _ s.toks ⟨?_, ?_, ?_⟩ Heap.new_none
    (fun b o e => Heap.get?_push_of_some _ e) (Heap.get?_push_size _ rfl) ⟨rfl, by rw [hlen]; rfl⟩
  · rintro env k σ fm ρ s Q E ob hk' hj le r hob ⟨h1, h2⟩ q
    obtain ⟨kvs', hd', kv'⟩ := getD le r hj
    obtain ⟨l, hl⟩ : ∃ l, ls[k]? = some l := by
      have : k < ls.length := by have := congrArg List.length hk; simp at this; lia
      exact ⟨ls[k], List.getElem?_eq_getElem this⟩
    obtain ⟨p, hp⟩ : ∃ p, es[k]? = some p := ⟨es[k], List.getElem?_eq_getElem hk'⟩
    have hpk : p.1 = key l := by
      have := congrArg (·[k]?) hk
      simp only [List.getElem?_map, hp, hl, Option.map_some] at this
      exact Option.some.inj this
    obtain ⟨kx, vx⟩ := p
    dsimp only at hpk
    subst hpk
    obtain ⟨z, hz, _⟩ := kv'.get hp
    rw [kv'.length] at h2
    refine wpG_of (wpAny_pyNext_dict_item ⟨ob, hob, h1, h2⟩ hd' hz fun ky h' hky hit hs => ?_)
    obtain ⟨ob', g1, g2, g3⟩ := hit
    exact q (T f l) ky h' s.toks ob' ⟨l, hl, rfl⟩ (is_key hky) hs.extBut g1 ⟨g2, by rw [kv'.length]; exact g3⟩
  · rintro env σ fm ρ s Q E ob hj le r hob ⟨h1, h2⟩ q
    obtain ⟨kvs', hd', kv'⟩ := getD le r hj
    rw [kv'.length] at h2
    exact wpG_of (wpAny_pyNext_dict_end hA.handled ⟨ob, hob, h1, h2⟩ hd' (by simp) fun h' he => q h' s.toks he)
  · rintro k s Q E ob ho ⟨h1, h2⟩ h
    exact wpAny_pyIter_keyiter ⟨ob, ho, h1, h2⟩ h
end
end Mine
end
section
set_option maxRecDepth 100000
set_option autoImplicit false
namespace Mine
open PySem PySem.Calls PySem.Spec PyProof.Rows PySem.W

section
variable {g : Bool} {w : World} {B : Heap} {env : Env} {A : Around} {σ : St} {pos px apos : Pos} {K : V → St → Prop}
theorem wc_values {j i ep : Nat} {f : Bool} {es : List (Str × V)} (HB : BaseOk w B) (hj : σ.obj j = some (.dict f es ep)) (hn : (es.map (·.1)).Nodup) (hi : σ.free i) (h : K (.ref i) (σ.new i (.values j))) : WC g w B env A (.builtin "dict.values") [.ref j] σ K := by
  rintro fm ρ s ys Q E O r hv q
  obtain ⟨x, rfl, hx⟩ := LR.one hv
  obtain ⟨a, kvs, rfl, e, hd, kv, hsm⟩ := r.dict HB O hj hn hx
  refine wpG_of (call_meetsIn PySem.F.slot_dict_values hd.dictOf.typeIs PySem.F.entry_dict_values (PySem.F.args_dict_values_1 _) (meets_dict_values (knd PR w f) a hsm) ⟨⟨kvs, hd.dictOf⟩, ?_⟩)
  obtain ⟨h1, h2, h3⟩ := r.push (i := i) (o := .values j) s.toks hi (ob := { cls := .type "dict_values", data := .fields #[.ref a] }) rfl ⟨a, Rho.le_upd (r.free i hi) _ _ e, rfl, rfl⟩
  exact q _ _ _ _ _ h1 h2 h3 h
theorem iters_values {i j ep k : Nat} {f : Bool} {es : List (Str × V)} (hA : AOk k A) (hn : (es.map (·.1)).Nodup) :
    Iters g w B env A (.ref i) es.length (fun k v => ∃ l, es[k]? = some (l, v)) (fun σ => σ.obj i = some (.values j) ∧ σ.obj j = some (.dict f es ep)) := by
  rintro σ fm ρ s x Q E O r ⟨hi, hj⟩ hx q
  obtain ⟨a, ob, rfl, e, hq, ⟨d, hd1, hd2, hd3⟩, own⟩ := r.at hi hx
  have getD : ∀ {env' : Env} {σ' : St} {fm' : Fm} {ρ' : Rho} {s' : Shared}, ρ.le ρ' → Rel w env' fm' ρ' σ' s' → σ'.obj j = some (.dict f es ep) → ∃ kvs', s'.heap.DictAt (knd PR w f) d kvs' ep ∧ KV ρ' es kvs' := by
    intro env' σ' fm' ρ' s' le r' hj'
    obtain ⟨a', ob, e1, e2, hq, ⟨hex, ds, hdd, hER⟩, own⟩ := r'.at hj' ⟨d, le _ _ hd1, rfl⟩
    cases e1
    obtain ⟨kvs', h1, h2, h3⟩ := hER.kv
    exact ⟨kvs', ⟨ob, ds, hq, hex, hdd, fun e he => h3 e (Array.mem_toList_iff.mpr he), h2, h1.keys ▸ hn⟩, h1⟩
  obtain ⟨kvs, hd, kv⟩ := getD ρ.le_refl r hj
  refine wpG_of (wpAny_pyIter_values ⟨ob, hq, hd2, hd3⟩ hd ?_)
  refine q _ _ (fun k ob => ob.cls = .type "dict_valueiterator" ∧ ob.data = .fields #[.ref d, .int k 0, .int es.length 0, .int ep 0]) _ s.toks ⟨?_, ?_, ?_⟩ Heap.new_none
    (fun b o e => Heap.get?_push_of_some _ e) (Heap.get?_push_size _ rfl) ⟨rfl, by rw [kv.length]; rfl⟩
  · rintro env k σ fm ρ s Q E ob hk' ⟨hi, hj⟩ le r hob ⟨h1, h2⟩ q
    obtain ⟨kvs', hd', kv'⟩ := getD le r hj
    obtain ⟨p, hp⟩ : ∃ p, es[k]? = some p := ⟨es[k], List.getElem?_eq_getElem hk'⟩
    obtain ⟨kx, vx⟩ := p
    obtain ⟨z, hz, hvz⟩ := kv'.get hp
    rw [kv'.length] at h2
    refine wpG_of (wpAny_pyNext_values_item ⟨ob, hob, h1, h2⟩ hd' hz fun h' hit hs => ?_)
    obtain ⟨ob', g1, g2, g3⟩ := hit
    exact q vx z h' s.toks ob' ⟨kx, hp⟩ hvz hs.extBut g1 ⟨g2, by rw [kv'.length]; exact g3⟩
  · rintro env σ fm ρ s Q E ob ⟨hi, hj⟩ le r hob ⟨h1, h2⟩ q
    obtain ⟨kvs', hd', kv'⟩ := getD le r hj
    rw [kv'.length] at h2
    exact wpG_of (wpAny_pyNext_values_end hA.handled ⟨ob, hob, h1, h2⟩ hd' (by simp) fun h' he => q h' s.toks he)
  · rintro k s Q E ob ho ⟨h1, h2⟩ h
    exact wpAny_pyIter_valiter ⟨ob, ho, h1, h2⟩ h

-- sets
theorem Rel.set' {fm : Fm} {ρ : Rho} {s : Shared} {i n : Nat} {f : Bool} {S : Str → Bool} {x : Value} (R : Rel w env fm ρ σ s) (hi : σ.obj i = some (.set f S n)) (hz : n ≤ 1000) (hx : VR ρ (.ref i) x) :
    ∃ a, x = .ref a ∧ ρ i = some a ∧ s.heap.SetOf (knd PR w f) a S n := by
  obtain ⟨a, ob, rfl, e, q, hS, own⟩ := R.at hi hx
  exact ⟨a, rfl, e, Obj.SetObjOf.setOf hS q (Nat.lt_of_le_of_lt hz (by decide))⟩
theorem ty_set {i n : Nat} {f : Bool} {S : Str → Bool} (h : σ.obj i = some (.set f S n)) (hz : n ≤ 1000) : TyV w env (.ref i) "set" σ := by
  rintro fm ρ s _ r hx
  obtain ⟨a, rfl, e, hS⟩ := r.set' h hz hx
  exact ⟨hS.typeIs, fun b q' => hS.noDict b q'⟩
theorem wc_set0 {i : Nat} {f : Bool} (hi : σ.free i) (h : K (.ref i) (σ.new i (.set f (fun _ => false) 0))) : WC g w B env A (.type "set") [] σ K := by
  rintro fm ρ s ys Q E O r hv q
  match ys, hv with
  | [], _ =>
    refine wpG_of (call_set_0 fun led => ?_)
    obtain ⟨h1, h2, h3⟩ := r.push (i := i) (o := .set f (fun _ => false) 0) s.toks hi (ob := { cls := .type "set", dict := none, data := .set #[] 0 (.fresh 0 0 led) }) rfl (setObjOf_fresh led)
    exact q _ _ _ _ _ h1 h2 h3 h
theorem op_in_set {i n : Nat} {f : Bool} {S : Str → Bool} {l : List Nat} (hi : σ.obj i = some (.set f S n)) (hz : n ≤ 1000) (hl : Asc l) (h : K (.bool (S (key l))) σ) : W2 g w B env A (compareOp .In) VR (T f l) (.ref i) σ K := by
  rintro fm ρ s y x Q E O r hy hx q
  obtain ⟨a, rfl, e, hS⟩ := r.set' hi hz hx
  exact wpG_of (wpAny_inSet_of (key_is hl hy).1 (key_is (w := w) hl hy).2 hS (q _ σ ρ _ _ ρ.le_refl (r.tok _) vbool h))
theorem wc_sadd {i n : Nat} {f : Bool} {S : Str → Bool} {l : List Nat} (hi : σ.obj i = some (.set f S n)) (hz : n ≤ 1000) (hl : Asc l) (h : K .none (σ.put i (.set f (fun k => S k || decide (k = key l)) (if S (key l) then n else n + 1)))) : WC g w B env A (.builtin "set.add") [.ref i, T f l] σ K := by
  rintro fm ρ s ys Q E O r hv q
  obtain ⟨x, y, rfl, hx, hy⟩ := LR.two hv
  obtain ⟨a, rfl, e, hS⟩ := r.set' hi hz hx
  refine wpG_of (call_set_add (key_is hl hy).1 (key_is (w := w) hl hy).2 hS (Nat.lt_of_le_of_lt (Nat.succ_le_succ hz) (by decide)) fun h' hs hS' => ?_)
  obtain ⟨o, ho, hO⟩ := hS'.objOf
  exact q .none _ ρ _ _ ρ.le_refl (r.put (o := .set f (fun k => S k || decide (k = key l)) (if S (key l) then n else n + 1)) (s.toks + 1) hi e hs.extBut ho hO) rfl h
end
end Mine
end
section
set_option maxRecDepth 100000
set_option autoImplicit false
namespace Mine
open PySem PySem.Calls PySem.Spec PyProof.Rows PySem.W Builtin Builtin.ObjectAttr
namespace LI
theorem slot_ga : Slot "list_iterator" "__getattribute__" "object.__getattribute__" :=
  .of (owner := "object") (n := "__getattribute__") (by rw [typeLookup_type, builtinLookup_eq_fast]; kernel_rfl) (by decide +kernel) (by decide +kernel) (by decide +kernel)
    (by first | exact .inl (by decide +kernel) | exact .inr (by decide +kernel)) (by rw [isSubtype_type]; kernel_rfl)
theorem entry_ga : entryFor table "object.__getattribute__" = some Builtin.«object.__getattribute__» := entryFor_of_tree (by kernel_rfl)
theorem args_ga (a b : Value) : argsOk "object.__getattribute__" ⟨[a, b], []⟩ := by unfold argsOk; kernel_rfl
theorem lk_next : typeLookup (.type "list_iterator") "__next__" = pure (some (.builtin "list_iterator.__next__")) := by rw [typeLookup_type, builtinLookup_eq_fast]; kernel_rfl
theorem ty_next : typeOf (.builtin "list_iterator.__next__") = pure (.type "wrapper_descriptor") := by show builtinType _ = _; rw [builtinType_eq_fast]; kernel_rfl
theorem wd_get : typeLookup (.type "wrapper_descriptor") "__get__" = pure (some (.builtin "wrapper_descriptor.__get__")) := by rw [typeLookup_type, builtinLookup_eq_fast]; kernel_rfl
theorem wd_set : typeLookup (.type "wrapper_descriptor") "__set__" = pure none := by rw [typeLookup_type, builtinLookup_eq_fast]; kernel_rfl
theorem wd_del : typeLookup (.type "wrapper_descriptor") "__delete__" = pure none := by rw [typeLookup_type, builtinLookup_eq_fast]; kernel_rfl
theorem slot_get : Slot "wrapper_descriptor" "__get__" "wrapper_descriptor.__get__" :=
  .of (owner := "wrapper_descriptor") (n := "__get__") (by rw [typeLookup_type, builtinLookup_eq_fast]; kernel_rfl) (by decide +kernel) (by decide +kernel) (by decide +kernel)
    (by first | exact .inl (by decide +kernel) | exact .inr (by decide +kernel)) (by rw [isSubtype_type]; kernel_rfl)
theorem entry_get : entryFor table "wrapper_descriptor.__get__" = some Builtin.«wrapper_descriptor.__get__» := entryFor_of_tree (by kernel_rfl)
theorem args_get (a b c : Value) : argsOk "wrapper_descriptor.__get__" ⟨[a, b, c], []⟩ := by unfold argsOk; kernel_rfl
theorem sub : isSubtype (.type "list_iterator") (.type "list_iterator") = pure true := by rw [isSubtype_type]; kernel_rfl
theorem bound (it : Addr) : checkBoundCall "list_iterator.__next__" ⟨[.ref it], []⟩ = pure () := by kernel_rfl
theorem plain : plainId "list_iterator.__next__" = true := by decide +kernel
end LI
section
variable {prog : Program} {w : World} {A : Around} {E : Value → Shared → Prop} {s : Shared}
noncomputable abbrev iterObj (l : Addr) (i : Nat) : Obj := { cls := .type "list_iterator", data := .fields #[.ref l, .int i 0] }
noncomputable abbrev wrapObj (it : Addr) : Obj := { cls := .type "method-wrapper", data := .fields #[.builtin "list_iterator.__next__", .ref it] }
theorem ga_next {it l : Addr} {i : Nat} {Q : Value → Shared → Prop} (ho : s.heap.get? it = some (iterObj l i))
    (h : Q (.ref s.heap.objs.size) { s with heap := s.heap.push (wrapObj it), toks := s.toks + 1 }) :
    wpAny (model prog w) A (getAttr (.ref it) "__next__" true) Q E s := by
  have hT : s.TypeIs (.ref it) "list_iterator" := ⟨_, ho, rfl⟩
  have hT' : ({ s with toks := s.toks + 1 } : Shared).TypeIs (.ref it) "list_iterator" := ⟨_, ho, rfl⟩
  unfold getAttr
  refine wpAny_bind (wpAny_mkText ?_)
  unfold getAttrBy
  refine wpAny_holding (wpAny_bind (wpAny_typeOf hT' ?_))
  refine wpAny_bind (wpAny_of_eq LI.slot_ga.lookup ?_)
  show wpAny _ _ (getAttrByItsOwn _ _ _ _ _ _) _ _ _
  unfold getAttrByItsOwn
  refine wpAny_bind (wpAny_of_eq (a := none) rfl ?_)
  refine wpAny_bind (wpAny_attempt (wpAny_holding ?_))
  show wpAny _ _ (boundAndCalled _ _ _) _ _ _
  unfold boundAndCalled
  rw [LI.slot_ga.bind]
  refine wpAny_bind (wpAny_pure ?_)
  refine wpAny_call_entry LI.slot_ga hT' LI.entry_ga ?_ (LI.args_ga _ _)
  unfold Builtin.«object.__getattribute__»
  refine wpAny_bind (wpAny_of_eq (a := (.ref it, [.str (Str.ofString "__next__") s.toks])) (by kernel_rfl) ?_)
  refine wpAny_bind (wpAny_of_eq (a := Str.ofString "__next__") (by kernel_rfl) ?_)
  refine wpAny_bind (wpAny_typeOf hT' ?_)
  refine wpAny_bind ?_
  unfold find
  refine wpAny_bind (wpAny_of_eq LI.lk_next ?_)
  have hs1 : ∀ {Q : Option Value → Shared → Prop} {E : Value → Shared → Prop} {A s} , Q (some (.builtin "wrapper_descriptor.__get__")) s → wpAny (model prog w) A (specialOf (.builtin "list_iterator.__next__") "__get__") Q E s := fun hq => by
    unfold specialOf
    exact wpAny_bind (wpAny_of_eq LI.ty_next (wpAny_of_eq LI.wd_get hq))
  have hs2 : ∀ {Q : Option Value → Shared → Prop} {E : Value → Shared → Prop} {A s} , Q none s → wpAny (model prog w) A (specialOf (.builtin "list_iterator.__next__") "__set__") Q E s := fun hq => by
    unfold specialOf
    exact wpAny_bind (wpAny_of_eq LI.ty_next (wpAny_of_eq LI.wd_set hq))
  have hs3 : ∀ {Q : Option Value → Shared → Prop} {E : Value → Shared → Prop} {A s} , Q none s → wpAny (model prog w) A (specialOf (.builtin "list_iterator.__next__") "__delete__") Q E s := fun hq => by
    unfold specialOf
    exact wpAny_bind (wpAny_of_eq LI.ty_next (wpAny_of_eq LI.wd_del hq))
  refine wpAny_bind (m := getOf _) ?_
  show wpAny _ _ (specialOf _ _) _ _ _
  refine hs1 ?_
  refine wpAny_bind (m := dataDescriptor? _ _) ?_
  show wpAny _ _ (takesStores _ >>= _) _ _ _
  refine wpAny_bind ?_
  unfold takesStores
  refine wpAny_bind (hs2 ?_)
  refine wpAny_ite ?_
  rw [if_neg (by decide)]
  refine wpAny_bind (hs3 ?_)
  refine wpAny_pure ?_
  refine wpAny_pure ?_
  show wpAny _ _ (ownThenClass _ _ _ _) _ _ _
  unfold ownThenClass
  refine wpAny_bind ?_
  show wpAny _ _ (ObjectAttr.ownDict it >>= inDict _) _ _ _
  refine wpAny_bind ?_
  unfold ObjectAttr.ownDict
  refine wpAny_bind (wpAny_loadPart (s := { s with toks := s.toks + 1 }) ho ?_)
  show wpAny _ _ (instanceDict it false) _ _ _
  unfold instanceDict
  refine wpAny_bind (wpAny_loadPart (s := { s with toks := s.toks + 1 }) ho ?_)
  refine wpAny_pure ?_
  show wpAny _ _ (pure none) _ _ _
  refine wpAny_pure ?_
  refine wpAny_bind (wpAny_of_eq (a := ()) (by rfl) ?_)
  show wpAny _ _ (byTheClass _ _) _ _ _
  unfold byTheClass
  refine wpAny_bind (wpAny_rule (wpAny_pure ?_))
  show wpAny _ _ (bindTo _ _ _ _) _ _ _
  unfold bindTo
  show wpAny _ _ (holding [Value.builtin "list_iterator.__next__"] (call (.builtin "wrapper_descriptor.__get__") [.builtin "list_iterator.__next__", .ref it, .type "list_iterator"]) >>= fun v => ret v) _ _ _
  refine wpAny_bind (wpAny_holding ?_)
  have hTn : ({ s with toks := s.toks + 1 } : Shared).TypeIs (.builtin "list_iterator.__next__") "wrapper_descriptor" := LI.ty_next
  refine wpAny_call_entry LI.slot_get hTn LI.entry_get ?_ (LI.args_get _ _ _)
  unfold Builtin.«wrapper_descriptor.__get__»
  refine wpAny_bind (wpAny_of_eq (a := (.builtin "list_iterator.__next__", some (.ref it), some (.type "list_iterator"))) (by kernel_rfl) ?_)
  obtain ⟨hh, gg, dr, tt, os⟩ := s
  dsimp only at ho h ⊢
  have L1 : Looks (model prog w) hh (isInstance (.ref it) (.type "list_iterator")) true := (Looks.ld (part := none) ho).andThen (Looks.now) |>.andThen (Looks.of_pure LI.sub)
  repeat lk
  exact ⟨_, rfl, wpAny_pure ⟨_, rfl, wpAny_pure h⟩⟩

/- the wrapper is called: an item -/
theorem mw_item {m it l : Addr} {i : Nat} {items : Array Value} {x : Value} {R : Result → Shared → Prop} (hm : s.heap.get? m = some (wrapObj it)) (ho : s.heap.get? it = some (iterObj l i)) (hl : s.heap.IsList l items) (hx : items[i]? = some x)
    (h : ∀ h', h'.get? it = some (iterObj l (i + 1)) → Heap.SameBut it s.heap h' → R (.ok (.ret x)) { s with heap := h' }) : codeAny (model prog w) A (.call (.ref m) ⟨[], []⟩) R s := by
  obtain ⟨ol, hol, _, nl, hdl⟩ := hl
  refine codeAny_of_tree ?_
  show wpAny _ _ (callAny (.ref m) _) _ _ _
  simp only [callAny]
  refine wpAny_bind (wpAny_load hm ?_)
  dsimp only
  rw [if_pos (by decide)]
  show wpAny _ _ (if (Value.type "method-wrapper" != Value.type "method") = true then _ else _) _ _ _
  rw [if_pos (by decide)]
  refine wpAny_bind (wpAny_of_eq (LI.bound it) ?_)
  refine wpAny_pure ⟨plainId_quiet LI.plain _, codeAny_builtin entry_listiter_next ?_⟩
  rw [Around.under_plainId LI.plain _]
  show wpAny _ _ (field (.ref it) 0 >>= _) _ _ s
  refine wpAny_bind (wpAny_field ho rfl (x := .ref l) rfl ?_)
  show wpAny _ _ (if (Value.ref l == Value.none) = true then _ else _) _ _ s
  rw [if_neg (show ¬ ((Value.ref l == Value.none) = true) from Bool.false_ne_true)]
  show wpAny _ _ (field (.ref it) 1 >>= _) _ _ s
  refine wpAny_bind (wpAny_field ho rfl (x := .int i 0) rfl ?_)
  show wpAny _ _ (seqItems? (.ref l) >>= _) _ _ s
  refine wpAny_bind (wpAny_seqItems hol hdl ?_)
  simp only [Int.toNat_natCast, hx]
  refine wpAny_bind (wpAny_setField ho rfl (by simp) (wpAny_pure (h _ ?_ (Heap.SameBut.update ..))))
  rw [Heap.get?_update_self _ ho (Obj.isFreed_of_fields (Obj.data_mapFields rfl _))]
  simp [Obj.mapFields, rawInt]
/- the wrapper is called: the end -/
theorem mw_end {m it l : Addr} {i : Nat} {items : Array Value} {R : Result → Shared → Prop} (hh : A.handled = none) (hm : s.heap.get? m = some (wrapObj it)) (ho : s.heap.get? it = some (iterObj l i)) (hl : s.heap.IsList l items) (hx : items[i]? = none)
    (h : ∀ h' e oe vs a0, Heap.ExtBut it s.heap h' → s.heap.get? e = none → h'.get? e = some oe → oe.cls = .type "StopIteration" → oe.data = .fields vs → vs[0]? = some a0 → vs[1]? = some .none → R (.error (.ref e)) { s with heap := h' }) :
    codeAny (model prog w) A (.call (.ref m) ⟨[], []⟩) R s := by
  obtain ⟨ol, hol, _, nl, hdl⟩ := hl
  refine codeAny_of_tree ?_
  show wpAny _ _ (callAny (.ref m) _) _ _ _
  simp only [callAny]
  refine wpAny_bind (wpAny_load hm ?_)
  dsimp only
  rw [if_pos (by decide)]
  show wpAny _ _ (if (Value.type "method-wrapper" != Value.type "method") = true then _ else _) _ _ _
  rw [if_pos (by decide)]
  refine wpAny_bind (wpAny_of_eq (LI.bound it) ?_)
  refine wpAny_pure ⟨plainId_quiet LI.plain _, codeAny_builtin entry_listiter_next ?_⟩
  rw [Around.under_plainId LI.plain _]
  show wpAny _ _ (field (.ref it) 0 >>= _) _ _ s
  refine wpAny_bind (wpAny_field ho rfl (x := .ref l) rfl ?_)
  show wpAny _ _ (if (Value.ref l == Value.none) = true then _ else _) _ _ s
  rw [if_neg (show ¬ ((Value.ref l == Value.none) = true) from Bool.false_ne_true)]
  show wpAny _ _ (field (.ref it) 1 >>= _) _ _ s
  refine wpAny_bind (wpAny_field ho rfl (x := .int i 0) rfl ?_)
  show wpAny _ _ (seqItems? (.ref l) >>= _) _ _ s
  refine wpAny_bind (wpAny_seqItems hol hdl ?_)
  simp only [Int.toNat_natCast, hx]
  refine wpAny_bind (wpAny_rule (wpAny_bind (wpAny_setField ho rfl (by simp) ?_)))
  show wpAny _ _ (newExc (.type "StopIteration") [] >>= _) _ _ _
  refine wpAny_bind ?_
  simp only [newExc, newTuple]
  refine wpAny_bind (wpAny_newObj_type ?_ (by size_fits))
  refine wpAny_bind (m := firstArgMember _ _) (wpAny_of_eq (a := Value.none) (by first | rfl | (simp only [firstArgMember]; rfl)) ?_)
  refine wpAny_newObj_type ?_ (by size_fits)
  simp only [raiseNew]
  refine wpAny_bind (wpAny_handled ?_)
  rw [show A.in1.handled = none from hh]
  refine wpAny_bind (wpAny_pure (wpAny_throw ?_))
  exact h _ _ _ _ _ (((Heap.SameBut.update ..).extBut.push _).push _) (Heap.get?_none_of_le (by simp)) (Heap.get?_push_size _ rfl) rfl rfl rfl rfl

theorem noteFirst {M : Model} {base : Heap} {env : Env} {outer : List Env} {L e : Addr} {oe : Obj} {vs : Array Value} {a0 : Value} {Q : Unit → Shared → Prop} (hfr : A.frames = some (env :: outer)) (hl : s.heap.FunFrames base (env :: outer)) (hf : env.frame = some L)
    (he : s.heap.get? e = some oe) (hkb : base.StaysIn s.heap) (hen : base.get? e = none) (hd : oe.data = .fields vs) (h1 : vs[1]? = some .none) (h0 : vs[0]? = some a0)
    (h : ∀ h', Heap.NotedW base (env :: outer) e oe.cls a0 (rawInt L) s.heap h' → Q () { s with heap := h' }) : wpAny M A (noteFrame (.ref e) env) Q E s := by
  unfold noteFrame
  simp only [hf]
  refine wpAny_bind (wpAny_field he hd h1 ?_)
  rw [if_neg (by decide)]
  exact wpAny_entryW hfr hl hf he hkb hen hd (Array.getElem?_eq_some_iff.mp h1).1 h0 h
end
end Mine
end
section
set_option maxRecDepth 100000
set_option autoImplicit false
namespace Mine
open PySem PySem.Calls PySem.Spec PyProof.Rows PySem.W

noncomputable def St.drop (σ : St) (i : Nat) : St := { σ with obj := fun j => if j = i then none else σ.obj j }
theorem St.drop_le {σ : St} {i : Nat} : (σ.drop i).le σ := ⟨fun _ h => h, fun j o e => by
  have e' : (if j = i then none else σ.obj j) = some o := e
  split at e'
  · cases e'
  · exact e', fun _ h => h⟩
section
variable {g : Bool} {w : World} {B : Heap} {env : Env} {A : Around} {σ : St} {fm : Fm} {ρ : Rho} {s : Shared}
theorem Rel.dropApart {i : Nat} {a : Addr} {o : O} (r : Rel w env fm ρ σ s) (hi : σ.obj i = some o) (ha : ρ i = some a) : Apart env fm ρ (σ.drop i) a := by
  obtain ⟨a', ob, p, _, _, own⟩ := r.obj i o hi
  rw [ha] at p; cases p
  refine ⟨own, fun j hj e => ?_⟩
  have hj' : (if j = i then none else σ.obj j) ≠ none := hj
  by_cases h : j = i
  · rw [if_pos h] at hj'; exact hj' rfl
  · rw [if_neg h] at hj'
    exact h (r.inj j i a hj' (by rw [hi]; exact Option.some_ne_none _) e ha)

noncomputable def frs (env : Env) (fm : Fm) : List Addr := (env :: fm.outs).filterMap (·.frame)
theorem FmOk.frs_not {b : Addr} (O : FmOk B env A fm) (hf : env.frame = some env.locals) (h1 : b ≠ env.locals) (h2 : fm.dat b = none) : b ∉ Mine.frs env fm := by
  unfold Mine.frs
  rw [List.filterMap_cons, hf]
  intro hb
  rcases List.mem_cons.mp hb with e | hb
  · exact h1 e
  · obtain ⟨e, he, hfe⟩ := List.mem_filterMap.mp hb
    obtain ⟨_, L, d, h3, _, h4, _⟩ := O.outs e he
    rw [h3] at hfe; cases hfe
    rw [h2] at h4; cases h4
theorem FmOk.frs_data {b : Addr} {o : Obj} (O : FmOk B env A fm) (r : Rel w env fm ρ σ s) (hf : env.frame = some env.locals) (hb : b ∈ Mine.frs env fm) (ho : s.heap.get? b = some o) : B.get? b = none ∧ ∀ vs, o.data ≠ .fields vs := by
  unfold Mine.frs at hb
  rw [List.filterMap_cons, hf] at hb
  rcases List.mem_cons.mp hb with e | hb
  · subst e
    obtain ⟨m, ⟨o', es, ep, g', hd, _⟩, _⟩ := r.ns
    rw [ho] at g'; cases g'
    refine ⟨?_, fun vs => by rw [hd]; intro h; cases h⟩
    cases q : B.get? env.locals with
    | none => rfl
    | some x => have := O.base _ _ q; rw [O.locs.1] at this; cases this
  · obtain ⟨e, he, hfe⟩ := List.mem_filterMap.mp hb
    obtain ⟨_, L, d, h3, h5, h4, h6⟩ := O.outs e he
    rw [h3] at hfe; cases hfe
    obtain ⟨o', g', hd⟩ := r.dat _ _ h4
    rw [ho] at g'; cases g'
    exact ⟨h5, fun vs => hd ▸ h6 vs⟩
/- frames have been noted -/
theorem Rel.noted {I : Addr} {h' : Heap} (r : Rel w env fm ρ σ s) (O : FmOk B env A fm) (hf : env.frame = some env.locals) (ap : Apart env fm ρ σ I)
    (k1 : ∀ b o, b ≠ I → b ∉ Mine.frs env fm → s.heap.get? b = some o → h'.get? b = some o)
    (k2 : ∀ b o, b ∈ Mine.frs env fm → s.heap.get? b = some o → (∀ vs, o.data ≠ .fields vs) → ∃ sl, h'.get? b = some { o with slots := sl }) : Rel w env fm ρ σ { s with heap := h' } where
  same := let ⟨_, tk, e⟩ := r.same; ⟨h', tk, by rw [e]⟩
  keep := fun b o e => by
    refine k1 b o (by rintro rfl; rw [ap.own.1] at e; cases e) (O.frs_not hf ?_ (O.dj b (by rw [e]; exact Option.some_ne_none _))) (r.keep b o e)
    rintro rfl; rw [O.locs.1] at e; cases e
  dat := fun b d e => by
    obtain ⟨o, g', hd⟩ := r.dat b d e
    by_cases hb : b ∈ Mine.frs env fm
    · obtain ⟨sl, h1⟩ := k2 b o hb g' (O.frs_data r hf hb g').2
      exact ⟨_, h1, hd⟩
    · exact ⟨o, k1 b o (by rintro rfl; rw [ap.own.2.1] at e; cases e) hb g', hd⟩
  ns := by
    obtain ⟨m, ⟨o, es, ep, g', hd, hk, hn⟩, q⟩ := r.ns
    have hb : env.locals ∈ Mine.frs env fm := by
      unfold Mine.frs
      rw [List.filterMap_cons, hf]; exact .head _
    obtain ⟨sl, h1⟩ := k2 _ o hb g' (O.frs_data r hf hb g').2
    exact ⟨m, ⟨_, es, ep, h1, hd, hk, hn⟩, q⟩
  cel := fun p hp n => by
    obtain ⟨c, x, e, ⟨o, g', hd⟩, v⟩ := r.cel p hp n
    have hm := mem_of_lookup e
    exact ⟨c, x, e, ⟨o, k1 c o (Ne.symm (fun q => ap.own.2.2.2 _ hm q.symm)) (O.frs_not hf (O.cels _ hm).2.1 (O.cels _ hm).1) g', hd⟩, v⟩
  cells := fun p hp => by
    obtain ⟨v, o, g', hd⟩ := r.cells p hp
    exact ⟨v, o, k1 p.2 o (fun q => ap.own.2.2.2 p hp q) (O.frs_not hf (O.cels _ hp).2.1 (O.cels _ hp).1) g', hd⟩
  obj := fun i o e => by
    obtain ⟨a, ob, p, g', q, own⟩ := r.obj i o e
    exact ⟨a, ob, p, k1 a ob (fun e' => ap.live i (by rw [e]; exact Option.some_ne_none _) (e' ▸ p)) (O.frs_not hf own.2.2.1 own.2.1) g', q, own⟩
  inj := r.inj
  free := r.free

theorem FmOk.funFrames {base : Heap} (O : FmOk B env A fm) (r : Rel w env fm ρ σ s) (hf : env.frame = some env.locals) (hk : env.scope.kind = .function) (hb : ∀ b ∈ Mine.frs env fm, base.get? b = none) : s.heap.FunFrames base (env :: fm.outs) := by
  refine ⟨by rw [hk]; decide, ?_, ?_⟩
  · obtain ⟨m, ⟨o, es, ep, g', hd, _⟩, _⟩ := r.ns
    refine ⟨env.locals, o, hf, hb _ ?_, g', fun vs => by rw [hd]; intro h; cases h⟩
    unfold Mine.frs; rw [List.filterMap_cons, hf]; exact .head _
  · have key : ∀ l : List Env, (∀ e ∈ l, e ∈ fm.outs) → s.heap.FunFrames base l := by
      intro l
      induction l with
      | nil => intro _; trivial
      | cons e l ih =>
        intro hl
        obtain ⟨h1, L, d, h3, h5, h4, h6⟩ := O.outs e (hl e (.head _))
        obtain ⟨o, g', hd⟩ := r.dat _ _ h4
        refine ⟨h1, ⟨L, o, h3, hb L ?_, g', fun vs => hd ▸ h6 vs⟩, ih fun x hx => hl x (.tail _ hx)⟩
        unfold Mine.frs; rw [List.filterMap_cons, hf]
        exact .tail _ (List.mem_filterMap.mpr ⟨e, hl e (.head _), h3⟩)
    exact key _ fun _ h => h

theorem sub_stop : isSubtype (.type "StopIteration") (.type "StopIteration") = pure true := by rw [isSubtype_type]; kernel_rfl
theorem exc_stop : isSubtype (.type "StopIteration") (.type "BaseException") = pure true := by rw [isSubtype_type]; kernel_rfl
theorem meta_stop : isSubtype (.type ((Manifest.find? "StopIteration").elim "type" fun x => x.metatype)) (.type "tuple") = pure false := by
  have : ((Manifest.find? "StopIteration").elim "type" fun x => x.metatype) = "type" := by decide +kernel
  rw [this, isSubtype_type]; kernel_rfl

theorem wpAny_gen {α : Type} {M : Model} {A : Around} {t : Sem α} {Q : α → Shared → Prop} {E : Value → Shared → Prop} {s : Shared}
    (h : ∀ (Q' : α → Shared → Prop) (E' : Value → Shared → Prop), (∀ v s, Q v s → Q' v s) → (∀ e s, E e s → E' e s) → wpAny M A t Q' E' s) : wpAny M A t Q E s := h Q E (fun _ _ x => x) fun _ _ x => x
theorem wt_trynext {n : Nat} {x : Str} {f : Expr} {b₀ : Stmt} {hb : List Stmt} {px cpos apos bp np hp pos : Pos} {K : Fl → St → Prop} (HB : BaseOk w B) (hA : AOk n A) (hf : env.frame = some env.locals) (hk : env.scope.kind = .function)
    (h : WE false w B env A f σ fun v σ₁ => ∃ mi ii li i items, v = .ref mi ∧ σ₁.obj mi = some (.nextOf ii) ∧ σ₁.obj ii = some (.iter li i) ∧ σ₁.obj li = some (.list items) ∧
      (∀ u, items[i]? = some u → K .brk ((σ₁.put ii (.iter li (i + 1))).set x u)) ∧ (items[i]? = none → ∀ A', A'.frames = A.frames → WS false w B env A' (b₀ :: hb) (σ₁.drop ii) K))
    (hx : Binds env x) (hcall : eval (.Call f [] [] cpos) env = (do callWith cpos (← eval f env) [] (backTo cpos (starEach [] env)) (backToKw cpos (keywordEach [] env))) := by rfl)
    (hsw : swapsWith (.Call f [] [] cpos) (some (.Name x px)) apos.line env = pure false := by rfl)
    (hxn : nsIn (KK w.params) mainGlobals "StopIteration" = some none := by kernel_rfl) (hv : bootBuiltins "StopIteration" = some (.type "StopIteration") := by kernel_rfl)
    (hg : env.globals = mainGlobals := by rfl) (hbn : env.builtins = builtinsNs := by rfl) (hlk : env.kindOf "StopIteration" = some .globalImplicit := by rfl) :
    WT g w B env A (exec (.Try [.Assign [.Name x px] (.Call f [] [] cpos) apos, .Break bp] [.ExceptHandler (some (.Name "StopIteration" np)) none (b₀ :: hb) hp] [] [] pos) env) FR σ K := fun fm ρ s Q E O r q => by
  refine wpG_of (wpAny_noRaise ?_)
  rw [arm_exec_Try]
  refine wpAny_bind (wpAny_standAt (wpAny_tryStmt_except ?_))
  refine wpAny_execs_cons ?_
  refine wpAny_Assign_Name ?_ hsw
  rw [hcall]
  refine wpAny_bind (wpG_any (h fm ρ s _ _ O r fun v σ₁ ρ₁ a s₁ l₁ r₁ v₁ h₁ => ?_))
  refine wpAny_gen fun Q1 E1 hQ1 hE1 => ?_
  refine ex5 h₁ fun mi ii li i items jj => ?_
  refine and6 jj fun ee hmi hii hli hitem hend => ?_
  clear h₁ jj
  subst ee
  obtain ⟨am, om, rfl, em, gm, ⟨ai, e1, rfl⟩, ownm⟩ := r₁.at hmi v₁
  obtain ⟨ai₂, oi, p2, gi, ⟨al', e2, rfl⟩, owni⟩ := r₁.obj ii _ hii
  rw [e1] at p2; cases p2
  obtain ⟨al, vs, e3, e4, hl, lr⟩ := r₁.list (x := .ref al') hli ⟨al', e2, rfl⟩
  cases e3
  refine callWith_of (P := fun h => h.get? am = some (wrapObj ai)) rfl (fun h' hh => ⟨.machine, .inr (.inl rfl), ?_⟩) (PySem.evalArgs_none ⟨gm, ?_⟩)
  · refine (Looks.ld (part := none) hh).andThen ?_
    dsimp only
    exact Looks.of_pure (by rfl)
  refine wpAny_call ?_
  cases hit : items[i]? with
  | some u =>
    obtain ⟨y, hy, vy⟩ := lr.get hit
    refine mw_item gm gi hl (by rw [← Array.getElem?_toList]; exact hy) fun h' hg' hs' => ?_
    have r₂ := r₁.put (o := .iter li (i + 1)) s₁.toks hii e1 hs'.extBut hg' ⟨al', e2, rfl⟩
    refine hQ1 _ _ ?_
    refine wpG_any (store_ (g := false) O r₂ vy hx hk fun s₃ r₃ => ?_)
    refine wpAny_execs_cons (wpAny_Break ?_)
    exact q .brk _ ρ₁ _ _ l₁ r₃ rfl (hitem u hit)
  | none =>
    have hlen : vs[i]? = none := by
      rw [← Array.getElem?_toList, List.getElem?_eq_none_iff, ← lr.length]
      exact List.getElem?_eq_none_iff.mp hit
    refine mw_end hA.handled gm gi hl hlen fun h' e oe vs' a0 hs' hen he hcls hd h0 h1 => ?_
    have ap := r₁.dropApart hii e1
    have r₂ := r₁.weaken (St.drop_le (σ := σ₁) (i := ii))
    have hfr : A.frames = some (env :: fm.outs) := O.frs hf
    have hne : ∀ b ∈ Mine.frs env fm, b ≠ ai := fun b hb hq => by
      subst hq
      exact O.frs_not hf owni.2.2.1 owni.2.1 hb
    have hgetE : ∀ b o, b ≠ ai → s₁.heap.get? b = some o → h'.get? b = some o := fun b o hb ho => hs' b o hb ho
    have hstay : (hideAll s₁.heap (ai :: Mine.frs env fm)).StaysIn h' := fun b o hbo => by
      refine hgetE b o ?_ (of_hideAll _ hbo)
      rintro rfl
      rw [hideAll_none _ (.head _)] at hbo; cases hbo
    have hbe : (hideAll s₁.heap (ai :: Mine.frs env fm)).get? e = none := by
      cases qq : (hideAll s₁.heap (ai :: Mine.frs env fm)).get? e with
      | none => rfl
      | some o => rw [of_hideAll _ qq] at hen; cases hen
    have r₃ : Rel w env fm ρ₁ (σ₁.drop ii) { s₁ with heap := h' } := r₂.besides s₁.toks ap hs'
    have hff : h'.FunFrames (hideAll s₁.heap (ai :: Mine.frs env fm)) (env :: fm.outs) := O.funFrames (s := { s₁ with heap := h' }) r₃ hf hk fun b hb => hideAll_none _ (.tail _ hb)
    refine hE1 _ _ ?_
    refine noteFirst hfr hff hf he hstay hbe hd h1 h0 fun h4 hN => ?_
    obtain ⟨k1, k2, k3, k4⟩ := hN
    have hheld4 : Heap.HeldW (hideAll s₁.heap (ai :: Mine.frs env fm)) (env :: fm.outs) e oe.cls a0 env.locals h4 := ⟨k1, hbe, k2, k3⟩
    refine wpAny_landsW hheld4 fun h5 hfl5 hsm5 => ?_
    obtain ⟨ob, hob, hobc⟩ := hfl5.there
    have rel : ∀ h6, Heap.FlyingW (hideAll s₁.heap (ai :: Mine.frs env fm)) (env :: fm.outs) e oe.cls a0 h6 → Heap.UpToSlots h' h6 → Rel w env fm ρ₁ (σ₁.drop ii) { s₁ with heap := h6 } := fun h6 hfl hsm =>
      r₂.noted O hf ap (fun b o hb hbf ho => hfl.1 b o (hideAll_get _ ho (by
        intro hm
        rcases List.mem_cons.mp hm with e | hm
        · exact hb e
        · exact hbf hm))) fun b o hbf ho hnf => hsm b o (hgetE b o (hne b hbf) ho) hnf
    have hO' : ∀ A', A'.frames = A.frames → FmOk B env A' fm := fun A' e => O.around e
    refine wpAny_handleBy_builtin (X := "StopIteration") (T := "StopIteration") (b := true) exc_stop meta_stop sub_stop ?_
    obtain ⟨pp, ll, mm, mg, mb, T⟩ := HB.top
    have r5 := rel h5 hfl5 (Heap.UpToSlots.trans k4 hsm5)
    refine Name_function_global hk hlk (loadGlobal_builtin (hg ▸ T.g.keeps (r5.base O)) (mg_none_of HB.kin T.g hxn) (hbn ▸ T.b.keeps (r5.base O)) ((T.builtins "StopIteration" (by decide)).trans hv) ?_) (by decide)
    refine ⟨rfl, ⟨ob, hob, hobc.trans hcls⟩, ?_⟩
    rw [if_pos rfl]
    refine lands_againW hfl5 fun h6 hfl6 hsm6 => ?_
    refine wpAny_passesOwnAt PassesOwnAt.never ?_
    exact wpG_any (hend hit (A.mark (some (.ref e))) rfl fm ρ₁ { s₁ with heap := h6 } _ _ (hO' _ rfl) (rel h6 hfl6 ((Heap.UpToSlots.trans k4 hsm5).trans hsm6)) fun f σ' ρ' c s' l' r' fr kk => q f σ' ρ' c s' (l₁.trans l') r' fr kk)
end
end Mine
end
section
set_option maxRecDepth 100000
set_option autoImplicit false
namespace Mine
open PySem PySem.Calls PySem.Spec PyProof.Rows PySem.W

section
variable {prog : Program} {w : World} {A : Around} {E : Value → Shared → Prop} {s : Shared}
theorem meets_bool_new_list (l : Addr) (items : Array Value) (hz : (items.size : Int) < 2 ^ 63) :
    Meets (Builtin.«bool.__new__» ⟨[.type "bool", .ref l], []⟩) (fun _ R s => s.heap.IsList l items ∧ R (.ok (.ret (.bool (!items.isEmpty)))) { s with toks := s.toks + 1 + 1 }) :=
  Meets.of_wp fun prog w A R s hs => by
    obtain ⟨hl, hs⟩ := hs
    obtain ⟨hp, g, d, tk, os⟩ := s
    have f1 := PySem.F.conv_sub_bool
    repeat (any_goals (first | assumption | (with_reducible refine wpAny_truthy_list hl hz ?_) | wp_step))
    all_goals first | exact ⟨_, rfl, hs⟩ | exact hs | skip
end
noncomputable def V.isNone : V → Bool
  | .none => true
  | _ => false
section
variable {g : Bool} {w : World} {B : Heap} {env : Env} {A : Around} {σ : St} {pos px apos : Pos} {K : V → St → Prop}
theorem PlainV.none_iff {ρ : Rho} {v : V} {x : Value} (h : PlainV v) (hv : VR ρ v x) : (x == Value.none) = v.isNone := by
  cases v with
  | raw r => exact h.elim
  | none => cases hv; rfl
  | bool b => cases hv; rfl
  | int i => obtain ⟨t, rfl⟩ := hv; rfl
  | str i => obtain ⟨t, rfl⟩ := hv; rfl
  | bytes i => obtain ⟨t, rfl⟩ := hv; rfl
  | ref i => obtain ⟨a, _, rfl⟩ := hv; rfl
theorem op_is_none {v : V} (hp : PlainV v) (h : K (.bool v.isNone) σ) : W2 g w B env A (compareOp .Is) VR v .none σ K := by
  rintro fm ρ s x y Q E O r hx hy q
  cases hy
  refine wpG_of (is_none_gen ?_)
  rw [hp.none_iff hx]
  exact q _ σ ρ _ s ρ.le_refl r vbool h
theorem op_isnot_none {v : V} (hp : PlainV v) (h : K (.bool (!v.isNone)) σ) : W2 g w B env A (compareOp .IsNot) VR v .none σ K := by
  rintro fm ρ s x y Q E O r hx hy q
  cases hy
  refine wpG_of (isnot_none_gen ?_)
  rw [hp.none_iff hx]
  exact q _ σ ρ _ s ρ.le_refl r vbool h
theorem we_walrus {x : Str} {e : Expr} (h : WE false w B env A e σ fun v σ₁ => K v (σ₁.set x v)) (hx : Binds env x := by exact .inl rfl) (hk : env.scope.kind = .function := by rfl) : WE g w B env A (.NamedExpr (.Name x px) e pos) σ K := fun fm ρ s Q E O r q =>
  wpG_of (wpAny_NamedExpr (wpG_any (h fm ρ s _ E O r fun v σ₁ ρ₁ a s₁ l₁ r₁ v₁ h₁ => wpAny_assign_Name (wpG_any (store_ (g := false) O r₁ v₁ hx hk fun s' r' => q v _ _ _ _ l₁ r' v₁ h₁)))))
theorem truthy_none {K : Bool → St → Prop} (h : K false σ) : W1 g w B env A truthy BR .none σ K := by
  rintro fm ρ s _ Q E O r rfl q
  exact wpG_pure (q _ _ ρ _ s ρ.le_refl r rfl h)
theorem truthy_l {j : Nat} {xs : List V} {K : Bool → St → Prop} (hj : σ.obj j = some (.list xs)) (hz : xs.length ≤ 1000) (h : K (!xs.isEmpty) σ) : W1 g w B env A truthy BR (.ref j) σ K := by
  rintro fm ρ s x Q E O r hx q
  obtain ⟨a, vs, rfl, e, hl, lr⟩ := r.list hj hx
  have hlen : vs.size = xs.length := by rw [← Array.length_toList]; exact lr.length.symm
  refine wpG_of (wpAny_truthy_list hl (by lia) ?_)
  have : vs.isEmpty = xs.isEmpty := by
    rw [← Array.isEmpty_toList]
    have := lr.length
    cases hx : xs with
    | nil => rw [hx] at this; cases hv : vs.toList with
      | nil => rfl
      | cons _ _ => rw [hv] at this; cases this
    | cons _ _ => rw [hx] at this; cases hv : vs.toList with
      | nil => rw [hv] at this; cases this
      | cons _ _ => rfl
  rw [this]
  exact q _ σ ρ _ _ ρ.le_refl (r.tok _) rfl h
theorem wc_bool_list {j : Nat} {xs : List V} (hj : σ.obj j = some (.list xs)) (hz : xs.length ≤ 1000) (h : K (.bool (!xs.isEmpty)) σ) : WC g w B env A (.type "bool") [.ref j] σ K := by
  rintro fm ρ s ys Q E O r hv q
  obtain ⟨y, rfl, hy⟩ := LR.one hv
  obtain ⟨a, vs, rfl, e, hl, lr⟩ := r.list hj hy
  have hlen : vs.size = xs.length := by rw [← Array.length_toList]; exact lr.length.symm
  refine wpG_of (call_bool_1 (meets_bool_new_list a vs (by lia)) ⟨hl, rfl, ?_⟩)
  have : vs.isEmpty = xs.isEmpty := by
    rw [← Array.isEmpty_toList]
    have := lr.length
    cases hx : xs with
    | nil => rw [hx] at this; cases hv : vs.toList with
      | nil => rfl
      | cons _ _ => rw [hv] at this; cases this
    | cons _ _ => rw [hx] at this; cases hv : vs.toList with
      | nil => rw [hv] at this; cases this
      | cons _ _ => rfl
  rw [this]
  exact q (.bool (!xs.isEmpty)) σ ρ _ _ ρ.le_refl (r.tok _) rfl h
/- and, or as values -/
theorem we_and {e₁ e₂ : Expr} (h : WE g w B env A e₁ σ fun v σ₁ => W1 g w B env A truthy BR v σ₁ fun b σ₂ => if b then WE g w B env A e₂ σ₂ K else K v σ₂) (hv : ∀ ρ ρ' : Rho, ρ.le ρ' → True := by intros; trivial) : WE g w B env A (.BoolOp .And [e₁, e₂] pos) σ K := fun fm ρ s Q E O r q => by
  show wpG g _ _ (do
    let v ← eval e₁ env
    standAt pos
    let c ← holding [v] (truthy v)
    match BoolOp.And, c with
    | .And, false | .Or, true => pure v
    | _, _ => boolOp pos .And (eval e₂ env :: evalEach [] env)) Q E s
  refine wpG_bind (h fm ρ s _ E O r fun v σ₁ ρ₁ a s₁ l₁ r₁ v₁ h₁ => wpG_bind (wpG_standAt (wpG_bind (wpG_holding (h₁ fm ρ₁ s₁ a _ E O r₁ v₁ fun b σ₂ ρ₂ c s₂ l₂ r₂ v₂ h₂ => ?_)))))
  cases v₂
  cases b with
  | false => exact wpG_pure (q v _ _ _ _ (l₁.trans l₂) r₂ (v₁.mono l₂) h₂)
  | true => exact h₂ fm ρ₂ s₂ Q E O r₂ fun u σ' ρ' c s' l' r' vr kk => q u σ' ρ' c s' ((l₁.trans l₂).trans l') r' vr kk
theorem we_or {e₁ e₂ : Expr} (h : WE g w B env A e₁ σ fun v σ₁ => W1 g w B env A truthy BR v σ₁ fun b σ₂ => if b then K v σ₂ else WE g w B env A e₂ σ₂ K) : WE g w B env A (.BoolOp .Or [e₁, e₂] pos) σ K := fun fm ρ s Q E O r q => by
  show wpG g _ _ (do
    let v ← eval e₁ env
    standAt pos
    let c ← holding [v] (truthy v)
    match BoolOp.Or, c with
    | .And, false | .Or, true => pure v
    | _, _ => boolOp pos .Or (eval e₂ env :: evalEach [] env)) Q E s
  refine wpG_bind (h fm ρ s _ E O r fun v σ₁ ρ₁ a s₁ l₁ r₁ v₁ h₁ => wpG_bind (wpG_standAt (wpG_bind (wpG_holding (h₁ fm ρ₁ s₁ a _ E O r₁ v₁ fun b σ₂ ρ₂ c s₂ l₂ r₂ v₂ h₂ => ?_)))))
  cases v₂
  cases b with
  | true => exact wpG_pure (q v _ _ _ _ (l₁.trans l₂) r₂ (v₁.mono l₂) h₂)
  | false => exact h₂ fm ρ₂ s₂ Q E O r₂ fun u σ' ρ' c s' l' r' vr kk => q u σ' ρ' c s' ((l₁.trans l₂).trans l') r' vr kk

-- stores at several targets
noncomputable abbrev WTA (g : Bool) (w : World) (B : Heap) (env : Env) (A : Around) (t : Expr) (v : V) (σ : St) (K : St → Prop) : Prop := W1 g w B env A (assign t env) UR v σ fun _ σ' => K σ'
theorem ws_assign2 {t₁ t₂ value : Expr} {rest : List Stmt} {K : Fl → St → Prop} (h : WE false w B env A value σ fun v σ₁ => WTA false w B env A t₁ v σ₁ fun σ₂ => WTA false w B env A t₂ v σ₂ fun σ' => WS g w B env A rest σ' K)
    (he : (assignEach [t₁, t₂] env).map (·.2) = [assign t₁ env, assign t₂ env] := by rfl) (hw : swappedStores [t₁, t₂] value env = pure none := by rfl) : WS g w B env A (.Assign [t₁, t₂] value pos :: rest) σ K :=
  ws_cons fun fm ρ s Q E O r q => wpG_of (wpAny_Assign_two (wpG_any (h fm ρ s _ E O r fun v σ₁ ρ₁ a s₁ l₁ r₁ v₁ h₁ => wpG_any (h₁ fm ρ₁ s₁ a _ E O r₁ v₁ fun _ σ₂ ρ₂ _ s₂ l₂ r₂ _ h₂ =>
    wpG_any (h₂ fm ρ₂ s₂ a _ E O r₂ (v₁.mono l₂) fun _ σ' ρ' _ s' l' r' _ kk => q .next _ _ _ _ ((l₁.trans l₂).trans l') r' rfl kk)))) he hw)
theorem wta_sub {o i : Expr} {v : V} {K : St → Prop} (h : ∀ (R : V), WE false w B env A o σ fun ov σ₁ => WE false w B env A i σ₁ fun iv σ₂ => W3 false w B env A setItem ov iv v σ₂ K) : WTA g w B env A (.Subscript o i px) v σ K := fun fm ρ s a Q E O r hv q => by
  refine wpG_of ?_
  rw [assign_Subscript]
  refine wpAny_bind (wpAny_holding (wpG_any (h .none fm ρ s _ E O r fun ov σ₁ ρ₁ b s₁ l₁ r₁ v₁ h₁ => ?_)))
  refine wpAny_bind (wpAny_holding (wpG_any (h₁ fm ρ₁ s₁ _ E O r₁ fun iv σ₂ ρ₂ c s₂ l₂ r₂ v₂ h₂ => ?_)))
  refine wpAny_bind (wpAny_standAt (wpAny_bind (wpAny_holding (wpG_any (h₂ fm ρ₂ s₂ b c a _ E O r₂ (v₁.mono l₂) v₂ (hv.mono (l₁.trans l₂)) fun σ' ρ' s' l' r' kk => ?_)))))
  exact wpAny_release (q () _ _ _ _ ((l₁.trans l₂).trans l') r' trivial kk)

-- deleting an item
theorem ws_delsub {o i : Expr} {rest : List Stmt} {K : Fl → St → Prop} (h : WE false w B env A o σ fun ov σ₁ => WE false w B env A i σ₁ fun iv σ₂ => W2 false w B env A delItem UR ov iv σ₂ fun _ σ' => WS g w B env A rest σ' K) :
    WS g w B env A (.Delete [.Subscript o i px] pos :: rest) σ K :=
  ws_cons fun fm ρ s Q E O r q => wpG_of (wpAny_Delete (wpAny_deleteEach_cons (wpAny_delete_Subscript (wpG_any (h fm ρ s _ E O r fun ov σ₁ ρ₁ a s₁ l₁ r₁ v₁ h₁ => wpG_any (h₁ fm ρ₁ s₁ _ E O r₁ fun iv σ₂ ρ₂ b s₂ l₂ r₂ v₂ h₂ =>
    wpG_any (h₂ fm ρ₂ s₂ a b _ E O r₂ (v₁.mono l₂) v₂ fun _ σ' ρ' _ s' l' r' _ kk => wpAny_deleteEach_nil (q .next _ _ _ _ ((l₁.trans l₂).trans l') r' rfl kk))))))))

-- iter of a list, and its __next__
theorem wc_iter {j i : Nat} {xs : List V} (hj : σ.obj j = some (.list xs)) (hi : σ.free i) (h : K (.ref i) (σ.new i (.iter j 0))) : WC g w B env A (.builtin "iter") [.ref j] σ K := by
  rintro fm ρ s ys Q E O r hv q
  obtain ⟨y, rfl, hy⟩ := LR.one hv
  obtain ⟨a, vs, rfl, e, hl, lr⟩ := r.list hj hy
  refine wpG_of (call_function_entry (by decide +kernel) (by decide +kernel) kdk_entry_iter (kdk_args_iter _) ?_)
  unfold Builtin.«iter»
  refine wpAny_bind (m := someArgs "iter" 1 2 _) (wpAny_of_eq (a := [Value.ref a]) (by first | rfl | kernel_rfl!) ?_)
  show wpAny _ _ (pyIter (.ref a) >>= _) _ _ _
  refine wpAny_bind (wpAny_pyIter_list hl ?_)
  obtain ⟨h1, h2, h3⟩ := r.push (i := i) (o := .iter j 0) s.toks hi (ob := iterObj a 0) rfl ⟨a, Rho.le_upd (r.free i hi) _ _ e, rfl⟩
  exact wpAny_pure ⟨_, rfl, q _ _ _ _ _ h1 h2 h3 h⟩
theorem ga_iter {j l k i : Nat} (hj : σ.obj j = some (.iter l k)) (hi : σ.free i) (h : K (.ref i) (σ.new i (.nextOf j))) : W1 g w B env A (fun a => getAttr a "__next__" true) VR (.ref j) σ K := by
  rintro fm ρ s x Q E O r hx q
  obtain ⟨a, ob, rfl, e, ho, ⟨al, e2, rfl⟩, own⟩ := r.at hj hx
  refine wpG_of (ga_next ho ?_)
  obtain ⟨h1, h2, h3⟩ := r.push (i := i) (o := .nextOf j) (s.toks + 1) hi (ob := wrapObj a) rfl ⟨a, Rho.le_upd (r.free i hi) _ _ e, rfl⟩
  exact q _ _ _ _ _ h1 h2 h3 h
end
end Mine
end
section
set_option maxRecDepth 100000
set_option autoImplicit false
namespace Mine
open PySem PySem.Calls PySem.Spec PyProof.Rows PySem.W

section
variable {w : World}
theorem defNodeInit : DefOk w 43 fdNodeInit (dBody (stC 6 1)) ["self", "node"] where
  obj := ⟨{ cls := .type "function", data := .func _ }, by kernel_rfl, rfl⟩
  body := rfl
  code := by kernel_rfl
  clo := rfl
  nodup := by decide
  kinds := fun n x hx => by simp only [List.mem_cons, List.not_mem_nil, or_false] at hx; rcases hx with rfl | rfl <;> exact .inl (by kernel_rfl)
  cellsNodup := fun n => by rw [show (cellsFrom n fdNodeInit.scope.names []).map (·.1) = [] by kernel_rfl]; exact List.nodup_nil
  co := by kernel_rfl
  gen := by kernel_rfl
  fn := by kernel_rfl
theorem defInit : DefOk w 80 fdInit (dBody (stC 8 0)) ["self", "graph"] where
  obj := ⟨{ cls := .type "function", data := .func _ }, by kernel_rfl, rfl⟩
  body := rfl
  code := by kernel_rfl
  clo := rfl
  nodup := by decide
  kinds := fun n x hx => by simp only [List.mem_cons, List.not_mem_nil, or_false] at hx; rcases hx with rfl | rfl <;> exact .inl (by kernel_rfl)
  cellsNodup := fun n => by rw [show (cellsFrom n fdInit.scope.names []).map (·.1) = [] by kernel_rfl]; exact List.nodup_nil
  co := by kernel_rfl
  gen := by kernel_rfl
  fn := by kernel_rfl
theorem defGetNode : DefOk w 87 fdGetNode (dBody (stC 8 1)) ["self", "node"] where
  obj := ⟨{ cls := .type "function", data := .func _ }, by kernel_rfl, rfl⟩
  body := rfl
  code := by kernel_rfl
  clo := rfl
  nodup := by decide
  kinds := fun n x hx => by simp only [List.mem_cons, List.not_mem_nil, or_false] at hx; rcases hx with rfl | rfl <;> exact .inl (by kernel_rfl)
  cellsNodup := fun n => by rw [show (cellsFrom n fdGetNode.scope.names []).map (·.1) = [] by kernel_rfl]; exact List.nodup_nil
  co := by kernel_rfl
  gen := by kernel_rfl
  fn := by kernel_rfl
theorem defAdd : DefOk w 94 fdAdd (dBody (stC 8 2)) ["self", "node", "predecessors"] where
  obj := ⟨{ cls := .type "function", data := .func _ }, by kernel_rfl, rfl⟩
  body := rfl
  code := by kernel_rfl
  clo := rfl
  nodup := by decide
  kinds := fun n x hx => by simp only [List.mem_cons, List.not_mem_nil, or_false] at hx; rcases hx with rfl | rfl | rfl <;> exact .inl (by kernel_rfl)
  cellsNodup := fun n => by rw [show (cellsFrom n fdAdd.scope.names []).map (·.1) = [] by kernel_rfl]; exact List.nodup_nil
  co := by kernel_rfl
  gen := by kernel_rfl
  fn := by kernel_rfl
theorem defPrepare : DefOk w 99 fdPrepare (dBody (stC 8 3)) ["self"] where
  obj := ⟨{ cls := .type "function", data := .func _ }, by kernel_rfl, rfl⟩
  body := rfl
  code := by kernel_rfl
  clo := rfl
  nodup := by decide
  kinds := fun n x hx => by simp only [List.mem_cons, List.not_mem_nil, or_false] at hx; rcases hx with rfl <;> exact .inl (by kernel_rfl)
  cellsNodup := fun n => by rw [show (cellsFrom n fdPrepare.scope.names []).map (·.1) = [] by kernel_rfl]; exact List.nodup_nil
  co := by kernel_rfl
  gen := by kernel_rfl
  fn := by kernel_rfl
theorem defReady : DefOk w 106 fdReady (dBody (stC 8 4)) ["self"] where
  obj := ⟨{ cls := .type "function", data := .func _ }, by kernel_rfl, rfl⟩
  body := rfl
  code := by kernel_rfl
  clo := rfl
  nodup := by decide
  kinds := fun n x hx => by simp only [List.mem_cons, List.not_mem_nil, or_false] at hx; rcases hx with rfl <;> exact .inl (by kernel_rfl)
  cellsNodup := fun n => by rw [show (cellsFrom n fdReady.scope.names []).map (·.1) = [] by kernel_rfl]; exact List.nodup_nil
  co := by kernel_rfl
  gen := by kernel_rfl
  fn := by kernel_rfl
theorem defActive : DefOk w 113 fdActive (dBody (stC 8 5)) ["self"] where
  obj := ⟨{ cls := .type "function", data := .func _ }, by kernel_rfl, rfl⟩
  body := rfl
  code := by kernel_rfl
  clo := rfl
  nodup := by decide
  kinds := fun n x hx => by simp only [List.mem_cons, List.not_mem_nil, or_false] at hx; rcases hx with rfl <;> exact .inl (by kernel_rfl)
  cellsNodup := fun n => by rw [show (cellsFrom n fdActive.scope.names []).map (·.1) = [] by kernel_rfl]; exact List.nodup_nil
  co := by kernel_rfl
  gen := by kernel_rfl
  fn := by kernel_rfl
theorem defDone : DefOk w 127 fdDone (dBody (stC 8 7)) ["self", "nodes"] where
  obj := ⟨{ cls := .type "function", data := .func _ }, by kernel_rfl, rfl⟩
  body := rfl
  code := by kernel_rfl
  clo := rfl
  nodup := by decide
  kinds := fun n x hx => by simp only [List.mem_cons, List.not_mem_nil, or_false] at hx; rcases hx with rfl | rfl <;> exact .inl (by kernel_rfl)
  cellsNodup := fun n => by rw [show (cellsFrom n fdDone.scope.names []).map (·.1) = [] by kernel_rfl]; exact List.nodup_nil
  co := by kernel_rfl
  gen := by kernel_rfl
  fn := by kernel_rfl
theorem defCycle : DefOk w 134 fdCycle (dBody (stC 8 8)) ["self"] where
  obj := ⟨{ cls := .type "function", data := .func _ }, by kernel_rfl, rfl⟩
  body := rfl
  code := by kernel_rfl
  clo := rfl
  nodup := by decide
  kinds := fun n x hx => by simp only [List.mem_cons, List.not_mem_nil, or_false] at hx; rcases hx with rfl <;> exact .inl (by kernel_rfl)
  cellsNodup := fun n => by rw [show (cellsFrom n fdCycle.scope.names []).map (·.1) = [] by kernel_rfl]; exact List.nodup_nil
  co := by kernel_rfl
  gen := by kernel_rfl
  fn := by kernel_rfl
end
end Mine
end
section
set_option maxRecDepth 100000
set_option autoImplicit false
namespace Mine
open PySem PySem.Calls PySem.Spec PyProof.Rows PySem.W

/- what a sorter holds: n nodes, how many hold each up, which each holds up, the ready ones, two counts, the dict's epoch -/
structure SA where
  n : Nat
  np : Nat → Int
  su : Nat → List Nat
  rd : Option (List Nat)
  po : Int
  fi : Int
  ep : Nat

noncomputable def ents (hd : Nat → List Nat) (n : Nat) : List (Str × V) := (List.range n).map fun k => (key (hd k), V.ref (110 + k))
noncomputable def txts (f : Bool) (hd : Nat → List Nat) (l : List Nat) : List V := l.map fun j => T f (hd j)
noncomputable def rdV : Option (List Nat) → V
  | none => .none
  | some _ => .ref 103
noncomputable def satt (a : SA) : List (Str × V) := [("_node2info", .ref 102), ("_ready_nodes", rdV a.rd), ("_npassedout", .int a.po), ("_nfinished", .int a.fi)]
noncomputable def nodeO (f : Bool) (hd : Nat → List Nat) (a : SA) (k : Nat) : O := .slots 47 (120 + k) [some (T f (hd k)), some (.int (a.np k)), some (.ref (130 + k))]
/- the objects -/
noncomputable def cn (f : Bool) (hd : Nat → List Nat) (a : SA) (ob0 : Nat → Option O) (i : Nat) : Option O :=
  if i < 100 ∨ 200 ≤ i then ob0 i
  else if i = 100 then some (.inst 144 101)
  else if i = 101 then some (.attrs (satt a))
  else if i = 102 then some (.dict f (ents hd a.n) a.ep)
  else if i = 103 then a.rd.map fun l => .list (txts f hd l)
  else if 110 ≤ i ∧ i < 110 + a.n then some (nodeO f hd a (i - 110))
  else if 120 ≤ i ∧ i < 120 + a.n then some (.attrs [])
  else if 130 ≤ i ∧ i < 130 + a.n then some (.list (txts f hd (a.su (i - 130))))
  else none
/- the ids that are free -/
noncomputable def frc (a : SA) (fr0 : Nat → Prop) (i : Nat) : Prop :=
  fr0 i ∧ ((i < 100 ∨ 200 ≤ i) ∨ (a.rd = none ∧ i = 103) ∨ (110 + a.n ≤ i ∧ i < 116) ∨ (120 + a.n ≤ i ∧ i < 126) ∨ (130 + a.n ≤ i ∧ i < 136))
noncomputable abbrev SS (f : Bool) (hd : Nat → List Nat) (ob0 : Nat → Option O) (fr0 : Nat → Prop) (a : SA) (loc : List (Str × V)) : St := ⟨loc, cn f hd a ob0, frc a fr0⟩

section
variable {f : Bool} {hd : Nat → List Nat} {ob0 : Nat → Option O} {fr0 : Nat → Prop} {a : SA}
theorem cn_100 : cn f hd a ob0 100 = some (.inst 144 101) := rfl
theorem cn_101 : cn f hd a ob0 101 = some (.attrs (satt a)) := rfl
theorem cn_102 : cn f hd a ob0 102 = some (.dict f (ents hd a.n) a.ep) := rfl
theorem cn_103 {l : List Nat} (h : a.rd = some l) : cn f hd a ob0 103 = some (.list (txts f hd l)) := by
  show a.rd.map (fun l => O.list (txts f hd l)) = _
  rw [h]; rfl
theorem cn_node {k : Nat} (hk : k < a.n) (hn : a.n ≤ 6) : cn f hd a ob0 (110 + k) = some (nodeO f hd a k) := by
  unfold cn
  rw [if_neg (by lia), if_neg (by lia), if_neg (by lia), if_neg (by lia), if_neg (by lia), if_pos (by lia), Nat.add_sub_cancel_left]
theorem cn_nat {k : Nat} (hk : k < a.n) (hn : a.n ≤ 6) : cn f hd a ob0 (120 + k) = some (.attrs []) := by
  unfold cn
  rw [if_neg (by lia), if_neg (by lia), if_neg (by lia), if_neg (by lia), if_neg (by lia), if_neg (by lia), if_pos (by lia)]
theorem cn_succ {k : Nat} (hk : k < a.n) (hn : a.n ≤ 6) : cn f hd a ob0 (130 + k) = some (.list (txts f hd (a.su k))) := by
  unfold cn
  rw [if_neg (by lia), if_neg (by lia), if_neg (by lia), if_neg (by lia), if_neg (by lia), if_neg (by lia), if_neg (by lia), if_pos (by lia), Nat.add_sub_cancel_left]
theorem cn_away {i : Nat} (hi : i < 100 ∨ 200 ≤ i) : cn f hd a ob0 i = ob0 i := if_pos hi
theorem cn_none {i : Nat} (h1 : 100 ≤ i) (h2 : i < 200) (hn : a.n ≤ 6) (h : (a.rd = none ∧ i = 103) ∨ (110 + a.n ≤ i ∧ i < 116) ∨ (120 + a.n ≤ i ∧ i < 126) ∨ (130 + a.n ≤ i ∧ i < 136)) : cn f hd a ob0 i = none := by
  unfold cn
  rw [if_neg (by lia), if_neg (by lia), if_neg (by lia), if_neg (by lia)]
  by_cases h3 : i = 103
  · rw [if_pos h3]
    rcases h with h | h | h | h
    · rw [h.1]; rfl
    · lia
    · lia
    · lia
  · rw [if_neg h3, if_neg (by lia), if_neg (by lia), if_neg (by lia)]
theorem txts_out {F : Nat → Prop} {l : List Nat} : ∀ v ∈ txts f hd l, VOut F v := fun v hv => by
  obtain ⟨j, _, rfl⟩ := List.mem_map.mp hv
  exact T_out _ _ _
theorem cn_oout {M i : Nat} {o : O} (h1 : 100 ≤ i) (h2 : i < 200) (hn : a.n ≤ 6) (h : cn f hd a ob0 i = some o) : OOut (Rg 1000 M) o := by
  have hr : ∀ j, j < 1000 → ¬ Rg 1000 M j := fun j hj hr => absurd hr.1 (by lia)
  unfold cn at h
  rw [if_neg (by lia)] at h
  split at h
  · cases h; exact hr _ (by lia)
  split at h
  · cases h
    intro p hp
    simp only [satt, List.mem_cons, List.not_mem_nil, or_false] at hp
    rcases hp with rfl | rfl | rfl | rfl
    · exact hr _ (by lia)
    · show VOut _ (rdV a.rd)
      cases a.rd
      · trivial
      · exact hr _ (by lia)
    · trivial
    · trivial
  split at h
  · cases h
    intro p hp
    obtain ⟨k, hk, rfl⟩ := List.mem_map.mp hp
    have := List.mem_range.mp hk
    exact hr _ (by lia)
  split at h
  · cases e : a.rd with
    | none => rw [e] at h; cases h
    | some l => rw [e] at h; cases h; exact txts_out
  split at h
  · rename_i hh
    cases h
    refine ⟨hr _ (by lia), fun v hv => ?_⟩
    simp only [List.mem_cons, List.not_mem_nil, or_false, Option.some.injEq] at hv
    rcases hv with rfl | rfl | rfl
    · exact T_out _ _ _
    · trivial
    · exact hr _ (by lia)
  split at h
  · cases h
    intro p hp; cases hp
  split at h
  · cases h; exact txts_out
  · cases h
/- the ids from 1000 on are given back -/
theorem sorter_cut {M : Nat} {a' : SA} {loc : List (Str × V)} {σ' : St} (hn : a'.n ≤ 6) (hl : σ'.loc = loc) (ho : ∀ i o, cn f hd a' ob0 i = some o → σ'.obj i = some o) (hf : ∀ i, frc a' fr0 i → σ'.free i ∨ Rg 1000 M i) :
    Cut (Rg 1000 M) (SS f hd ob0 fr0 a loc) σ' (SS f hd ob0 fr0 a' loc) where
  obj := fun i o e => by
    refine ⟨ho i o e, ?_⟩
    by_cases hi : i < 100 ∨ 200 ≤ i
    · refine .inl ?_
      have e' : cn f hd a' ob0 i = some o := e
      rw [cn_away hi] at e'
      show cn f hd a ob0 i = some o
      rw [cn_away hi, e']
    · refine .inr ⟨fun hr => ?_, cn_oout (by lia) (by lia) hn e⟩
      have := hr.1
      lia
  loc := fun p hp => ⟨by rw [hl]; exact hp, .inl hp⟩
  free := fun i hi => hf i hi
end
end Mine
end
section
set_option maxRecDepth 100000
set_option autoImplicit false
namespace Mine
open PySem PySem.Calls PySem.Spec PyProof.Rows PySem.W

section
variable {g : Bool} {w : World} {B : Heap} {env : Env} {A : Around} {σ : St} {K : V → St → Prop}
theorem CC.less {f : Value} {vs : List V} (h : CC g w B env A f vs σ fun v σ' => ∃ σ'', σ''.le σ' ∧ K v σ'') : CC g w B env A f vs σ K :=
  fun fm ρ s xs R O r l q => h fm ρ s xs R O r l fun b σ' ρ' a s' l r' e k => by
    obtain ⟨σ'', c, hk⟩ := k
    exact q b σ'' ρ' a s' l (r'.weaken c) e hk
theorem WC.less {f : Value} {vs : List V} (h : WC g w B env A f vs σ fun v σ' => ∃ σ'', σ''.le σ' ∧ K v σ'') : WC g w B env A f vs σ K :=
  fun fm ρ s xs Q E O r l q => h fm ρ s xs Q E O r l fun b σ' ρ' a s' l r' e k => by
    obtain ⟨σ'', c, hk⟩ := k
    exact q b σ'' ρ' a s' l (r'.weaken c) e hk
theorem CC.cut {f : Value} {vs : List V} (F : Nat → Prop) (hF : ∀ i, F i → σ.free i)
    (h : CC g w B env A f vs σ fun v σ' => ∃ σ'', Cut F σ σ' σ'' ∧ VOut F v ∧ K v σ'') : CC g w B env A f vs σ K :=
  fun fm ρ s xs R O r lr q => h fm ρ s xs R O r lr fun b σ' ρ' a s' l r' e k => by
    obtain ⟨σ'', c, hR, hk⟩ := k
    exact q b σ'' _ a s' (Rho.le_cut (fun i h => r.free i (hF i h)) l) (r.cut r' l hF c) (e.cut hR) hk

theorem cc_nodeinit {n i d l : Nat} {v : V} (HB : BaseOk w B) (hA : AOk (n + 1) A) (hf : env.frame = some env.locals) (hkind : env.scope.kind = .function)
    (hi : σ.obj i = some (.slots 47 d [])) (hd : σ.obj d = some (.attrs [])) (hid : d ≠ i) (hl : σ.free l) (hli : l ≠ i) (hld : l ≠ d)
    (h : K .none ⟨σ.loc, fun j => if j = i then some (.slots 47 d [some v, some (.int 0), some (.ref l)]) else if j = l then some (.list []) else σ.obj j, fun j => σ.free j ∧ j ≠ l⟩) :
    CC false w B env A (.ref 43) [.ref i, v] σ K := by
  refine CC.less (cc_def HB defNodeInit (bind_plain rfl fun xs hl => ?_) rfl hA hf hkind fun L A' hA' => ?_)
  · obtain ⟨x, y, rfl⟩ := len2 hl
    kernel_rfl
  refine ws_setattr (we_local rfl (we_local rfl (sa_slot (p := 48) (i := 0) HB hi hd (by kernel_rfl) (by decide) ?_ (by kernel_rfl))))
  refine ws_setattr (we_int (we_local rfl (sa_slot (p := 49) (i := 1) (d := d) (xs := [some v]) HB (if_pos rfl) ((if_neg hid).trans hd) (by kernel_rfl) (by decide) ?_ (by kernel_rfl))))
  refine ws_setattr (we_list (wa_nil ⟨l, hl, by decide, we_local rfl (sa_slot (p := 50) (i := 2) (d := d) (xs := [some v, some (.int 0)]) HB ((if_neg (Ne.symm hli)).trans (if_pos rfl)) ((if_neg (Ne.symm hld)).trans ((if_neg hid).trans ((if_neg hid).trans hd))) (by kernel_rfl) (by decide) ?_ (by kernel_rfl))⟩))
  refine ws_nil ⟨_, ?_, h⟩
  refine ⟨fun _ h => h, fun j o e => ?_, fun j hj => hj⟩
  refine Eq.trans ?_ e
  show (if j = i then _ else if j = l then _ else if j = i then _ else if j = i then _ else σ.obj j) = (if j = i then _ else if j = l then _ else σ.obj j)
  by_cases h1 : j = i
  · rw [if_pos h1, if_pos h1]; rfl
  · rw [if_neg h1, if_neg h1, if_neg h1, if_neg h1]

/- a new node -/
theorem wc_node {n i d l : Nat} {v : V} (HB : BaseOk w B) (hA : AOk (n + 2) A) (hf : env.frame = some env.locals) (hkind : env.scope.kind = .function)
    (hi : σ.free i) (hd : σ.free d) (hl : σ.free l) (hid : i ≠ d) (hli : l ≠ i) (hld : l ≠ d)
    (h : K (.ref i) ⟨σ.loc, fun j => if j = i then some (.slots 47 d [some v, some (.int 0), some (.ref l)]) else if j = l then some (.list []) else if j = d then some (.attrs []) else σ.obj j, fun j => ((σ.free j ∧ j ≠ d) ∧ j ≠ i) ∧ j ≠ l⟩) :
    WC g w B env A (.ref 47) [v] σ K := by
  refine (CC.less (cc_class (C := 47) (fI := 43) (i := i) (d := d) (.slots 47 d []) HB (.inr rfl) hA hi hd hid fun A' hA' => ?_)).wc
  refine cc_nodeinit (n := n) (i := i) (d := d) (l := l) HB hA' hf hkind (if_pos rfl) ((if_neg (Ne.symm hid)).trans (if_pos rfl)) (Ne.symm hid) ⟨⟨hl, hld⟩, hli⟩ hli hld ⟨rfl, _, ?_, h⟩
  refine ⟨fun _ h => h, fun j o e => ?_, fun j hj => hj⟩
  refine Eq.trans ?_ e
  show (if j = i then _ else if j = l then _ else if j = i then _ else if j = d then _ else σ.obj j) = (if j = i then _ else if j = l then _ else if j = d then _ else σ.obj j)
  by_cases h1 : j = i
  · rw [if_pos h1, if_pos h1]
  · rw [if_neg h1, if_neg h1, if_neg h1]
end

structure HdOk (hd : Nat → List Nat) : Prop where
  asc : ∀ k, Asc (hd k)
  inj : ∀ j k, j < 6 → k < 6 → hd j = hd k → j = k
structure Out0 (ob0 : Nat → Option O) (fr0 : Nat → Prop) : Prop where
  low : ∀ i, 100 ≤ i → i < 200 → fr0 i
  high : ∀ i, 1000 ≤ i → i < 1100 → fr0 i ∧ ob0 i = none

section
variable {f : Bool} {hd : Nat → List Nat}
theorem ents_keys {n : Nat} : (ents hd n).map (·.1) = (List.range n).map fun k => key (hd k) := by
  unfold ents; rw [List.map_map]; rfl
theorem ents_nodup {n : Nat} (H : HdOk hd) (hn : n ≤ 6) : ((ents hd n).map (·.1)).Nodup := by
  rw [ents_keys]
  refine List.pairwise_map.mpr (List.nodup_range.imp_of_mem ?_)
  intro a b ha hb hne e
  exact hne (H.inj a b (by have := List.mem_range.mp ha; lia) (by have := List.mem_range.mp hb; lia) (key_inj e))
theorem ents_succ {n : Nat} : ents hd (n + 1) = ents hd n ++ [(key (hd n), .ref (110 + n))] := by
  unfold ents; rw [List.range_succ, List.map_append]; rfl
theorem ents_len {n : Nat} : (ents hd n).length = n := by simp [ents]
theorem ents_get {n k : Nat} (h : k < n) : (ents hd n)[k]? = some (key (hd k), .ref (110 + k)) := by
  simp [ents, h]
theorem ents_new {n : Nat} (H : HdOk hd) (hn : n < 6) : key (hd n) ∉ (ents hd n).map (·.1) := by
  rw [ents_keys]
  intro h
  obtain ⟨k, hk, e⟩ := List.mem_map.mp h
  have := List.mem_range.mp hk
  have := H.inj k n (by lia) (by lia) (key_inj e)
  lia
theorem ents_lookup {n k : Nat} (H : HdOk hd) (hn : n ≤ 6) (hk : k < 6) : (ents hd n).lookup (key (hd k)) = if k < n then some (.ref (110 + k)) else none := by
  induction n with
  | zero => simp [ents]
  | succ n ih =>
    rw [ents_succ, List.lookup_append, ih (by lia)]
    by_cases h1 : k < n
    · rw [if_pos h1, if_pos (by lia)]; rfl
    · rw [if_neg h1]
      by_cases h2 : k = n
      · subst h2
        rw [if_pos (by lia)]
        simp
      · rw [if_neg (by lia)]
        have : key (hd k) ≠ key (hd n) := fun e => h2 (H.inj k n hk (by lia) (key_inj e))
        rw [List.lookup_cons, beq_eq_false_iff_ne.mpr this]; rfl
end
end Mine
end
section
set_option maxRecDepth 100000
set_option autoImplicit false
namespace Mine
open PySem PySem.Calls PySem.Spec PyProof.Rows PySem.W

noncomputable def upd {α : Type} (g : Nat → α) (n : Nat) (v : α) : Nat → α := fun k => if k = n then v else g k
theorem upd_self {α : Type} {g : Nat → α} {n : Nat} {v : α} : upd g n v n = v := if_pos rfl
theorem upd_ne {α : Type} {g : Nat → α} {n k : Nat} {v : α} (h : k ≠ n) : upd g n v k = g k := if_neg h
/- one node more -/
noncomputable def SA.more (a : SA) (ep : Nat) : SA := { a with n := a.n + 1, np := upd a.np a.n 0, su := upd a.su a.n [], ep := ep }

section
variable {g : Bool} {w : World} {B : Heap} {env : Env} {A : Around} {K : V → St → Prop} {f : Bool} {hd : Nat → List Nat} {ob0 : Nat → Option O} {fr0 : Nat → Prop} {a : SA} {loc : List (Str × V)}

theorem wc_getnode_old {n k : Nat} (HB : BaseOk w B) (hA : AOk (n + 1) A) (hf : env.frame = some env.locals) (hkind : env.scope.kind = .function) (H : HdOk hd) (hn : a.n ≤ 6) (hk : k < a.n)
    (h : K (.ref (110 + k)) (SS f hd ob0 fr0 a loc)) : WC g w B env A (.ref 87) [.ref 100, T f (hd k)] (SS f hd ob0 fr0 a loc) K := by
  have c0 : cn f hd a ob0 100 = some (.inst 144 101) := cn_100
  have c1 : cn f hd a ob0 101 = some (.attrs (satt a)) := cn_101
  have c2 : cn f hd a ob0 102 = some (.dict f (ents hd a.n) a.ep) := cn_102
  refine (cc_def HB defGetNode (bind_plain rfl fun xs hl => ?_) rfl hA hf hkind fun L A' hA' => ?_).wc
  · obtain ⟨x, y, rfl⟩ := len2 hl
    kernel_rfl
  refine ws_if (wb_cmp (we_walrus (we_meth HB PySem.F.plainAttrs_dict PySem.F.slot_dict_get PySem.F.type_dict_get (we_attr (we_local rfl (ga_inst (v := .ref 102) HB c0 c1 rfl trivial ?_))))))
  refine ⟨ty_dict c2, wa_cons (we_local rfl (wa_nil (wc_dget HB c2 (ents_nodup H hn) (H.asc k) ?_)))⟩
  rw [ents_lookup H hn (by lia), if_pos hk]
  refine we_none (op_is_none trivial ⟨_, rfl, ?_⟩)
  refine ws_nil ?_
  exact ws_return (we_local rfl h)

theorem cn_more {i ep : Nat} (hn : a.n < 6) (h1 : i ≠ 102) (h2 : i ≠ 110 + a.n) (h3 : i ≠ 120 + a.n) (h4 : i ≠ 130 + a.n) : cn f hd (a.more ep) ob0 i = cn f hd a ob0 i := by
  unfold cn
  by_cases c0 : i < 100 ∨ 200 ≤ i
  · rw [if_pos c0, if_pos c0]
  rw [if_neg c0, if_neg c0]
  by_cases c1 : i = 100
  · rw [if_pos c1, if_pos c1]
  rw [if_neg c1, if_neg c1]
  by_cases c2 : i = 101
  · rw [if_pos c2, if_pos c2]; rfl
  rw [if_neg c2, if_neg c2, if_neg h1, if_neg h1]
  by_cases c3 : i = 103
  · rw [if_pos c3, if_pos c3]; rfl
  rw [if_neg c3, if_neg c3]
  show (if 110 ≤ i ∧ i < 110 + (a.n + 1) then _ else if 120 ≤ i ∧ i < 120 + (a.n + 1) then _ else if 130 ≤ i ∧ i < 130 + (a.n + 1) then _ else _) = _
  by_cases c4 : 110 ≤ i ∧ i < 110 + a.n
  · rw [if_pos c4, if_pos (by lia)]
    unfold nodeO SA.more; dsimp only
    rw [upd_ne (by lia)]
  rw [if_neg c4, if_neg (by lia)]
  by_cases c5 : 120 ≤ i ∧ i < 120 + a.n
  · rw [if_pos c5, if_pos (by lia)]
  rw [if_neg c5, if_neg (by lia)]
  by_cases c6 : 130 ≤ i ∧ i < 130 + a.n
  · rw [if_pos c6, if_pos (by lia)]
    unfold SA.more; dsimp only
    rw [upd_ne (by lia)]
  rw [if_neg c6, if_neg (by lia)]

theorem wc_getnode_new {n : Nat} (HB : BaseOk w B) (hA : AOk (n + 3) A) (hf : env.frame = some env.locals) (hkind : env.scope.kind = .function) (H : HdOk hd) (hlow : ∀ i, 100 ≤ i → i < 200 → fr0 i) (hn : a.n < 6)
    (h : ∀ ep, K (.ref (110 + a.n)) (SS f hd ob0 fr0 (a.more ep) loc)) : WC g w B env A (.ref 87) [.ref 100, T f (hd a.n)] (SS f hd ob0 fr0 a loc) K := by
  have c0 : cn f hd a ob0 100 = some (.inst 144 101) := cn_100
  have c1 : cn f hd a ob0 101 = some (.attrs (satt a)) := cn_101
  have c2 : cn f hd a ob0 102 = some (.dict f (ents hd a.n) a.ep) := cn_102
  refine (CC.less (cc_def HB defGetNode (bind_plain rfl fun xs hl => ?_) rfl hA hf hkind fun L A' hA' => ?_)).wc
  · obtain ⟨x, y, rfl⟩ := len2 hl
    kernel_rfl
  refine ws_if (wb_cmp (we_walrus (we_meth HB PySem.F.plainAttrs_dict PySem.F.slot_dict_get PySem.F.type_dict_get (we_attr (we_local rfl (ga_inst (v := .ref 102) HB c0 c1 rfl trivial ?_))))))
  refine ⟨ty_dict c2, wa_cons (we_local rfl (wa_nil (wc_dget HB c2 (ents_nodup H (by lia)) (H.asc a.n) ?_)))⟩
  rw [ents_lookup H (by lia) hn, if_neg (Nat.lt_irrefl _)]
  refine we_none (op_is_none trivial ⟨_, rfl, ?_⟩)
  refine ws_assign2 (we_call HB (we_glob (v := .ref 47) HB ⟨_, rfl, kp_fn, wa_cons (we_local rfl (wa_nil ?_))⟩))
  have hfr : ∀ i, (i = 110 + a.n ∨ i = 120 + a.n ∨ i = 130 + a.n) → frc a fr0 i := fun i hi => ⟨hlow i (by lia) (by lia), by lia⟩
  refine wc_node (i := 110 + a.n) (d := 120 + a.n) (l := 130 + a.n) (n := n) HB hA' rfl rfl (hfr _ (by lia)) (hfr _ (by lia)) (hfr _ (by lia)) (by lia) (by lia) (by lia) ?_
  have g1 : ∀ i, i < 104 → (if i = 110 + a.n then some (O.slots 47 (120 + a.n) [some (T f (hd a.n)), some (.int 0), some (.ref (130 + a.n))]) else if i = 130 + a.n then some (.list []) else if i = 120 + a.n then some (.attrs []) else cn f hd a ob0 i) = cn f hd a ob0 i := fun i hi => by
    rw [if_neg (by lia), if_neg (by lia), if_neg (by lia)]
  refine wta_sub fun _ => we_attr (we_local rfl (ga_inst (v := .ref 102) HB ((g1 100 (by decide)).trans c0) ((g1 101 (by decide)).trans c1) rfl trivial (we_local rfl ?_)))
  refine st_dict HB ((g1 102 (by decide)).trans c2) (ents_nodup H (by lia)) (by rw [ents_len]; lia) (H.asc _) (ents_new H hn) fun ep => ?_
  refine w1_name ?_
  refine ws_nil ?_
  refine ws_return (we_local rfl ⟨_, ?_, h ep⟩)
  refine ⟨fun _ h => h, fun i o e => ?_, fun i hi => ?_⟩
  · refine Eq.trans ?_ e
    show (if i = 102 then some (O.dict f (ents hd a.n ++ [(key (hd a.n), V.ref (110 + a.n))]) ep) else if i = 110 + a.n then some (O.slots 47 (120 + a.n) [some (T f (hd a.n)), some (.int 0), some (.ref (130 + a.n))]) else if i = 130 + a.n then some (.list []) else if i = 120 + a.n then some (.attrs []) else cn f hd a ob0 i) = cn f hd (a.more ep) ob0 i
    by_cases h1 : i = 102
    · subst h1
      rw [if_pos rfl, ← ents_succ]; rfl
    rw [if_neg h1]
    by_cases h2 : i = 110 + a.n
    · subst h2
      rw [if_pos rfl, cn_node (by show a.n < a.n + 1; lia) (by show a.n + 1 ≤ 6; lia)]
      unfold nodeO SA.more; dsimp only
      rw [upd_self]
    rw [if_neg h2]
    by_cases h4 : i = 130 + a.n
    · subst h4
      rw [if_pos rfl, cn_succ (by show a.n < a.n + 1; lia) (by show a.n + 1 ≤ 6; lia)]
      unfold SA.more; dsimp only
      rw [upd_self]; rfl
    rw [if_neg h4]
    by_cases h3 : i = 120 + a.n
    · subst h3
      rw [if_pos rfl, cn_nat (by show a.n < a.n + 1; lia) (by show a.n + 1 ≤ 6; lia)]
    rw [if_neg h3, cn_more hn h1 h2 h3 h4]
  · obtain ⟨h1, h2⟩ := hi
    have h2' : (i < 100 ∨ 200 ≤ i) ∨ (a.rd = none ∧ i = 103) ∨ (110 + (a.n + 1) ≤ i ∧ i < 116) ∨ (120 + (a.n + 1) ≤ i ∧ i < 126) ∨ (130 + (a.n + 1) ≤ i ∧ i < 136) := h2
    refine ⟨⟨⟨⟨h1, ?_⟩, by lia⟩, by lia⟩, by lia⟩
    rcases h2' with h | h | h | h | h
    · exact .inl h
    · exact .inr (.inl h)
    · exact .inr (.inr (.inl ⟨by lia, by lia⟩))
    · exact .inr (.inr (.inr (.inl ⟨by lia, by lia⟩)))
    · exact .inr (.inr (.inr (.inr ⟨by lia, by lia⟩)))
end
end Mine
end
section
set_option maxRecDepth 100000
set_option autoImplicit false
namespace Mine
open PySem PySem.Calls PySem.Spec PyProof.Rows PySem.W

noncomputable def pput (ob : Nat → Option O) (i : Nat) (o : O) : Nat → Option O := fun j => if j = i then some o else ob j
noncomputable def pfree (fr : Nat → Prop) (i : Nat) : Nat → Prop := fun j => fr j ∧ j ≠ i
section
variable {g : Bool} {w : World} {B : Heap} {env : Env} {A : Around} {σ : St} {K : V → St → Prop} {f : Bool} {hd : Nat → List Nat} {ob0 : Nat → Option O} {fr0 : Nat → Prop} {a : SA} {loc : List (Str × V)}
theorem cn_pput {i j : Nat} {o : O} (hi : i < 100 ∨ 200 ≤ i) : cn f hd a (pput ob0 i o) j = if j = i then some o else cn f hd a ob0 j := by
  by_cases h : j = i
  · subst h; rw [cn_away hi, if_pos rfl]; exact if_pos rfl
  · rw [if_neg h]
    unfold cn
    split
    · exact if_neg h
    · rfl
theorem frc_pfree {i j : Nat} (h : frc a (pfree fr0 i) j) : frc a fr0 j ∧ j ≠ i := ⟨⟨h.1.1, h.2⟩, h.1.2⟩
/- a new object beside the sorter's -/
theorem SS_new {i : Nat} {o : O} (hi : i < 100 ∨ 200 ≤ i) : (SS f hd (pput ob0 i o) (pfree fr0 i) a loc).le ((SS f hd ob0 fr0 a loc).new i o) :=
  ⟨fun _ h => h, fun j o' e => by
    have e' : cn f hd a (pput ob0 i o) j = some o' := e
    rw [cn_pput hi] at e'
    exact e', fun j hj => frc_pfree hj⟩
/- what a call has made beside is given back -/
theorem back_cut {M : Nat} {a' : SA} {ob1 : Nat → Option O} {fr1 : Nat → Prop} (hn : a'.n ≤ 6) (ho : ∀ i, i < 1000 ∨ M ≤ i → ob1 i = ob0 i) (h0 : ∀ i, 1000 ≤ i → i < M → ob0 i = none) (hf : ∀ i, i < 1000 ∨ M ≤ i → fr0 i → fr1 i) :
    Cut (Rg 1000 M) (SS f hd ob0 fr0 a loc) (SS f hd ob1 fr1 a' loc) (SS f hd ob0 fr0 a' loc) :=
  sorter_cut hn rfl (fun i o e => by
    by_cases hi : i < 100 ∨ 200 ≤ i
    · rw [cn_away hi] at e
      show cn f hd a' ob1 i = some o
      rw [cn_away hi]
      by_cases hr : i < 1000 ∨ M ≤ i
      · rw [ho i hr, e]
      · rw [h0 i (by lia) (by lia)] at e; cases e
    · refine Eq.trans ?_ e
      show cn f hd a' ob1 i = cn f hd a' ob0 i
      unfold cn
      rw [if_neg hi, if_neg hi]) fun i hi => by
    by_cases hr : i < 1000 ∨ M ≤ i
    · exact .inl ⟨hf i hr hi.1, hi.2⟩
    · exact .inr ⟨by lia, by lia⟩

theorem bind_add {i : Nat} {u v : V} {vs : List V} (hi : σ.free i) (hz : vs.length ≤ 1000) : BindTo g w B env A fdAdd ["self", "node", "predecessors"] (u :: v :: vs) σ [u, v, .ref i] (σ.new i (.tuple vs)) := fun fm ρ s xs Q O r hv q => by
  match xs, hv with
  | x :: y :: ys, ⟨hx, hy, hys⟩ =>
    have e : bindArgs fdAdd ⟨x :: y :: ys, []⟩ = newTuple ys >>= fun t => pure ([("self" : Str), "node", "predecessors"].zip [x, y, t]) := by
      cases ys with
      | nil => kernel_rfl
      | cons z zs => kernel_rfl
    rw [e]
    refine wpG_of (wpAny_bind (wpAny_newTuple ?_ (Nat.le_trans (m := 1000) (by rw [← hys.length]; exact hz) (by decide))))
    obtain ⟨h1, h2, h3⟩ := r.push (i := i) (o := .tuple vs) s.toks hi (ob := { cls := .type "tuple", data := .seq ys.toArray }) rfl ⟨_, _, rfl, by rw [List.toList_toArray]; exact hys.mono (Rho.le_upd (r.free i hi))⟩
    exact wpAny_pure (q _ _ _ h1 h2 ⟨hx.mono h1, hy.mono h1, h3, trivial⟩)
theorem bind_done {i : Nat} {u : V} {vs : List V} (hi : σ.free i) (hz : vs.length ≤ 1000) : BindTo g w B env A fdDone ["self", "nodes"] (u :: vs) σ [u, .ref i] (σ.new i (.tuple vs)) := fun fm ρ s xs Q O r hv q => by
  match xs, hv with
  | x :: ys, ⟨hx, hys⟩ =>
    have e : bindArgs fdDone ⟨x :: ys, []⟩ = newTuple ys >>= fun t => pure ([("self" : Str), "nodes"].zip [x, t]) := by
      cases ys with
      | nil => kernel_rfl
      | cons z zs => kernel_rfl
    rw [e]
    refine wpG_of (wpAny_bind (wpAny_newTuple ?_ (Nat.le_trans (m := 1000) (by rw [← hys.length]; exact hz) (by decide))))
    obtain ⟨h1, h2, h3⟩ := r.push (i := i) (o := .tuple vs) s.toks hi (ob := { cls := .type "tuple", data := .seq ys.toArray }) rfl ⟨_, _, rfl, by rw [List.toList_toArray]; exact hys.mono (Rho.le_upd (r.free i hi))⟩
    exact wpAny_pure (q _ _ _ h1 h2 ⟨hx.mono h1, h3, trivial⟩)
end
end Mine
end
section
set_option maxRecDepth 100000
set_option autoImplicit false
namespace Mine
open PySem PySem.Calls PySem.Spec PyProof.Rows PySem.W

section
variable {f : Bool} {hd : Nat → List Nat} {ob0 : Nat → Option O} {fr0 : Nat → Prop} {a : SA} {loc : List (Str × V)}
theorem SS_put {a a' : SA} {X : Nat} {o : O} (h : ∀ i, cn f hd a' ob0 i = if i = X then some o else cn f hd a ob0 i) (hf : ∀ i, frc a' fr0 i → frc a fr0 i) : (SS f hd ob0 fr0 a' loc).le ((SS f hd ob0 fr0 a loc).put X o) :=
  ⟨fun _ h => h, fun i o' e => (h i).symm.trans e, hf⟩
theorem SS_loc {l : List (Str × V)} : (SS f hd ob0 fr0 a loc).le (SS f hd ob0 fr0 a (loc ++ l)) := ⟨fun _ h => List.mem_append_left _ h, fun _ _ h => h, fun _ h => h⟩
theorem SS_np {k : Nat} {v : Int} (hk : k < a.n) (hn : a.n ≤ 6) : (SS f hd ob0 fr0 { a with np := upd a.np k v } loc).le ((SS f hd ob0 fr0 a loc).put (110 + k) (.slots 47 (120 + k) [some (T f (hd k)), some (.int v), some (.ref (130 + k))])) := by
  refine SS_put (fun i => ?_) fun i h => h
  by_cases h : i = 110 + k
  · subst h
    rw [if_pos rfl, cn_node (a := { a with np := upd a.np k v }) hk hn]
    unfold nodeO; dsimp only; rw [upd_self]
  · rw [if_neg h]
    unfold cn
    dsimp only
    by_cases hr : 110 ≤ i ∧ i < 110 + a.n
    · rw [if_neg (by lia), if_neg (by lia), if_neg (by lia), if_neg (by lia), if_neg (by lia), if_pos hr, if_neg (by lia), if_neg (by lia), if_neg (by lia), if_neg (by lia), if_neg (by lia), if_pos hr]
      unfold nodeO; dsimp only
      rw [upd_ne (by lia)]
    · simp only [if_neg hr]; rfl
theorem SS_su {k : Nat} {l : List Nat} (hk : k < a.n) (hn : a.n ≤ 6) : (SS f hd ob0 fr0 { a with su := upd a.su k l } loc).le ((SS f hd ob0 fr0 a loc).put (130 + k) (.list (txts f hd l))) := by
  refine SS_put (fun i => ?_) fun i h => h
  by_cases h : i = 130 + k
  · subst h
    rw [if_pos rfl, cn_succ (a := { a with su := upd a.su k l }) hk hn]
    dsimp only; rw [upd_self]
  · rw [if_neg h]
    unfold cn
    dsimp only
    by_cases hr : 130 ≤ i ∧ i < 130 + a.n
    · rw [if_neg (by lia), if_neg (by lia), if_neg (by lia), if_neg (by lia), if_neg (by lia), if_neg (by lia), if_neg (by lia), if_pos hr, if_neg (by lia), if_neg (by lia), if_neg (by lia), if_neg (by lia), if_neg (by lia), if_neg (by lia), if_neg (by lia), if_pos hr]
      rw [upd_ne (by lia)]
    · simp only [if_neg hr]; rfl
theorem SS_rd {l l0 : List Nat} (h0 : a.rd = some l0) : (SS f hd ob0 fr0 { a with rd := some l } loc).le ((SS f hd ob0 fr0 a loc).put 103 (.list (txts f hd l))) := by
  refine SS_put (fun i => ?_) fun i h => ⟨h.1, ?_⟩
  · by_cases h : i = 103
    · subst h; rfl
    · rw [if_neg h]
      unfold cn
      by_cases h2 : i = 101
      · subst h2
        show some (O.attrs _) = some (O.attrs _)
        unfold satt; dsimp only; rw [h0]; rfl
      · simp only [if_neg h2, if_neg h]; rfl
  · have h2 := h.2
    rcases h2 with h2 | ⟨h2, _⟩ | h2 | h2 | h2
    · exact .inl h2
    · cases h2
    · exact .inr (.inr (.inl h2))
    · exact .inr (.inr (.inr (.inl h2)))
    · exact .inr (.inr (.inr (.inr h2)))
theorem SS_po {p : Int} : (SS f hd ob0 fr0 { a with po := p } loc).le ((SS f hd ob0 fr0 a loc).put 101 (.attrs (satt { a with po := p }))) := by
  refine SS_put (fun i => ?_) fun i h => h
  by_cases h : i = 101
  · subst h; rfl
  · rw [if_neg h]
    unfold cn
    simp only [if_neg h]; rfl
theorem SS_fi {p : Int} : (SS f hd ob0 fr0 { a with fi := p } loc).le ((SS f hd ob0 fr0 a loc).put 101 (.attrs (satt { a with fi := p }))) := by
  refine SS_put (fun i => ?_) fun i h => h
  by_cases h : i = 101
  · subst h; rfl
  · rw [if_neg h]
    unfold cn
    simp only [if_neg h]; rfl
theorem satt_nodup : ((satt a).map (·.1)).Nodup := by
  show ([("_node2info" : Str), "_ready_nodes", "_npassedout", "_nfinished"]).Nodup
  decide
/- a node is added behind others -/
noncomputable def addF (a : SA) (H : List Nat) (ep : Nat) : SA :=
  H.foldl (fun b j => { b with su := upd b.su j (b.su j ++ [a.n]) }) { a.more ep with np := upd (a.more ep).np a.n (H.length : Int) }
theorem foldSu_n (k : Nat) : ∀ (H : List Nat) (b : SA), (H.foldl (fun b j => { b with su := upd b.su j (b.su j ++ [k]) }) b).n = b.n
  | [], _ => rfl
  | j :: H, b => foldSu_n k H _
theorem take_foldl {α β : Type} (g : β → α → β) (b : β) (l : List α) {k : Nat} {x : α} (h : l[k]? = some x) : (l.take (k + 1)).foldl g b = g ((l.take k).foldl g b) x := by
  rw [List.take_add_one, h, List.foldl_append]; rfl
end

section
variable {g : Bool} {w : World} {B : Heap} {env : Env} {A : Around} {K : V → St → Prop} {f : Bool} {hd : Nat → List Nat} {ob0 : Nat → Option O} {fr0 : Nat → Prop} {a : SA} {loc : List (Str × V)}
theorem txts_get {l : List Nat} {k : Nat} {u : V} (h : (txts f hd l)[k]? = some u) : ∃ j, l[k]? = some j ∧ u = T f (hd j) := by
  unfold txts at h
  rw [List.getElem?_map] at h
  cases e : l[k]? with
  | none => rw [e] at h; cases h
  | some j => rw [e] at h; cases h; exact ⟨j, rfl, rfl⟩
theorem su_len (k : Nat) : ∀ (H : List Nat) (b : SA) (j : Nat), ((H.foldl (fun b j => { b with su := upd b.su j (b.su j ++ [k]) }) b).su j).length ≤ (b.su j).length + H.length
  | [], b, j => Nat.le_refl _
  | i :: H, b, j => by
    refine Nat.le_trans (su_len k H _ j) ?_
    dsimp only
    unfold upd
    split
    · rename_i h; subst h; simp; lia
    · simp

theorem W2.less {α β : Type} {t : Value → Value → Sem α} {R : Rho → β → α → Prop} {x y : V} {σ : St} {K : β → St → Prop} (h : W2 g w B env A t R x y σ fun v σ' => ∃ σ'', σ''.le σ' ∧ K v σ'') : W2 g w B env A t R x y σ K :=
  fun fm ρ s p q Q E O r hx hy k => h fm ρ s p q Q E O r hx hy fun v σ' ρ' c s' l r' e kk => by
    obtain ⟨σ'', c1, hk⟩ := kk
    exact k v σ'' ρ' c s' l (r'.weaken c1) e hk
theorem W1.less {α β : Type} {t : Value → Sem α} {R : Rho → β → α → Prop} {x : V} {σ : St} {K : β → St → Prop} (h : W1 g w B env A t R x σ fun v σ' => ∃ σ'', σ''.le σ' ∧ K v σ'') : W1 g w B env A t R x σ K :=
  fun fm ρ s p Q E O r hx k => h fm ρ s p Q E O r hx fun v σ' ρ' c s' l r' e kk => by
    obtain ⟨σ'', c1, hk⟩ := kk
    exact k v σ'' ρ' c s' l (r'.weaken c1) e hk
-- the sorter's and the nodes' attributes
theorem ga_n2i (HB : BaseOk w B) (h : K (.ref 102) (SS f hd ob0 fr0 a loc)) : W1 g w B env A (fun x => getAttr x "_node2info" true) VR (.ref 100) (SS f hd ob0 fr0 a loc) K :=
  ga_inst (j := 100) (d := 101) (C := 144) (es := satt a) (v := .ref 102) HB (cn_100 (f := f) (hd := hd) (ob0 := ob0) (a := a)) (cn_101 (f := f) (hd := hd) (ob0 := ob0) (a := a)) rfl trivial h
theorem rdV_plain : PlainV (rdV a.rd) := by cases a.rd <;> trivial
theorem ga_rd (HB : BaseOk w B) (h : K (rdV a.rd) (SS f hd ob0 fr0 a loc)) : W1 g w B env A (fun x => getAttr x "_ready_nodes" true) VR (.ref 100) (SS f hd ob0 fr0 a loc) K :=
  ga_inst (j := 100) (d := 101) (C := 144) (es := satt a) (v := rdV a.rd) HB (cn_100 (f := f) (hd := hd) (ob0 := ob0) (a := a)) (cn_101 (f := f) (hd := hd) (ob0 := ob0) (a := a)) rfl rdV_plain h
theorem ga_po (HB : BaseOk w B) (h : K (.int a.po) (SS f hd ob0 fr0 a loc)) : W1 g w B env A (fun x => getAttr x "_npassedout" true) VR (.ref 100) (SS f hd ob0 fr0 a loc) K :=
  ga_inst (j := 100) (d := 101) (C := 144) (es := satt a) (v := .int a.po) HB (cn_100 (f := f) (hd := hd) (ob0 := ob0) (a := a)) (cn_101 (f := f) (hd := hd) (ob0 := ob0) (a := a)) rfl trivial h
theorem ga_fi (HB : BaseOk w B) (h : K (.int a.fi) (SS f hd ob0 fr0 a loc)) : W1 g w B env A (fun x => getAttr x "_nfinished" true) VR (.ref 100) (SS f hd ob0 fr0 a loc) K :=
  ga_inst (j := 100) (d := 101) (C := 144) (es := satt a) (v := .int a.fi) HB (cn_100 (f := f) (hd := hd) (ob0 := ob0) (a := a)) (cn_101 (f := f) (hd := hd) (ob0 := ob0) (a := a)) rfl trivial h
theorem sa_po {p : Int} {K : Unit → St → Prop} (HB : BaseOk w B) (h : K () (SS f hd ob0 fr0 { a with po := p } loc)) : W2 g w B env A (fun x y => setAttr x "_npassedout" y) UR (.ref 100) (.int p) (SS f hd ob0 fr0 a loc) K :=
  W2.less (sa_inst (j := 100) (d := 101) (C := 144) (es := satt a) HB (cn_100 (f := f) (hd := hd) (ob0 := ob0) (a := a)) (cn_101 (f := f) (hd := hd) (ob0 := ob0) (a := a)) (by simp [satt]) satt_nodup ⟨_, SS_po, h⟩)
theorem sa_fi {p : Int} {K : Unit → St → Prop} (HB : BaseOk w B) (h : K () (SS f hd ob0 fr0 { a with fi := p } loc)) : W2 g w B env A (fun x y => setAttr x "_nfinished" y) UR (.ref 100) (.int p) (SS f hd ob0 fr0 a loc) K :=
  W2.less (sa_inst (j := 100) (d := 101) (C := 144) (es := satt a) HB (cn_100 (f := f) (hd := hd) (ob0 := ob0) (a := a)) (cn_101 (f := f) (hd := hd) (ob0 := ob0) (a := a)) (by simp [satt]) satt_nodup ⟨_, SS_fi, h⟩)
section
variable {k : Nat} (HB : BaseOk w B) (hk : k < a.n) (hn : a.n ≤ 6)
include HB hk hn
theorem ga_node (h : K (T f (hd k)) (SS f hd ob0 fr0 a loc)) : W1 g w B env A (fun x => getAttr x "node" true) VR (.ref (110 + k)) (SS f hd ob0 fr0 a loc) K :=
  ga_slot (p := 48) (i := 0) (v := T f (hd k)) HB (cn_node (f := f) (hd := hd) (ob0 := ob0) (a := a) hk hn) (cn_nat (f := f) (hd := hd) (ob0 := ob0) (a := a) hk hn) (by kernel_rfl) rfl (by cases f <;> trivial) h (by kernel_rfl)
theorem ga_np (h : K (.int (a.np k)) (SS f hd ob0 fr0 a loc)) : W1 g w B env A (fun x => getAttr x "npredecessors" true) VR (.ref (110 + k)) (SS f hd ob0 fr0 a loc) K :=
  ga_slot (p := 49) (i := 1) (v := .int (a.np k)) HB (cn_node (f := f) (hd := hd) (ob0 := ob0) (a := a) hk hn) (cn_nat (f := f) (hd := hd) (ob0 := ob0) (a := a) hk hn) (by kernel_rfl) rfl trivial h (by kernel_rfl)
theorem ga_su (h : K (.ref (130 + k)) (SS f hd ob0 fr0 a loc)) : W1 g w B env A (fun x => getAttr x "successors" true) VR (.ref (110 + k)) (SS f hd ob0 fr0 a loc) K :=
  ga_slot (p := 50) (i := 2) (v := .ref (130 + k)) HB (cn_node (f := f) (hd := hd) (ob0 := ob0) (a := a) hk hn) (cn_nat (f := f) (hd := hd) (ob0 := ob0) (a := a) hk hn) (by kernel_rfl) rfl trivial h (by kernel_rfl)
theorem sa_np {v : Int} {K : Unit → St → Prop} (h : K () (SS f hd ob0 fr0 { a with np := upd a.np k v } loc)) : W2 g w B env A (fun x y => setAttr x "npredecessors" y) UR (.ref (110 + k)) (.int v) (SS f hd ob0 fr0 a loc) K :=
  W2.less (sa_slot (p := 49) (i := 1) HB (cn_node (f := f) (hd := hd) (ob0 := ob0) (a := a) hk hn) (cn_nat (f := f) (hd := hd) (ob0 := ob0) (a := a) hk hn) (by kernel_rfl) (by decide) ⟨_, SS_np hk hn, h⟩ (by kernel_rfl))
end

set_option maxHeartbeats 1000000 in
theorem cc_add {n : Nat} {Hh : List Nat} (HB : BaseOk w B) (hA : AOk (n + 4) A) (hf : env.frame = some env.locals) (hkind : env.scope.kind = .function) (H : HdOk hd) (O0 : Out0 ob0 fr0) (hn : a.n < 6) (hrd : a.rd = none)
    (hH : ∀ j ∈ Hh, j < a.n) (hl : Hh.length ≤ 6) (hsu : ∀ j, j < a.n → (a.su j).length ≤ 10)
    (h : ∀ ep, K .none (SS f hd ob0 fr0 (addF a Hh ep) loc)) : CC false w B env A (.ref 94) (.ref 100 :: T f (hd a.n) :: txts f hd Hh) (SS f hd ob0 fr0 a loc) K := by
  refine CC.cut (Rg 1000 1100) (fun i hi => ⟨(O0.high i hi.1 hi.2).1, .inl (.inr (Nat.le_trans (by decide) hi.1))⟩)
    (cc_def HB defAdd (bind_add (i := 1000) ⟨(O0.high 1000 (by decide) (by decide)).1, .inl (.inr (by decide))⟩ (by simp [txts]; lia)) rfl hA hf hkind fun L A' hA' => ?_)
  refine WT.weaken (σ' := SS f hd (pput ob0 1000 (.tuple (txts f hd Hh))) (pfree fr0 1000) a [("self", .ref 100), ("node", T f (hd a.n)), ("predecessors", .ref 1000)]) ?_ (SS_new (.inr (by decide)))
  have hlow : ∀ i, 100 ≤ i → i < 200 → pfree fr0 1000 i := fun i h1 h2 => ⟨O0.low i h1 h2, by lia⟩
  generalize hob1 : pput ob0 1000 (.tuple (txts f hd Hh)) = ob1
  have hob : ob1 1000 = some (.tuple (txts f hd Hh)) := by rw [← hob1]; exact if_pos rfl
  refine ws_if (wb_cmp (we_attr (we_local rfl (ga_rd HB ?_))))
  rw [hrd]
  refine we_none (op_isnot_none trivial ⟨_, rfl, ?_⟩)
  refine ws_nil ?_
  refine ws_assign (we_imeth (f := 87) HB (we_local rfl ⟨100, 101, satt a, rfl, cn_100 (f := f) (hd := hd) (ob0 := ob1) (a := a), cn_101 (f := f) (hd := hd) (ob0 := ob1) (a := a), rfl, wa_cons (we_local rfl (wa_nil ?_))⟩))
  refine wc_getnode_new HB hA' rfl rfl H hlow hn fun ep => ?_
  generalize hb : a.more ep = b
  have hbn : b.n = a.n + 1 := by rw [← hb]; rfl
  have hbnp : b.np a.n = 0 := by rw [← hb]; exact upd_self
  have hk : a.n < b.n := by lia
  have hb6 : b.n ≤ 6 := by lia
  refine ws_augattr (we_local rfl (ga_np HB hk hb6 ?_))
  refine we_call HB (we_blt (v := .builtin "len") HB ⟨_, rfl, kp_builtin _, wa_cons (we_local rfl (wa_nil (wc_len_tuple (xs := txts f hd Hh) hob (by simp [txts]; lia) ?_)))⟩)
  refine op_iadd_int (sa_np HB hk hb6 ?_)
  have e0 : b.np a.n + ((txts f hd Hh).length : Int) = (Hh.length : Int) := by rw [hbnp]; simp [txts]
  rw [e0]
  generalize hc : ({ b with np := upd b.np a.n (Hh.length : Int) } : SA) = c
  have hcn : c.n = a.n + 1 := by rw [← hc]; exact hbn
  have hcs : ∀ j, j < a.n → c.su j = a.su j := fun j hj => by rw [← hc, ← hb]; exact upd_ne (by lia)
  have ec : (Hh.foldl (fun b j => { b with su := upd b.su j (b.su j ++ [a.n]) }) c) = addF a Hh ep := by
    rw [← hc, ← hb]; rfl
  refine ws_for (we_local rfl ⟨_, _, _, iters_tuple (xs := txts f hd Hh) hA', fun m σ' => σ' = SS f hd ob1 (pfree fr0 1000) ((Hh.take m).foldl (fun b j => { b with su := upd b.su j (b.su j ++ [a.n]) }) c)
    [("self", .ref 100), ("node", T f (hd a.n)), ("predecessors", .ref 1000), ("nodeinfo", .ref (110 + a.n))], rfl, ?_, ?_, ?_⟩)
  · rintro m σ' rfl; exact hob
  · rintro m u σ' hm hu rfl
    obtain ⟨j, hj, rfl⟩ := txts_get hu
    have hja : j < a.n := hH j (List.mem_of_getElem? hj)
    generalize hd' : (Hh.take m).foldl (fun b j => { b with su := upd b.su j (b.su j ++ [a.n]) }) c = d
    have hdn : d.n = a.n + 1 := by rw [← hd', foldSu_n]; exact hcn
    have hjd : j < d.n := by lia
    have hd6 : d.n ≤ 6 := by lia
    have hdl : (d.su j).length ≤ 100 := by
      have h1 := su_len a.n (Hh.take m) c j
      rw [hd', hcs j hja] at h1
      have h2 := hsu j hja
      have h3 : (Hh.take m).length ≤ Hh.length := by simp; lia
      lia
    have m2 : cn f hd d ob1 (130 + j) = some (.list (txts f hd (d.su j))) := cn_succ hjd hd6
    refine WT.less (WT.gen fun K0 hK0 => ?_)
    refine ws_assign (we_imeth (f := 87) HB (we_local rfl ⟨100, 101, satt d, rfl, cn_100 (f := f) (hd := hd) (ob0 := ob1) (a := d), cn_101 (f := f) (hd := hd) (ob0 := ob1) (a := d), rfl, wa_cons (we_local rfl (wa_nil ?_))⟩))
    refine wc_getnode_old HB hA' rfl rfl H hd6 hjd ?_
    refine ws_expr (we_meth HB PySem.F.plainAttrs_list PySem.F.slot_list_append PySem.F.type_list_append (we_attr (we_local rfl (ga_su HB hjd hd6 ?_))))
    refine ⟨ty_list m2, wa_cons (we_local rfl (wa_nil (wc_append m2 (by simp [txts]; lia) ?_)))⟩
    have et : txts f hd (d.su j) ++ [T f (hd a.n)] = txts f hd (d.su j ++ [a.n]) := by unfold txts; rw [List.map_append]; rfl
    rw [et]
    refine WT.weaken ?_ (SS_su hjd hd6)
    refine ws_nil (hK0 _ _ ⟨_, SS_loc (loc := [("self", .ref 100), ("node", T f (hd a.n)), ("predecessors", .ref 1000), ("nodeinfo", .ref (110 + a.n))]) (l := [("pred", T f (hd j)), ("pred_info", .ref (110 + j))]), ?_⟩)
    have key : (Hh.take (m + 1)).foldl (fun b j => { b with su := upd b.su j (b.su j ++ [a.n]) }) c = { d with su := upd d.su j (d.su j ++ [a.n]) } := by rw [take_foldl _ _ _ hj, hd']
    exact congrArg (fun x => SS f hd ob1 (pfree fr0 1000) x _) key.symm
  · rintro σ' rfl
    have hlt : (txts f hd Hh).length = Hh.length := by simp [txts]
    rw [hlt, List.take_length, ec]
    refine ws_nil ⟨_, back_cut (M := 1100) (a' := addF a Hh ep) (ob1 := ob1) (fr1 := pfree fr0 1000) ?_ (fun i hi => ?_) (fun i h1 h2 => (O0.high i h1 h2).2) (fun i hi hf => ⟨hf, by lia⟩), trivial, h ep⟩
    · rw [← ec, foldSu_n]; lia
    · rw [← hob1]; exact if_neg (by lia)
end
end Mine
end
section
set_option maxRecDepth 100000
set_option autoImplicit false
namespace Mine
open PySem PySem.Calls PySem.Spec PyProof.Rows PySem.W

section
variable {g : Bool} {w : World} {B : Heap} {env : Env} {A : Around} {σ : St} {K : V → St → Prop} {pos px : Pos}
theorem op_eq_int {i j : Int} (h : K (.bool (i == j)) σ) : W2 g w B env A (compareOp .Eq) VR (.int i) (.int j) σ K := by
  rintro fm ρ s _ _ Q E O r ⟨t, rfl⟩ ⟨u, rfl⟩ q
  exact wpG_of (PyProof.Rows.eq_int (q _ _ ρ _ _ ρ.le_refl r vbool h))
theorem op_ne_int {i j : Int} (h : K (.bool (i != j)) σ) : W2 g w B env A (compareOp .NotEq) VR (.int i) (.int j) σ K := by
  rintro fm ρ s _ _ Q E O r ⟨t, rfl⟩ ⟨u, rfl⟩ q
  exact wpG_of (PyProof.Rows.ne_int (q _ _ ρ _ _ ρ.le_refl r vbool h))
theorem op_lt_int {i j : Int} (h : K (.bool (decide (i < j))) σ) : W2 g w B env A (compareOp .Lt) VR (.int i) (.int j) σ K := by
  rintro fm ρ s _ _ Q E O r ⟨t, rfl⟩ ⟨u, rfl⟩ q
  exact wpG_of (PyProof.Rows.lt_int (q _ _ ρ _ _ ρ.le_refl r vbool h))
theorem op_eq_bytes {a b : List UInt8} (h : K (.bool (a == b)) σ) : W2 g w B env A (compareOp .Eq) VR (.bytes a.toArray) (.bytes b.toArray) σ K := by
  rintro fm ρ s _ _ Q E O r ⟨t, rfl⟩ ⟨u, rfl⟩ q
  exact wpG_of (PySem.W.eq_bytes (q _ _ ρ _ _ ρ.le_refl r vbool h))
theorem op_ne_bytes {a b : List UInt8} (h : K (.bool (a != b)) σ) : W2 g w B env A (compareOp .NotEq) VR (.bytes a.toArray) (.bytes b.toArray) σ K := by
  rintro fm ρ s _ _ Q E O r ⟨t, rfl⟩ ⟨u, rfl⟩ q
  exact wpG_of (PySem.W.ne_bytes (q _ _ ρ _ _ ρ.le_refl r vbool h))
theorem we_globi {x : Str} {i : Int} {t : Tok} (HB : BaseOk w B) (h : K (.int i) σ) (hx : nsIn (KK w.params) mainGlobals x = some (some (.int i t)) := by kernel_rfl) (hg : env.globals = mainGlobals := by rfl)
    (hl : env.kindOf x = some .globalImplicit := by rfl) (hk : env.scope.kind = .function := by rfl) (hd : (x == ("__debug__" : Str)) = false := by decide) : WE g w B env A (.Name x pos) σ K := fun _ ρ s _ _ O r q => by
  obtain ⟨p, l, m, mg, mb, T⟩ := HB.top
  exact wpG_of (Name_function_global hk hl (loadGlobal_global (hg ▸ T.g.keeps (r.base O)) (mg_of HB.kin T.g hx) (q _ _ ρ _ s ρ.le_refl r vint h)) hd)
end

/- the ready ones are given out -/
noncomputable def outF (a : SA) (l : List Nat) : SA := l.foldl (fun b k => { b with np := upd b.np k (-1) }) a
noncomputable def readyF (a : SA) (l : List Nat) : SA := { outF a l with rd := some [], po := a.po + (l.length : Int) }
theorem outF_keep : ∀ (l : List Nat) (a : SA), (outF a l).n = a.n ∧ (outF a l).su = a.su ∧ (outF a l).rd = a.rd ∧ (outF a l).po = a.po ∧ (outF a l).fi = a.fi
  | [], a => ⟨rfl, rfl, rfl, rfl, rfl⟩
  | k :: l, a => outF_keep l { a with np := upd a.np k (-1) }

section
variable {g : Bool} {w : World} {B : Heap} {env : Env} {A : Around} {K : V → St → Prop} {f : Bool} {hd : Nat → List Nat} {ob0 : Nat → Option O} {fr0 : Nat → Prop} {a : SA} {loc : List (Str × V)}
theorem rdV_some {l : List Nat} (h : a.rd = some l) : rdV a.rd = .ref 103 := by rw [h]; rfl
theorem wc_ready {n i : Nat} {l : List Nat} (HB : BaseOk w B) (hA : AOk (n + 1) A) (hf : env.frame = some env.locals) (hkind : env.scope.kind = .function) (H : HdOk hd) (hn : a.n ≤ 6) (hrd : a.rd = some l) (hl : ∀ k ∈ l, k < a.n) (hz : l.length ≤ 100)
    (hi : fr0 i) (hi2 : 200 ≤ i) (h : K (.ref i) (SS f hd (pput ob0 i (.tuple (txts f hd l))) (pfree fr0 i) (readyF a l) loc)) : WC false w B env A (.ref 106) [.ref 100] (SS f hd ob0 fr0 a loc) K := by
  refine (CC.less (cc_def HB defReady (bind_plain rfl fun xs hl => ?_) rfl hA hf hkind fun L A' hA' => ?_)).wc
  · obtain ⟨x, rfl⟩ := len1 hl
    kernel_rfl
  refine ws_if (wb_cmp (we_attr (we_local rfl (ga_rd HB ?_))))
  rw [rdV_some hrd]
  refine we_none (op_is_none trivial ⟨_, rfl, ?_⟩)
  refine ws_nil ?_
  have c3 : cn f hd a ob0 103 = some (.list (txts f hd l)) := cn_103 hrd
  refine ws_assign (we_call HB (we_blt (v := .type "tuple") HB ⟨_, rfl, kp_type _, wa_cons (we_attr (we_local rfl (ga_rd HB ?_)))⟩))
  rw [rdV_some hrd]
  refine wa_nil (wc_tuple_list (i := i) c3 (by simp [txts]; lia) ⟨hi, .inl (.inr hi2)⟩ ?_)
  have hle := SS_new (f := f) (hd := hd) (ob0 := ob0) (fr0 := fr0) (a := a) (loc := [("self", .ref 100), ("result", .ref i)]) (i := i) (o := .tuple (txts f hd l)) (.inr hi2)
  refine WT.weaken (σ' := SS f hd (pput ob0 i (.tuple (txts f hd l))) (pfree fr0 i) a [("self", .ref 100), ("result", .ref i)]) ?_ ⟨hle.loc, hle.obj, hle.free⟩
  have hob : (pput ob0 i (.tuple (txts f hd l))) i = some (.tuple (txts f hd l)) := if_pos rfl
  generalize pput ob0 i (.tuple (txts f hd l)) = ob1 at hob h ⊢
  have hcn : ∀ b : SA, cn f hd b ob1 i = some (.tuple (txts f hd l)) := fun b => (cn_away (.inr hi2)).trans hob
  refine ws_assign (we_attr (we_local rfl (ga_n2i HB ?_)))
  refine ws_for (we_local rfl ⟨_, _, _, iters_tuple (xs := txts f hd l) hA', fun m σ' => σ' = SS f hd ob1 (pfree fr0 i) (outF a (l.take m)) [("self", .ref 100), ("result", .ref i), ("n2i", .ref 102)], rfl, ?_, ?_, ?_⟩)
  · rintro m σ' rfl; exact hcn _
  · rintro m u σ' hm hu rfl
    obtain ⟨j, hj, rfl⟩ := txts_get hu
    have hja : j < a.n := hl j (List.mem_of_getElem? hj)
    have hkeep := outF_keep (l.take m) a
    generalize hb : outF a (l.take m) = b at hkeep
    have hbn : b.n = a.n := hkeep.1
    have c2 : cn f hd b ob1 102 = some (.dict f (ents hd b.n) b.ep) := cn_102
    refine WT.less ?_
    refine ws_setattr (we_globi (i := -1) (t := 210) HB (we_sub (we_local rfl (we_local rfl (sub_dict HB c2 (ents_nodup H (by lia)) (H.asc j) (v := .ref (110 + j)) ?_ ?_)))))
    · rw [ents_lookup H (by lia) (by lia), if_pos (by lia)]
    refine sa_np HB (by lia) (by lia) ?_
    refine ws_nil ⟨_, SS_loc (loc := [("self", .ref 100), ("result", .ref i), ("n2i", .ref 102)]) (l := [("node", T f (hd j))]), ?_⟩
    have key : outF a (l.take (m + 1)) = { b with np := upd b.np j (-1) } := by unfold outF at hb ⊢; rw [take_foldl _ _ _ hj, hb]
    exact congrArg (fun x => SS f hd ob1 (pfree fr0 i) x _) key.symm
  · rintro σ' rfl
    have hlt : (txts f hd l).length = l.length := by simp [txts]
    rw [hlt, List.take_length]
    have hkeep := outF_keep l a
    unfold readyF at h
    generalize hb : outF a l = b at hkeep h ⊢
    obtain ⟨k1, k2, k3, k4, k5⟩ := hkeep
    have c3 : cn f hd b ob1 103 = some (.list (txts f hd l)) := cn_103 (k3.trans hrd)
    refine ws_expr (we_meth HB PySem.F.plainAttrs_list PySem.F.slot_list_clear PySem.F.type_list_clear (we_attr (we_local rfl (ga_rd HB ?_))))
    rw [rdV_some (k3.trans hrd)]
    refine ⟨ty_list c3, wa_nil (wc_clear c3 (by simp [txts]; lia) ?_)⟩
    refine WT.weaken ?_ (SS_rd (l := []) (k3.trans hrd))
    refine ws_augattr (we_local rfl (ga_po HB (we_call HB (we_blt (v := .builtin "len") HB ⟨_, rfl, kp_builtin _, wa_cons (we_local rfl (wa_nil (wc_len_tuple (xs := txts f hd l) (hcn _) (by simp [txts]; lia) ?_)))⟩))))
    refine op_iadd_int (sa_po HB ?_)
    refine ws_return (we_local rfl ⟨_, St.le.rfl, ?_⟩)
    rw [hlt]
    rw [← k4] at h
    exact h
end
end Mine
end
section
set_option maxRecDepth 100000
set_option autoImplicit false
namespace Mine
open PySem PySem.Calls PySem.Spec PyProof.Rows PySem.W

/- one that was held up has one less to wait for -/
noncomputable def stepF (b : SA) (s : Nat) : SA := { b with np := upd b.np s (b.np s - 1), rd := if b.np s - 1 = 0 then b.rd.map (· ++ [s]) else b.rd }
noncomputable def doneMid (a : SA) (u : Nat) : SA := { a with np := upd a.np u (-2) }
noncomputable def doneSuc (a : SA) (u : Nat) (l : List Nat) : SA := l.foldl stepF (doneMid a u)
noncomputable def done1 (a : SA) (u : Nat) : SA := { doneSuc a u (a.su u) with fi := a.fi + 1 }
noncomputable def doneF (a : SA) (l : List Nat) : SA := l.foldl done1 a
theorem stepF_keep : ∀ (l : List Nat) (a : SA), (l.foldl stepF a).n = a.n ∧ (l.foldl stepF a).su = a.su ∧ (l.foldl stepF a).po = a.po ∧ (l.foldl stepF a).fi = a.fi ∧ (l.foldl stepF a).ep = a.ep
  | [], a => ⟨rfl, rfl, rfl, rfl, rfl⟩
  | s :: l, a => stepF_keep l (stepF a s)
noncomputable def rdLen (a : SA) (m : Nat) : Prop := ∃ l, a.rd = some l ∧ l.length ≤ m
theorem rdLen.step {a : SA} {m s : Nat} (h : rdLen a m) : rdLen (stepF a s) (m + 1) := by
  obtain ⟨l, h1, h2⟩ := h
  unfold stepF
  by_cases hz : a.np s - 1 = 0
  · exact ⟨l ++ [s], by dsimp only; rw [if_pos hz, h1]; rfl, by simp; lia⟩
  · exact ⟨l, by dsimp only; rw [if_neg hz, h1], by lia⟩
theorem rdLen.steps : ∀ (l : List Nat) {a : SA} {m : Nat}, rdLen a m → rdLen (l.foldl stepF a) (m + l.length)
  | [], a, m, h => h
  | s :: l, a, m, h => by
    have := rdLen.steps l (a := stepF a s) (h.step (s := s))
    rw [List.length_cons, ← Nat.add_assoc, Nat.add_right_comm]
    exact this
theorem done1_keep (a : SA) (u : Nat) : (done1 a u).n = a.n ∧ (done1 a u).su = a.su ∧ (done1 a u).po = a.po ∧ (done1 a u).fi = a.fi + 1 := by
  have := stepF_keep (a.su u) (doneMid a u)
  exact ⟨this.1, this.2.1, this.2.2.1, rfl⟩
theorem doneF_keep : ∀ (l : List Nat) (a : SA), (doneF a l).n = a.n ∧ (doneF a l).su = a.su ∧ (doneF a l).po = a.po
  | [], a => ⟨rfl, rfl, rfl⟩
  | u :: l, a => by
    have h1 := done1_keep a u
    have h2 := doneF_keep l (done1 a u)
    exact ⟨h2.1.trans h1.1, h2.2.1.trans h1.2.1, h2.2.2.trans h1.2.2.1⟩
theorem rdLen.done {a : SA} {m u : Nat} (h : rdLen a m) (hs : (a.su u).length ≤ 6) : rdLen (done1 a u) (m + 6) := by
  obtain ⟨l, h1, h2⟩ := rdLen.steps (a.su u) (a := doneMid a u) (m := m) h
  exact ⟨l, h1, by lia⟩
theorem rdLen.dones : ∀ (l : List Nat) {a : SA} {m : Nat}, rdLen a m → (∀ u, (a.su u).length ≤ 6) → rdLen (doneF a l) (m + 6 * l.length)
  | [], a, m, h, _ => h
  | u :: l, a, m, h, hs => by
    have h1 := done1_keep a u
    have := rdLen.dones l (h.done (hs u)) (fun v => by rw [h1.2.1]; exact hs v)
    rw [List.length_cons]
    have e : m + 6 * (l.length + 1) = m + 6 + 6 * l.length := by lia
    rw [e]; exact this

section
variable {g : Bool} {w : World} {B : Heap} {env : Env} {A : Around} {K : V → St → Prop} {f : Bool} {hd : Nat → List Nat} {ob0 : Nat → Option O} {fr0 : Nat → Prop} {a : SA} {loc : List (Str × V)}
theorem wc_active {n : Nat} {l : List Nat} (HB : BaseOk w B) (hA : AOk (n + 1) A) (hf : env.frame = some env.locals) (hkind : env.scope.kind = .function) (hrd : a.rd = some l) (hz : l.length ≤ 100)
    (h : K (.bool (decide (a.fi < a.po) || !l.isEmpty)) (SS f hd ob0 fr0 a loc)) : WC g w B env A (.ref 113) [.ref 100] (SS f hd ob0 fr0 a loc) K := by
  refine WC.up (g := g) ?_
  refine (cc_def HB defActive (bind_plain rfl fun xs hl => ?_) rfl hA hf hkind fun L A' hA' => ?_).wc
  · obtain ⟨x, rfl⟩ := len1 hl
    kernel_rfl
  refine ws_if (wb_cmp (we_attr (we_local rfl (ga_rd HB ?_))))
  rw [rdV_some hrd]
  refine we_none (op_is_none trivial ⟨_, rfl, ?_⟩)
  refine ws_nil ?_
  have c3 : cn f hd a ob0 103 = some (.list (txts f hd l)) := cn_103 hrd
  refine ws_return (we_or (we_cmp (we_attr (we_local rfl (ga_fi HB (we_attr (we_local rfl (ga_po HB (op_lt_int ?_)))))))))
  refine truthy_b ?_
  by_cases hlt : a.fi < a.po
  · rw [decide_eq_true hlt] at h ⊢
    exact h
  · rw [decide_eq_false hlt] at h ⊢
    refine we_call HB (we_blt (v := .type "bool") HB ⟨_, rfl, kp_type _, wa_cons (we_attr (we_local rfl (ga_rd HB ?_)))⟩)
    rw [rdV_some hrd]
    refine wa_nil (wc_bool_list c3 (by simp [txts]; lia) ?_)
    have e : (txts f hd l).isEmpty = l.isEmpty := by cases l <;> rfl
    rw [e]
    exact h

set_option maxHeartbeats 1000000 in
theorem cc_done {n m : Nat} {l : List Nat} (HB : BaseOk w B) (hA : AOk (n + 1) A) (hf : env.frame = some env.locals) (hkind : env.scope.kind = .function) (H : HdOk hd) (O0 : Out0 ob0 fr0) (hn : a.n ≤ 6) (hrd : rdLen a 0)
    (hl : ∀ k ∈ l, k < a.n) (hz : l.length ≤ 6) (hsu : ∀ u, (a.su u).length ≤ 6 ∧ ∀ s ∈ a.su u, s < a.n) (hst : ∀ i u, l[i]? = some u → (doneF a (l.take i)).np u = -1)
    (h : K .none (SS f hd ob0 fr0 (doneF a l) loc)) : CC false w B env A (.ref 127) (.ref 100 :: txts f hd l) (SS f hd ob0 fr0 a loc) K := by
  refine CC.cut (Rg 1000 1100) (fun i hi => ⟨(O0.high i hi.1 hi.2).1, .inl (.inr (Nat.le_trans (by decide) hi.1))⟩)
    (cc_def HB defDone (bind_done (i := 1000) ⟨(O0.high 1000 (by decide) (by decide)).1, .inl (.inr (by decide))⟩ (by simp [txts]; lia)) rfl hA hf hkind fun L A' hA' => ?_)
  refine WT.weaken (σ' := SS f hd (pput ob0 1000 (.tuple (txts f hd l))) (pfree fr0 1000) a [("self", .ref 100), ("nodes", .ref 1000)]) ?_ (SS_new (.inr (by decide)))
  generalize hob1 : pput ob0 1000 (.tuple (txts f hd l)) = ob1
  have hob : ob1 1000 = some (.tuple (txts f hd l)) := by rw [← hob1]; exact if_pos rfl
  have hcn : ∀ b : SA, cn f hd b ob1 1000 = some (.tuple (txts f hd l)) := fun b => hob
  refine ws_if (wb_cmp (we_attr (we_local rfl (ga_rd HB ?_))))
  obtain ⟨l0, hl0, _⟩ := hrd
  rw [rdV_some hl0]
  refine we_none (op_is_none trivial ⟨_, rfl, ?_⟩)
  refine ws_nil ?_
  refine ws_assign (we_attr (we_local rfl (ga_n2i HB ?_)))
  refine ws_for (we_local rfl ⟨_, _, _, iters_tuple (xs := txts f hd l) hA', fun m σ' => σ' = SS f hd ob1 (pfree fr0 1000) (doneF a (l.take m)) [("self", .ref 100), ("nodes", .ref 1000), ("n2i", .ref 102)], rfl, ?_, ?_, ?_⟩)
  · rintro m σ' rfl; exact hcn (doneF a (l.take m))
  · rintro m u σ' hm hu rfl
    obtain ⟨j, hj, rfl⟩ := txts_get hu
    have hja : j < a.n := hl j (List.mem_of_getElem? hj)
    have hkeep := doneF_keep (l.take m) a
    have hnp := hst m j hj
    have hrb : rdLen (doneF a (l.take m)) (0 + 6 * (l.take m).length) := rdLen.dones _ ⟨l0, hl0, by assumption⟩ fun u => (hsu u).1
    generalize hb : doneF a (l.take m) = b at hkeep hnp hrb
    obtain ⟨k1, k2, k3⟩ := hkeep
    have hjb : j < b.n := by lia
    have hb6 : b.n ≤ 6 := by lia
    have c2 : cn f hd b ob1 102 = some (.dict f (ents hd b.n) b.ep) := cn_102
    refine WT.less (WT.gen fun K0 hK0 => ?_)
    refine ws_if (wb_cmp (we_walrus (we_meth HB PySem.F.plainAttrs_dict PySem.F.slot_dict_get PySem.F.type_dict_get (we_local rfl ⟨ty_dict c2, wa_cons (we_local rfl (wa_nil (wc_dget HB c2 (ents_nodup H hb6) (H.asc j) ?_)))⟩))))
    rw [ents_lookup H hb6 (by lia), if_pos hjb]
    refine we_none (op_is_none trivial ⟨_, rfl, ?_⟩)
    refine ws_nil ?_
    refine ws_assign (we_attr (we_local rfl (ga_np HB hjb hb6 ?_)))
    rw [hnp]
    refine ws_if (wb_cmp (we_local rfl (we_globi (i := -1) (t := 210) HB (op_ne_int ⟨_, rfl, ?_⟩))))
    refine ws_nil ?_
    refine ws_setattr (we_globi (i := -2) (t := 213) HB (we_local rfl (sa_np HB hjb hb6 ?_)))
    have hbm : ({ b with np := upd b.np j (-2) } : SA) = doneMid b j := rfl
    rw [hbm]
    have m2 : ∀ c : SA, c.n = b.n → c.su = b.su → cn f hd c ob1 (130 + j) = some (.list (txts f hd (b.su j))) := fun c h1 h2 => by rw [← h2]; exact cn_succ (by lia) (by lia)
    refine ws_for (we_attr (we_local rfl (ga_su HB (by exact hjb) (by exact hb6) ⟨_, _, _, iters_list (xs := txts f hd (b.su j)) hA', fun q σ' => σ' = SS f hd ob1 (pfree fr0 1000) (doneSuc b j ((b.su j).take q))
      [("self", .ref 100), ("nodes", .ref 1000), ("n2i", .ref 102), ("node", T f (hd j)), ("nodeinfo", .ref (110 + j)), ("stat", .int (-1))], rfl, ?_, ?_, ?_⟩)))
    · rintro q σ' rfl
      have := stepF_keep ((b.su j).take q) (doneMid b j)
      exact m2 _ this.1 this.2.1
    · rintro q u σ' hq hu rfl
      obtain ⟨t, ht, rfl⟩ := txts_get hu
      have hta : t < a.n := (hsu j).2 t (by rw [← k2]; exact List.mem_of_getElem? ht)
      have hk2 := stepF_keep ((b.su j).take q) (doneMid b j)
      have hrc : rdLen (doneSuc b j ((b.su j).take q)) (0 + 6 * (l.take m).length + ((b.su j).take q).length) := rdLen.steps _ hrb
      have hkey : doneSuc b j ((b.su j).take (q + 1)) = stepF (doneSuc b j ((b.su j).take q)) t := by unfold doneSuc; rw [take_foldl _ _ _ ht]
      have hlen : 0 + 6 * (l.take m).length + ((b.su j).take q).length ≤ 100 := by
        have h1 : (l.take m).length ≤ l.length := by simp; lia
        have h2 : ((b.su j).take q).length ≤ (b.su j).length := by simp; lia
        have h3 := (hsu j).1
        rw [← k2] at h3
        lia
      have hcn' : (doneSuc b j ((b.su j).take q)).n = b.n := hk2.1
      generalize hc : doneSuc b j ((b.su j).take q) = c at hrc hkey hcn'
      have htc : t < c.n := by lia
      have hc6 : c.n ≤ 6 := by lia
      have c2 : cn f hd c ob1 102 = some (.dict f (ents hd c.n) c.ep) := cn_102
      refine WT.less (WT.gen fun K1 hK1 => ?_)
      refine ws_assign (we_sub (we_local rfl (we_local rfl (sub_dict HB c2 (ents_nodup H (by lia)) (H.asc t) (v := .ref (110 + t)) ?_ ?_))))
      · rw [ents_lookup H hc6 (by lia), if_pos htc]
      refine ws_augattr (we_local rfl (ga_np HB htc hc6 (we_int (op_isub_int (sa_np HB htc hc6 ?_)))))
      generalize hd2 : ({ c with np := upd c.np t (c.np t - 1) } : SA) = d
      have hdn : d.n = c.n := by rw [← hd2]
      have hdt : d.np t = c.np t - 1 := by rw [← hd2]; exact upd_self
      have hdr : d.rd = c.rd := by rw [← hd2]
      refine ws_if (wb_cmp (we_attr (we_local rfl (ga_np HB (by lia) (by lia) (we_int (op_eq_int ⟨_, rfl, ?_⟩))))))
      rw [hdt]
      obtain ⟨lc, hlc, hlc2⟩ := hrc
      by_cases hz0 : c.np t - 1 = 0
      · rw [show (c.np t - 1 == 0) = true by rw [hz0]; rfl, if_pos rfl]
        have c3 : cn f hd d ob1 103 = some (.list (txts f hd lc)) := cn_103 (hdr.trans hlc)
        refine ws_expr (we_meth HB PySem.F.plainAttrs_list PySem.F.slot_list_append PySem.F.type_list_append (we_attr (we_local rfl (ga_rd HB ?_))))
        rw [rdV_some (hdr.trans hlc)]
        refine ⟨ty_list c3, wa_cons (we_local rfl (wa_nil (wc_append c3 (by simp [txts]; lia) ?_)))⟩
        have et : txts f hd lc ++ [T f (hd t)] = txts f hd (lc ++ [t]) := by unfold txts; rw [List.map_append]; rfl
        rw [et]
        refine WT.weaken ?_ (SS_rd (hdr.trans hlc))
        refine ws_nil (ws_nil (hK1 _ _ ⟨_, SS_loc (loc := [("self", .ref 100), ("nodes", .ref 1000), ("n2i", .ref 102), ("node", T f (hd j)), ("nodeinfo", .ref (110 + j)), ("stat", .int (-1))]) (l := [("successor", T f (hd t)), ("successor_info", .ref (110 + t))]), ?_⟩))
        have : doneSuc b j ((b.su j).take (q + 1)) = { d with rd := some (lc ++ [t]) } := by
          rw [hkey, ← hd2]; unfold stepF; rw [if_pos hz0, hlc]; rfl
        exact congrArg (fun x => SS f hd ob1 (pfree fr0 1000) x _) this.symm
      · rw [show (c.np t - 1 == 0) = false from beq_eq_false_iff_ne.mpr hz0, if_neg (by decide)]
        refine ws_nil (ws_nil (hK1 _ _ ⟨_, SS_loc (loc := [("self", .ref 100), ("nodes", .ref 1000), ("n2i", .ref 102), ("node", T f (hd j)), ("nodeinfo", .ref (110 + j)), ("stat", .int (-1))]) (l := [("successor", T f (hd t)), ("successor_info", .ref (110 + t))]), ?_⟩))
        have : doneSuc b j ((b.su j).take (q + 1)) = d := by
          rw [hkey, ← hd2]; unfold stepF; rw [if_neg hz0]
        exact congrArg (fun x => SS f hd ob1 (pfree fr0 1000) x _) this.symm
    · rintro σ' rfl
      have hlt : (txts f hd (b.su j)).length = (b.su j).length := by simp [txts]
      rw [hlt, List.take_length]
      refine ws_augattr (we_local rfl (ga_fi HB (we_int (op_iadd_int (sa_fi HB ?_)))))
      refine ws_nil (hK0 _ _ ⟨_, SS_loc (loc := [("self", .ref 100), ("nodes", .ref 1000), ("n2i", .ref 102)]) (l := [("node", T f (hd j)), ("nodeinfo", .ref (110 + j)), ("stat", .int (-1))]), ?_⟩)
      have hk2 := stepF_keep (b.su j) (doneMid b j)
      have : doneF a (l.take (m + 1)) = { doneSuc b j (b.su j) with fi := (doneSuc b j (b.su j)).fi + 1 } := by
        unfold doneF at hb ⊢
        rw [take_foldl _ _ _ hj, hb]
        unfold done1
        have e : (doneSuc b j (b.su j)).fi = b.fi := hk2.2.2.2.1
        rw [e]
      exact congrArg (fun x => SS f hd ob1 (pfree fr0 1000) x _) this.symm
  · rintro σ' rfl
    have hlt : (txts f hd l).length = l.length := by simp [txts]
    rw [hlt, List.take_length]
    refine ws_nil ⟨_, back_cut (M := 1100) (a' := doneF a l) (ob1 := ob1) (fr1 := pfree fr0 1000) ?_ (fun i hi => ?_) (fun i h1 h2 => (O0.high i h1 h2).2) (fun i hi hf => ⟨hf, by lia⟩), trivial, h⟩
    · rw [(doneF_keep l a).1]; lia
    · rw [← hob1]; exact if_neg (by lia)
end
end Mine
end
section
set_option maxRecDepth 100000
set_option autoImplicit false
namespace Mine
open PySem PySem.Calls PySem.Spec PyProof.Rows PySem.W

section
variable {g : Bool} {w : World} {B : Heap} {env : Env} {A : Around} {σ : St} {pos px apos : Pos}
noncomputable def midK (Mid : St → Prop) (K : Fl → St → Prop) : Fl → St → Prop
  | .next, σ => Mid σ
  | f, σ => K f σ
theorem ws_if_mid {test : Expr} {body orelse rest : List Stmt} {K : Fl → St → Prop} (Mid : St → Prop) (h : WB g w B env A test σ fun b σ₁ => if b then WS g w B env A body σ₁ (midK Mid K) else WS g w B env A orelse σ₁ (midK Mid K))
    (hr : ∀ σ', Mid σ' → WS g w B env A rest σ' K) : WS g w B env A (.If test body orelse pos :: rest) σ K := by
  have key : ∀ (f : Fl) (σ' : St), midK Mid K f σ' → thenK g w B env A rest K f σ' := fun f σ' hm => by
    cases f with
    | next => exact hr σ' hm
    | _ => exact hm
  refine ws_if (h.mono fun b σ₁ hb => ?_)
  cases b with
  | true => exact WT.mono hb key
  | false => exact WT.mono hb key
end

noncomputable def U (sn : Nat → Bool) : Nat := (if sn 0 then 0 else 1) + (if sn 1 then 0 else 1) + (if sn 2 then 0 else 1) + (if sn 3 then 0 else 1) + (if sn 4 then 0 else 1) + (if sn 5 then 0 else 1)
theorem U_upd {sn : Nat → Bool} {x : Nat} (hx : x < 6) (h : sn x = false) : U (upd sn x true) + 1 = U sn := by
  have : x = 0 ∨ x = 1 ∨ x = 2 ∨ x = 3 ∨ x = 4 ∨ x = 5 := by lia
  unfold U upd
  rcases this with rfl | rfl | rfl | rfl | rfl | rfl <;> simp [h] <;> lia
noncomputable def Rm (su : Nat → List Nat) (ps : Nat → Nat) (st : List Nat) : Nat := (st.map fun k => (su k).length - ps k).sum
theorem Rm_snoc {su : Nat → List Nat} {ps : Nat → Nat} {st : List Nat} {x : Nat} : Rm su ps (st ++ [x]) = Rm su ps st + ((su x).length - ps x) := by
  unfold Rm; rw [List.map_append, List.sum_append]; simp
theorem Rm_upd {su : Nat → List Nat} {ps : Nat → Nat} {st : List Nat} {x v : Nat} (h : x ∉ st) : Rm su (upd ps x v) st = Rm su ps st := by
  unfold Rm
  congr 1
  refine List.map_congr_left fun k hk => ?_
  rw [upd_ne (by rintro rfl; exact h hk)]

structure Cy (f : Bool) (hd : Nat → List Nat) (ob0 : Nat → Option O) (fr0 : Nat → Prop) (st : List Nat) (ps : Nat → Nat) (sn : Nat → Bool) (ob1 : Nat → Option O) (fr1 : Nat → Prop) : Prop where
  o0 : ob1 1000 = some (.list (txts f hd st))
  o1 : ob1 1001 = some (.list (st.map fun k => V.ref (1020 + k)))
  o2 : ∃ S cnt, ob1 1002 = some (.set f S cnt) ∧ (∀ k, k < 6 → S (key (hd k)) = sn k) ∧ cnt + U sn ≤ 6
  o3 : ∃ es ep, ob1 1003 = some (.dict f es ep) ∧ es.map (·.1) = st.map fun k => key (hd k)
  it : ∀ k ∈ st, ob1 (1010 + k) = some (.iter (130 + k) (ps k))
  nx : ∀ k ∈ st, ob1 (1020 + k) = some (.nextOf (1010 + k))
  fr : ∀ k, k < 6 → sn k = false → fr1 (1010 + k) ∧ fr1 (1020 + k)
  away : ∀ i, i < 1000 ∨ 1100 ≤ i → ob1 i = ob0 i
  awf : ∀ i, i < 1000 ∨ 1100 ≤ i → fr0 i → fr1 i
  ss : ∀ k ∈ st, sn k = true
  lt : ∀ k ∈ st, k < 6
  inc : st.Pairwise (· < ·)
noncomputable def pdrop (ob : Nat → Option O) (i : Nat) : Nat → Option O := fun j => if j = i then none else ob j
theorem pput_self {ob : Nat → Option O} {i : Nat} {o : O} : pput ob i o i = some o := if_pos rfl
theorem pput_ne {ob : Nat → Option O} {i j : Nat} {o : O} (h : j ≠ i) : pput ob i o j = ob j := if_neg h
theorem pdrop_ne {ob : Nat → Option O} {i j : Nat} (h : j ≠ i) : pdrop ob i j = ob j := if_neg h
section
variable {f : Bool} {hd : Nat → List Nat} {ob0 ob1 : Nat → Option O} {fr0 fr1 : Nat → Prop} {a : SA} {loc : List (Str × V)}
theorem SS_oput {i : Nat} {o : O} (hi : 200 ≤ i) : (SS f hd (pput ob1 i o) fr1 a loc).le ((SS f hd ob1 fr1 a loc).put i o) :=
  ⟨fun _ h => h, fun j o' e => by
    have e' : cn f hd a (pput ob1 i o) j = some o' := e
    rw [cn_pput (.inr hi)] at e'
    exact e', fun j hj => hj⟩
theorem SS_odrop {i : Nat} (hi : 200 ≤ i) : (SS f hd (pdrop ob1 i) fr1 a loc).le ((SS f hd ob1 fr1 a loc).drop i) :=
  ⟨fun _ h => h, fun j o' e => by
    have e' : cn f hd a (pdrop ob1 i) j = some o' := e
    show (if j = i then none else cn f hd a ob1 j) = some o'
    by_cases h : j = i
    · subst h
      rw [cn_away (.inr hi)] at e'
      have : pdrop ob1 j j = none := if_pos rfl
      rw [this] at e'; cases e'
    · rw [if_neg h]
      refine Eq.trans ?_ e'
      unfold cn
      split
      · exact (pdrop_ne h).symm
      · rfl, fun j hj => hj⟩
theorem Cy.nodup {st : List Nat} {ps : Nat → Nat} {sn : Nat → Bool} (c : Cy f hd ob0 fr0 st ps sn ob1 fr1) : st.Nodup := c.inc.imp fun h => Nat.ne_of_lt h
theorem keys_nodup {st : List Nat} (H : HdOk hd) (hn : st.Nodup) (hlt : ∀ k ∈ st, k < 6) : (st.map fun k => key (hd k)).Nodup := by
  refine List.pairwise_map.mpr (hn.imp_of_mem ?_)
  intro a b ha hb hne e
  exact hne (H.inj a b (hlt a ha) (hlt b hb) (key_inj e))
theorem key_in {st : List Nat} {x : Nat} (H : HdOk hd) (hlt : ∀ k ∈ st, k < 6) (hx : x < 6) : key (hd x) ∈ st.map (fun k => key (hd k)) → x ∈ st := by
  intro h
  obtain ⟨k, hk, e⟩ := List.mem_map.mp h
  have := H.inj k x (hlt k hk) hx (key_inj e)
  exact this ▸ hk
theorem lookup_none_of {es : List (Str × V)} {k : Str} (h : k ∉ es.map (·.1)) : es.lookup k = none := by
  cases e : es.lookup k with
  | none => rfl
  | some v => exact absurd (List.mem_map.mpr ⟨_, mem_of_lookup e, rfl⟩) h
end
end Mine
end
section
set_option maxRecDepth 100000
set_option autoImplicit false
namespace Mine
open PySem PySem.Calls PySem.Spec PyProof.Rows PySem.W

section
variable {g : Bool} {w : World} {B : Heap} {env : Env} {A : Around} {K : V → St → Prop} {f : Bool} {hd : Nat → List Nat} {ob0 : Nat → Option O} {fr0 : Nat → Prop} {a : SA} {loc : List (Str × V)}
noncomputable abbrev CL : List (Str × V) := [("self", .ref 100), ("n2i", .ref 102), ("stack", .ref 1000), ("itstack", .ref 1001), ("seen", .ref 1002), ("node2stacki", .ref 1003)]
noncomputable abbrev CLn (f : Bool) (hd : Nat → List Nat) (x : Nat) : List (Str × V) := [("self", .ref 100), ("n2i", .ref 102), ("stack", .ref 1000), ("itstack", .ref 1001), ("seen", .ref 1002), ("node2stacki", .ref 1003), ("node", T f (hd x))]
theorem nil_no {α : Type} {k : α} {P : Prop} (h : k ∈ ([] : List α)) : P := by cases h
theorem frc_high {i : Nat} (h : fr0 i) (hi : 200 ≤ i) : frc a fr0 i := ⟨h, .inl (.inr hi)⟩

set_option maxHeartbeats 2000000 in
theorem wc_cycle {n : Nat} (HB : BaseOk w B) (hA : AOk (n + 1) A) (hf : env.frame = some env.locals) (hkind : env.scope.kind = .function) (H : HdOk hd) (O0 : Out0 ob0 fr0) (hn : a.n = 6)
    (hsu : ∀ u, u < 6 → (a.su u).length ≤ 6 ∧ ∀ s ∈ a.su u, u < s ∧ s < 6)
    (h : K .none (SS f hd ob0 fr0 a loc)) : WC false w B env A (.ref 134) [.ref 100] (SS f hd ob0 fr0 a loc) K := by
  refine CC.wc ?_
  refine CC.cut (Rg 1000 1100) (fun i hi => ⟨(O0.high i hi.1 hi.2).1, .inl (.inr (Nat.le_trans (by decide) hi.1))⟩)
    (cc_def HB defCycle (bind_plain rfl fun xs hl => ?_) rfl hA hf hkind fun L A' hA' => ?_)
  · obtain ⟨x, rfl⟩ := len1 hl
    kernel_rfl
  have hn6 : a.n ≤ 6 := by lia
  have hfr : ∀ i, 1000 ≤ i → i < 1100 → frc a fr0 i := fun i h1 h2 => frc_high (O0.high i h1 h2).1 (by lia)
  refine ws_assign (we_attr (we_local rfl (ga_n2i HB ?_)))
  refine ws_assign (we_list (wa_nil ⟨1000, hfr 1000 (by decide) (by decide), by decide, ?_⟩))
  refine ws_assign (we_list (wa_nil ⟨1001, ⟨hfr 1001 (by decide) (by decide), by decide⟩, by decide, ?_⟩))
  refine ws_assign (we_call HB (we_blt (v := .type "set") HB ⟨_, rfl, kp_type _, wa_nil (wc_set0 (i := 1002) (f := f) ⟨⟨hfr 1002 (by decide) (by decide), by decide⟩, by decide⟩ ?_)⟩))
  refine ws_assign (we_dict0 (f := f) (i := 1003) ⟨⟨⟨hfr 1003 (by decide) (by decide), by decide⟩, by decide⟩, by decide⟩ ?_)
  refine WT.weaken (σ' := SS f hd (pput (pput (pput (pput ob0 1000 (.list [])) 1001 (.list [])) 1002 (.set f (fun _ => false) 0)) 1003 (.dict f [] 0)) (pfree (pfree (pfree (pfree fr0 1000) 1001) 1002) 1003) a CL) ?_ ⟨fun _ h => h, fun i o e => ?_, fun i hi => ?_⟩
  rotate_left
  · have e' : cn f hd a (pput (pput (pput (pput ob0 1000 (.list [])) 1001 (.list [])) 1002 (.set f (fun _ => false) 0)) 1003 (.dict f [] 0)) i = some o := e
    rw [cn_pput (by decide), cn_pput (by decide), cn_pput (by decide), cn_pput (by decide)] at e'
    exact e'
  · obtain ⟨h1, n3⟩ := frc_pfree hi
    obtain ⟨h1, n2⟩ := frc_pfree h1
    obtain ⟨h1, n1⟩ := frc_pfree h1
    obtain ⟨h1, n0⟩ := frc_pfree h1
    exact ⟨⟨⟨⟨h1, n0⟩, n1⟩, n2⟩, n3⟩
  refine ws_for (we_local rfl ⟨_, _, _, iters_dict (f := f) (i := 102) (es := ents hd a.n) (ep := a.ep) (ls := (List.range a.n).map hd) HB hA' (ents_nodup H hn6) (by rw [ents_keys, List.map_map]; rfl),
    fun k σ' => ∃ ps sn ob1 fr1, Cy f hd ob0 fr0 [] ps sn ob1 fr1 ∧ σ' = SS f hd ob1 fr1 a CL, ?_, ?_, ?_, ?_⟩)
  · refine ⟨fun _ => 0, fun _ => false, _, _, ⟨?_, ?_, ⟨_, 0, (pput_ne (by decide)).trans pput_self, fun _ _ => rfl, by decide⟩, ⟨[], 0, pput_self, rfl⟩, fun k hk => nil_no hk, fun k hk => nil_no hk, fun k hk _ => ⟨?_, ?_⟩, fun i hi => ?_, fun i hi hf => ?_, fun k hk => nil_no hk, fun k hk => nil_no hk, List.Pairwise.nil⟩, rfl⟩
    · rw [pput_ne (by decide), pput_ne (by decide), pput_ne (by decide), pput_self]; rfl
    · rw [pput_ne (by decide), pput_ne (by decide), pput_self]; rfl
    · exact ⟨⟨⟨⟨(O0.high _ (by lia) (by lia)).1, by lia⟩, by lia⟩, by lia⟩, by lia⟩
    · exact ⟨⟨⟨⟨(O0.high _ (by lia) (by lia)).1, by lia⟩, by lia⟩, by lia⟩, by lia⟩
    · rw [pput_ne (by lia), pput_ne (by lia), pput_ne (by lia), pput_ne (by lia)]
    · exact ⟨⟨⟨⟨hf, by lia⟩, by lia⟩, by lia⟩, by lia⟩
  · rintro k σ' ⟨ps, sn, ob1, fr1, _, rfl⟩; exact cn_102 (f := f) (hd := hd) (ob0 := ob1) (a := a)
  · rintro k u σ' hk ⟨l, hl, rfl⟩ jj
    refine ex4 jj fun ps sn ob1 fr1 jk => ?_
    clear jj
    refine and2 jk fun C ee1 => ?_
    clear jk
    subst ee1
    obtain ⟨rfl, hk6⟩ : l = hd k ∧ k < 6 := by
      rw [List.getElem?_map] at hl
      rw [ents_len] at hk
      rw [List.getElem?_range (by lia)] at hl
      cases hl; exact ⟨rfl, by lia⟩
    refine WT.less (WT.gen fun K0 hK0 => ?_)
    refine ex2 C.o2 fun S cnt jk => ?_
    refine and3 jk fun e2 hS hcnt => ?_
    clear jk
    refine ws_if (wb_cmp (we_local rfl (we_local rfl (op_in_set (i := 1002) (f := f) (S := S) (n := cnt) e2 (by lia) (H.asc k) ⟨_, rfl, ?_⟩))))
    rw [hS k hk6]
    by_cases hsk : sn k = true
    · rw [hsk, if_pos rfl]
      exact ws_continue (hK0 _ _ ⟨_, SS_loc (loc := CL) (l := [("node", T f (hd k))]), ps, sn, ob1, fr1, C, rfl⟩)
    have hsk' : sn k = false := by simpa using hsk
    rw [hsk', if_neg (by decide)]
    refine ws_nil ?_
    refine ws_while (fun m σ' => ∃ x st ps sn ob1 fr1, x < 6 ∧ (∀ y ∈ st, y < x) ∧ Cy f hd ob0 fr0 st ps sn ob1 fr1 ∧ 7 * U sn + Rm a.su ps st = m ∧ σ' = SS f hd ob1 fr1 a (CLn f hd x)) _
      ⟨k, [], ps, sn, ob1, fr1, hk6, fun y hy => nil_no hy, C, rfl, rfl⟩ ?_
    clear hsk hsk' hS e2 hcnt C hk6 hl hk
    rintro m σ' jj
    refine ex6 jj fun x st ps sn ob1 fr1 jk => ?_
    clear jj
    refine and5 jk fun hx6 hlt C hm ee4 => ?_
    clear jk
    subst ee4
    refine wb_value (we_bool (truthy_b ?_))
    rw [if_pos rfl]
    refine WT.gen fun K1 hK1 => ?_
    have hxst : x ∉ st := fun h => Nat.lt_irrefl _ (hlt x h)
    refine ex2 C.o2 fun S cnt jk => ?_
    refine and3 jk fun e2 hS hcnt => ?_
    clear jk
    refine ex2 C.o3 fun es ep jk => ?_
    refine and2 jk fun e3 hes => ?_
    clear jk
    have hesn : (es.map (·.1)).Nodup := by rw [hes]; exact keys_nodup H C.nodup C.lt
    have hesx : key (hd x) ∉ es.map (·.1) := by rw [hes]; exact fun h => hxst (key_in H C.lt hx6 h)
    have hstl : st.length ≤ 6 := by
      have := List.Nodup.length_le_of_subset C.nodup (l₂ := List.range 6) fun k hk => List.mem_range.mpr (C.lt k hk)
      simpa using this
    refine ws_if_mid (fun σ' => ∃ st ps sn ob1 fr1, Cy f hd ob0 fr0 st ps sn ob1 fr1 ∧ 7 * U sn + Rm a.su ps st ≤ m ∧ σ' = SS f hd ob1 fr1 a (CLn f hd x))
      (wb_cmp (we_local rfl (we_local rfl (op_in_set (i := 1002) (f := f) (S := S) (n := cnt) e2 (by lia) (H.asc x) ⟨_, rfl, ?_⟩)))) ?_
    · rw [hS x hx6]
      by_cases hsx : sn x = true
      · rw [hsx, if_pos rfl]
        refine ws_if (wb_cmp (we_local rfl (we_local rfl (op_in_dict (j := 1003) HB e3 hesn (H.asc x) ⟨_, rfl, ?_⟩))))
        rw [lookup_none_of hesx]
        refine ws_nil (ws_nil ⟨st, ps, sn, ob1, fr1, C, by lia, rfl⟩)
      · have hsx' : sn x = false := by simpa using hsx
        rw [hsx', if_neg (by decide)]
        -- seen.add(node)
        refine ws_expr (we_meth HB PySem.F.plainAttrs_set PySem.F.slot_set_add PySem.F.type_set_add (we_local rfl ⟨ty_set e2 (by lia), wa_cons (we_local rfl (wa_nil (wc_sadd e2 (by lia) (H.asc x) ?_)))⟩))
        refine WT.weaken ?_ (SS_oput (by decide))
        rw [hS x hx6, hsx', if_neg (by decide)]
        -- itstack.append(iter(..).__next__)
        generalize hp1 : pput ob1 1002 (.set f (fun k => S k || decide (k = key (hd x))) (cnt + 1)) = ob2
        have q2 : ob2 1002 = some (.set f (fun k => S k || decide (k = key (hd x))) (cnt + 1)) := by rw [← hp1]; exact pput_self
        have q2' : ∀ i, i ≠ 1002 → ob2 i = ob1 i := fun i hi => by rw [← hp1]; exact pput_ne hi
        obtain ⟨hf1, hf2⟩ := C.fr x hx6 hsx'
        have n2 : cn f hd a ob2 102 = some (.dict f (ents hd a.n) a.ep) := cn_102
        have hxn : x < a.n := by lia
        have s2 : cn f hd a ob2 (130 + x) = some (.list (txts f hd (a.su x))) := cn_succ hxn hn6
        have o1' : cn f hd a ob2 1001 = some (.list (st.map fun k => V.ref (1020 + k))) := (q2' 1001 (by decide)).trans C.o1
        refine ws_expr (we_meth HB PySem.F.plainAttrs_list PySem.F.slot_list_append PySem.F.type_list_append (we_local rfl ⟨ty_list o1', wa_cons (we_attr (we_call HB (we_blt (v := .builtin "iter") HB ⟨_, rfl, kp_builtin _, ?_⟩)))⟩))
        refine wa_cons (we_attr (we_sub (we_local rfl (we_local rfl (sub_dict HB n2 (ents_nodup H hn6) (H.asc x) (v := .ref (110 + x)) ?_ (ga_su HB hxn hn6 (wa_nil (wc_iter (i := 1010 + x) s2 (frc_high hf1 (by lia)) ?_))))))))
        · rw [ents_lookup H hn6 hx6, if_pos hxn]
        refine ga_iter (i := 1020 + x) (l := 130 + x) (k := 0) (if_pos rfl) ⟨frc_high hf2 (by lia), by lia⟩ ?_
        refine wa_nil (wc_append (xs := st.map fun k => V.ref (1020 + k)) ?_ (by simp; lia) ?_)
        · show (if 1001 = 1020 + x then _ else if 1001 = 1010 + x then _ else cn f hd a ob2 1001) = _
          rw [if_neg (by lia), if_neg (by lia)]; exact o1'
        have hle1 : (SS f hd (pput (pput (pput ob2 (1010 + x) (.iter (130 + x) 0)) (1020 + x) (.nextOf (1010 + x))) 1001 (.list ((st.map fun k => V.ref (1020 + k)) ++ [V.ref (1020 + x)]))) (pfree (pfree fr1 (1010 + x)) (1020 + x)) a (CLn f hd x)).le
            ((((SS f hd ob2 fr1 a (CLn f hd x)).new (1010 + x) (.iter (130 + x) 0)).new (1020 + x) (.nextOf (1010 + x))).put 1001 (.list ((st.map fun k => V.ref (1020 + k)) ++ [V.ref (1020 + x)]))) := by
          refine ⟨fun _ h => h, fun i o e => ?_, fun i hi => ?_⟩
          · have e' : cn f hd a (pput (pput (pput ob2 (1010 + x) (.iter (130 + x) 0)) (1020 + x) (.nextOf (1010 + x))) 1001 (.list ((st.map fun k => V.ref (1020 + k)) ++ [V.ref (1020 + x)]))) i = some o := e
            rw [cn_pput (by lia), cn_pput (by lia), cn_pput (by lia)] at e'
            exact e'
          · obtain ⟨h1, n1⟩ := frc_pfree hi
            obtain ⟨h1, n0⟩ := frc_pfree h1
            exact ⟨⟨h1, n0⟩, n1⟩
        refine WT.weaken ?_ hle1
        generalize hp3 : pput (pput (pput ob2 (1010 + x) (.iter (130 + x) 0)) (1020 + x) (.nextOf (1010 + x))) 1001 (.list ((st.map fun k => V.ref (1020 + k)) ++ [V.ref (1020 + x)])) = ob3
        have r1 : ob3 1001 = some (.list ((st.map fun k => V.ref (1020 + k)) ++ [V.ref (1020 + x)])) := by rw [← hp3]; exact pput_self
        have r2 : ob3 (1020 + x) = some (.nextOf (1010 + x)) := by rw [← hp3]; exact (pput_ne (by lia)).trans pput_self
        have r3 : ob3 (1010 + x) = some (.iter (130 + x) 0) := by rw [← hp3]; exact (pput_ne (by lia)).trans ((pput_ne (by lia)).trans pput_self)
        have r4 : ∀ i, i ≠ 1001 → i ≠ 1010 + x → i ≠ 1020 + x → ob3 i = ob2 i := fun i h1 h2 h3 => by rw [← hp3, pput_ne h1, pput_ne h3, pput_ne h2]
        -- node2stacki[node] = len(stack)
        have t0 : cn f hd a ob3 1000 = some (.list (txts f hd st)) := (r4 1000 (by decide) (by lia) (by lia)).trans ((q2' 1000 (by decide)).trans C.o0)
        have t3 : cn f hd a ob3 1003 = some (.dict f es ep) := (r4 1003 (by decide) (by lia) (by lia)).trans ((q2' 1003 (by decide)).trans e3)
        have hesl : es.length ≤ 6 := by
          have := congrArg List.length hes
          simp at this; lia
        refine ws_setsub (we_call HB (we_blt (v := .builtin "len") HB ⟨_, rfl, kp_builtin _, wa_cons (we_local rfl (wa_nil (wc_len_list t0 (by simp [txts]; lia) (we_local rfl (we_local rfl ?_)))))⟩))
        refine st_dict HB t3 hesn (by lia) (H.asc x) hesx fun ep' => ?_
        refine WT.weaken ?_ (SS_oput (by decide))
        generalize hp4 : pput ob3 1003 (.dict f (es ++ [(key (hd x), .int ((txts f hd st).length))]) ep') = ob4
        have u3 : ob4 1003 = some (.dict f (es ++ [(key (hd x), .int ((txts f hd st).length))]) ep') := by rw [← hp4]; exact pput_self
        have u4 : ∀ i, i ≠ 1003 → ob4 i = ob3 i := fun i hi => by rw [← hp4]; exact pput_ne hi
        -- stack.append(node)
        have t0' : cn f hd a ob4 1000 = some (.list (txts f hd st)) := (u4 1000 (by decide)).trans t0
        refine ws_expr (we_meth HB PySem.F.plainAttrs_list PySem.F.slot_list_append PySem.F.type_list_append (we_local rfl ⟨ty_list t0', wa_cons (we_local rfl (wa_nil (wc_append t0' (by simp [txts]; lia) ?_)))⟩))
        have et : txts f hd st ++ [T f (hd x)] = txts f hd (st ++ [x]) := by unfold txts; rw [List.map_append]; rfl
        rw [et]
        refine WT.weaken ?_ (SS_oput (by decide))
        have hU := U_upd hx6 hsx'
        have hRx := (hsu x hx6).1
        have out : ∀ i, i < 1000 ∨ 1100 ≤ i → pput ob4 1000 (.list (txts f hd (st ++ [x]))) i = ob1 i := fun i hi => by
          rw [pput_ne (by lia), u4 i (by lia), r4 i (by lia) (by lia) (by lia), q2' i (by lia)]
        refine ws_nil ⟨st ++ [x], upd ps x 0, upd sn x true, pput ob4 1000 (.list (txts f hd (st ++ [x]))), _, ⟨pput_self, ?_, ⟨fun k => S k || decide (k = key (hd x)), cnt + 1, ?_, fun k hk => ?_, by lia⟩, ⟨es ++ [(key (hd x), .int ((txts f hd st).length))], ep', ?_, ?_⟩, fun k hk => ?_, fun k hk => ?_, fun k hk hs => ?_, fun i hi => ?_, fun i hi hf => ?_, fun k hk => ?_, fun k hk => ?_, ?_⟩, ?_, rfl⟩
        · rw [pput_ne (by decide), u4 1001 (by decide), r1, List.map_append]; rfl
        · rw [pput_ne (by decide), u4 1002 (by decide), r4 1002 (by decide) (by lia) (by lia), q2]
        · show (S (key (hd k)) || decide (key (hd k) = key (hd x))) = upd sn x true k
          by_cases hkx : k = x
          · subst hkx; rw [upd_self]; simp
          · rw [upd_ne hkx, hS k hk, decide_eq_false fun e => hkx (H.inj k x hk hx6 (key_inj e))]; simp
        · rw [pput_ne (by decide)]; exact u3
        · rw [List.map_append, hes, List.map_append]; rfl
        · rw [pput_ne (by lia), u4 _ (by lia)]
          rcases List.mem_append.mp hk with hk | hk
          · have hkx : k ≠ x := fun e => hxst (e ▸ hk)
            have := C.lt k hk
            rw [r4 _ (by lia) (by lia) (by lia), q2' _ (by lia), upd_ne hkx]
            exact C.it k hk
          · cases List.mem_singleton.mp hk
            rw [r3, upd_self]
        · rw [pput_ne (by lia), u4 _ (by lia)]
          rcases List.mem_append.mp hk with hk | hk
          · have hkx : k ≠ x := fun e => hxst (e ▸ hk)
            have := C.lt k hk
            rw [r4 _ (by lia) (by lia) (by lia), q2' _ (by lia)]
            exact C.nx k hk
          · cases List.mem_singleton.mp hk
            exact r2
        · have hkx : k ≠ x := fun e => by rw [e, upd_self] at hs; cases hs
          rw [upd_ne hkx] at hs
          obtain ⟨h1, h2⟩ := C.fr k hk hs
          exact ⟨⟨⟨h1, by lia⟩, by lia⟩, ⟨⟨h2, by lia⟩, by lia⟩⟩
        · exact (out i hi).trans (C.away i hi)
        · exact ⟨⟨C.awf i hi hf, by lia⟩, by lia⟩
        · rcases List.mem_append.mp hk with hk | hk
          · by_cases hkx : k = x
            · rw [hkx, upd_self]
            · rw [upd_ne hkx]; exact C.ss k hk
          · cases List.mem_singleton.mp hk
            exact upd_self
        · rcases List.mem_append.mp hk with hk | hk
          · exact C.lt k hk
          · cases List.mem_singleton.mp hk; exact hx6
        · refine List.pairwise_append.mpr ⟨C.inc, List.pairwise_singleton .., fun y hy z hz => ?_⟩
          cases List.mem_singleton.mp hz
          exact hlt y hy
        · rw [Rm_snoc, Rm_upd hxst, upd_self]; lia
    · clear hS e2 hcnt e3 hes hesn hesx hstl C hm hlt hxst
      rintro σ' jj
      refine ex5 jj fun st ps sn ob1 fr1 jk => ?_
      clear jj
      refine and3 jk fun C hm ee2 => ?_
      clear jk
      subst ee2
      refine ws_while (fun q σ' => ∃ st ps ob1, st.length = q ∧ Cy f hd ob0 fr0 st ps sn ob1 fr1 ∧ 7 * U sn + Rm a.su ps st ≤ m ∧ σ' = SS f hd ob1 fr1 a (CLn f hd x)) _ ⟨st, ps, ob1, rfl, C, hm, rfl⟩ ?_
      clear C hm
      rintro q σ' jj
      refine ex3 jj fun st ps ob1 jk => ?_
      clear jj
      refine and4 jk fun ee0 C hm ee3 => ?_
      clear jk
      subst ee0
      subst ee3
      have hstl : st.length ≤ 6 := by
        have := List.Nodup.length_le_of_subset C.nodup (l₂ := List.range 6) fun k hk => List.mem_range.mpr (C.lt k hk)
        simpa using this
      have o0 : cn f hd a ob1 1000 = some (.list (txts f hd st)) := C.o0
      refine wb_value (we_local rfl (truthy_l o0 (by simp [txts]; lia) ?_))
      have ee : (txts f hd st).isEmpty = st.isEmpty := by cases st <;> rfl
      rw [ee]
      rcases List.eq_nil_or_concat st with rfl | ⟨st', y, rfl⟩
      · rw [if_neg (by decide)]
        refine ws_break (hK1 _ _ ?_)
        refine ws_nil (hK0 _ _ ⟨_, SS_loc (loc := CL) (l := [("node", T f (hd x))]), ps, sn, ob1, fr1, C, rfl⟩)
      · rw [List.concat_eq_append] at *
        have hne : (!(st' ++ [y]).isEmpty) = true := by cases st' <;> rfl
        rw [hne, if_pos rfl]
        refine WT.gen fun K2 hK2 => ?_
        have hym : y ∈ st' ++ [y] := List.mem_append_right _ (.head _)
        have hy6 : y < 6 := C.lt y hym
        have hyst : y ∉ st' := by
          have := C.nodup
          rw [List.nodup_append] at this
          exact fun h => this.2.2 y h y (.head _) rfl
        have o1 : cn f hd a ob1 1001 = some (.list ((st'.map fun k => V.ref (1020 + k)) ++ [V.ref (1020 + y)])) := by
          have := C.o1
          rw [List.map_append] at this
          exact this
        have hl1 : (st' ++ [y]).length = st'.length + 1 := by simp
        have hi : cn f hd a ob1 (1010 + y) = some (.iter (130 + y) (ps y)) := (cn_away (.inr (by lia))).trans (C.it y hym)
        have hx' : cn f hd a ob1 (1020 + y) = some (.nextOf (1010 + y)) := (cn_away (.inr (by lia))).trans (C.nx y hym)
        have hs : cn f hd a ob1 (130 + y) = some (.list (txts f hd (a.su y))) := cn_succ (by lia) hn6
        refine ws_cons (wt_trynext HB hA' rfl rfl (we_sub (we_local rfl (we_unop (we_int (op_neg_int (sub_list_neg o1 (by simp; lia) ⟨1020 + y, 1010 + y, 130 + y, ps y, _, rfl, hx', hi, hs, ?_, ?_⟩)))))) (.inl rfl))
        · intro u hu
          obtain ⟨z, hz, rfl⟩ := txts_get hu
          have hzm : z ∈ a.su y := List.mem_of_getElem? hz
          have hpl : ps y < (a.su y).length := (List.getElem?_eq_some_iff.mp hz).1
          obtain ⟨hyz, hz6⟩ := (hsu y hy6).2 z hzm
          have hle := SS_oput (f := f) (hd := hd) (ob1 := ob1) (fr1 := fr1) (a := a) (loc := CLn f hd z) (i := 1010 + y) (o := .iter (130 + y) (ps y + 1)) (by lia)
          refine hK2 _ _ ?_
          refine WT.weaken (σ' := SS f hd (pput ob1 (1010 + y) (.iter (130 + y) (ps y + 1))) fr1 a (CLn f hd z)) (ws_nil (hK1 _ _ ?_)) ⟨hle.loc, hle.obj, hle.free⟩
          refine ex2 C.o2 fun S cnt jk => ?_
          refine and3 jk fun e2 hS hcnt => ?_
          clear jk
          refine ex2 C.o3 fun es ep jk => ?_
          refine and2 jk fun e3 hes => ?_
          clear jk
          refine ⟨7 * U sn + Rm a.su (upd ps y (ps y + 1)) (st' ++ [y]), ?_, z, st' ++ [y], upd ps y (ps y + 1), sn, _, fr1, hz6, fun v hv => ?_, ⟨(pput_ne (by lia)).trans C.o0, (pput_ne (by lia)).trans C.o1, ⟨S, cnt, (pput_ne (by lia)).trans e2, hS, hcnt⟩,
            ⟨es, ep, (pput_ne (by lia)).trans e3, hes⟩, fun k hk => ?_, fun k hk => ?_, C.fr, fun i hi => ?_, C.awf, C.ss, C.lt, C.inc⟩, rfl, rfl⟩
          · rw [Rm_snoc] at hm
            rw [Rm_snoc, Rm_upd hyst, upd_self]; lia
          · rcases List.mem_append.mp hv with hv | hv
            · have := C.inc
              rw [List.pairwise_append] at this
              have := this.2.2 v hv y (.head _)
              lia
            · cases List.mem_singleton.mp hv; exact hyz
          · by_cases hky : k = y
            · subst hky; rw [upd_self]; exact pput_self
            · rw [upd_ne hky, pput_ne (by lia)]; exact C.it k hk
          · have := C.lt k hk
            rw [pput_ne (by lia)]; exact C.nx k hk
          · rw [pput_ne (by lia)]; exact C.away i hi
        · intro hnone A'' hA''
          refine ex2 C.o2 fun S cnt jk => ?_
          refine and3 jk fun e2 hS hcnt => ?_
          clear jk
          refine ex2 C.o3 fun es ep jk => ?_
          refine and2 jk fun e3 hes => ?_
          clear jk
          rw [List.map_append] at hes
          obtain ⟨es', l2, rfl, hes1, hes2⟩ := List.map_eq_append_iff.mp hes
          obtain ⟨v, rfl⟩ : ∃ v, l2 = [(key (hd y), v)] := by
            obtain ⟨q, rfl⟩ := len1 (l := l2) (by have := congrArg List.length hes2; simpa using this)
            exact ⟨q.2, congrArg (fun k => [(k, q.2)]) (List.cons.inj hes2).1⟩
          have hnd : ((es' ++ [(key (hd y), v)]).map (·.1)).Nodup := by
            rw [hes, ← List.map_append]; exact keys_nodup H C.nodup C.lt
          have hesl : es'.length ≤ 6 := by
            have := congrArg List.length hes1
            simp at this; simp at hstl; lia
          refine WT.weaken ?_ (SS_odrop (by lia))
          generalize hp1 : pdrop ob1 (1010 + y) = ob2
          have q1 : ∀ i, i ≠ 1010 + y → ob2 i = ob1 i := fun i hi => by rw [← hp1]; exact pdrop_ne hi
          have et : txts f hd (st' ++ [y]) = txts f hd st' ++ [T f (hd y)] := by unfold txts; rw [List.map_append]; rfl
          have p0 : cn f hd a ob2 1000 = some (.list (txts f hd st' ++ [T f (hd y)])) := by rw [← et]; exact (q1 1000 (by lia)).trans C.o0
          refine ws_delsub (we_local rfl (we_meth HB PySem.F.plainAttrs_list PySem.F.slot_list_pop PySem.F.type_list_pop (we_local rfl ⟨ty_list p0, wa_nil (WC.less (wc_pop p0 (by simp [txts]; simp at hstl; lia) ⟨_, SS_oput (by decide), ?_⟩))⟩)))
          generalize hp2 : pput ob2 1000 (.list (txts f hd st')) = ob3
          have r0 : ob3 1000 = some (.list (txts f hd st')) := by rw [← hp2]; exact pput_self
          have r1 : ∀ i, i ≠ 1000 → ob3 i = ob2 i := fun i hi => by rw [← hp2]; exact pput_ne hi
          have p3 : cn f hd a ob3 1003 = some (.dict f (es' ++ [(key (hd y), v)]) ep) := (r1 1003 (by decide)).trans ((q1 1003 (by lia)).trans e3)
          refine wd_dict HB p3 hnd (by lia) (H.asc y) fun ep' => ?_
          refine WT.weaken ?_ (SS_oput (by decide))
          generalize hp3 : pput ob3 1003 (.dict f es' ep') = ob4
          have s0 : ob4 1003 = some (.dict f es' ep') := by rw [← hp3]; exact pput_self
          have s1 : ∀ i, i ≠ 1003 → ob4 i = ob3 i := fun i hi => by rw [← hp3]; exact pput_ne hi
          have p1 : cn f hd a ob4 1001 = some (.list ((st'.map fun k => V.ref (1020 + k)) ++ [V.ref (1020 + y)])) := (s1 1001 (by decide)).trans ((r1 1001 (by decide)).trans ((q1 1001 (by lia)).trans o1))
          refine ws_expr (we_meth HB PySem.F.plainAttrs_list PySem.F.slot_list_pop PySem.F.type_list_pop (we_local rfl ⟨ty_list p1, wa_nil (wc_pop p1 (by simp; simp at hstl; lia) ?_)⟩))
          refine WT.weaken ?_ (SS_oput (by decide))
          refine ws_nil (ws_nil (hK2 _ _ ?_))
          have hsub : ∀ k ∈ st', k ∈ st' ++ [y] := fun k hk => List.mem_append_left _ hk
          have out : ∀ i, i ≠ 1000 → i ≠ 1001 → i ≠ 1003 → i ≠ 1010 + y → pput ob4 1001 (.list (st'.map fun k => V.ref (1020 + k))) i = ob1 i := fun i h0 h1 h3 h4 => by
            rw [pput_ne h1, s1 i h3, r1 i h0, q1 i h4]
          refine ⟨st'.length, by simp, st', ps, _, rfl, ⟨(pput_ne (by decide)).trans ((s1 1000 (by decide)).trans r0), pput_self, ⟨S, cnt, (out 1002 (by decide) (by decide) (by decide) (by lia)).trans e2, hS, hcnt⟩,
            ⟨es', ep', (pput_ne (by decide)).trans s0, hes1⟩, fun k hk => ?_, fun k hk => ?_, C.fr, fun i hi => ?_, C.awf, fun k hk => C.ss k (hsub k hk), fun k hk => C.lt k (hsub k hk), (List.pairwise_append.mp C.inc).1⟩, ?_, rfl⟩
          · have hky : k ≠ y := fun e => hyst (e ▸ hk)
            rw [out _ (by lia) (by lia) (by lia) (by lia)]; exact C.it k (hsub k hk)
          · have := C.lt k (hsub k hk)
            rw [out _ (by lia) (by lia) (by lia) (by lia)]; exact C.nx k (hsub k hk)
          · rw [out _ (by lia) (by lia) (by lia) (by lia)]; exact C.away i hi
          · rw [Rm_snoc] at hm; lia
  · rintro σ' jj
    refine ex4 jj fun ps sn ob1 fr1 jk => ?_
    clear jj
    refine and2 jk fun C ee1 => ?_
    clear jk
    subst ee1
    refine ws_return (we_none ⟨_, back_cut (M := 1100) (a' := a) (ob1 := ob1) (fr1 := fr1) hn6 C.away (fun i h1 h2 => (O0.high i h1 h2).2) C.awf, trivial, h⟩)
end
end Mine
end
section
set_option maxRecDepth 100000
set_option autoImplicit false
namespace Mine
open PySem PySem.Calls PySem.Spec PyProof.Rows PySem.W

section
variable {g : Bool} {w : World} {B : Heap} {env : Env} {A : Around} {K : V → St → Prop} {f : Bool} {hd : Nat → List Nat} {ob0 : Nat → Option O} {fr0 : Nat → Prop} {a : SA} {loc : List (Str × V)}
theorem lset_get {x : Str} {v : V} {l : List (Str × V)} : (lset x v l).lookup x = some v := lookup_lset.trans (if_pos rfl)

theorem St.put_if {lc : List (Str × V)} {i : Nat} {x : Option O} {ob : Nat → Option O} {fr : Nat → Prop} {o : O} : (St.mk lc (fun j => if j = i then x else ob j) fr).put i o = St.mk lc (fun j => if j = i then some o else ob j) fr := by
  unfold St.put
  congr 1
  funext j
  dsimp only
  by_cases h : j = i
  · rw [if_pos h, if_pos h]
  · rw [if_neg h, if_neg h, if_neg h]

set_option maxHeartbeats 1000000 in
theorem wc_prepare {n : Nat} (HB : BaseOk w B) (hA : AOk (n + 2) A) (hf : env.frame = some env.locals) (hkind : env.scope.kind = .function) (H : HdOk hd) (O0 : Out0 ob0 fr0) (O2 : ∀ i, 1000 ≤ i → i < 1200 → fr0 i ∧ ob0 i = none)
    (hn : a.n = 6) (hrd : a.rd = none) (hsu : ∀ u, u < 6 → (a.su u).length ≤ 6 ∧ ∀ s ∈ a.su u, u < s ∧ s < 6)
    (h : K .none (SS f hd ob0 fr0 { a with rd := some ((List.range 6).filter fun k => a.np k == 0) } loc)) : WC false w B env A (.ref 99) [.ref 100] (SS f hd ob0 fr0 a loc) K := by
  refine CC.wc ?_
  refine CC.cut (Rg 1000 1200) (fun i hi => ⟨(O2 i hi.1 hi.2).1, .inl (.inr (Nat.le_trans (by decide) hi.1))⟩)
    (cc_def HB defPrepare (bind_plain rfl fun xs hl => ?_) rfl hA hf hkind fun L A' hA' => ?_)
  · obtain ⟨x, rfl⟩ := len1 hl
    kernel_rfl
  have hn6 : a.n ≤ 6 := by lia
  refine ws_if (wb_cmp (we_attr (we_local rfl (ga_rd HB ?_))))
  rw [hrd]
  refine we_none (op_isnot_none trivial ⟨_, rfl, ?_⟩)
  refine ws_nil ?_
  have c2 : cn f hd a ob0 102 = some (.dict f (ents hd a.n) a.ep) := cn_102
  refine ws_setattr (we_comp (cl := []) (we_meth HB PySem.F.plainAttrs_dict PySem.F.slot_dict_values PySem.F.type_dict_values (we_attr (we_local rfl (ga_n2i HB ⟨ty_dict c2, wa_nil (wc_values (i := 1150) HB c2 (ents_nodup H hn6) (frc_high (O2 1150 (by decide) (by decide)).1 (by decide)) ?_)⟩)))) ?_ ?_ ?_ ?_)
  rotate_left
  · kernel_rfl
  · intro p hp; cases hp
  · intro n; exact List.nodup_nil
  · decide
  refine ⟨103, [], _, _, _, ⟨⟨O0.low 103 (by decide) (by decide), .inr (.inl ⟨hrd, rfl⟩)⟩, by decide⟩, fun p hp => nil_no hp, itersH_name (iters_values (i := 1150) (j := 102) (ep := a.ep) hA' (ents_nodup H hn6)) (fun C => .inl (by kernel_rfl)) (fun C => by kernel_rfl), ⟨rfl, c2⟩,
    fun k σ' => ∃ lc, σ' = { loc := lc, obj := fun j => if j = 103 then some (.list (txts f hd ((List.range k).filter fun k => a.np k == 0))) else if j = 1150 then some (.values 102) else cn f hd a ob0 j, free := fun j => (frc a fr0 j ∧ j ≠ 1150) ∧ j ≠ 103 }, ⟨[], rfl⟩, ?_, ?_, ?_⟩
  · rintro k σ' ⟨lc, rfl⟩
    exact ⟨rfl, c2⟩
  · rintro C k σ' σ'' hk ⟨lc, rfl⟩ ⟨u, ⟨l, hu⟩, rfl⟩
    rw [ents_len] at hk
    rw [ents_get hk] at hu
    cases hu
    have e0 : (if 110 + k = 103 then some (O.list (txts f hd ((List.range k).filter fun k => a.np k == 0))) else if 110 + k = 1150 then some (.values 102) else cn f hd a ob0 (110 + k)) = some (nodeO f hd a k) := by
      rw [if_neg (by lia), if_neg (by lia)]; exact cn_node hk hn6
    have e1 : (if 120 + k = 103 then some (O.list (txts f hd ((List.range k).filter fun k => a.np k == 0))) else if 120 + k = 1150 then some (.values 102) else cn f hd a ob0 (120 + k)) = some (.attrs []) := by
      rw [if_neg (by lia), if_neg (by lia)]; exact cn_nat hk hn6
    have hlen : (txts f hd ((List.range k).filter fun k => a.np k == 0)).length ≤ 1000 := by
      have := List.length_filter_le (fun k => a.np k == 0) (List.range k)
      simp [txts] at this ⊢; lia
    refine wi_one (wb_cmp (we_attr (we_local lset_get (ga_slot (p := 49) (i := 1) (v := .int (a.np k)) HB e0 e1 (by kernel_rfl) rfl trivial ?_ (by kernel_rfl)) (by kernel_rfl) (by kernel_rfl))))
    refine we_int (op_eq_int ⟨_, rfl, ?_⟩)
    by_cases hz : a.np k = 0
    · rw [show (a.np k == 0) = true by rw [hz]; rfl, if_pos rfl]
      refine we_attr (we_local lset_get (ga_slot (p := 48) (i := 0) (v := T f (hd k)) HB e0 e1 (by kernel_rfl) rfl (by cases f <;> trivial) ⟨_, rfl, hlen, lset "i" (.ref (110 + k)) lc, ?_⟩ (by kernel_rfl)) (by kernel_rfl) (by kernel_rfl))
      have e : txts f hd ((List.range (k + 1)).filter fun k => a.np k == 0) = txts f hd ((List.range k).filter fun k => a.np k == 0) ++ [T f (hd k)] := by
        unfold txts
        rw [List.range_succ, List.filter_append, List.map_append]
        simp [hz]
      rw [e]
      exact St.put_if
    · rw [show (a.np k == 0) = false from beq_eq_false_iff_ne.mpr hz, if_neg (by decide)]
      have e : (List.range (k + 1)).filter (fun k => a.np k == 0) = (List.range k).filter fun k => a.np k == 0 := by
        rw [List.range_succ, List.filter_append]
        simp [hz]
      refine ⟨lset "i" (.ref (110 + k)) lc, ?_⟩
      rw [e]
      rfl
  · rintro σ' ⟨lc, rfl⟩
    have e6 : (ents hd a.n).length = 6 := by rw [ents_len, hn]
    rw [e6]
    refine we_local rfl (sa_inst (j := 100) (d := 101) (C := 144) (es := satt a) HB (cn_100 (f := f) (hd := hd) (ob0 := ob0) (a := a)) (cn_101 (f := f) (hd := hd) (ob0 := ob0) (a := a)) (by simp [satt]) satt_nodup ?_)
    generalize hl : (List.range 6).filter (fun k => a.np k == 0) = l at h ⊢
    have hle : (SS f hd ob0 (pfree fr0 1150) { a with rd := some l } [("self", .ref 100)]).le (St.put ⟨[("self", .ref 100)], fun j => if j = 103 then some (.list (txts f hd l)) else if j = 1150 then some (.values 102) else cn f hd a ob0 j, fun j => (frc a fr0 j ∧ j ≠ 1150) ∧ j ≠ 103⟩ 101 (.attrs (lset "_ready_nodes" (.ref 103) (satt a)))) := by
      refine ⟨fun _ h => h, fun i o e => ?_, fun i hi => ?_⟩
      · show (if i = 101 then some (O.attrs (lset "_ready_nodes" (.ref 103) (satt a))) else if i = 103 then some (.list (txts f hd l)) else if i = 1150 then some (.values 102) else cn f hd a ob0 i) = some o
        by_cases h1 : i = 101
        · subst h1; exact e
        rw [if_neg h1]
        by_cases h2 : i = 103
        · subst h2; exact e
        rw [if_neg h2]
        by_cases h3 : i = 1150
        · subst h3
          have e' : ob0 1150 = some o := e
          rw [(O2 1150 (by decide) (by decide)).2] at e'; cases e'
        rw [if_neg h3, ← e]
        show _ = cn f hd { a with rd := some l } ob0 i
        unfold cn
        simp only [if_neg h1, if_neg h2]; rfl
      · obtain ⟨⟨h1, h2⟩, h3⟩ := hi
        have h3' : (i < 100 ∨ 200 ≤ i) ∨ (some l = none ∧ i = 103) ∨ (110 + a.n ≤ i ∧ i < 116) ∨ (120 + a.n ≤ i ∧ i < 126) ∨ (130 + a.n ≤ i ∧ i < 136) := h3
        refine ⟨⟨⟨h1, ?_⟩, h2⟩, ?_⟩
        · rcases h3' with h | ⟨h, _⟩ | h
          · exact .inl h
          · cases h
          · exact .inr (.inr h)
        · rcases h3' with h | ⟨h, _⟩ | h
          · lia
          · cases h
          · lia
    refine WT.weaken ?_ hle
    refine ws_assign (we_imeth (f := 134) HB (we_local rfl ⟨100, 101, satt { a with rd := some l }, rfl, cn_100 (f := f) (hd := hd) (ob0 := ob0) (a := { a with rd := some l }), cn_101 (f := f) (hd := hd) (ob0 := ob0) (a := { a with rd := some l }), rfl, wa_nil ?_⟩))
    refine wc_cycle (a := { a with rd := some l }) HB hA' rfl rfl H ⟨fun i h1 h2 => ⟨O0.low i h1 h2, by lia⟩, fun i h1 h2 => ⟨⟨(O0.high i h1 h2).1, by lia⟩, (O0.high i h1 h2).2⟩⟩ hn hsu ?_
    refine ws_if (wb_value (we_local rfl (truthy_none ?_)))
    refine ws_nil (ws_nil ⟨_, back_cut (M := 1200) (a' := { a with rd := some l }) (ob1 := ob0) (fr1 := pfree fr0 1150) hn6 (fun _ _ => rfl) (fun i h1 h2 => (O2 i h1 h2).2) (fun i hi hf => ⟨hf, by lia⟩), trivial, h⟩)
end
end Mine
end
section
set_option maxRecDepth 100000
set_option autoImplicit false
namespace Mine
open PySem PySem.Calls PySem.Spec PyProof.Rows PySem.W

section
variable {g : Bool} {w : World} {B : Heap} {env : Env} {A : Around} {σ : St} {fm : Fm} {ρ : Rho} {s : Shared} {pos px np kp : Pos}
/- all but the frame's own dict stands, and that bears the same names -/
theorem Rel.keptNs {h' : Heap} {m : Str → Option Value} (tk : Nat) (R : Rel w env fm ρ σ s) (O : FmOk B env A fm) (hm : s.heap.Ns env.locals m) (hn : h'.Ns env.locals m) (hk : ∀ b o, b ≠ env.locals → s.heap.get? b = some o → h'.get? b = some o) :
    Rel w env fm ρ σ { s with heap := h', toks := tk } := by
  have cne : ∀ p ∈ env.cells, p.2 ≠ env.locals := by
    rintro p hp e
    obtain ⟨_, o, g, d⟩ := R.cells p hp
    obtain ⟨o', es, ep, g', d', _⟩ := hm
    rw [e, g'] at g; cases g
    rw [d'] at d; cases d
  refine ⟨let ⟨_, _, e⟩ := R.same; ⟨h', tk, by rw [e]⟩, fun b z e => ?_, fun b d e => ?_, ?_, ?_, ?_, ?_, R.inj, R.free⟩
  · exact hk b z (by rintro rfl; rw [O.locs.1] at e; cases e) (R.keep b z e)
  · obtain ⟨z, g, hd⟩ := R.dat b d e
    exact ⟨z, hk b z (by rintro rfl; rw [O.locs.2] at e; cases e) g, hd⟩
  · refine ⟨_, hn, fun p hp hl => ?_⟩
    obtain ⟨m₀, n₀, q₀⟩ := R.ns
    obtain ⟨z, e, v'⟩ := q₀ p hp hl
    have em : m₀ p.1 = m p.1 := by
      obtain ⟨o, es, ep, g, d, _, f⟩ := n₀
      obtain ⟨o', es', ep', g', d', _, f'⟩ := hm
      rw [g] at g'; cases g'
      rw [d] at d'; cases d'
      rw [← f, ← f']
    exact ⟨z, by rw [← em, e], v'⟩
  · intro p hp hl
    obtain ⟨c, z, e, f, v'⟩ := R.cel p hp hl
    exact ⟨c, z, e, IsCell_of f fun o g => hk c o (cne (p.1, c) (mem_of_lookup e)) g, v'⟩
  · intro p hp
    obtain ⟨v', f⟩ := R.cells p hp
    exact ⟨v', IsCell_of f fun o g => hk p.2 o (cne p hp) g⟩
  · intro i o e
    obtain ⟨a, ob, p, g, r, own⟩ := R.obj i o e
    exact ⟨a, ob, p, hk a ob own.2.2.1 g, r, own⟩
/- an object of nobody's becomes one of the proof's -/
theorem Rel.adopt {i : Nat} {a : Addr} {o : O} {ob : Obj} (R : Rel w env fm ρ σ s) (ap : Apart env fm ρ σ a) (hi : σ.free i) (ho : s.heap.get? a = some ob) (hO : OR w (ρ.upd i a) o ob) : ρ.le (ρ.upd i a) ∧ Rel w env fm (ρ.upd i a) (σ.new i o) s := by
  have hle : ρ.le (ρ.upd i a) := Rho.le_upd (R.free i hi)
  refine ⟨hle, R.same, R.keep, R.dat, ?_, ?_, R.cells, ?_, ?_, ?_⟩
  · obtain ⟨m, p, q⟩ := R.ns
    exact ⟨m, p, fun x hx hl => let ⟨y, e, v⟩ := q x hx hl; ⟨y, e, v.mono hle⟩⟩
  · intro p hp n
    obtain ⟨c, x, e, f, v⟩ := R.cel p hp n
    exact ⟨c, x, e, f, v.mono hle⟩
  · intro j o' e
    have e' : (if j = i then some o else σ.obj j) = some o' := e
    by_cases hj : j = i
    · subst hj
      rw [if_pos rfl] at e'; cases e'
      exact ⟨a, ob, by simp [Rho.upd], ho, hO, ap.own⟩
    · rw [if_neg hj] at e'
      obtain ⟨b, ob', p, q, r, t⟩ := R.obj j o' e'
      exact ⟨b, ob', hle _ _ p, q, r.mono hle, t⟩
  · intro j k b hj hk' ej ek
    have old : ∀ l, l ≠ i → (σ.new i o).obj l ≠ none → σ.obj l ≠ none ∧ ∃ b, ρ l = some b ∧ b ≠ a := by
      intro l hl hn
      have hn' : (if l = i then some o else σ.obj l) ≠ none := hn
      rw [if_neg hl] at hn'
      refine ⟨hn', ?_⟩
      cases q : σ.obj l with
      | none => exact absurd q hn'
      | some o' =>
        obtain ⟨b, ob', p, g, _⟩ := R.obj l o' q
        refine ⟨b, p, ?_⟩
        rintro rfl
        exact ap.live l hn' p
    by_cases h1 : j = i <;> by_cases h2 : k = i
    · rw [h1, h2]
    · obtain ⟨_, b', p, n⟩ := old k h2 hk'
      have : (ρ.upd i a) j = some a := by simp [Rho.upd, h1]
      rw [this] at ej; cases ej
      rw [hle _ _ p] at ek; cases ek
      exact absurd rfl n
    · obtain ⟨_, b', p, n⟩ := old j h1 hj
      have : (ρ.upd i a) k = some a := by simp [Rho.upd, h2]
      rw [this] at ek; cases ek
      rw [hle _ _ p] at ej; cases ej
      exact absurd rfl n
    · obtain ⟨g1, b1, p1, _⟩ := old j h1 hj
      obtain ⟨g2, b2, p2, _⟩ := old k h2 hk'
      have e1 := hle _ _ p1
      have e2 := hle _ _ p2
      rw [ej] at e1; rw [ek] at e2
      cases e1; cases e2
      exact R.inj j k b g1 g2 p1 p2
  · rintro j ⟨hf, hn⟩
    show (if j = i then some a else ρ j) = none
    rw [if_neg hn]
    exact R.free j hf

-- a heap cut at L, and what lies behind L
noncomputable def trunc (h : Heap) (L : Addr) : Heap := { h with objs := h.objs.extract 0 L }
theorem trunc_at {h : Heap} {L b : Nat} (hb : b < L) : (trunc h L).objs[b]? = h.objs[b]? := by
  simp only [trunc]
  rw [Array.getElem?_extract]
  split
  · rw [Nat.zero_add]
  · rename_i hh
    have : h.objs.size ≤ b := by lia
    exact (Array.getElem?_eq_none this).symm
theorem trunc_size {h : Heap} {L : Nat} : (trunc h L).objs.size ≤ L := by
  simp only [trunc, Array.size_extract]
  exact Nat.le_trans (Nat.sub_le _ _) (Nat.min_le_left ..)
theorem trunc_get {h : Heap} {L b : Nat} {o : Obj} (e : (trunc h L).get? b = some o) : b < L ∧ h.get? b = some o := by
  have hb : b < L := Nat.lt_of_lt_of_le (Heap.lt_size e) trunc_size
  refine ⟨hb, ?_⟩
  unfold Heap.get? at e ⊢
  rw [← trunc_at hb]; exact e
theorem trunc_of {h : Heap} {L b : Nat} {o : Obj} (hb : b < L) (e : h.get? b = some o) : (trunc h L).get? b = some o := by
  unfold Heap.get? at e ⊢
  rw [trunc_at hb]; exact e
noncomputable def behind (h : Heap) (L : Addr) : List (Addr × Obj) := (List.range h.objs.size).filterMap fun b => if b ≤ L then none else (h.get? b).map fun o => (b, o)
theorem mem_behind {h : Heap} {L : Addr} {p : Addr × Obj} (hp : p ∈ behind h L) : L < p.1 ∧ h.get? p.1 = some p.2 := by
  obtain ⟨b, _, e⟩ := List.mem_filterMap.mp hp
  split at e
  · cases e
  · rename_i hb
    cases q : h.get? b with
    | none => rw [q] at e; cases e
    | some o => rw [q] at e; cases e; exact ⟨Nat.lt_of_not_le hb, q⟩
theorem behind_of {h : Heap} {L b : Nat} {o : Obj} (hb : L < b) (e : h.get? b = some o) : (b, o) ∈ behind h L :=
  List.mem_filterMap.mpr ⟨b, List.mem_range.mpr (Heap.lt_size e), by rw [if_neg (Nat.not_le_of_lt hb), e]; rfl⟩

theorem perm_map {α β : Type} {g : α → β} {l l' : List β} (p : l.Perm l') : ∀ Z : List α, l' = Z.map g → ∃ Z' : List α, Z'.Perm Z ∧ l = Z'.map g := by
  induction p with
  | nil => intro Z h; exact ⟨[], by rw [List.map_eq_nil_iff.mp h.symm], rfl⟩
  | cons x _ ih =>
    intro Z h
    cases Z with
    | nil => cases h
    | cons z Z =>
      rw [List.map_cons, List.cons.injEq] at h
      obtain ⟨Z', h1, h2⟩ := ih Z h.2
      exact ⟨z :: Z', h1.cons z, by rw [List.map_cons, h.1, h2]⟩
  | swap x y l =>
    intro Z h
    match Z, h with
    | a :: b :: Z, h =>
      simp only [List.map_cons, List.cons.injEq] at h
      exact ⟨b :: a :: Z, List.Perm.swap .., by simp [h.1, h.2.1, h.2.2]⟩
  | trans _ _ ih1 ih2 =>
    intro Z h
    obtain ⟨Z1, h1, h2⟩ := ih2 Z h
    obtain ⟨Z2, h3, h4⟩ := ih1 Z1 h2
    exact ⟨Z2, h3.trans h1, h4⟩
theorem LR.zip {ρ : Rho} {F : List Nat → V} : ∀ {ks : List (List Nat)} {vs : List Value}, LR ρ (ks.map F) vs → ∀ p ∈ ks.zip vs, VR ρ (F p.1) p.2
  | [], [], _, p, h => by cases h
  | k :: ks, v :: vs, ⟨a, b⟩, p, h => by
    rcases List.mem_cons.mp h with e | h
    · subst e; exact a
    · exact LR.zip b p h
theorem LR.unzip {ρ : Rho} {F : List Nat → V} : ∀ {Z : List (List Nat × Value)}, (∀ p ∈ Z, VR ρ (F p.1) p.2) → LR ρ ((Z.map (·.1)).map F) (Z.map (·.2))
  | [], _ => trivial
  | p :: Z, h => ⟨h p (.head _), LR.unzip fun q hq => h q (.tail _ hq)⟩
theorem call_len_T {prog : Program} {A : Around} {E : Value → Shared → Prop} {s : Shared} {ρ : Rho} {f : Bool} {l : List Nat} {x : Value} {Q : Value → Shared → Prop} (hx : VR ρ (T f l) x) (hl : l.length ≤ 900) (h : ∀ t k, Q (.int l.length t) { s with toks := k }) :
    wpAny (model prog w) A (call (.builtin "len") [x]) Q E s := by
  cases f with
  | false =>
    obtain ⟨t, rfl⟩ := hx
    have e : (⟨l.toArray⟩ : Str).length = l.length := by simp [Str.length]
    refine PySem.P.len_str (by rw [e]; lia) ?_
    rw [e]; exact h _ _
  | true =>
    obtain ⟨t, rfl⟩ := hx
    have e : (l.map Nat.toUInt8).toArray.size = l.length := by simp
    exact len_bytes (by rw [e]; exact Nat.le_trans hl (by decide)) (by rw [e]; exact h _ _)

theorem wc_sorted {f : Bool} {j i : Nat} {ks : List (List Nat)} {K : V → St → Prop} (hj : σ.obj j = some (.tuple (ks.map (T f)))) (hz : ks.length ≤ 60) (hl : ∀ k ∈ ks, k.length ≤ 900) (hi : σ.free i)
    (h : ∀ out : List (List Nat), out.Perm ks → out.Pairwise (fun a b => a.length ≤ b.length) → K (.ref i) (σ.new i (.list (out.map (T f))))) :
    ∀ fm ρ s x (Q : Value → Shared → Prop) E, FmOk B env A fm → Rel w env fm ρ σ s → VR ρ (.ref j) x → (∀ v σ' ρ' c s', ρ.le ρ' → Rel w env fm ρ' σ' s' → VR ρ' v c → K v σ' → Q c s') →
    wpAny (model PR w) A (call (.builtin "sorted") [x] [(Str.ofString "key", .builtin "len")]) Q E s := by
  intro fm ρ s x Q E O r hx q
  obtain ⟨at', vs, n, rfl, e, ho, lr⟩ := r.ptuple hj hx
  have hlen : vs.size = ks.length := by rw [← Array.length_toList, ← lr.length, List.length_map]
  have hvl0 : vs.toList.length = ks.length := by rw [← lr.length, List.length_map]
  refine call_function_entry_kw kind_sorted plain_sorted entry_sorted (ksk_s1 _ _) ?_
  unfold Builtin.«sorted»
  refine wpAny_bind (m := checkCount "sorted" 1 1 _) (wpAny_pure ?_)
  refine wpAny_bind (wpAny_collect_seq at' (.inr rfl) ho rfl rfl (fun h1 hk1 => ?_) (Nat.le_trans (m := 1000) (by lia) (by decide)))
  refine wpAny_bind (wpAny_newList ?_ (Nat.le_trans (m := 1000) (by lia) (by decide)))
  have r1 := r.kept (h' := h1.push (seqObj "list" vs.toList.toArray 0)) s.toks fun b o e => Heap.get?_push_of_some _ (hk1 b o e)
  have hoL : (h1.push (seqObj "list" vs.toList.toArray 0)).get? h1.objs.size = some (seqObj "list" vs.toList.toArray 0) := Heap.get?_push_size _ rfl
  have hnL : s.heap.get? h1.objs.size = none := by
    cases q : s.heap.get? h1.objs.size with
    | none => rfl
    | some o => exact absurd (Heap.lt_size (hk1 _ _ q)) (Nat.lt_irrefl _)
  have ap := r.apart hnL
  obtain ⟨m, hm, _⟩ := r1.ns
  have hns : s.heap.Ns env.locals m := by
    obtain ⟨m', hm', _⟩ := r.ns
    obtain ⟨o', es', ep', g', d', k', f'⟩ := hm'
    obtain ⟨o, es, ep, g, d, k, f⟩ := hm
    have : (h1.push (seqObj "list" vs.toList.toArray 0)).get? env.locals = some o' := Heap.get?_push_of_some _ (hk1 _ _ g')
    have g0 : (h1.push (seqObj "list" vs.toList.toArray 0)).get? env.locals = some o := g
    rw [this] at g0; cases g0
    exact ⟨o', es, ep, g', d, k, f⟩
  have hLa : env.locals < h1.objs.size := by obtain ⟨o, _, _, g, _⟩ := hns; exact Heap.lt_size (hk1 _ _ g)
  refine wpAny_bind (wpAny_holding (wpAny_call_entry_kw slot_list_sort ⟨_, hoL, rfl⟩ entry_list_sort ?_ (ksk_l1 _ _)))
  rw [ksk_t4]
  have hvl : vs.toList.length = ks.length := by rw [← lr.length, List.length_map]
  have kz_len : (ks.map fun l => (l.length : Int)).length = vs.toList.length := by rw [List.length_map, hvl]
  have F : Fr (trunc s.heap env.locals) env.locals (h1.push (seqObj "list" vs.toList.toArray 0)) m := ⟨hm, fun b o e => Heap.get?_push_of_some _ (hk1 _ _ (trunc_get e).2), trunc_size⟩
  have none_of : ∀ b, env.locals ≤ b → (trunc s.heap env.locals).get? b = none := fun b hb => by
    cases q : (trunc s.heap env.locals).get? b with
    | none => rfl
    | some o => exact absurd (trunc_get q).1 (Nat.not_lt.mpr hb)
  have N : News (trunc s.heap env.locals) env.locals (h1.push (seqObj "list" vs.toList.toArray 0)) (behind s.heap env.locals) := fun p hp => by
    obtain ⟨h2, h3⟩ := mem_behind hp
    exact ⟨Heap.get?_push_of_some _ (hk1 _ _ h3), Nat.ne_of_gt h2, none_of _ (Nat.le_of_lt h2)⟩
  refine ksk_sort (b := false) (kz := ks.map fun l => (l.length : Int)) (vs := vs.toList) F N hoL (Nat.ne_of_gt hLa) (none_of _ (Nat.le_of_lt hLa)) (fun p hp e' => ?_) kz_len (by lia) ?_ ?_
  · obtain ⟨_, h3⟩ := mem_behind hp
    rw [e', hnL] at h3; cases h3
  · intro i v k hv hk h tk own F' N'
    rw [List.getElem?_map] at hk
    cases hks : ks[i]? with
    | none => rw [hks] at hk; cases hk
    | some l =>
      rw [hks] at hk; cases hk
      obtain ⟨y, hy, vy⟩ := lr.get (i := i) (v := T f l) (by rw [List.getElem?_map, hks]; rfl)
      rw [hv] at hy; cases hy
      exact call_len_T vy (hl l (List.mem_of_getElem? hks)) fun t k => ⟨h, k, t, rfl, rfl, F', N'⟩
  · intro h' tk out c F' N' ho'
    refine ⟨_, rfl, wpAny_pure ⟨_, rfl, ?_⟩⟩
    obtain ⟨ps, hp, hout, hpw⟩ := ho'
    have hz1 : (ks.map fun l => (l.length : Int)).zip vs.toList = (ks.zip vs.toList).map fun p => ((p.1.length : Int), p.2) := by
      rw [List.zip_map_left]; rfl
    obtain ⟨Z, hZ, rfl⟩ := perm_map hp _ hz1
    have hvr := LR.zip lr
    have lrZ : LR ρ ((Z.map (·.1)).map (T f)) (Z.map (·.2)) := LR.unzip fun p hp => hvr p (hZ.mem_iff.mp hp)
    have hks : (Z.map (·.1)).Perm ks := by
      have := hZ.map (·.1)
      rw [List.map_fst_zip (by lia)] at this
      exact this
    have hpw' : (Z.map (·.1)).Pairwise fun a b => a.length ≤ b.length := by
      rw [List.pairwise_map] at hpw ⊢
      exact hpw.imp fun h => by simpa using h
    have hout' : out.toList = Z.map (·.2) := by rw [hout, List.map_map]; rfl
    have hkeep : ∀ b o, b ≠ env.locals → s.heap.get? b = some o → h'.get? b = some o := fun b o hb e => by
      rcases Nat.lt_or_gt_of_ne hb with hlt | hgt
      · exact F'.keep b o (trunc_of hlt e)
      · exact (N' (b, o) (List.mem_cons_of_mem _ (behind_of hgt e))).1
    have r3 := r.keptNs tk O hns F'.ns hkeep
    have ho3 : h'.get? h1.objs.size = some (seqObj "list" out c) := (N' _ (List.mem_cons_self ..)).1
    obtain ⟨l4, r4⟩ := r3.adopt (i := i) (o := .list ((Z.map (·.1)).map (T f))) ⟨ap.own, ap.live⟩ hi ho3 ⟨out, c, rfl, by rw [hout']; exact lrZ.mono (Rho.le_upd (r.free i hi))⟩
    exact q (.ref i) _ _ _ _ l4 r4 ⟨_, by simp [Rho.upd], rfl⟩ (h _ hks hpw')

theorem we_sorted {f : Bool} {e : Expr} {K : V → St → Prop} (HB : BaseOk w B)
    (h : WE false w B env A e σ fun v σ₁ => ∃ j i ks, v = .ref j ∧ σ₁.obj j = some (.tuple (ks.map (T f))) ∧ ks.length ≤ 60 ∧ (∀ k ∈ ks, k.length ≤ 900) ∧ σ₁.free i ∧
      ∀ out : List (List Nat), out.Perm ks → out.Pairwise (fun a b => a.length ≤ b.length) → K (.ref i) (σ₁.new i (.list (out.map (T f)))))
    (hg : env.globals = mainGlobals := by rfl) (hb : env.builtins = builtinsNs := by rfl) (hl1 : env.kindOf "sorted" = some .globalImplicit := by rfl) (hl2 : env.kindOf "len" = some .globalImplicit := by rfl) (hk : env.scope.kind = .function := by rfl)
    (hs1 : nsIn (KK w.params) mainGlobals "sorted" = some none := by kernel_rfl) (hs2 : nsIn (KK w.params) mainGlobals "len" = some none := by kernel_rfl)
    (he : backTo pos (starEach [e] env) = (false, eval e env) :: backTo pos (starEach [] env) := by rfl) (hplain : (backTo pos (starEach [e] env)).any (·.1) = false := by rfl) :
    WE g w B env A (.Call (.Name "sorted" np) [e] [⟨some "key", .Name "len" kp, px⟩] pos) σ K := fun fm ρ s Q E O r q => by
  refine wpG_of ?_
  show wpAny _ _ (do callWith pos (← eval (.Name "sorted" np) env) [] (backTo pos (starEach [e] env)) (backToKw pos (keywordEach [⟨some "key", .Name "len" kp, px⟩] env))) Q E s
  refine wpAny_bind (wpG_any (we_blt (g := false) (w := w) (B := B) (A := A) (K := fun v σ' => v = .raw (.builtin "sorted") ∧ σ' = σ) (v := .builtin "sorted") HB ⟨rfl, rfl⟩ hs1 (by kernel_rfl) (by decide) hg hb hl1 hk (by decide) fm ρ s _ _ O r fun v σ' ρ' c s' l' r' vr kk => ?_))
  obtain ⟨rfl, rfl⟩ := kk
  cases vr
  refine callWith_kw ?_ he hplain
  rw [he]
  refine wpG_any (wpG_spliced_cons (h fm ρ' s' _ _ O r' fun v σ₁ ρ₁ a s₁ l₁ r₁ v₁ h₁ => wpG_of (spliced_nil ?_)))
  refine kws_cons (wpG_any (we_blt (g := false) (w := w) (B := B) (A := A) (K := fun v σ' => v = .raw (.builtin "len") ∧ σ' = σ₁) (v := .builtin "len") HB ⟨rfl, rfl⟩ hs2 (by kernel_rfl) (by decide) hg hb hl2 hk (by decide) fm ρ₁ s₁ _ _ O r₁ fun v2 σ₂ ρ₂ c s₂ l₂ r₂ vr kk => ?_))
  obtain ⟨rfl, rfl⟩ := kk
  cases vr
  refine kws_nil ?_
  obtain ⟨j, i, ks, rfl, hj, hz, hl, hi, hK⟩ := h₁
  exact wc_sorted hj hz hl hi hK fm ρ₂ s₂ a Q E O r₂ (v₁.mono l₂) fun v' σ' ρ' c s' l3 r3 vr kk => q v' σ' ρ' c s' (((l'.trans l₁).trans l₂).trans l3) r3 vr kk
end
end Mine
end
section
set_option maxRecDepth 100000
set_option autoImplicit false
namespace Mine
open PySem PySem.Calls PySem.Spec PyProof.Rows PySem.W

section
variable {g : Bool} {w : World} {B : Heap} {env : Env} {A : Around} {σ : St} {K : V → St → Prop} {f : Bool} {hd : Nat → List Nat} {ob0 : Nat → Option O} {fr0 : Nat → Prop} {loc : List (Str × V)}
theorem bind_init {u : V} (HB : BaseOk w B) : BindTo g w B env A fdInit ["self", "graph"] [u] σ [u, .none] σ := fun fm ρ s xs Q O r hv q => by
  obtain ⟨x, rfl, hx⟩ := LR.one hv
  have X := r.inK HB O
  have hb : BindsTo s fdInit ⟨[x], []⟩ [("self", x), ("graph", .none)] := kp_binds X fun S => by kernel_rfl
  exact wpG_of (hb _ _ _ _ (q ρ [x, .none] s ρ.le_refl r ⟨hx, rfl, trivial⟩))
noncomputable def a0 (ep : Nat) : SA := { n := 0, np := fun _ => 0, su := fun _ => [], rd := none, po := 0, fi := 0, ep := ep }
theorem wc_sorter {n : Nat} (HB : BaseOk w B) (hA : AOk (n + 2) A) (hf : env.frame = some env.locals) (hkind : env.scope.kind = .function) (hlow : ∀ i, 100 ≤ i → i < 200 → fr0 i ∧ ob0 i = none)
    (h : K (.ref 100) (SS f hd ob0 fr0 (a0 0) loc)) : WC false w B env A (.ref 144) [] ⟨loc, ob0, fr0⟩ K := by
  refine (CC.less (cc_class (C := 144) (fI := 80) (i := 100) (d := 101) (.inst 144 101) HB (.inl rfl) hA (hlow 100 (by decide) (by decide)).1 (hlow 101 (by decide) (by decide)).1 (by decide) fun A' hA' => ?_)).wc
  refine cc_def HB defInit (bind_init HB) rfl hA' hf hkind fun L A'' hA'' => ?_
  refine ws_setattr (we_dict0 (f := f) (i := 102) ⟨⟨(hlow 102 (by decide) (by decide)).1, by decide⟩, by decide⟩ (we_local rfl (sa_inst (j := 100) (d := 101) (C := 144) (es := []) HB rfl rfl (by decide) List.nodup_nil ?_)))
  refine ws_setattr (we_none (we_local rfl (sa_inst (j := 100) (d := 101) (C := 144) (es := [("_node2info", .ref 102)]) HB rfl rfl (by simp) (by simp) ?_)))
  refine ws_setattr (we_int (we_local rfl (sa_inst (j := 100) (d := 101) (C := 144) (es := [("_node2info", .ref 102), ("_ready_nodes", .none)]) HB rfl rfl (by simp) (by decide) ?_)))
  refine ws_setattr (we_int (we_local rfl (sa_inst (j := 100) (d := 101) (C := 144) (es := [("_node2info", .ref 102), ("_ready_nodes", .none), ("_npassedout", .int 0)]) HB rfl rfl (by simp) (by decide) ?_)))
  refine ws_if (wb_cmp (we_local rfl (we_none (op_isnot_none trivial ⟨_, rfl, ?_⟩))))
  refine ws_nil (ws_nil ⟨rfl, SS f hd ob0 fr0 (a0 0) loc, ⟨fun _ h => h, fun i o e => ?_, fun i hi => ?_⟩, h⟩)
  · show (if i = 101 then some (O.attrs (satt (a0 0))) else if i = 101 then _ else if i = 101 then _ else if i = 101 then _ else if i = 102 then some (O.dict f [] 0) else if i = 100 then some (.inst 144 101) else if i = 101 then some (.attrs []) else ob0 i) = some o
    have e' : cn f hd (a0 0) ob0 i = some o := e
    by_cases h1 : i = 101
    · subst h1; exact e'
    rw [if_neg h1, if_neg h1, if_neg h1, if_neg h1]
    by_cases h2 : i = 102
    · subst h2; exact e'
    rw [if_neg h2]
    by_cases h3 : i = 100
    · subst h3; exact e'
    rw [if_neg h3, if_neg h1]
    by_cases h4 : i < 100 ∨ 200 ≤ i
    · rw [cn_away h4] at e'; exact e'
    unfold cn at e'
    rw [if_neg h4, if_neg h3, if_neg h1, if_neg h2] at e'
    split at e'
    · cases e'
    rw [if_neg (by show ¬ (110 ≤ i ∧ i < 110 + 0); lia), if_neg (by show ¬ (120 ≤ i ∧ i < 120 + 0); lia), if_neg (by show ¬ (130 ≤ i ∧ i < 130 + 0); lia)] at e'
    cases e'
  · obtain ⟨h1, h2⟩ := hi
    have h2' : (i < 100 ∨ 200 ≤ i) ∨ ((none : Option (List Nat)) = none ∧ i = 103) ∨ (110 + 0 ≤ i ∧ i < 116) ∨ (120 + 0 ≤ i ∧ i < 126) ∨ (130 + 0 ≤ i ∧ i < 136) := h2
    refine ⟨⟨⟨h1, ?_⟩, ?_⟩, ?_⟩ <;> (rcases h2' with h | ⟨_, h⟩ | h | h | h <;> lia)
end
end Mine
end
section
set_option maxRecDepth 100000
set_option autoImplicit false
namespace Mine
open PySem PySem.Calls PySem.Spec PyProof.Rows PySem.W

theorem steps_np : ∀ (q : List Nat) (b : SA) (s : Nat), q.Nodup → (q.foldl stepF b).np s = if s ∈ q then b.np s - 1 else b.np s
  | [], b, s, _ => by simp
  | x :: q, b, s, h => by
    obtain ⟨h1, h2⟩ := List.nodup_cons.mp h
    rw [List.foldl_cons, steps_np q _ s h2]
    by_cases hs : s = x
    · subst hs
      rw [if_neg h1, if_pos (List.mem_cons_self ..)]
      exact upd_self
    · have e : (stepF b x).np s = b.np s := upd_ne hs
      rw [e]
      by_cases hq : s ∈ q
      · rw [if_pos hq, if_pos (List.mem_cons_of_mem _ hq)]
      · rw [if_neg hq, if_neg (by rw [List.mem_cons]; rintro (h | h); exact hs h; exact hq h)]
theorem steps_rd : ∀ (q : List Nat) (b : SA) (r : List Nat), q.Nodup → b.rd = some r → (q.foldl stepF b).rd = some (r ++ q.filter fun s => b.np s - 1 == 0)
  | [], b, r, _, h => by simp [h]
  | x :: q, b, r, hn, h => by
    obtain ⟨h1, h2⟩ := List.nodup_cons.mp hn
    have e : ∀ s ∈ q, (stepF b x).np s = b.np s := fun s hs => upd_ne fun he => h1 (he ▸ hs)
    have ef : (q.filter fun s => (stepF b x).np s - 1 == 0) = q.filter fun s => b.np s - 1 == 0 := List.filter_congr fun s hs => by rw [e s hs]
    rw [List.foldl_cons, List.filter_cons]
    by_cases hz : b.np x - 1 = 0
    · have hr : (stepF b x).rd = some (r ++ [x]) := by unfold stepF; dsimp only; rw [if_pos hz, h]; rfl
      rw [steps_rd q _ _ h2 hr, ef, if_pos (by rw [hz]; rfl), List.append_assoc]; rfl
    · have hr : (stepF b x).rd = some r := by unfold stepF; dsimp only; rw [if_neg hz, h]
      rw [steps_rd q _ _ h2 hr, ef, if_neg (by simpa using hz)]

/- how many of l have a property -/
noncomputable def cnt (l : List Nat) (p : Nat → Bool) : Int := ((l.filter p).length : Int)
theorem cnt_cons {x : Nat} {l : List Nat} {p : Nat → Bool} : cnt (x :: l) p = (if p x then 1 else 0) + cnt l p := by
  unfold cnt
  rw [List.filter_cons]
  cases p x <;> simp <;> lia
theorem cnt_nonneg {l : List Nat} {p : Nat → Bool} : 0 ≤ cnt l p := by unfold cnt; lia
theorem cnt_zero {l : List Nat} {p : Nat → Bool} : cnt l p = 0 ↔ ∀ x ∈ l, p x = false := by
  unfold cnt
  rw [show ((l.filter p).length : Int) = 0 ↔ (l.filter p).length = 0 by lia, List.length_eq_zero_iff, List.filter_eq_nil_iff]
  constructor
  · intro h x hx; simpa using h x hx
  · intro h x hx; simpa using h x hx
theorem cnt_congr {l : List Nat} {p q : Nat → Bool} (h : ∀ x ∈ l, p x = q x) : cnt l p = cnt l q := by
  unfold cnt; rw [List.filter_congr h]
/- one more is in -/
theorem cnt_add {l : List Nat} {p q : Nat → Bool} {u : Nat} (hn : l.Nodup) (hq : ∀ x, q x = (p x && decide (x ≠ u))) (hu : p u = true) : cnt l p = cnt l q + if u ∈ l then 1 else 0 := by
  induction l with
  | nil => simp [cnt]
  | cons x l ih =>
    obtain ⟨h1, h2⟩ := List.nodup_cons.mp hn
    rw [cnt_cons, cnt_cons, ih h2, hq x]
    by_cases hx : x = u
    · subst hx
      rw [if_neg h1]
      simp [hu]; lia
    · have e : (u ∈ x :: l) ↔ u ∈ l := by rw [List.mem_cons]; exact ⟨fun h => h.resolve_left (fun e => hx e.symm), .inr⟩
      simp only [e]
      simp [hx]; lia

/- levels: what holds k up lies lower, and one of them right below -/
structure Lev (Hd : Nat → List Nat) (lev : Nat → Nat) : Prop where
  nodup : ∀ k, (Hd k).Nodup
  lt : ∀ k, k < 6 → ∀ j ∈ Hd k, j < k
  lower : ∀ k, k < 6 → ∀ j ∈ Hd k, lev j < lev k
  next : ∀ k, k < 6 → ∀ m, lev k = m + 1 → ∃ j ∈ Hd k, lev j = m

noncomputable def suOf (Hd : Nat → List Nat) (j : Nat) : List Nat := (List.range 6).filter fun k => decide (j ∈ Hd k)
/- before round t -/
structure RI (Hd : Nat → List Nat) (lev : Nat → Nat) (t : Nat) (a : SA) : Prop where
  n : a.n = 6
  su : ∀ j, a.su j = suOf Hd j
  np : ∀ k, k < 6 → t ≤ lev k → a.np k = cnt (Hd k) fun j => decide (t ≤ lev j)
  rd : ∃ l, a.rd = some l ∧ l.Nodup ∧ ∀ k, k ∈ l ↔ k < 6 ∧ lev k = t
  po : a.po = a.fi

/- within round t: those of p are done -/
structure RM (Hd : Nat → List Nat) (lev : Nat → Nat) (t : Nat) (p : List Nat) (b : SA) : Prop where
  n : b.n = 6
  su : ∀ j, b.su j = suOf Hd j
  np : ∀ k, k < 6 → t < lev k → b.np k = cnt (Hd k) fun j => decide (t ≤ lev j) && decide (j ∉ p)
  rd : ∃ r, b.rd = some r ∧ r.Nodup ∧ ∀ k, k ∈ r ↔ k < 6 ∧ t < lev k ∧ b.np k = 0
  out : ∀ k, k < 6 → lev k = t → k ∉ p → b.np k = -1

theorem suOf_nodup {Hd : Nat → List Nat} {j : Nat} : (suOf Hd j).Nodup := List.nodup_range.filter _
theorem mem_suOf {Hd : Nat → List Nat} {j k : Nat} : k ∈ suOf Hd j ↔ k < 6 ∧ j ∈ Hd k := by simp [suOf]
theorem RM.step {Hd : Nat → List Nat} {lev : Nat → Nat} {t : Nat} {p : List Nat} {b : SA} {u : Nat} (L : Lev Hd lev) (M : RM Hd lev t p b) (hu : u < 6) (hl : lev u = t) (hp : u ∉ p) : RM Hd lev t (p ++ [u]) (done1 b u) := by
  obtain ⟨r, hr, hrn, hrm⟩ := M.rd
  have hk := done1_keep b u
  have e : (done1 b u).np = ((b.su u).foldl stepF (doneMid b u)).np := rfl
  have e2 : (done1 b u).rd = ((b.su u).foldl stepF (doneMid b u)).rd := rfl
  have hsn : (b.su u).Nodup := by rw [M.su]; exact suOf_nodup
  have hms : ∀ s, s ∈ b.su u ↔ s < 6 ∧ u ∈ Hd s := fun s => by rw [M.su]; exact mem_suOf
  have hnp : ∀ k, (done1 b u).np k = if k ∈ b.su u then (doneMid b u).np k - 1 else (doneMid b u).np k := fun k => by rw [e]; exact steps_np _ _ _ hsn
  have hmid : ∀ k, k ≠ u → (doneMid b u).np k = b.np k := fun k hk => upd_ne hk
  have hne : ∀ k, t < lev k → k ≠ u := fun k h e => by subst e; lia
  have hsu' : ∀ s ∈ b.su u, t < lev s ∧ s < 6 := fun s hs => by
    obtain ⟨h1, h2⟩ := (hms s).mp hs
    have := L.lower s h1 u h2
    exact ⟨by lia, h1⟩
  have key : ∀ k, k < 6 → t < lev k → (done1 b u).np k = cnt (Hd k) fun j => decide (t ≤ lev j) && decide (j ∉ p ++ [u]) := fun k h1 h2 => by
    have ha := cnt_add (u := u) (l := Hd k) (p := fun j => decide (t ≤ lev j) && decide (j ∉ p)) (q := fun j => decide (t ≤ lev j) && decide (j ∉ p ++ [u])) (L.nodup k)
      (fun x => by
        by_cases hx : x = u
        · subst hx; simp
        · simp [hx]) (by simp [hl, hp])
    have hb := M.np k h1 h2
    rw [hnp k, hmid k (hne k h2), hb]
    by_cases hin : u ∈ Hd k
    · rw [if_pos ((hms k).mpr ⟨h1, hin⟩)]
      rw [if_pos hin] at ha; lia
    · rw [if_neg fun h => hin ((hms k).mp h).2]
      rw [if_neg hin] at ha; lia
  refine ⟨hk.1.trans M.n, fun j => by rw [hk.2.1]; exact M.su j, key, ⟨r ++ (b.su u).filter (fun s => (doneMid b u).np s - 1 == 0), ?_, ?_, fun k => ?_⟩, fun k h1 h2 h3 => ?_⟩
  · rw [e2]; exact steps_rd _ _ _ hsn hr
  · refine List.nodup_append.mpr ⟨hrn, hsn.filter _, fun x hx y hy hxy => ?_⟩
    subst hxy
    obtain ⟨hy1, hy2⟩ := List.mem_filter.mp hy
    obtain ⟨h1, h2⟩ := hsu' x hy1
    have h3 := ((hrm x).mp hx).2.2
    rw [hmid x (hne x h1), h3] at hy2
    simp at hy2
  · rw [List.mem_append, List.mem_filter, hrm k, hnp k]
    constructor
    · rintro (⟨h1, h2, h3⟩ | ⟨h1, h2⟩)
      · refine ⟨h1, h2, ?_⟩
        have hn : k ∉ b.su u := fun hin => by
          have hpos : 0 ≤ (done1 b u).np k := by rw [key k h1 h2]; exact cnt_nonneg
          rw [hnp k, if_pos hin, hmid k (hne k h2), h3] at hpos
          lia
        rw [if_neg hn, hmid k (hne k h2), h3]
      · obtain ⟨h3, h4⟩ := hsu' k h1
        refine ⟨h4, h3, ?_⟩
        rw [if_pos h1]
        simpa using h2
    · rintro ⟨h1, h2, h3⟩
      by_cases hin : k ∈ b.su u
      · rw [if_pos hin] at h3
        exact .inr ⟨hin, by rw [h3]; rfl⟩
      · rw [if_neg hin, hmid k (hne k h2)] at h3
        exact .inl ⟨h1, h2, h3⟩
  · have hku : k ≠ u := fun e => h3 (by rw [e]; simp)
    have hks : k ∉ b.su u := fun hin => by have := (hsu' k hin).1; lia
    rw [hnp k, if_neg hks, hmid k hku]
    exact M.out k h1 h2 fun h => h3 (List.mem_append_left _ h)

theorem outF_np : ∀ (l : List Nat) (a : SA) (k : Nat), (outF a l).np k = if k ∈ l then -1 else a.np k
  | [], a, k => by simp [outF]
  | x :: l, a, k => by
    show (outF { a with np := upd a.np x (-1) } l).np k = _
    rw [outF_np l _ k]
    dsimp only
    by_cases hl : k ∈ l
    · rw [if_pos hl, if_pos (List.mem_cons_of_mem _ hl)]
    · rw [if_neg hl]
      by_cases hx : k = x
      · subst hx; rw [upd_self, if_pos (List.mem_cons_self ..)]
      · rw [upd_ne hx, if_neg (by rw [List.mem_cons]; rintro (h | h); exact hx h; exact hl h)]
theorem RI.start {Hd : Nat → List Nat} {lev : Nat → Nat} {t : Nat} {a : SA} {l : List Nat} (L : Lev Hd lev) (R : RI Hd lev t a) (hl : a.rd = some l) : RM Hd lev t [] (readyF a l) := by
  obtain ⟨l', h1, h2, h3⟩ := R.rd
  rw [hl] at h1; cases h1
  have hk := outF_keep l a
  have hnp : ∀ k, (readyF a l).np k = if k ∈ l then -1 else a.np k := fun k => outF_np l a k
  refine ⟨hk.1.trans R.n, fun j => by show (outF a l).su j = _; rw [hk.2.1]; exact R.su j, fun k g1 g2 => ?_, ⟨[], rfl, List.nodup_nil, fun k => ?_⟩, fun k g1 g2 _ => ?_⟩
  · rw [hnp k, if_neg (fun h => by have := ((h3 k).mp h).2; lia), R.np k g1 (by lia)]
    exact cnt_congr fun x _ => by simp
  · constructor
    · intro h; cases h
    · rintro ⟨g1, g2, g3⟩
      rw [hnp k, if_neg (fun h => by have := ((h3 k).mp h).2; lia), R.np k g1 (by lia), cnt_zero] at g3
      obtain ⟨j, hj, e⟩ := L.next k g1 (lev k - 1) (by lia)
      have := g3 j hj
      rw [decide_eq_false_iff_not] at this
      lia
  · rw [hnp k, if_pos ((h3 k).mpr ⟨g1, g2⟩)]
theorem RM.steps {Hd : Nat → List Nat} {lev : Nat → Nat} {t : Nat} (L : Lev Hd lev) : ∀ (l p : List Nat) (b : SA), RM Hd lev t p b → (p ++ l).Nodup → (∀ u ∈ l, u < 6 ∧ lev u = t) → RM Hd lev t (p ++ l) (doneF b l)
  | [], p, b, M, _, _ => by rw [List.append_nil]; exact M
  | u :: l, p, b, M, hn, hl => by
    have hu := hl u (.head _)
    have hp : u ∉ p := fun h => by
      rw [List.nodup_append] at hn
      exact hn.2.2 u h u (.head _) rfl
    have e : p ++ u :: l = (p ++ [u]) ++ l := by simp
    rw [e] at hn ⊢
    exact RM.steps L l (p ++ [u]) (done1 b u) (M.step L hu.1 hu.2 hp) hn fun v hv => hl v (.tail _ hv)
theorem doneF_fi : ∀ (l : List Nat) (a : SA), (doneF a l).fi = a.fi + (l.length : Int)
  | [], a => by simp [doneF]
  | u :: l, a => by
    show (doneF (done1 a u) l).fi = _
    rw [doneF_fi l, (done1_keep a u).2.2.2, List.length_cons]
    push_cast; lia
theorem RI.stat {Hd : Nat → List Nat} {lev : Nat → Nat} {t : Nat} {a : SA} {l : List Nat} (L : Lev Hd lev) (R : RI Hd lev t a) (hl : a.rd = some l) : ∀ i u, l[i]? = some u → (doneF (readyF a l) (l.take i)).np u = -1 := by
  intro i u hu
  have M := R.start L hl
  obtain ⟨l', h1, h2, h3⟩ := R.rd
  rw [hl] at h1; cases h1
  have hum := (h3 u).mp (List.mem_of_getElem? hu)
  have M2 := RM.steps L (l.take i) [] _ M (by rw [List.nil_append]; exact h2.sublist (List.take_sublist ..)) fun v hv => (h3 v).mp (List.mem_of_mem_take hv)
  rw [List.nil_append] at M2
  refine M2.out u hum.1 hum.2 fun hin => ?_
  obtain ⟨j, hj, hju⟩ := List.mem_iff_getElem.mp hin
  rw [List.getElem_take] at hju
  have hjl : j < i := by simp at hj; lia
  obtain ⟨hil, hiu⟩ := List.getElem?_eq_some_iff.mp hu
  exact List.pairwise_iff_getElem.mp h2 j i (by lia) hil hjl (hju.trans hiu.symm)
theorem RI.next {Hd : Nat → List Nat} {lev : Nat → Nat} {t : Nat} {a : SA} {l : List Nat} (L : Lev Hd lev) (R : RI Hd lev t a) (hl : a.rd = some l) : RI Hd lev (t + 1) (doneF (readyF a l) l) := by
  have M := R.start L hl
  obtain ⟨l', h1, h2, h3⟩ := R.rd
  rw [hl] at h1; cases h1
  have M2 := RM.steps L l [] _ M (by rw [List.nil_append]; exact h2) fun v hv => (h3 v).mp hv
  rw [List.nil_append] at M2
  obtain ⟨r, hr, hrn, hrm⟩ := M2.rd
  have np' : ∀ k, k < 6 → t + 1 ≤ lev k → (doneF (readyF a l) l).np k = cnt (Hd k) fun j => decide (t + 1 ≤ lev j) := fun k g1 g2 => by
    rw [M2.np k g1 (by lia)]
    refine cnt_congr fun j hj => ?_
    have hj6 : j < 6 := Nat.lt_trans (L.lt k g1 j hj) g1
    have : j ∈ l ↔ lev j = t := (h3 j).trans ⟨fun h => h.2, fun h => ⟨hj6, h⟩⟩
    simp only [this]
    by_cases h5 : t + 1 ≤ lev j
    · rw [decide_eq_true h5, decide_eq_true (by lia : t ≤ lev j), decide_eq_true (by lia : ¬ lev j = t)]; rfl
    · rw [decide_eq_false h5]
      by_cases h6 : lev j = t
      · simp [h6]
      · rw [decide_eq_false (by lia : ¬ t ≤ lev j)]; rfl
  refine ⟨M2.n, M2.su, np', ⟨r, hr, hrn, fun k => ?_⟩, ?_⟩
  · rw [hrm k]
    constructor
    · rintro ⟨g1, g2, g3⟩
      refine ⟨g1, ?_⟩
      rw [np' k g1 g2, cnt_zero] at g3
      refine Nat.le_antisymm (Nat.le_of_not_lt fun h => ?_) g2
      obtain ⟨j, hj, e⟩ := L.next k g1 (lev k - 1) (by lia)
      have := g3 j hj
      rw [decide_eq_false_iff_not] at this
      lia
    · rintro ⟨g1, g2⟩
      refine ⟨g1, by lia, ?_⟩
      rw [np' k g1 (by lia), cnt_zero]
      intro j hj
      have := L.lower k g1 j hj
      exact decide_eq_false (by lia)
  · have e1 : (doneF (readyF a l) l).po = a.po + (l.length : Int) := (doneF_keep l _).2.2
    have e2 : (doneF (readyF a l) l).fi = a.fi + (l.length : Int) := by
      rw [doneF_fi]
      show (outF a l).fi + _ = _
      rw [(outF_keep l a).2.2.2.2]
    rw [e1, e2, R.po]
end Mine
end
section
set_option maxRecDepth 100000
set_option autoImplicit false
namespace Mine
open PySem PySem.Calls PySem.Spec PyProof.Rows PySem.W

noncomputable def lvl (lev : Nat → Nat) (t : Nat) : List Nat := (List.range 6).filter fun k => lev k == t
theorem mem_lvl {lev : Nat → Nat} {t k : Nat} : k ∈ lvl lev t ↔ k < 6 ∧ lev k = t := by simp [lvl]
theorem perm_sorted_eq : ∀ {a b : List (List Nat)}, a.Perm b → a.Pairwise (fun x y => x.length ≤ y.length) → b.Pairwise (fun x y => x.length < y.length) → a = b
  | [], b, p, _, _ => (p.nil_eq)
  | x :: a, [], p, _, _ => absurd p.length_eq (by simp)
  | x :: a, y :: b, p, h1, h2 => by
    obtain ⟨h3, h4⟩ := List.pairwise_cons.mp h1
    obtain ⟨h5, h6⟩ := List.pairwise_cons.mp h2
    have hxy : x = y := by
      have hx : x ∈ y :: b := p.mem_iff.mp (List.mem_cons_self ..)
      have hy : y ∈ x :: a := p.mem_iff.mpr (List.mem_cons_self ..)
      rcases List.mem_cons.mp hx with e | hx
      · exact e
      · rcases List.mem_cons.mp hy with e | hy
        · exact e.symm
        · have := h3 y hy
          have := h5 x hx
          lia
    subst hxy
    rw [perm_sorted_eq p.cons_inv h4 h6]
theorem perm_of_mem {a b : List Nat} (ha : a.Nodup) (hb : b.Nodup) (h : ∀ x, x ∈ a ↔ x ∈ b) : a.Perm b := (List.perm_ext_iff_of_nodup ha hb).mpr h
theorem lvl_nodup {lev : Nat → Nat} {t : Nat} : (lvl lev t).Nodup := List.nodup_range.filter _
theorem sorted_is {hd : Nat → List Nat} {lev : Nat → Nat} {t : Nat} {l : List Nat} {out : List (List Nat)} (hlen : ∀ j k, j < k → k < 6 → (hd j).length < (hd k).length) (hn : l.Nodup) (hm : ∀ k, k ∈ l ↔ k < 6 ∧ lev k = t)
    (hp : out.Perm (l.map hd)) (hs : out.Pairwise fun a b => a.length ≤ b.length) : out = (lvl lev t).map hd := by
  refine perm_sorted_eq (hp.trans ((perm_of_mem hn lvl_nodup fun k => (hm k).trans mem_lvl.symm).map hd)) hs ?_
  rw [List.pairwise_map]
  have : (lvl lev t).Pairwise (· < ·) := (List.pairwise_lt_range (n := 6)).sublist List.filter_sublist
  exact this.imp_of_mem fun ha hb hab => hlen _ _ hab (mem_lvl.mp hb).1

/- the sorter when k nodes were added -/
structure AI (Hd : Nat → List Nat) (k : Nat) (a : SA) : Prop where
  n : a.n = k
  np : ∀ j, j < k → a.np j = ((Hd j).length : Int)
  su : ∀ j, a.su j = (List.range k).filter fun m => decide (j ∈ Hd m)
  rd : a.rd = none
  po : a.po = 0
  fi : a.fi = 0
theorem foldSu (k : Nat) : ∀ (H : List Nat) (b : SA), H.Nodup → (∀ j, (H.foldl (fun b j => { b with su := upd b.su j (b.su j ++ [k]) }) b).su j = if j ∈ H then b.su j ++ [k] else b.su j) ∧
    (H.foldl (fun b j => { b with su := upd b.su j (b.su j ++ [k]) }) b).np = b.np ∧ (H.foldl (fun b j => { b with su := upd b.su j (b.su j ++ [k]) }) b).rd = b.rd ∧
    (H.foldl (fun b j => { b with su := upd b.su j (b.su j ++ [k]) }) b).po = b.po ∧ (H.foldl (fun b j => { b with su := upd b.su j (b.su j ++ [k]) }) b).fi = b.fi
  | [], b, _ => ⟨fun j => by simp, rfl, rfl, rfl, rfl⟩
  | x :: H, b, hn => by
    obtain ⟨h1, h2⟩ := List.nodup_cons.mp hn
    obtain ⟨g1, g2⟩ := foldSu k H { b with su := upd b.su x (b.su x ++ [k]) } h2
    refine ⟨fun j => ?_, g2⟩
    rw [List.foldl_cons, g1 j]
    dsimp only
    by_cases hj : j = x
    · subst hj; rw [if_neg h1, if_pos (List.mem_cons_self ..), upd_self]
    · rw [upd_ne hj]
      by_cases hq : j ∈ H
      · rw [if_pos hq, if_pos (List.mem_cons_of_mem _ hq)]
      · rw [if_neg hq, if_neg (by rw [List.mem_cons]; rintro (h | h); exact hj h; exact hq h)]
theorem AI.next {Hd : Nat → List Nat} {lev : Nat → Nat} {k ep : Nat} {a : SA} (L : Lev Hd lev) (hk : k < 6) (I : AI Hd k a) : AI Hd (k + 1) (addF a (Hd k) ep) := by
  have hn := I.n
  obtain ⟨g1, g2, g3, g4, g5⟩ := foldSu a.n (Hd k) { a.more ep with np := upd (a.more ep).np a.n ((Hd k).length : Int) } (L.nodup k)
  refine ⟨?_, fun j hj => ?_, fun j => ?_, ?_, ?_, ?_⟩
  · unfold addF; rw [foldSu_n]; show a.n + 1 = _; rw [hn]
  · unfold addF; rw [g2]
    dsimp only
    by_cases hjk : j = k
    · subst hjk; rw [hn]; exact upd_self
    · rw [upd_ne (by lia)]
      show upd a.np a.n 0 j = _
      rw [upd_ne (by lia)]; exact I.np j (by lia)
  · unfold addF; rw [g1]
    dsimp only
    show (if j ∈ Hd k then upd a.su a.n [] j ++ [a.n] else upd a.su a.n [] j) = _
    rw [List.range_succ, List.filter_append]
    by_cases hjk : j = k
    · subst hjk
      have hno : j ∉ Hd j := fun h => Nat.lt_irrefl _ (L.lt j hk j h)
      rw [if_neg hno, hn, upd_self]
      have h1 : (List.range j).filter (fun m => decide (j ∈ Hd m)) = [] := by
        rw [List.filter_eq_nil_iff]
        intro m hm h
        have hm' := List.mem_range.mp hm
        have := L.lt m (by lia) j (by simpa using h)
        lia
      rw [h1]; simp [hno]
    · rw [upd_ne (by lia), I.su j]
      by_cases hin : j ∈ Hd k
      · rw [if_pos hin, hn]; simp [hin]
      · rw [if_neg hin]; simp [hin]
  · unfold addF; rw [g3]; exact I.rd
  · unfold addF; rw [g4]; exact I.po
  · unfold addF; rw [g5]; exact I.fi
theorem AI.zero {Hd : Nat → List Nat} {ep : Nat} : AI Hd 0 (a0 ep) := ⟨rfl, fun j hj => absurd hj (Nat.not_lt_zero _), fun j => rfl, rfl, rfl, rfl⟩
theorem AI.ready {Hd : Nat → List Nat} {lev : Nat → Nat} {a : SA} (L : Lev Hd lev) (I : AI Hd 6 a) : RI Hd lev 0 { a with rd := some ((List.range 6).filter fun k => a.np k == 0) } := by
  refine ⟨I.n, fun j => I.su j, fun k hk _ => ?_, ⟨_, rfl, List.nodup_range.filter _, fun k => ?_⟩, I.po.trans I.fi.symm⟩
  · dsimp only
    rw [I.np k hk]
    unfold cnt
    rw [List.filter_eq_self.mpr]
    intro j _; simp
  · rw [List.mem_filter, List.mem_range]
    refine and_congr_right fun hk => ?_
    rw [I.np k hk]
    constructor
    · intro h
      have h0 : Hd k = [] := List.length_eq_zero_iff.mp (by have : ((Hd k).length : Int) = 0 := by simpa using h
                                                            lia)
      cases e : lev k with
      | zero => rfl
      | succ m => obtain ⟨j, hj, _⟩ := L.next k hk m e; rw [h0] at hj; cases hj
    · intro h
      have h0 : Hd k = [] := by
        cases e : Hd k with
        | nil => rfl
        | cons j l => have := L.lower k hk j (by rw [e]; exact .head _); lia
      rw [h0]; rfl
theorem filter_len {l : List Nat} {p : Nat → Bool} {n : Nat} (h : l.length ≤ n) : (l.filter p).length ≤ n := Nat.le_trans (List.length_filter_le ..) h
end Mine
end
section
set_option maxRecDepth 100000
set_option autoImplicit false
namespace Mine
open PySem PySem.Calls PySem.Spec PyProof.Rows PySem.W

theorem St.le.put {σ σ' : St} (h : σ'.le σ) {i : Nat} {o : O} : (σ'.put i o).le (σ.put i o) := ⟨h.loc, fun j o' e => by
  have e' : (if j = i then some o else σ'.obj j) = some o' := e
  show (if j = i then some o else σ.obj j) = some o'
  by_cases hj : j = i
  · rw [if_pos hj] at e' ⊢; exact e'
  · rw [if_neg hj] at e' ⊢; exact h.obj j o' e', h.free⟩
section
variable {f : Bool} {hd : Nat → List Nat} {ob0 ob1 : Nat → Option O} {fr0 fr1 : Nat → Prop} {a : SA} {loc : List (Str × V)}
theorem SS_oput' {i : Nat} {o : O} (hi : i < 100 ∨ 200 ≤ i) : (SS f hd (pput ob1 i o) fr1 a loc).le ((SS f hd ob1 fr1 a loc).put i o) :=
  ⟨fun _ h => h, fun j o' e => by
    have e' : cn f hd a (pput ob1 i o) j = some o' := e
    rw [cn_pput hi] at e'
    exact e', fun j hj => hj⟩
end
section
variable {w : World}
theorem defRounds : DefOk w 181 fdRounds (dBody (stN 15)) ["heads", "held"] where
  obj := ⟨{ cls := .type "function", data := .func _ }, by kernel_rfl, rfl⟩
  body := rfl
  code := by kernel_rfl
  clo := rfl
  nodup := by decide
  kinds := fun n x hx => by
    simp only [List.mem_cons, List.not_mem_nil, or_false] at hx
    rcases hx with rfl | rfl
    · exact .inr ⟨by kernel_rfl, rfl⟩
    · exact .inl (by kernel_rfl)
  cellsNodup := fun n => by rw [show (cellsFrom n fdRounds.scope.names []).map (·.1) = [Str.ofString "heads"] by kernel_rfl]; decide
  co := by kernel_rfl
  gen := by kernel_rfl
  fn := by kernel_rfl
end

/- what lies beside the sorter before round t -/
structure RO (f : Bool) (hd : Nat → List Nat) (lev : Nat → Nat) (rI : Nat) (ob0 : Nat → Option O) (fr0 : Nat → Prop) (t : Nat) (ob2 : Nat → Option O) (fr2 : Nat → Prop) : Prop where
  o1 : ob2 rI = some (.list ((List.range t).map fun s => V.ref (rI + 1 + s)))
  o2 : ∀ s, s < t → ob2 (rI + 1 + s) = some (.list (txts f hd (lvl lev s)))
  aw : ∀ i, (i < 100 ∨ 1000 ≤ i) → ¬ (rI ≤ i ∧ i ≤ rI + t) → ob2 i = ob0 i
  fr : ∀ i, fr0 i → (i < 100 ∧ ¬ (rI ≤ i ∧ i ≤ rI + t)) ∨ (100 ≤ i ∧ i < 200) ∨ (400 + t ≤ i ∧ i < 500) ∨ 1000 ≤ i → fr2 i
/- what _law_rounds leaves -/
noncomputable def roundsSt (f : Bool) (hd : Nat → List Nat) (lev : Nat → Nat) (N rI : Nat) (σ : St) : St :=
  ⟨σ.loc, fun i => if i = rI then some (.list ((List.range N).map fun t => V.ref (rI + 1 + t))) else if rI < i ∧ i ≤ rI + N then some (.list (txts f hd (lvl lev (i - rI - 1)))) else σ.obj i, fun i => σ.free i ∧ ¬ (rI ≤ i ∧ i ≤ rI + 6)⟩

section
variable {g : Bool} {w : World} {B : Heap} {env : Env} {A : Around} {K : V → St → Prop} {σ σ' : St}
theorem CC.weaken {f : Value} {vs : List V} (h : CC g w B env A f vs σ' K) (hσ : σ'.le σ) : CC g w B env A f vs σ K :=
  fun fm ρ s xs R O r l q => h fm ρ s xs R O (r.weaken hσ) l q
theorem WC.weaken {f : Value} {vs : List V} (h : WC g w B env A f vs σ' K) (hσ : σ'.le σ) : WC g w B env A f vs σ K :=
  fun fm ρ s xs Q E O r l q => h fm ρ s xs Q E O (r.weaken hσ) l q
end
section
variable {g : Bool} {w : World} {B : Heap} {env : Env} {A : Around} {K : V → St → Prop} {f : Bool} {hd : Nat → List Nat} {σ : St} {lev : Nat → Nat} {Hd : Nat → List Nat}

set_option maxHeartbeats 2000000 in
theorem wc_rounds {n N rI hI eI : Nat} (HB : BaseOk w B) (hA : AOk (n + 5) A) (hf : env.frame = some env.locals) (hkind : env.scope.kind = .function) (H : HdOk hd) (L : Lev Hd lev)
    (hlen : ∀ j k, j < k → k < 6 → (hd j).length < (hd k).length) (hz : ∀ k, (hd k).length ≤ 900) (hN : ∀ t, t < N ↔ ∃ k, k < 6 ∧ lev k = t) (hN6 : N ≤ 6)
    (hH : σ.obj hI = some (.list ((List.range 6).map fun k => T f (hd k)))) (hE : σ.obj eI = some (.list ((List.range 6).map fun k => V.ref (eI + 1 + k)))) (hE2 : ∀ k, k < 6 → σ.obj (eI + 1 + k) = some (.list (vints (Hd k))))
    (b1 : hI < 100) (b2 : eI + 7 < 100) (b3 : rI + 7 < 100) (hr : ∀ i, rI ≤ i → i ≤ rI + 6 → σ.free i ∧ σ.obj i = none) (hfr : ∀ i, 100 ≤ i → i < 1200 → σ.free i ∧ σ.obj i = none)
    (h : K (.ref rI) (roundsSt f hd lev N rI σ)) : WC false w B env A (.ref 181) [.ref hI, .ref eI] σ K := by
  obtain ⟨loc, ob0, fr0⟩ := σ
  dsimp only at hH hE hE2 hr hfr
  refine CC.wc ?_
  refine CC.cut (Rg 100 1200) (fun i hi => (hfr i hi.1 hi.2).1) (cc_def HB defRounds (bind_plain rfl fun xs hl => ?_) rfl hA hf hkind fun Lc A' hA' => ?_)
  · obtain ⟨x, y, rfl⟩ := len2 hl
    kernel_rfl
  refine ws_assign (we_call HB (we_glob (v := .ref 144) HB ⟨_, rfl, kp_fn, wa_nil (wc_sorter (n := n + 2) (f := f) (hd := hd) HB hA' rfl rfl (fun i h1 h2 => hfr i h1 (by lia)) ?_)⟩))
  -- the nodes are added
  have hSS : ∀ {o : O} {i : Nat} {ob : Nat → Option O} {a : SA}, 200 ≤ i → cn f hd a (pput ob i o) i = some o := fun h => (cn_away (.inr h)).trans pput_self
  refine ws_for (we_call HB (we_blt (v := .type "range") HB ⟨_, rfl, kp_type _, wa_cons (we_int (wa_nil (WC.less (wc_range1 (i := 210) (frc_high (hfr 210 (by decide) (by decide)).1 (by decide)) ⟨_, SS_new (.inr (by decide)), ?_⟩))))⟩))
  generalize hob1 : pput ob0 210 (.range 0 6 1) = ob1
  have q1 : ∀ i, i ≠ 210 → ob1 i = ob0 i := fun i hi => by rw [← hob1]; exact pput_ne hi
  have hE' : ∀ a : SA, cn f hd a ob1 eI = some (.list ((List.range 6).map fun k => V.ref (eI + 1 + k))) := fun a => (cn_away (.inl (by lia))).trans ((q1 _ (by lia)).trans hE)
  have hE2' : ∀ a : SA, ∀ k, k < 6 → cn f hd a ob1 (eI + 1 + k) = some (.list (vints (Hd k))) := fun a k hk => (cn_away (.inl (by lia))).trans ((q1 _ (by lia)).trans (hE2 k hk))
  have hH' : ∀ a : SA, cn f hd a ob1 hI = some (.list ((List.range 6).map fun k => T f (hd k))) := fun a => (cn_away (.inl (by lia))).trans ((q1 _ (by lia)).trans hH)
  refine ⟨_, _, _, iters_range (a := 0) (b := 6) (c := 1) hA' (by decide), fun k σ' => ∃ fr1 a, AI Hd k a ∧ (∀ i, fr0 i → i ≠ 210 → ¬ (300 ≤ i ∧ i < 300 + k) → fr1 i) ∧ σ' = SS f hd ob1 fr1 a [("heads", .ref hI), ("held", .ref eI), ("sorter", .ref 100)], ?_, ?_, ?_, ?_⟩
  · exact ⟨pfree fr0 210, a0 0, AI.zero, fun i h hi _ => ⟨h, hi⟩, rfl⟩
  · rintro k σ' jj
    refine ex2 jj fun fr1 a jk => ?_
    clear jj
    refine and3 jk fun I hfr1 ee2 => ?_
    clear jk
    subst ee2
    show cn f hd a ob1 210 = _
    rw [← hob1]; exact hSS (by decide)
  · rintro k u σ' hk rfl jj
    refine ex2 jj fun fr1 a jk => ?_
    clear jj
    refine and3 jk fun I hfr1 ee2 => ?_
    clear jk
    subst ee2
    have hk6 : k < 6 := hk
    have ek : (0 + (k : Int) * 1) = k := by lia
    rw [ek]
    refine WT.less (WT.gen fun K0 hK0 => ?_)
    refine ws_expr (we_imstar (f := 94) HB (we_local rfl ⟨100, 101, satt a, rfl, cn_100 (f := f) (hd := hd) (ob0 := ob1) (a := a), cn_101 (f := f) (hd := hd) (ob0 := ob1) (a := a), rfl, fun q => ?_⟩))
    refine wg_plain (wa_cons (we_sub (we_cell rfl (we_local rfl (sub_list (hH' a) (by lia) (by lia) (v := T f (hd k)) ?_ ?_)))))
    · rw [Int.toNat_natCast, List.getElem?_map, List.getElem?_range hk6]; rfl
    refine wa_star (we_comp (cl := [("heads", Lc + 1)]) (we_sub (we_local rfl (we_local rfl (sub_list (hE' a) (by lia) (by lia) (v := .ref (eI + 1 + k)) ?_ ?_)))) ?_ ?_ ?_ ?_)
    · rw [Int.toNat_natCast, List.getElem?_map, List.getElem?_range hk6]; rfl
    rotate_left
    · rfl
    · exact fun p hp => hp
    · exact fun n => (show ([Str.ofString "heads"]).Nodup by decide)
    · decide
    refine ⟨300 + k, [("heads", .ref hI)], _, _, _, ⟨hfr1 _ (hfr _ (by lia) (by lia)).1 (by lia) (by lia), .inl (.inr (by lia))⟩, fun p hp => ?_, itersH_name (iters_list (i := eI + 1 + k) (xs := vints (Hd k)) hA') (fun C => .inl (by kernel_rfl)) (fun C => by kernel_rfl), hE2' a k hk6,
      fun m σ' => ∃ lc, lc.lookup (Str.ofString "heads") = some (.ref hI) ∧ σ' = { loc := lc, obj := fun i => if i = 300 + k then some (.list (txts f hd ((Hd k).take m))) else cn f hd a ob1 i, free := fun i => frc a fr1 i ∧ i ≠ 300 + k }, ⟨_, rfl, rfl⟩, ?_, ?_, ?_⟩
    · cases List.mem_singleton.mp hp
      exact ⟨List.mem_cons_self .., (show some NameKind.cell ≠ some NameKind.local by decide), fun C => ⟨(show some NameKind.cell ≠ some NameKind.local by decide), Lc + 1, rfl, rfl⟩⟩
    · rintro m σ' ⟨lc, _, rfl⟩
      show (if eI + 1 + k = 300 + k then _ else cn f hd a ob1 (eI + 1 + k)) = _
      rw [if_neg (by lia)]; exact hE2' a k hk6
    · rintro C m σ' σ'' hm ⟨lc, hlc, rfl⟩ ⟨u, hu, rfl⟩
      obtain ⟨j, hj, rfl⟩ : ∃ j, (Hd k)[m]? = some j ∧ u = V.int ((j : Nat) : Int) := by
        unfold vints at hu
        rw [List.getElem?_map] at hu
        cases e : (Hd k)[m]? with
        | none => rw [e] at hu; cases hu
        | some j => rw [e] at hu; cases hu; exact ⟨j, rfl, rfl⟩
      have hjk := L.lt k hk6 j (List.mem_of_getElem? hj)
      have hHc : (if hI = 300 + k then some (O.list (txts f hd ((Hd k).take m))) else cn f hd a ob1 hI) = some (.list ((List.range 6).map fun k => T f (hd k))) := by
        rw [if_neg (by lia)]; exact hH' a
      refine wi_nil ?_
      rw [if_pos rfl]
      refine we_sub (we_cell (lookup_lset.trans ((if_neg (by decide)).trans hlc)) (we_local lset_get (sub_list hHc (by lia) (by lia) (v := T f (hd j)) ?_ ?_) (by kernel_rfl) (by kernel_rfl)) (by kernel_rfl) (by kernel_rfl))
      · rw [Int.toNat_natCast, List.getElem?_map, List.getElem?_range (by lia)]; rfl
      have hHl : (Hd k).length ≤ 6 := by
        have := List.Nodup.length_le_of_subset (L.nodup k) (l₂ := List.range 6) fun j hj => List.mem_range.mpr (Nat.lt_trans (L.lt k hk6 j hj) hk6)
        simpa using this
      refine ⟨txts f hd ((Hd k).take m), if_pos rfl, by simp [txts]; lia, lset "j" (.int (j : Int)) lc, lookup_lset.trans ((if_neg (by decide)).trans hlc), ?_⟩
      have e : txts f hd ((Hd k).take (m + 1)) = txts f hd ((Hd k).take m) ++ [T f (hd j)] := by
        unfold txts
        rw [List.take_add_one, hj, List.map_append]; rfl
      rw [e]
      exact St.put_if
    · rintro σ' ⟨lc, _, rfl⟩
      have hvl : (vints (Hd k)).length = (Hd k).length := by simp [vints]
      rw [hvl, List.take_length]
      have hHl : (Hd k).length ≤ 6 := by
        have := List.Nodup.length_le_of_subset (L.nodup k) (l₂ := List.range 6) fun j hj => List.mem_range.mpr (Nat.lt_trans (L.lt k hk6 j hj) hk6)
        simpa using this
      refine ⟨300 + k, txts f hd (Hd k), rfl, .inl (if_pos rfl), by simp [txts]; lia, wa_nil ?_⟩
      rw [List.append_nil]
      have hle : (SS f hd ob1 (pfree fr1 (300 + k)) a [("heads", .ref hI), ("held", .ref eI), ("sorter", .ref 100), ("k", .int (k : Int))]).le
          ⟨[("heads", .ref hI), ("held", .ref eI), ("sorter", .ref 100), ("k", .int (k : Int))], fun i => if i = 300 + k then some (.list (txts f hd (Hd k))) else cn f hd a ob1 i, fun i => frc a fr1 i ∧ i ≠ 300 + k⟩ := by
        refine ⟨fun _ h => h, fun i o e => ?_, fun i hi => frc_pfree hi⟩
        have e' : cn f hd a ob1 i = some o := e
        show (if i = 300 + k then _ else cn f hd a ob1 i) = some o
        rw [if_neg, e']
        rintro rfl
        rw [cn_away (.inr (by lia)), q1 _ (by lia), (hfr _ (by lia) (by lia)).2] at e'
        cases e'
      refine CC.weaken ?_ hle
      have hadd := cc_add (env := callEnvC fdRounds Lc 181) (A := A') (a := a) (n := n) (Hh := Hd k) (f := f) (hd := hd) (ob0 := ob1) (fr0 := pfree fr1 (300 + k)) (loc := [("heads", .ref hI), ("held", .ref eI), ("sorter", .ref 100), ("k", .int (k : Int))]) (K := fun _ σ₄ => WS false w B (callEnvC fdRounds Lc 181) A' [] σ₄
        fun fl σ'' => ∃ σ₃, σ₃.le σ'' ∧ match fl with
          | .next | .cont => ∃ fr1 a, AI Hd (k + 1) a ∧ (∀ i, fr0 i → i ≠ 210 → ¬ (300 ≤ i ∧ i < 300 + (k + 1)) → fr1 i) ∧ σ₃ = SS f hd ob1 fr1 a [("heads", .ref hI), ("held", .ref eI), ("sorter", .ref 100)]
          | _ => False) HB hA' rfl rfl H
        ⟨fun i h1 h2 => ⟨hfr1 i (hfr i h1 (by lia)).1 (by lia) (by lia), by lia⟩, fun i h1 h2 => ⟨⟨hfr1 i (hfr i (by lia) (by lia)).1 (by lia) (by lia), by lia⟩, by rw [q1 i (by lia)]; exact (hfr i (by lia) (by lia)).2⟩⟩
        (by rw [I.n]; exact hk6) I.rd (fun j hj => by rw [I.n]; exact L.lt k hk6 j hj) hHl (fun j hj => by rw [I.su]; exact filter_len (by simp; lia)) (fun ep => ?_)
      · rw [I.n] at hadd
        refine CC.mono hadd fun _ σ₄ h4 => h4.mono fun fl σ₅ h5 => ?_
        obtain ⟨σ₃, h6, h7⟩ := h5
        refine hK0 _ _ ⟨σ₃, h6, ?_⟩
        cases fl with
        | next => exact h7
        | cont => exact h7
        | brk => exact h7.elim
        | ret v => exact h7.elim
      · refine ws_nil ⟨_, SS_loc (loc := [("heads", .ref hI), ("held", .ref eI), ("sorter", .ref 100)]) (l := [("k", .int (k : Int))]), pfree fr1 (300 + k), addF a (Hd k) ep, I.next L hk6, fun i h1 h2 h3 => ⟨hfr1 i h1 h2 (by lia), by lia⟩, rfl⟩
  · rintro σ' jj
    refine ex2 jj fun fr1 a jk => ?_
    clear jj
    refine and3 jk fun I hfr1 ee2 => ?_
    clear jk
    subst ee2
    have I6 : AI Hd 6 a := I
    have hfr6 : ∀ i, fr0 i → i ≠ 210 → ¬ (300 ≤ i ∧ i < 300 + 6) → fr1 i := hfr1
    clear I hfr1 hSS hE' hE2' hH'
    have hsuL : ∀ u, (suOf Hd u).length ≤ 6 := fun u => filter_len (by simp)
    have hsuO : ∀ u, a.su u = suOf Hd u := fun u => I6.su u
    have hsu2 : ∀ u, u < 6 → (a.su u).length ≤ 6 ∧ ∀ s ∈ a.su u, u < s ∧ s < 6 := fun u hu => by
      rw [hsuO]
      exact ⟨hsuL u, fun s hs => by obtain ⟨h1, h2⟩ := mem_suOf.mp hs; exact ⟨L.lt s h1 u h2, h1⟩⟩
    refine ws_expr (we_imeth (f := 99) HB (we_local rfl ⟨100, 101, satt a, rfl, cn_100 (f := f) (hd := hd) (ob0 := ob1) (a := a), cn_101 (f := f) (hd := hd) (ob0 := ob1) (a := a), rfl, wa_nil ?_⟩))
    refine wc_prepare (n := n + 2) HB hA' rfl rfl H ⟨fun i h1 h2 => hfr6 i (hfr i h1 (by lia)).1 (by lia) (by lia), fun i h1 h2 => ⟨hfr6 i (hfr i (by lia) (by lia)).1 (by lia) (by lia), by rw [q1 i (by lia)]; exact (hfr i (by lia) (by lia)).2⟩⟩
      (fun i h1 h2 => ⟨hfr6 i (hfr i (by lia) (by lia)).1 (by lia) (by lia), by rw [q1 i (by lia)]; exact (hfr i (by lia) (by lia)).2⟩) I6.n I6.rd hsu2 ?_
    have R0 := I6.ready L
    generalize ({ a with rd := some ((List.range 6).filter fun k => a.np k == 0) } : SA) = a1 at R0
    clear hsu2 hsuO I6
    refine ws_assign (we_list (wa_nil ⟨rI, ⟨hfr6 rI (hr rI (by lia) (by lia)).1 (by lia) (by lia), .inl (.inl (by lia))⟩, by decide, ?_⟩))
    have hle0 := SS_new (f := f) (hd := hd) (ob0 := ob1) (fr0 := fr1) (a := a1) (loc := [("heads", .ref hI), ("held", .ref eI), ("sorter", .ref 100), ("rounds", .ref rI)]) (i := rI) (o := .list []) (.inl (by lia))
    refine WT.weaken (σ' := SS f hd (pput ob1 rI (.list [])) (pfree fr1 rI) a1 [("heads", .ref hI), ("held", .ref eI), ("sorter", .ref 100), ("rounds", .ref rI)]) ?_ ⟨hle0.loc, hle0.obj, hle0.free⟩
    refine ws_while (fun m σ' => ∃ t a ob2 fr2, t + m = N ∧ RI Hd lev t a ∧ RO f hd lev rI ob0 fr0 t ob2 fr2 ∧ σ' = SS f hd ob2 fr2 a [("heads", .ref hI), ("held", .ref eI), ("sorter", .ref 100), ("rounds", .ref rI)]) N ⟨0, a1, _, _, by lia, R0, ⟨pput_self, fun s hs => absurd hs (Nat.not_lt_zero _), fun i h1 h2 => ?_, fun i h1 h2 => ⟨hfr6 i h1 (by lia) (by lia), by lia⟩⟩, rfl⟩ ?_
    · rw [pput_ne (by lia), q1 i (by lia)]
    clear hle0 R0 hob1 q1 hfr6
    rintro m σ' jj
    refine ex4 jj fun t a ob2 fr2 jk => ?_
    clear jj
    refine and4 jk fun htm R P ee3 => ?_
    clear jk
    subst ee3
    refine ex1 R.rd fun l jk => ?_
    refine and3 jk fun hl hln hlm => ?_
    clear jk
    have hll : l.length ≤ 6 := by
      have := List.Nodup.length_le_of_subset hln (l₂ := List.range 6) fun j hj => List.mem_range.mpr ((hlm j).mp hj).1
      simpa using this
    refine wb_value (we_imeth (f := 113) HB (we_local rfl ⟨100, 101, satt a, rfl, cn_100 (f := f) (hd := hd) (ob0 := ob2) (a := a), cn_101 (f := f) (hd := hd) (ob0 := ob2) (a := a), rfl, wa_nil (wc_active HB hA' rfl rfl hl (by lia) (truthy_b ?_))⟩))
    rw [R.po, decide_eq_false (by lia), Bool.false_or]
    by_cases hl0 : l = []
    · have hm0 : t = N := by
        refine Nat.le_antisymm (by lia) (Nat.le_of_not_lt fun hlt => ?_)
        obtain ⟨k, h1, h2⟩ := (hN t).mp hlt
        have := (hlm k).mpr ⟨h1, h2⟩
        rw [hl0] at this; cases this
      rw [hl0, if_neg (by decide)]
      refine ws_nil (ws_return (we_local rfl ⟨roundsSt f hd lev N rI ⟨loc, ob0, fr0⟩, ⟨fun i o e => ?_, fun p hp => ⟨hp, .inl hp⟩, fun i hi => ?_⟩, ?_, h⟩))
      · have e' : (if i = rI then some (O.list ((List.range N).map fun t => V.ref (rI + 1 + t))) else if rI < i ∧ i ≤ rI + N then some (.list (txts f hd (lvl lev (i - rI - 1)))) else ob0 i) = some o := e
        show cn f hd a ob2 i = some o ∧ _
        by_cases h1 : i = rI
        · rw [if_pos h1] at e'; cases e'
          subst h1
          refine ⟨?_, .inr ⟨fun hh => by have := hh.1; lia, fun v hv => ?_⟩⟩
          · rw [cn_away (.inl (by lia)), P.o1, hm0]
          · obtain ⟨s, hs, rfl⟩ := List.mem_map.mp hv
            have := List.mem_range.mp hs
            exact fun hh => by have := hh.1; lia
        rw [if_neg h1] at e'
        by_cases h2 : rI < i ∧ i ≤ rI + N
        · rw [if_pos h2] at e'; cases e'
          refine ⟨?_, .inr ⟨fun hh => by have := hh.1; lia, txts_out⟩⟩
          have := P.o2 (i - rI - 1) (by lia)
          have e3 : rI + 1 + (i - rI - 1) = i := by lia
          rw [e3] at this
          rw [cn_away (.inl (by lia)), this]
        rw [if_neg h2] at e'
        refine ⟨?_, .inl e'⟩
        have h3 : i < 100 ∨ 1200 ≤ i := by
          by_cases h4 : i < 100 ∨ 1200 ≤ i
          · exact h4
          · rw [(hfr i (by lia) (by lia)).2] at e'; cases e'
        rw [cn_away (by lia), P.aw i (by lia) (by lia), e']
      · have hi' : fr0 i ∧ ¬ (rI ≤ i ∧ i ≤ rI + 6) := hi
        by_cases h4 : i < 100 ∨ 1200 ≤ i
        · exact .inl ⟨P.fr i hi'.1 (by lia), .inl (by lia)⟩
        · exact .inr ⟨by lia, by lia⟩
      · exact fun hh => by have := hh.1; lia
    · obtain ⟨x, hx⟩ : ∃ x, x ∈ l := by cases l with
        | nil => exact absurd rfl hl0
        | cons x l => exact ⟨x, .head _⟩
      have htN : t < N := (hN t).mpr ⟨x, (hlm x).mp hx⟩
      rw [show (!l.isEmpty) = true by cases l with
        | nil => exact absurd rfl hl0
        | cons x l => rfl, if_pos rfl]
      refine WT.gen fun K1 hK1 => ?_
      have hn6 : a.n ≤ 6 := by rw [R.n]; lia
      have hlk : ∀ k ∈ l, k < a.n := fun k hk => by rw [R.n]; exact ((hlm k).mp hk).1
      have h4 : fr2 (400 + t) := P.fr _ (hfr _ (by lia) (by lia)).1 (by lia)
      refine ws_assign (we_imeth (f := 106) HB (we_local rfl ⟨100, 101, satt a, rfl, cn_100 (f := f) (hd := hd) (ob0 := ob2) (a := a), cn_101 (f := f) (hd := hd) (ob0 := ob2) (a := a), rfl, wa_nil (wc_ready (i := 400 + t) HB hA' rfl rfl H hn6 hl hlk (by lia) h4 (by lia) ?_)⟩))
      have hst := R.stat L hl
      have hnx := R.next L hl
      have hk := outF_keep l a
      have hbn : (readyF a l).n = 6 := hk.1.trans R.n
      have hbs : ∀ u, (readyF a l).su u = suOf Hd u := fun u => by show (outF a l).su u = _; rw [hk.2.1]; exact R.su u
      have hbr : rdLen (readyF a l) 0 := ⟨[], rfl, Nat.le_refl _⟩
      generalize readyF a l = b at hst hnx hbn hbs hbr
      have p1 : ∀ i, i ≠ 400 + t → pput ob2 (400 + t) (.tuple (txts f hd l)) i = ob2 i := fun i hi => pput_ne hi
      have p2 : pput ob2 (400 + t) (.tuple (txts f hd l)) (400 + t) = some (.tuple (txts f hd l)) := pput_self
      generalize pput ob2 (400 + t) (.tuple (txts f hd l)) = obA at p1 p2
      have c1 : cn f hd b obA rI = some (.list ((List.range t).map fun s => V.ref (rI + 1 + s))) := (cn_away (.inl (by lia))).trans ((p1 _ (by lia)).trans P.o1)
      have c2 : cn f hd b obA (400 + t) = some (.tuple ((l.map hd).map (T f))) := by
        rw [cn_away (.inr (by lia)), p2]
        unfold txts; rw [List.map_map]; rfl
      refine ws_expr (we_meth HB PySem.F.plainAttrs_list PySem.F.slot_list_append PySem.F.type_list_append (we_local rfl ⟨ty_list c1, wa_cons (we_sorted (f := f) HB (we_local rfl ⟨400 + t, rI + 1 + t, l.map hd, rfl, c2, by simp; lia, fun k hk => ?_, ?_, fun out hp hs => wa_nil ?_⟩))⟩))
      · obtain ⟨j, _, rfl⟩ := List.mem_map.mp hk
        exact hz j
      · exact ⟨⟨P.fr _ (hr _ (by lia) (by lia)).1 (by lia), by lia⟩, .inl (.inl (by lia))⟩
      have hout := sorted_is hlen hln hlm hp hs
      subst hout
      refine wc_append (xs := (List.range t).map fun s => V.ref (rI + 1 + s)) ?_ (by simp; lia) ?_
      · show (if rI = rI + 1 + t then _ else cn f hd b obA rI) = _
        rw [if_neg (by lia)]; exact c1
      have e1 : ((lvl lev t).map hd).map (T f) = txts f hd (lvl lev t) := by unfold txts; rw [List.map_map]; rfl
      rw [e1]
      have hle1 := (SS_oput' (f := f) (hd := hd) (ob1 := pput obA (rI + 1 + t) (.list (txts f hd (lvl lev t)))) (fr1 := pfree (pfree fr2 (400 + t)) (rI + 1 + t)) (a := b) (loc := [("heads", .ref hI), ("held", .ref eI), ("sorter", .ref 100), ("rounds", .ref rI), ("ready", .ref (400 + t))]) (i := rI)
        (o := .list (((List.range t).map fun s => V.ref (rI + 1 + s)) ++ [V.ref (rI + 1 + t)])) (.inl (by lia))).trans
        (St.le.put (SS_new (f := f) (hd := hd) (ob0 := obA) (fr0 := pfree fr2 (400 + t)) (a := b) (loc := [("heads", .ref hI), ("held", .ref eI), ("sorter", .ref 100), ("rounds", .ref rI), ("ready", .ref (400 + t))]) (i := rI + 1 + t) (o := .list (txts f hd (lvl lev t))) (.inl (by lia))))
      refine WT.weaken ?_ hle1
      generalize hB : pput (pput obA (rI + 1 + t) (.list (txts f hd (lvl lev t)))) rI (.list (((List.range t).map fun s => V.ref (rI + 1 + s)) ++ [V.ref (rI + 1 + t)])) = obB
      have s1 : obB rI = some (.list ((List.range (t + 1)).map fun s => V.ref (rI + 1 + s))) := by rw [← hB, pput_self, List.range_succ, List.map_append]; rfl
      have s2 : obB (rI + 1 + t) = some (.list (txts f hd (lvl lev t))) := by rw [← hB]; exact (pput_ne (by lia)).trans pput_self
      have s3 : ∀ i, i ≠ rI → i ≠ rI + 1 + t → obB i = obA i := fun i h1 h2 => by rw [← hB, pput_ne h1, pput_ne h2]
      have c4 : cn f hd b obB (400 + t) = some (.tuple (txts f hd l)) := (cn_away (.inr (by lia))).trans ((s3 _ (by lia) (by lia)).trans p2)
      refine ws_expr (we_imstar (f := 127) HB (we_local rfl ⟨100, 101, satt b, rfl, cn_100 (f := f) (hd := hd) (ob0 := obB) (a := b), cn_101 (f := f) (hd := hd) (ob0 := obB) (a := b), rfl, fun q => wg_lone (we_local rfl ⟨400 + t, txts f hd l, rfl, .inr c4, by simp [txts]; lia, ?_⟩)⟩))
      have frB : ∀ i, fr0 i → (i < 100 ∧ ¬ (rI ≤ i ∧ i ≤ rI + (t + 1))) ∨ (100 ≤ i ∧ i < 200) ∨ (400 + (t + 1) ≤ i ∧ i < 500) ∨ 1000 ≤ i → pfree (pfree fr2 (400 + t)) (rI + 1 + t) i := fun i h1 h2 => ⟨⟨P.fr i h1 (by lia), by lia⟩, by lia⟩
      have awB : ∀ i, (i < 100 ∨ 1000 ≤ i) → ¬ (rI ≤ i ∧ i ≤ rI + (t + 1)) → obB i = ob0 i := fun i h1 h2 => by
        rw [s3 i (by lia) (by lia), p1 i (by lia)]; exact P.aw i h1 (by lia)
      refine cc_done (n := n + 3) (m := 0) (a := b) HB hA' rfl rfl H ⟨fun i h1 h2 => frB i (hfr i h1 (by lia)).1 (by lia), fun i h1 h2 => ⟨frB i (hfr i (by lia) (by lia)).1 (by lia), (awB i (by lia) (by lia)).trans (hfr i (by lia) (by lia)).2⟩⟩
        (by lia) hbr (fun k hk => by rw [hbn]; exact ((hlm k).mp hk).1) hll (fun u => ⟨by rw [hbs]; exact hsuL u, fun s hs => by rw [hbs] at hs; rw [hbn]; exact (mem_suOf.mp hs).1⟩) hst ?_
      refine WT.weaken (ws_nil (hK1 _ _ ⟨m - 1, by lia, t + 1, doneF b l, obB, _, by lia, hnx, ⟨s1, fun s hs => ?_, awB, frB⟩, rfl⟩)) (SS_loc (loc := [("heads", .ref hI), ("held", .ref eI), ("sorter", .ref 100), ("rounds", .ref rI)]) (l := [("ready", .ref (400 + t))]))
      by_cases hst' : s = t
      · rw [hst']; exact s2
      · rw [s3 _ (by lia) (by lia), p1 _ (by lia)]; exact P.o2 s (by lia)
end
end Mine
end
section
set_option maxRecDepth 100000
set_option autoImplicit false
namespace Mine
open PySem PySem.Calls PySem.Spec PyProof.Rows PySem.W

noncomputable def NR (ρ : Rho) : Option V → Option Value → Prop
  | none, none => True
  | some v, some x => VR ρ v x
  | _, _ => False

section
variable {w : World} {B : Heap} {env ce : Env} {A : Around} {σ : St} {fm : Fm} {ρ : Rho} {s : Shared} {pos px p0 p1 : Pos}
noncomputable abbrev WN (w : World) (B : Heap) (env : Env) (A : Around) (it : V) (σ : St) (K : Option V → St → Prop) : Prop := W1 false w B env A pyNext NR it σ K
noncomputable abbrev WP (w : World) (B : Heap) (env : Env) (A : Around) (v : V) (σ : St) (K : V → St → Prop) : Prop := W1 false w B env A pyIter VR v σ K
noncomputable abbrev WL (w : World) (B : Heap) (env : Env) (A : Around) (t : Expr) (it v : V) (σ : St) (K : St → Prop) : Prop := W2 false w B env A (letOwnedTupleGo t) UR it v σ fun _ σ' => K σ'
theorem wl_name {x : Str} {it v : V} {K : St → Prop} (h : K σ) : WL w B env A (.Name x px) it v σ K := fun fm ρ s a b Q E O r ha hb q => wpG_pure (q () σ ρ () s ρ.le_refl r trivial h)
/- a comprehension's clause is run -/
noncomputable def WCL (w : World) (B : Heap) (ce : Env) (A : Around) (e : Expr) (d : Nat) (itV accV : V) (σ : St) (K : St → Prop) : Prop :=
  ∀ fm ρ s it acc (R : Result → Shared → Prop), FmOk B ce A fm → Rel w ce fm ρ σ s → VR ρ itV it → VR ρ accV acc → (∀ σ' ρ' s', ρ.le ρ' → Rel w ce fm ρ' σ' s' → K σ' → R (.ok .next) s') →
    codeAny (model PR w) A (.compLoop e d it acc ce) R s

theorem wcl_one {elt t i : Expr} {sc : Scope} {itV accV : V} {K : St → Prop} (J : Nat → St → Prop) (n : Nat) (h0 : J n σ)
    (turn : ∀ n σ', J n σ' → WN w B ce A itV σ' fun r σ₁ => match r with
      | none => K σ₁
      | some v => WL w B ce A t itV v σ₁ fun σ₂ => WTA false w B ce A t v σ₂ fun σ₃ => WE false w B ce A elt σ₃ fun y σ₄ => WC false w B ce A (.builtin "list.append") [accV, y] σ₄ fun _ σ₅ => ∃ m, m < n ∧ J m σ₅) :
    WCL w B ce A (.ListComp elt [⟨t, i, [], 0⟩] sc pos) 0 itV accV σ K := fun fm ρ s it acc R O r hit hacc q => by
  refine codeAny_loop rfl (fun d s' => ∃ σ' ρ', J d σ' ∧ ρ.le ρ' ∧ Rel w ce fm ρ' σ' s') ?_ n ⟨σ, ρ, h0, ρ.le_refl, r⟩
  rintro d s' ⟨σ', ρ', j, l, r'⟩
  show wpAny _ _ ((compTurn (.ListComp elt [⟨t, i, [], 0⟩] sc pos) 0 it acc ce).onRaise (fun x => do noteFrame x ce; theTreesLotGoes x)) _ _ s'
  refine wpAny_noted ?_
  rw [compTurn_list1]
  refine wpAny_bind (wpAny_standAt (wpAny_bind (wpG_any (turn d σ' j fm ρ' s' it _ _ O r' (hit.mono l) fun rv σ₁ ρ₁ o s₁ l₁ r₁ nr h₁ => ?_))))
  match rv, o, nr, h₁ with
  | none, none, _, h₁ => exact wpAny_pure (q σ₁ ρ₁ s₁ (l.trans l₁) r₁ h₁)
  | some v, some x, nr, h₁ =>
    refine wpAny_bind (wpG_any (h₁ fm ρ₁ s₁ it x _ _ O r₁ (hit.mono (l.trans l₁)) nr fun _ σ₂ ρ₂ _ s₂ l₂ r₂ _ h₂ => ?_))
    refine wpAny_bind (wpG_any (h₂ fm ρ₂ s₂ x _ _ O r₂ (nr.mono l₂) fun _ σ₃ ρ₃ _ s₃ l₃ r₃ _ h₃ => ?_))
    refine wpAny_bind (wpAny_bind (wpG_any (h₃ fm ρ₃ s₃ _ _ O r₃ fun y σ₄ ρ₄ z s₄ l₄ r₄ vy h₄ => ?_)))
    have l5 := (((l.trans l₁).trans l₂).trans l₃).trans l₄
    refine wpAny_bind (wpG_any (h₄ fm ρ₄ s₄ [acc, z] _ _ O r₄ ⟨hacc.mono l5, vy, trivial⟩ fun _ σ₅ ρ₅ _ s₅ l₅ r₅ _ h₅ => ?_))
    obtain ⟨m, hm, jm⟩ := h₅
    exact wpAny_pure (wpAny_pure ⟨rfl, m, hm, σ₅, ρ₅, jm, l5.trans l₅, r₅⟩)
theorem wcl_oneG {elt t i : Expr} {sc : Scope} {itV accV : V} {K : St → Prop} (J : Nat → St → Prop) (n : Nat) (h0 : J n σ)
    (turn : ∀ n σ' (Kn : St → Prop), (∀ m σ'', m < n → J m σ'' → Kn σ'') → J n σ' → WN w B ce A itV σ' fun r σ₁ => match r with
      | none => K σ₁
      | some v => WL w B ce A t itV v σ₁ fun σ₂ => WTA false w B ce A t v σ₂ fun σ₃ => WE false w B ce A elt σ₃ fun y σ₄ => WC false w B ce A (.builtin "list.append") [accV, y] σ₄ fun _ σ₅ => Kn σ₅) :
    WCL w B ce A (.ListComp elt [⟨t, i, [], 0⟩] sc pos) 0 itV accV σ K := wcl_one J n h0 (fun n σ' j => turn n σ' (fun σ₅ => ∃ m, m < n ∧ J m σ₅) (fun m _ h1 h2 => ⟨m, h1, h2⟩) j)


theorem compTurn_two0 (elt t0 i0 t1 i1 : Expr) (scope : Scope) (pos : Pos) (it acc : Value) (env : Env) :
    compTurn (.ListComp elt [⟨t0, i0, [], 0⟩, ⟨t1, i1, [], 0⟩] scope pos) 0 it acc env = (standAt i0.pos >>= fun _ => pyNext it >>= fun r => match r with
      | none => pure (.done .next)
      | some v => letOwnedTupleGo t0 it v >>= fun _ => assign t0 env v >>= fun _ =>
        eval i1 env >>= fun x => standAt i1.pos >>= fun _ => foldedSetIterable i1 env x >>= fun x => holding [x] (pyIter x) >>= fun it' =>
          runOwn (.compStart (.ListComp elt [⟨t0, i0, [], 0⟩, ⟨t1, i1, [], 0⟩] scope pos) 1 it' acc env) env >>= fun _ =>
          again (.compLoop (.ListComp elt [⟨t0, i0, [], 0⟩, ⟨t1, i1, [], 0⟩] scope pos) 0 it acc env)) := by rfl
theorem compTurn_two1 (elt t0 i0 t1 i1 : Expr) (scope : Scope) (pos : Pos) (it acc : Value) (env : Env) :
    compTurn (.ListComp elt [⟨t0, i0, [], 0⟩, ⟨t1, i1, [], 0⟩] scope pos) 1 it acc env = (standAt i1.pos >>= fun _ => pyNext it >>= fun r => match r with
      | none => pure (.done .next)
      | some v => letOwnedTupleGo t1 it v >>= fun _ => assign t1 env v >>= fun _ =>
        (eval elt env >>= fun x => call (.builtin "list.append") [acc, x] >>= fun _ => pure ()) >>= fun _ =>
          again (.compLoop (.ListComp elt [⟨t0, i0, [], 0⟩, ⟨t1, i1, [], 0⟩] scope pos) 1 it acc env)) := by rfl

theorem wcl_in {elt t0 i0 t i : Expr} {sc : Scope} {itV accV : V} {K : St → Prop} (J : Nat → St → Prop) (n : Nat) (h0 : J n σ)
    (turn : ∀ n σ', J n σ' → WN w B ce A itV σ' fun r σ₁ => match r with
      | none => K σ₁
      | some v => WL w B ce A t itV v σ₁ fun σ₂ => WTA false w B ce A t v σ₂ fun σ₃ => WE false w B ce A elt σ₃ fun y σ₄ => WC false w B ce A (.builtin "list.append") [accV, y] σ₄ fun _ σ₅ => ∃ m, m < n ∧ J m σ₅) :
    WCL w B ce A (.ListComp elt [⟨t0, i0, [], 0⟩, ⟨t, i, [], 0⟩] sc pos) 1 itV accV σ K := fun fm ρ s it acc R O r hit hacc q => by
  refine codeAny_loop rfl (fun d s' => ∃ σ' ρ', J d σ' ∧ ρ.le ρ' ∧ Rel w ce fm ρ' σ' s') ?_ n ⟨σ, ρ, h0, ρ.le_refl, r⟩
  rintro d s' ⟨σ', ρ', j, l, r'⟩
  show wpAny _ _ ((compTurn (.ListComp elt [⟨t0, i0, [], 0⟩, ⟨t, i, [], 0⟩] sc pos) 1 it acc ce).onRaise (fun x => do noteFrame x ce; theTreesLotGoes x)) _ _ s'
  refine wpAny_noted ?_
  rw [compTurn_two1]
  refine wpAny_bind (wpAny_standAt (wpAny_bind (wpG_any (turn d σ' j fm ρ' s' it _ _ O r' (hit.mono l) fun rv σ₁ ρ₁ o s₁ l₁ r₁ nr h₁ => ?_))))
  match rv, o, nr, h₁ with
  | none, none, _, h₁ => exact wpAny_pure (q σ₁ ρ₁ s₁ (l.trans l₁) r₁ h₁)
  | some v, some x, nr, h₁ =>
    refine wpAny_bind (wpG_any (h₁ fm ρ₁ s₁ it x _ _ O r₁ (hit.mono (l.trans l₁)) nr fun _ σ₂ ρ₂ _ s₂ l₂ r₂ _ h₂ => ?_))
    refine wpAny_bind (wpG_any (h₂ fm ρ₂ s₂ x _ _ O r₂ (nr.mono l₂) fun _ σ₃ ρ₃ _ s₃ l₃ r₃ _ h₃ => ?_))
    refine wpAny_bind (wpAny_bind (wpG_any (h₃ fm ρ₃ s₃ _ _ O r₃ fun y σ₄ ρ₄ z s₄ l₄ r₄ vy h₄ => ?_)))
    have l5 := (((l.trans l₁).trans l₂).trans l₃).trans l₄
    refine wpAny_bind (wpG_any (h₄ fm ρ₄ s₄ [acc, z] _ _ O r₄ ⟨hacc.mono l5, vy, trivial⟩ fun _ σ₅ ρ₅ _ s₅ l₅ r₅ _ h₅ => ?_))
    obtain ⟨m, hm, jm⟩ := h₅
    exact wpAny_pure (wpAny_pure ⟨rfl, m, hm, σ₅, ρ₅, jm, l5.trans l₅, r₅⟩)
theorem wcl_inG {elt t0 i0 t i : Expr} {sc : Scope} {itV accV : V} {K : St → Prop} (J : Nat → St → Prop) (n : Nat) (h0 : J n σ)
    (turn : ∀ n σ' (Kn : St → Prop), (∀ m σ'', m < n → J m σ'' → Kn σ'') → J n σ' → WN w B ce A itV σ' fun r σ₁ => match r with
      | none => K σ₁
      | some v => WL w B ce A t itV v σ₁ fun σ₂ => WTA false w B ce A t v σ₂ fun σ₃ => WE false w B ce A elt σ₃ fun y σ₄ => WC false w B ce A (.builtin "list.append") [accV, y] σ₄ fun _ σ₅ => Kn σ₅) :
    WCL w B ce A (.ListComp elt [⟨t0, i0, [], 0⟩, ⟨t, i, [], 0⟩] sc pos) 1 itV accV σ K := wcl_in J n h0 (fun n σ' j => turn n σ' (fun σ₅ => ∃ m, m < n ∧ J m σ₅) (fun m _ h1 h2 => ⟨m, h1, h2⟩) j)


theorem codeAny_compStart_in {prog : Program} {elt t0 i0 t1 i1 : Expr} {scope : Scope} {it acc : Value} {R : Result → Shared → Prop}
    (h0 : codeAny (model prog w) A (.compLoop (.ListComp elt [⟨t0, i0, [], 0⟩, ⟨t1, i1, [], 0⟩] scope pos) 1 it acc env) R s)
    (h : wpAny (model prog w) A (pyIter it) (fun it' s' => codeAny (model prog w) A (.compLoop (.ListComp elt [⟨t0, i0, [], 0⟩, ⟨t1, i1, [], 0⟩] scope pos) 1 it' acc env) R s')
      (notedBy (model prog w) A env fun x s' => R (.error x) s') s) :
    codeAny (model prog w) A (.compStart (.ListComp elt [⟨t0, i0, [], 0⟩, ⟨t1, i1, [], 0⟩] scope pos) 1 it acc env) R s := by
  refine codeAny_of_tree ?_
  show wpAny _ _ ((compStart (.ListComp elt [⟨t0, i0, [], 0⟩, ⟨t1, i1, [], 0⟩] scope pos) 1 it acc env).onRaise (fun x => do noteFrame x env; standAt theWindowsPlace)) _ _ s
  refine wpAny_notedAt ?_
  unfold compStart
  show wpAny _ _ (ask >>= _) _ _ s
  refine wpAny_bind (wpAny_askSetting (wpAny_ite ?_))
  split
  · first
      | exact wpAny_bind (wpAny_pure (wpAny_pure (And.intro rfl h0)))
      | exact wpAny_pure (And.intro rfl h0)
  · first
      | exact wpAny_bind (wpAny_rule (wpAny_bind (wpAny_standAt (wpAny_bind (wpAny_mono h (fun it' s' h' => wpAny_pure (And.intro rfl h')) fun _ _ x => x)))))
      | (refine wpAny_bind (wpAny_rule ?_); show wpAny _ _ (standAt i1.pos >>= _) _ _ s; exact wpAny_bind (wpAny_standAt (wpAny_bind (wpAny_mono h (fun it' s' h' => wpAny_pure (And.intro rfl h')) fun _ _ x => x))))

theorem wcl_two {elt t i t1 i1 : Expr} {sc : Scope} {itV accV : V} {K : St → Prop} (J : Nat → St → Prop) (n : Nat) (h0 : J n σ)
    (turn : ∀ n σ', J n σ' → WN w B ce A itV σ' fun r σ₁ => match r with
      | none => K σ₁
      | some v => WL w B ce A t itV v σ₁ fun σ₂ => WTA false w B ce A t v σ₂ fun σ₃ => WE false w B ce A i1 σ₃ fun x σ₄ => WP w B ce A x σ₄ fun it' σ₅ =>
          WP w B ce A it' σ₅ (fun v' σ' => v' = it' ∧ σ' = σ₅) ∧ WCL w B ce A (.ListComp elt [⟨t, i, [], 0⟩, ⟨t1, i1, [], 0⟩] sc pos) 1 it' accV σ₅ fun σ₆ => ∃ m, m < n ∧ J m σ₆)
    (hs : ∀ y, foldedSetIterable i1 ce y = pure y := by intro _; rfl) :
    WCL w B ce A (.ListComp elt [⟨t, i, [], 0⟩, ⟨t1, i1, [], 0⟩] sc pos) 0 itV accV σ K := fun fm ρ s it acc R O r hit hacc q => by
  refine codeAny_loop rfl (fun d s' => ∃ σ' ρ', J d σ' ∧ ρ.le ρ' ∧ Rel w ce fm ρ' σ' s') ?_ n ⟨σ, ρ, h0, ρ.le_refl, r⟩
  rintro d s' ⟨σ', ρ', j, l, r'⟩
  show wpAny _ _ ((compTurn (.ListComp elt [⟨t, i, [], 0⟩, ⟨t1, i1, [], 0⟩] sc pos) 0 it acc ce).onRaise (fun x => do noteFrame x ce; theTreesLotGoes x)) _ _ s'
  refine wpAny_noted ?_
  rw [compTurn_two0]
  refine wpAny_bind (wpAny_standAt (wpAny_bind (wpG_any (turn d σ' j fm ρ' s' it _ _ O r' (hit.mono l) fun rv σ₁ ρ₁ o s₁ l₁ r₁ nr h₁ => ?_))))
  match rv, o, nr, h₁ with
  | none, none, _, h₁ => exact wpAny_pure (q σ₁ ρ₁ s₁ (l.trans l₁) r₁ h₁)
  | some v, some x, nr, h₁ =>
    refine wpAny_bind (wpG_any (h₁ fm ρ₁ s₁ it x _ _ O r₁ (hit.mono (l.trans l₁)) nr fun _ σ₂ ρ₂ _ s₂ l₂ r₂ _ h₂ => ?_))
    refine wpAny_bind (wpG_any (h₂ fm ρ₂ s₂ x _ _ O r₂ (nr.mono l₂) fun _ σ₃ ρ₃ _ s₃ l₃ r₃ _ h₃ => ?_))
    refine wpAny_bind (wpG_any (h₃ fm ρ₃ s₃ _ _ O r₃ fun y σ₄ ρ₄ z s₄ l₄ r₄ vy h₄ => ?_))
    refine wpAny_bind (wpAny_standAt (wpAny_bind (wpAny_of_eq (hs z) (wpAny_bind (wpAny_holding (wpG_any (h₄ fm ρ₄ s₄ z _ _ O r₄ vy fun it' σ₅ ρ₅ j' s₅ l₅ r₅ vj h₅ => ?_)))))))
    obtain ⟨hself, hloop⟩ := h₅
    have l6 := ((((l.trans l₁).trans l₂).trans l₃).trans l₄).trans l₅
    have loop : ∀ s₆ ρ₆ jj, ρ₅.le ρ₆ → Rel w ce fm ρ₆ σ₅ s₆ → VR ρ₆ it' jj → codeAny (model PR w) A (.compLoop (.ListComp elt [⟨t, i, [], 0⟩, ⟨t1, i1, [], 0⟩] sc pos) 1 jj acc ce)
        (fun r s' => match r with
          | .ok f => ∃ m, m < d ∧ ∃ σ' ρ', J m σ' ∧ ρ.le ρ' ∧ Rel w ce fm ρ' σ' s'
          | .error e => False) s₆ := fun s₆ ρ₆ jj l7 r₆ vj => hloop fm ρ₆ s₆ jj acc _ O r₆ vj (hacc.mono (l6.trans l7)) fun σ₇ ρ₇ s₇ l8 r₇ ⟨m, hm, jm⟩ => ⟨m, hm, σ₇, ρ₇, jm, (l6.trans l7).trans l8, r₇⟩
    refine wpAny_bind (wpG_any ?_)
    unfold runOwn
    refine wpG_onRaise (wpG_run (codeG_of (codeAny_mono (codeAny_compStart_in (loop s₅ ρ₅ j' ρ₅.le_refl r₅ vj) (wpG_any (hself fm ρ₅ s₅ j' _ _ O r₅ vj fun v' σ' ρ' c s' l' r' vc hk => ?_))) fun rr s' hr => ?_)))
    · obtain ⟨rfl, rfl⟩ := hk
      exact loop s' ρ' c l' r' vc
    · cases rr with
      | error e => exact hr.elim
      | ok fl =>
        obtain ⟨m, hm, σ₇, ρ₇, jm, l8, r₇⟩ := hr
        exact wpAny_pure ⟨rfl, m, hm, σ₇, ρ₇, jm, l8, r₇⟩
theorem wcl_twoG {elt t i t1 i1 : Expr} {sc : Scope} {itV accV : V} {K : St → Prop} (J : Nat → St → Prop) (n : Nat) (h0 : J n σ)
    (turn : ∀ n σ' (Kn : St → Prop), (∀ m σ'', m < n → J m σ'' → Kn σ'') → J n σ' → WN w B ce A itV σ' fun r σ₁ => match r with
      | none => K σ₁
      | some v => WL w B ce A t itV v σ₁ fun σ₂ => WTA false w B ce A t v σ₂ fun σ₃ => WE false w B ce A i1 σ₃ fun x σ₄ => WP w B ce A x σ₄ fun it' σ₅ =>
          WP w B ce A it' σ₅ (fun v' σ' => v' = it' ∧ σ' = σ₅) ∧ WCL w B ce A (.ListComp elt [⟨t, i, [], 0⟩, ⟨t1, i1, [], 0⟩] sc pos) 1 it' accV σ₅ fun σ₆ => Kn σ₆)
    (hs : ∀ y, foldedSetIterable i1 ce y = pure y := by intro _; rfl) :
    WCL w B ce A (.ListComp elt [⟨t, i, [], 0⟩, ⟨t1, i1, [], 0⟩] sc pos) 0 itV accV σ K := wcl_two J n h0 (fun n σ' j => turn n σ' (fun σ₅ => ∃ m, m < n ∧ J m σ₅) (fun m _ h1 h2 => ⟨m, h1, h2⟩) j) hs


/- a comprehension whose iterator is an object of the proof's -/
theorem we_compS {elt target iter : Expr} {rest : List Comprehension} {scope : Scope} {cl : List (Str × Addr)} {K : V → St → Prop}
    (h : WE false w B env A iter σ fun v σ₁ => WP w B env A v σ₁ fun itV σ₂ => ∃ (i : Nat) (loc : List (Str × V)), σ₂.free i ∧
      (∀ p ∈ loc, p ∈ σ₂.loc ∧ env.kindOf p.1 ≠ some .local ∧ ∀ C, (cenv scope cl env C).kindOf p.1 ≠ some .local ∧ ∃ c, (cellsFrom (C + 1) scope.names [] ++ cl).lookup p.1 = some c ∧ env.cells.lookup p.1 = some c) ∧
      ∀ C, WP w B (cenv scope cl env C) A itV ⟨loc, (σ₂.new i (.list [])).obj, (σ₂.new i (.list [])).free⟩ (fun v' σ' => v' = itV ∧ σ' = ⟨loc, (σ₂.new i (.list [])).obj, (σ₂.new i (.list [])).free⟩) ∧
        WCL w B (cenv scope cl env C) A (.ListComp elt (⟨target, iter, [], 0⟩ :: rest) scope pos) 0 itV (.ref i) ⟨loc, (σ₂.new i (.list [])).obj, (σ₂.new i (.list [])).free⟩ fun σ' =>
          K (.ref i) { loc := σ₂.loc, obj := σ'.obj, free := σ'.free })
    (hclos : closureFor scope env = pure cl) (hcl : ∀ p ∈ cl, p ∈ env.cells) (hnd : ∀ n, ((cellsFrom n scope.names [] ++ cl).map (·.1)).Nodup) (hnames : ∀ x ∈ scope.names, x.2 = .local → scope.names.lookup x.1 = some .local)
    (hkind : scope.kind = .function := by rfl) (hs : ∀ y, foldedSetIterable iter env y = pure y := by intro _; rfl) :
    WE false w B env A (.ListComp elt (⟨target, iter, [], 0⟩ :: rest) scope pos) σ K := fun fm ρ s Q E O r q => by
  refine wpG_of ?_
  rw [eval_ListComp]
  refine wpAny_comprehension_free (use := none) rfl hs hclos hkind hnames ?_
  refine wpG_any (h fm ρ s _ E O r fun v σ₁ ρ₁ a s₁ l₁ r₁ v₁ h₁ => ?_)
  refine wpG_any (h₁ fm ρ₁ s₁ a _ _ O r₁ v₁ fun itV σ₂ ρ₂ itx s₂ l₂ r₂ v₂ h₂ => ?_)
  obtain ⟨i, loc, hi, hloc, hC⟩ := h₂
  refine comp_enter (Q := fun acc ce s₄ => codeAny (model PR w) A (.compStart (.ListComp elt (⟨target, iter, [], 0⟩ :: rest) scope pos) 0 itx acc ce) (compPost (model PR w) A E none Q acc ce.locals) s₄) (h' := s₂.heap) (tk := s₂.toks) i loc O r₂ (fun _ _ e => e) hi hcl hnd hloc fun C D h4 hb _ l₃ O' r₄ => ?_
  obtain ⟨hself, hloop⟩ := hC C
  have vD : VR (ρ₂.upd i D) (.ref i) (.ref D) := ⟨_, Rho.upd_self, rfl⟩
  have loop : ∀ s₅ ρ₅ jj, (ρ₂.upd i D).le ρ₅ → Rel w (cenv scope cl env C) (fm.comp env ρ₂ σ₂ s₂) ρ₅ ⟨loc, (σ₂.new i (.list [])).obj, (σ₂.new i (.list [])).free⟩ s₅ → VR ρ₅ itV jj →
      codeAny (model PR w) A (.compLoop (.ListComp elt (⟨target, iter, [], 0⟩ :: rest) scope pos) 0 jj (.ref D) (cenv scope cl env C)) (compPost (model PR w) A E none Q (.ref D) C) s₅ := by
    intro s₅ ρ₅ jj l5 r₅ vj
    refine hloop _ ρ₅ s₅ jj _ _ O' r₅ vj (vD.mono l5) fun σ' ρ' s' l' r' kk => ?_
    obtain ⟨⟨m, hm⟩, r₈, apC⟩ := comp_out O r₂ (fun b o e => (hb b o e).2.1) ((l₃.trans l5).trans l') r'
    exact ⟨m, hm, fun h₆ hs₆ => q (.ref i) _ ρ' _ _ ((((l₁.trans l₂).trans l₃).trans l5).trans l') (r₈.besides s'.toks apC hs₆.extBut) (vD.mono (l5.trans l')) kk⟩
  refine codeAny_compStart_list (loop _ _ _ (Rho.le_refl _) r₄ (v₂.mono l₃)) ?_
  refine wpG_any (hself _ _ _ itx _ _ O' r₄ (v₂.mono l₃) fun v' σ' ρ' c s' l' r' vc hk => ?_)
  obtain ⟨rfl, rfl⟩ := hk
  exact loop s' ρ' c l' r' vc
end
end Mine
end
section
set_option maxRecDepth 100000
set_option autoImplicit false
namespace Mine
open PySem PySem.Calls PySem.Spec PyProof.Rows PySem.W

noncomputable def ItP (k : Nat) (as : List Addr) (ob : Obj) : Prop := ∃ l, as = [l] ∧ ob.cls = .type "list_iterator" ∧ ob.data = .fields #[.ref l, .int k 0]
noncomputable abbrev lit (li k : Nat) : O := .gen [li] (ItP k)
noncomputable def EnP (k : Nat) (as : List Addr) (ob : Obj) : Prop := ∃ it old, as = [it] ∧ ob = { cls := .type "enumerate", dict := none, data := .fields #[.none, .bool false, .ref it, rawInt k, .none, old], slots := #[] }
noncomputable def EnQ (k : Nat) (as : List Addr) (ob : Obj) : Prop := ∃ it a x, as = [it, a] ∧ ob = { cls := .type "enumerate", dict := none, data := .fields #[rawInt a, .bool false, .ref it, rawInt k, .none, x], slots := #[] }

section
variable {w : World} {B : Heap} {env : Env} {A : Around} {σ : St} {fm : Fm} {ρ : Rho} {s : Shared} {pos px py : Pos}
theorem ids1 {i : Nat} {as : List Addr} (h : IdsR ρ [i] as) : ∃ a, as = [a] ∧ ρ i = some a := by
  match as, h with
  | [a], h => exact ⟨a, rfl, h.1⟩
theorem ids2 {i j : Nat} {as : List Addr} (h : IdsR ρ [i, j] as) : ∃ a b, as = [a, b] ∧ ρ i = some a ∧ ρ j = some b := by
  match as, h with
  | [a, b], h => exact ⟨a, b, rfl, h.1, h.2.1⟩
theorem Rel.lit {i li k : Nat} {x : Value} (r : Rel w env fm ρ σ s) (hi : σ.obj i = some (Mine.lit li k)) (hx : VR ρ (.ref i) x) : ∃ a al, x = .ref a ∧ ρ i = some a ∧ ρ li = some al ∧ s.heap.IsListIter a al k ∧ Own env fm a := by
  obtain ⟨a, ob, rfl, e, g, ⟨as, h1, h2⟩, own⟩ := r.at hi hx
  obtain ⟨al, rfl, e2⟩ := ids1 h1
  obtain ⟨l, e3, hc, hd⟩ := h2
  cases e3
  exact ⟨a, al, rfl, e, e2, ⟨ob, g, hc, hd⟩, own⟩
theorem wp_list {i li : Nat} {xs : List V} {K : V → St → Prop} (hj : σ.obj li = some (.list xs)) (hi : σ.free i) (h : K (.ref i) (σ.new i (Mine.lit li 0))) : WP w B env A (.ref li) σ K := by
  rintro fm ρ s x Q E O r hx q
  obtain ⟨a, vs, rfl, e, hl, lr⟩ := r.list hj hx
  refine wpG_of (wpAny_pyIter_list hl ?_)
  obtain ⟨h1, h2, h3⟩ := r.push (i := i) (o := Mine.lit li 0) s.toks hi (ob := { cls := .type "list_iterator", data := .fields #[.ref a, .int 0 0] }) rfl ⟨[a], ⟨Rho.le_upd (r.free i hi) _ _ e, trivial⟩, a, rfl, rfl, rfl⟩
  exact q _ _ _ _ _ h1 h2 h3 h
theorem wp_self {i li k : Nat} (hi : σ.obj i = some (Mine.lit li k)) : WP w B env A (.ref i) σ (fun v' σ' => v' = .ref i ∧ σ' = σ) := by
  rintro fm ρ s x Q E O r hx q
  obtain ⟨a, al, rfl, e, _, hit, _⟩ := r.lit hi hx
  exact wpG_of (wpAny_pyIter_listiter hit (q (.ref i) σ ρ _ s ρ.le_refl r ⟨a, e, rfl⟩ ⟨rfl, rfl⟩))
theorem wn_lit {n i li k : Nat} {xs : List V} {K : Option V → St → Prop} (hA : AOk n A) (hi : σ.obj i = some (Mine.lit li k)) (hj : σ.obj li = some (.list xs)) (h1 : ∀ v, xs[k]? = some v → K (some v) (σ.put i (Mine.lit li (k + 1)))) (h2 : xs[k]? = none → K none (σ.drop i)) :
    WN w B env A (.ref i) σ K := by
  rintro fm ρ s x Q E O r hx q
  obtain ⟨a, al, rfl, e, e2, hit, own⟩ := r.lit hi hx
  obtain ⟨a', vs, e3, e4, hl, lr⟩ := r.list (x := .ref al) hj ⟨al, e2, rfl⟩
  cases e3
  cases hv : xs[k]? with
  | some v =>
    obtain ⟨y, hy, vy⟩ := lr.get hv
    refine wpG_of (wpAny_pyNext_list_item (x := y) hit hl (by rw [← Array.getElem?_toList]; exact hy) fun h' hit' hs => ?_)
    obtain ⟨ob, g, hc, hd⟩ := hit'
    exact q (some v) _ ρ (some y) _ ρ.le_refl (r.put (o := Mine.lit li (k + 1)) s.toks hi e hs.extBut g ⟨[al], ⟨e2, trivial⟩, al, rfl, hc, hd⟩) vy (h1 v hv)
  | none =>
    have hlen : vs[k]? = none := by
      rw [← Array.getElem?_toList, List.getElem?_eq_none_iff, ← lr.length]
      exact List.getElem?_eq_none_iff.mp hv
    refine wpG_of (wpAny_pyNext_list_end hA.handled hit hl hlen fun h' he => ?_)
    exact q none _ ρ none _ ρ.le_refl ((r.weaken (St.drop_le (i := i))).besides s.toks (r.dropApart hi e) he) trivial (h2 hv)

-- objects that are nobody's for a while
theorem Apart.less {σ' : St} {a : Addr} (ap : Apart env fm ρ σ a) (h : ∀ i, σ'.obj i ≠ none → σ.obj i ≠ none) : Apart env fm ρ σ' a := ⟨ap.own, fun i hi => ap.live i (h i hi)⟩
theorem Apart.new {i : Nat} {a b : Addr} {o : O} (ap : Apart env fm ρ σ a) (hab : a ≠ b) : Apart env fm (ρ.upd i b) (σ.new i o) a := by
  refine ⟨ap.own, fun j hj e => ?_⟩
  by_cases h : j = i
  · subst h
    have : (ρ.upd j b) j = some b := by simp [Rho.upd]
    rw [this] at e; cases e; exact hab rfl
  · have h1 : σ.obj j ≠ none := by
      have hj' : (if j = i then some o else σ.obj j) ≠ none := hj
      rwa [if_neg h] at hj'
    have h2 : (ρ.upd i b) j = ρ j := by simp [Rho.upd, h]
    rw [h2] at e
    exact ap.live j h1 e
theorem Rel.besides2 {I J : Addr} {h' : Heap} (r : Rel w env fm ρ σ s) (tk : Nat) (hI : Apart env fm ρ σ I) (hJ : Apart env fm ρ σ J) (hs : ∀ b o, b ≠ I → b ≠ J → s.heap.get? b = some o → h'.get? b = some o) : Rel w env fm ρ σ { s with heap := h', toks := tk } where
  same := let ⟨_, _, e⟩ := r.same; ⟨h', tk, by rw [e]⟩
  keep := fun b o e => hs b o (by rintro rfl; rw [hI.own.1] at e; cases e) (by rintro rfl; rw [hJ.own.1] at e; cases e) (r.keep b o e)
  dat := fun b d e => let ⟨x, g, q⟩ := r.dat b d e; ⟨x, hs b x (by rintro rfl; rw [hI.own.2.1] at e; cases e) (by rintro rfl; rw [hJ.own.2.1] at e; cases e) g, q⟩
  ns := by
    obtain ⟨m, ⟨o, es, ep, g, hd, hk, hn⟩, q⟩ := r.ns
    exact ⟨m, ⟨o, es, ep, hs _ o (Ne.symm hI.own.2.2.1) (Ne.symm hJ.own.2.2.1) g, hd, hk, hn⟩, q⟩
  cel := fun p hp n => let ⟨c, x, e, f, v⟩ := r.cel p hp n; ⟨c, x, e, IsCell_of f fun y => hs c y (hI.own.2.2.2 (p.1, c) (mem_of_lookup e)) (hJ.own.2.2.2 (p.1, c) (mem_of_lookup e)), v⟩
  cells := fun p hp => let ⟨v, f⟩ := r.cells p hp; ⟨v, IsCell_of f fun y => hs p.2 y (hI.own.2.2.2 p hp) (hJ.own.2.2.2 p hp)⟩
  obj := fun i x e => let ⟨a, ob, p, g, q⟩ := r.obj i x e; ⟨a, ob, p, hs a ob (fun e' => hI.live i (by rw [e]; exact Option.some_ne_none _) (e' ▸ p)) (fun e' => hJ.live i (by rw [e]; exact Option.some_ne_none _) (e' ▸ p)) g, q⟩
  inj := r.inj
  free := r.free
theorem Rel.again {i : Nat} {a : Addr} {o : O} {ob : Obj} (r : Rel w env fm ρ σ s) (ap : Apart env fm ρ σ a) (hi : ρ i = some a) (ho : s.heap.get? a = some ob) (hO : OR w ρ o ob) : Rel w env fm ρ (σ.put i o) s where
  same := r.same
  keep := r.keep
  dat := r.dat
  ns := r.ns
  cel := r.cel
  cells := r.cells
  obj := fun j o' e => by
    have e' : (if j = i then some o else σ.obj j) = some o' := e
    by_cases h : j = i
    · subst h
      rw [if_pos rfl] at e'; cases e'
      exact ⟨a, ob, hi, ho, hO, ap.own⟩
    · rw [if_neg h] at e'
      exact r.obj j o' e'
  inj := fun j k b hj hk ej ek => by
    have hj' : (if j = i then some o else σ.obj j) ≠ none := hj
    have hk' : (if k = i then some o else σ.obj k) ≠ none := hk
    by_cases h1 : j = i <;> by_cases h2 : k = i
    · rw [h1, h2]
    · rw [if_neg h2] at hk'
      rw [h1, hi] at ej; cases ej
      exact absurd ek (ap.live k hk')
    · rw [if_neg h1] at hj'
      rw [h2, hi] at ek; cases ek
      exact absurd ej (ap.live j hj')
    · rw [if_neg h1] at hj'
      rw [if_neg h2] at hk'
      exact r.inj j k b hj' hk' ej ek
  free := r.free
theorem Apart.put {i : Nat} {a : Addr} {o : O} (ap : Apart env fm ρ σ a) (h : ρ i ≠ some a) : Apart env fm ρ (σ.put i o) a := ⟨ap.own, fun j hj => by
  have hj' : (if j = i then some o else σ.obj j) ≠ none := hj
  by_cases hji : j = i
  · rw [hji]; exact h
  · rw [if_neg hji] at hj'; exact ap.live j hj'⟩

theorem wc_enumerate {e it li : Nat} {xs : List V} {K : V → St → Prop} (hj : σ.obj li = some (.list xs)) (he : σ.free e) (hi : σ.free it) (hei : e ≠ it) (h : K (.ref e) ((σ.new it (Mine.lit li 0)).new e (.gen [it] (EnP 0)))) :
    WC false w B env A (.type "enumerate") [.ref li] σ K := by
  rintro fm ρ s ys Q E O r hv q
  obtain ⟨y, rfl, hy⟩ := LR.one hv
  obtain ⟨a, vs, rfl, ea, hl, lr⟩ := r.list hj hy
  refine wpG_of (call_enumerate_list hl fun h' hen hit hz hk => ?_)
  obtain ⟨ob, g, hc, hd⟩ := hit
  have hn1 : s.heap.get? s.heap.objs.size = none := Heap.new_none
  have hn2 : s.heap.get? (s.heap.objs.size + 1) = none := by
    cases q : s.heap.get? (s.heap.objs.size + 1) with
    | none => rfl
    | some o => exact absurd (Heap.lt_size q) (Nat.not_lt.mpr (Nat.le_succ _))
  obtain ⟨l1, r1⟩ := r.new (i := it) (o := Mine.lit li 0) s.toks hi hk hn1 g ⟨[a], ⟨Rho.le_upd (r.free it hi) _ _ ea, trivial⟩, a, rfl, hc, hd⟩
  have ap := (r.apart hn2).new (i := it) (o := Mine.lit li 0) (b := s.heap.objs.size) (Nat.succ_ne_self _)
  obtain ⟨l2, r2⟩ := r1.adopt (i := e) (o := .gen [it] (EnP 0)) ap ⟨he, hei⟩ hen ⟨[s.heap.objs.size], ⟨Rho.le_upd (r1.free e ⟨he, hei⟩) _ _ (by simp [Rho.upd]), trivial⟩, s.heap.objs.size, .none, rfl, rfl⟩
  exact q (.ref e) _ _ _ _ (l1.trans l2) r2 ⟨_, by simp [Rho.upd], rfl⟩ h
theorem Rel.enum {e it k : Nat} {x : Value} (r : Rel w env fm ρ σ s) (he : σ.obj e = some (.gen [it] (EnP k))) (hx : VR ρ (.ref e) x) : ∃ a ai old, x = .ref a ∧ ρ e = some a ∧ ρ it = some ai ∧ IsEnum s.heap a ai k old := by
  obtain ⟨a, ob, rfl, ee, g, ⟨as, h1, h2⟩, own⟩ := r.at he hx
  obtain ⟨ai, rfl, e2⟩ := ids1 h1
  obtain ⟨l, old, e3, rfl⟩ := h2
  cases e3
  exact ⟨a, ai, old, rfl, ee, e2, g⟩
theorem wp_enum {e it k : Nat} (he : σ.obj e = some (.gen [it] (EnP k))) {K : V → St → Prop} (h : K (.ref e) σ) : WP w B env A (.ref e) σ K := by
  rintro fm ρ s x Q E O r hx q
  obtain ⟨a, ai, old, rfl, e1, _, hen⟩ := r.enum he hx
  exact wpG_of (wpAny_pyIter_enum hen (q (.ref e) σ ρ _ s ρ.le_refl r ⟨a, e1, rfl⟩ h))
theorem wn_enum {n e it li k t : Nat} {xs : List V} {K : Option V → St → Prop} (hA : AOk n A) (he : σ.obj e = some (.gen [it] (EnP k))) (hi : σ.obj it = some (Mine.lit li k)) (hj : σ.obj li = some (.list xs)) (hei : e ≠ it) (hle : li ≠ e) (hli : li ≠ it) (ht : σ.free t)
    (h1 : ∀ v, xs[k]? = some v → K (some (.ref t)) (((((σ.drop e).drop it).new t (.tuple [.int (k : Int), v])).put it (Mine.lit li (k + 1))).put e (.gen [it, t] (EnQ (k + 1))))) (h2 : xs[k]? = none → K none (σ.drop it)) : WN w B env A (.ref e) σ K := by
  rintro fm ρ s x Q E O r hx q
  obtain ⟨a, ai, old, rfl, e1, e2, hen⟩ := r.enum he hx
  obtain ⟨ai', al, e3, e4, e5, hit, _⟩ := r.lit (x := .ref ai) hi ⟨ai, e2, rfl⟩
  cases e3
  obtain ⟨a', vs, e6, e7, hl, lr⟩ := r.list (x := .ref al) hj ⟨al, e5, rfl⟩
  cases e6
  have hne : a ≠ ai := fun h => hei (r.inj e it a (by rw [he]; exact Option.some_ne_none _) (by rw [hi]; exact Option.some_ne_none _) e1 (h ▸ e2))
  cases hv : xs[k]? with
  | some v =>
    obtain ⟨y, hy, vy⟩ := lr.get hv
    refine wpG_of (wpAny_pyNext_enum_item (x := y) hen hit hl (by rw [← Array.getElem?_toList]; exact hy) hne fun h' heo hit' hT hz hk => ?_)
    have hTn : s.heap.get? s.heap.objs.size = none := Heap.new_none
    have hi' : (σ.drop e).obj it = some (Mine.lit li k) := by
      show (if it = e then none else σ.obj it) = _
      rw [if_neg (Ne.symm hei)]; exact hi
    have dle : ((σ.drop e).drop it).le σ := St.drop_le.trans St.drop_le
    have sub : ∀ j, ((σ.drop e).drop it).obj j ≠ none → (σ.drop e).obj j ≠ none := fun j hj hq => by
      have hj' : (if j = it then none else (σ.drop e).obj j) ≠ none := hj
      rw [hq] at hj'
      exact hj' (by split <;> rfl)
    have ap1 := (r.dropApart he e1).less sub
    have ap2 := (r.weaken (St.drop_le (σ := σ) (i := e))).dropApart hi' e2
    have apT := (r.weaken dle).apart hTn
    have r2 := (r.weaken dle).besides2 (s.toks + 1) ap1 ap2 hk
    have ht' : ((σ.drop e).drop it).free t := ht
    obtain ⟨l3, r3⟩ := r2.adopt (i := t) (o := .tuple [.int (k : Int), v]) apT ht' hT ⟨#[.int k s.toks, y], _, rfl, ⟨⟨s.toks, rfl⟩, vy.mono (Rho.le_upd (r.free t ht)), trivial⟩⟩
    have hTa : a ≠ s.heap.objs.size := Nat.ne_of_lt (Heap.lt_size hen)
    have hTi : ai ≠ s.heap.objs.size := by obtain ⟨o, g, _⟩ := hit; exact Nat.ne_of_lt (Heap.lt_size g)
    obtain ⟨oi, gi, ci, di⟩ := hit'
    have r4 := r3.again (ap2.new (i := t) (o := .tuple [.int (k : Int), v]) hTi) (l3 _ _ e2) gi (o := Mine.lit li (k + 1)) ⟨[al], ⟨l3 _ _ e5, trivial⟩, al, rfl, ci, di⟩
    have ap5 := (ap1.new (i := t) (o := .tuple [.int (k : Int), v]) hTa).put (i := it) (o := Mine.lit li (k + 1)) (by rw [l3 _ _ e2]; exact fun h => hne (Option.some.inj h).symm)
    have r5 := r4.again ap5 (l3 _ _ e1) heo (o := .gen [it, t] (EnQ (k + 1))) ⟨[ai, s.heap.objs.size], ⟨l3 _ _ e2, by simp [Rho.upd], trivial⟩, ai, _, y, rfl, rfl⟩
    exact q (some (.ref t)) _ _ (some (.ref s.heap.objs.size)) _ l3 r5 ⟨_, by simp [Rho.upd], rfl⟩ (h1 v hv)
  | none =>
    have hlen : vs[k]? = none := by
      rw [← Array.getElem?_toList, List.getElem?_eq_none_iff, ← lr.length]
      exact List.getElem?_eq_none_iff.mp hv
    refine wpG_of (wpAny_pyNext_enum_end hA.handled hen hit hl hlen fun h' hs => ?_)
    exact q none _ ρ none _ ρ.le_refl ((r.weaken (St.drop_le (i := it))).besides s.toks (r.dropApart hi e2) hs) trivial (h2 hv)
theorem wl_enum {e it t k : Nat} {elts : List Expr} {x1 : Nat} {K : St → Prop} (he : σ.obj e = some (.gen [it, t] (EnQ k))) (h : K (σ.put e (.gen [it] (EnP k)))) : WL w B env A (.Tuple elts x1 px) (.ref e) (.ref t) σ K := by
  rintro fm ρ s x y Q E O r hx hy q
  obtain ⟨a, ob, rfl, ee, g, ⟨as, h1, h2⟩, own⟩ := r.at he hx
  obtain ⟨ai, aT, rfl, e2, e3⟩ := ids2 h1
  obtain ⟨l, a', item, e4, rfl⟩ := h2
  cases e4
  obtain ⟨b, e5, rfl⟩ := hy
  rw [e3] at e5; cases e5
  refine wpG_of (wpAny_letOwnedTupleGo_enum g fun h' he' hs => ?_)
  exact q () _ ρ () _ ρ.le_refl (r.put (o := .gen [it] (EnP k)) s.toks he ee hs.extBut he' ⟨[ai], ⟨e2, trivial⟩, ai, item, rfl, rfl⟩) trivial h
theorem wta_pair {n t : Nat} {x y : Str} {u v : V} {x1 : Nat} {K : St → Prop} (hA : AOk n A) (ht : σ.obj t = some (.tuple [u, v])) (hx : Binds env x) (hy : Binds env y) (hk : env.scope.kind = .function) (h : K ((σ.set x u).set y v)) :
    WTA false w B env A (.Tuple [.Name x px, .Name y py] x1 pos) (.ref t) σ K := by
  rintro fm ρ s z Q E O r hz q
  obtain ⟨a, vs, n, rfl, e, ho, lr⟩ := r.ptuple ht hz
  obtain ⟨vl⟩ := vs
  obtain ⟨p1, p2, rfl, hu, hv⟩ := LR.two lr
  refine wpG_of (wpAny_assign_Tuple hA.handled ⟨_, ho, rfl, _, rfl⟩ rfl rfl fun h' he => ?_)
  have r1 := r.kept (h' := h') s.toks fun b o g => he b o (Nat.ne_of_lt (Heap.lt_size g)) g
  show wpAny _ A (do holding [p2] (assign (.Name x px) env p1); do holding [] (assign (.Name y py) env p2); pure ()) _ _ _
  refine wpAny_bind (wpAny_holding (wpAny_assign_Name (wpG_any (store_ (g := false) O r1 hu hx hk fun s2 r2 => ?_))))
  refine wpAny_bind (wpAny_holding (wpAny_assign_Name (wpG_any (store_ (g := false) O r2 hv hy hk fun s3 r3 => ?_))))
  exact wpAny_pure (q () _ ρ () s3 ρ.le_refl r3 trivial h)
end
end Mine
end
section
set_option maxRecDepth 100000
set_option autoImplicit false
namespace Mine
open PySem PySem.Calls PySem.Spec PyProof.Rows PySem.W
open PySem.Builtin PySem.Builtin.Str

section
variable {w : World} {B : Heap} {env : Env} {A : Around} {σ : St} {fm : Fm} {ρ : Rho} {s : Shared} {pos px py : Pos} {K : V → St → Prop}
theorem Rel.frn (r : Rel w env fm ρ σ s) : ∃ m, s.heap.Ns env.locals m ∧ Fr (trunc s.heap env.locals) env.locals s.heap m ∧ News (trunc s.heap env.locals) env.locals s.heap (behind s.heap env.locals) := by
  obtain ⟨m, hm, _⟩ := r.ns
  refine ⟨m, hm, ⟨hm, fun b o e => (trunc_get e).2, trunc_size⟩, fun p hp => ?_⟩
  obtain ⟨h2, h3⟩ := mem_behind hp
  refine ⟨h3, Nat.ne_of_gt h2, ?_⟩
  cases q : (trunc s.heap env.locals).get? p.1 with
  | none => rfl
  | some o => exact absurd (trunc_get q).1 (Nat.not_lt.mpr (Nat.le_of_lt h2))
theorem Rel.ofrn {h' : Heap} {m : Str → Option Value} {news' : List (Addr × Obj)} (tk : Nat) (r : Rel w env fm ρ σ s) (O : FmOk B env A fm) (hm : s.heap.Ns env.locals m) (F' : Fr (trunc s.heap env.locals) env.locals h' m) (N' : News (trunc s.heap env.locals) env.locals h' news')
    (sub : ∀ p ∈ behind s.heap env.locals, p ∈ news') : Rel w env fm ρ σ { s with heap := h', toks := tk } :=
  r.keptNs tk O hm F'.ns fun b o hb e => by
    rcases Nat.lt_or_gt_of_ne hb with hlt | hgt
    · exact F'.keep b o (trunc_of hlt e)
    · exact (N' (b, o) (sub _ (behind_of hgt e))).1

theorem wc_sum {n j : Nat} {ns : List Int} (hA : AOk n A) (hj : σ.obj j = some (.list (ns.map V.int))) (h : K (.int ns.sum) σ) : WC false w B env A (.builtin "sum") [.ref j] σ K := by
  rintro fm ρ s ys Q E O r hv q
  obtain ⟨y, rfl, hy⟩ := LR.one hv
  obtain ⟨a, vs, rfl, e, hl, lr⟩ := r.list hj hy
  obtain ⟨m, hm, F, N⟩ := r.frn
  have hl' : s.heap.IsList a vs.toList.toArray := by rw [Array.toArray_toList]; exact hl
  exact wpG_of (PyProof.Rows.LSm.sum_ints F N hA.handled hl' (ints_lr lr) fun h' tk t' F' N' => q (.int ns.sum) σ ρ _ _ ρ.le_refl (r.ofrn tk O hm F' N' fun _ h => h) vint h)
theorem wc_max {n j : Nat} {ns : List Int} (hA : AOk n A) (hj : σ.obj j = some (.list (ns.map V.int))) (hne : 0 < ns.length) (h : ∀ M, M ∈ ns → (∀ a ∈ ns, a ≤ M) → K (.int M) σ) : WC false w B env A (.builtin "max") [.ref j] σ K := by
  rintro fm ρ s ys Q E O r hv q
  obtain ⟨y, rfl, hy⟩ := LR.one hv
  obtain ⟨a, vs, rfl, e, hl, lr⟩ := r.list hj hy
  obtain ⟨m, hm, F, N⟩ := r.frn
  have hl' : s.heap.IsList a vs.toList.toArray := by rw [Array.toArray_toList]; exact hl
  exact wpG_of (max_list_N hA.handled F N hl' (ints_lr lr) hne fun h' M t tk F' N' h1 h2 => q (.int M) σ ρ _ _ ρ.le_refl (r.ofrn tk O hm F' N' fun _ h => h) vint (h M h1 h2))
theorem op_add_list {j k i : Nat} {xs ys : List V} (hj : σ.obj j = some (.list xs)) (hk : σ.obj k = some (.list ys)) (hz : xs.length + ys.length ≤ 1000) (hi : σ.free i) (h : K (.ref i) (σ.new i (.list (xs ++ ys)))) : W2 false w B env A (binaryOp .Add) VR (.ref j) (.ref k) σ K := by
  rintro fm ρ s x y Q E O r hx hy q
  obtain ⟨a, vs, rfl, e, hl, lr⟩ := r.list hj hx
  obtain ⟨b, us, rfl, e2, hl2, lr2⟩ := r.list hk hy
  obtain ⟨m, hm, F, N⟩ := r.frn
  have h1 := lr.length
  have h2 := lr2.length
  refine wpG_of (add_arrays F N hl hl2 (fun h' F' N' => ?_) (Nat.le_trans (m := 1000) (by rw [← Array.length_toList, ← Array.length_toList, ← h1, ← h2]; exact hz) (by decide)))
  have r1 := r.ofrn s.toks O hm F' N' fun _ h => List.mem_cons_of_mem _ h
  have hT : s.heap.get? s.heap.objs.size = none := Heap.new_none
  have hg := (N' _ (List.mem_cons_self ..)).1
  obtain ⟨l2, r2⟩ := r1.adopt (i := i) (o := .list (xs ++ ys)) ⟨(r.apart hT).own, (r.apart hT).live⟩ hi hg ⟨_, _, rfl, by rw [List.toList_toArray]; exact (lr.append lr2).mono (Rho.le_upd (r.free i hi))⟩
  exact q (.ref i) _ _ _ _ l2 r2 ⟨_, by simp [Rho.upd], rfl⟩ h
theorem wc_str_int {wd : Nat} (hw : Width wd) (h : K (T false (nm wd)) σ) : WC false w B env A (.type "str") [.int wd] σ K := by
  rintro fm ρ s ys Q E O r hv q
  obtain ⟨y, rfl, ⟨t, hy⟩⟩ := LR.one hv
  subst hy
  refine wpG_of (P.str_of_int (by rcases hw with rfl | rfl | rfl | rfl | rfl | rfl <;> decide) ?_)
  have e : Str.ofString (toString ((wd : Nat) : Int)) = ⟨(nm wd).toArray⟩ := by rcases hw with rfl | rfl | rfl | rfl | rfl | rfl <;> decide
  refine q (T false (nm wd)) σ ρ _ _ ρ.le_refl (r.tok _) ⟨s.toks, ?_⟩ h
  exact congrArg (fun z => Value.str z s.toks) e
theorem wc_encode {l : List Nat} (hl : Asc l) (h2 : 2 ≤ l.length) (hz : l.length ≤ 900) (h : K (T true l) σ) : WC false w B env A (.builtin "str.encode") [T false l] σ K := by
  rintro fm ρ s ys Q E O r hv q
  obtain ⟨y, rfl, ⟨t, hy⟩⟩ := LR.one hv
  subst hy
  have e : (⟨l.toArray⟩ : Str).length = l.length := by simp [Str.length]
  refine wpG_of (call_encode (by intro c hc; exact hl c hc) (by rw [e]; exact h2) (by rw [e]; exact hz) ?_)
  refine q (T true l) σ ρ _ _ ρ.le_refl (r.tok _) ⟨s.toks, ?_⟩ h
  simp
theorem op_ne_bool {a b : Bool} (h : K (.bool (!(a == b))) σ) : W2 false w B env A (compareOp .NotEq) VR (.bool a) (.bool b) σ K := by
  rintro fm ρ s _ _ Q E O r rfl rfl q
  exact wpG_of (PySem.EqBoolInt.of_rcne (SeqAt.RcNeAt.bool_bool a b) (q _ σ ρ _ s ρ.le_refl r vbool h))

theorem call_bytes_rpartition0 {prog : Program} {E : Value → Shared → Prop} {b : Array UInt8} {t u : Tok} {Q : Value → Shared → Prop} (hi : (cuts (nums b) 0).getLast? = none)
    (h : ∀ t1 tk, Q (.ref s.heap.objs.size) { s with heap := s.heap.push { cls := .type "tuple", data := .seq #[.bytes #[] t1, .bytes #[] t1, .bytes b t] }, toks := tk }) :
    wpAny (model prog w) A (call (.builtin "bytes.rpartition") [.bytes b t, .bytes #[47] u]) Q E s := by
  refine wpAny_call_entry BY.slot_rpartition (typeIs_bytes s b t) BY.entry_rpartition ?_ (BY.args_rpartition _ _)
  unfold Builtin.«bytes.rpartition» Bytes.partitionM
  dsimp only
  refine wpAny_bind (wpAny_pure ?_)
  dsimp only
  refine wpAny_bind (wpAny_of_eq KBy.buffer_eq ?_)
  dsimp only
  refine bm_if_false rfl ?_
  refine wpAny_bind (wpAny_of_eq (rfl : Bytes.payload (.bytes b t) = pure b) ?_)
  rw [if_pos rfl, rfind_bytes, hi]
  dsimp only
  refine wpAny_bind (wpAny_rule ?_)
  rw [if_pos (by decide)]
  refine wpAny_bind (wpAny_pure ?_)
  refine wpAny_bind ?_
  show wpAny _ _ (mkBytes #[]) _ _ _
  refine wpAny_mkBytes ?_ (by decide)
  refine wpAny_bind (wpAny_pure ?_)
  rw [if_pos rfl]
  refine wpAny_bind (wpAny_newObj_type ?_ (by show 3 ≤ sizeLine; decide))
  exact wpAny_pure ⟨_, rfl, h _ _⟩
/- a text without the sign is cut -/
theorem wc_rpart0 {f : Bool} {i : Nat} {m : List Nat} (hi : σ.free i) (hm : NoSep m) (ha : Asc m) (hz : m.length ≤ 900) (h : K (.ref i) (σ.new i (.tuple [T f [], T f [], T f m]))) :
    WC false w B env A (.builtin (idRpart f)) [T f m, T f [47]] σ K := by
  rintro fm ρ s ys Q E O r hv q
  have hlast : (cuts m 0).getLast? = none := by rw [cuts_free hm]; rfl
  cases f with
  | false =>
    obtain ⟨y0, y1, rfl, ⟨t, rfl⟩, ⟨u, rfl⟩⟩ := LR.two hv
    refine wpG_of (call_meets F.slot_str_rpartition (typeIs_str _ _ _) F.entry_str_rpartition (F.args_str_rpartition_2 _ _) (meets_str_rpartition _ sepS t u (by decide) (Nat.le_trans (m := 900) (by simpa [Str.length] using hz) (by decide))) ?_)
    have hl : lastOccurrence (⟨m.toArray⟩ : Str) sepS 0 (⟨m.toArray⟩ : Str).length = none := by
      rw [last_str]; simpa using hlast
    rw [hl]
    obtain ⟨h1, h2, h3⟩ := r.push (i := i) (o := .tuple [T false [], T false [], T false m]) (s.toks + 1) hi
      (ob := { cls := .type "tuple", data := .seq [.str Str.empty s.toks, .str Str.empty s.toks, .str ⟨m.toArray⟩ t].toArray }) rfl ⟨_, _, rfl, ⟨_, rfl⟩, ⟨_, rfl⟩, ⟨_, rfl⟩, trivial⟩
    exact q _ _ _ _ _ h1 h2 h3 h
  | true =>
    obtain ⟨y0, y1, rfl, ⟨t, rfl⟩, ⟨u, rfl⟩⟩ := LR.two hv
    have hnum := nums_T ha
    refine wpG_of (call_bytes_rpartition0 (by rw [hnum]; exact hlast) fun t1 tk => ?_)
    obtain ⟨h1, h2, h3⟩ := r.push (i := i) (o := .tuple [T true [], T true [], T true m]) tk hi
      (ob := { cls := .type "tuple", data := .seq #[.bytes #[] t1, .bytes #[] t1, .bytes (m.map Nat.toUInt8).toArray t] }) rfl ⟨_, _, rfl, ⟨_, rfl⟩, ⟨_, rfl⟩, ⟨_, rfl⟩, trivial⟩
    exact q _ _ _ _ _ h1 h2 h3 h

-- lists of lists of texts
theorem eqAt_T {f : Bool} {l : List Nat} {A : Around} {x y : Value} {ρ ρ' : Rho} (hx : VR ρ (T f l) x) (hy : VR ρ' (T f l) y) : SeqAt.EqAt A s x y true := by
  cases f with
  | false =>
    obtain ⟨t, rfl⟩ := hx
    obtain ⟨u, rfl⟩ := hy
    have := SeqAt.EqAt.str_str (A := A) (s := s) ⟨l.toArray⟩ t ⟨l.toArray⟩ u
    rw [show ((⟨l.toArray⟩ : Str) == ⟨l.toArray⟩) = true from beq_self_eq_true _] at this
    exact this
  | true =>
    obtain ⟨t, rfl⟩ := hx
    obtain ⟨u, rfl⟩ := hy
    intro prog w E Q h
    exact eqBool_bytes (by rw [beq_self_eq_true]; exact h)
theorem lr_idx {vs : List V} {xs : Array Value} (h : LR ρ vs xs.toList) {j : Nat} (hj : j < xs.size) : ∃ v, vs[j]? = some v ∧ VR ρ v xs[j] := by
  have hl := h.length
  have hjv : j < vs.length := by rw [hl, Array.length_toList]; exact hj
  obtain ⟨x, hx, hv⟩ := h.get (List.getElem?_eq_getElem hjv)
  rw [Array.getElem?_toList, Array.getElem?_eq_getElem hj] at hx
  cases hx
  exact ⟨_, List.getElem?_eq_getElem hjv, hv⟩
/- two lists of lists of texts that are the same -/
theorem op_ne_rows {f : Bool} {n j k : Nat} {rows : List (List (List Nat))} {is js : List Nat} (hA : AOk n A) (hj : σ.obj j = some (.list (is.map V.ref))) (hk : σ.obj k = some (.list (js.map V.ref))) (hi : is.length = rows.length) (hjl : js.length = rows.length)
    (h1 : ∀ (t i : Nat) (l : List (List Nat)), is[t]? = some i → rows[t]? = some l → σ.obj i = some (.list (l.map (T f)))) (h2 : ∀ (t i : Nat) (l : List (List Nat)), js[t]? = some i → rows[t]? = some l → σ.obj i = some (.list (l.map (T f)))) (hne : ∀ (t i i' : Nat), is[t]? = some i → js[t]? = some i' → i ≠ i')
    (h : K (.bool false) σ) : W2 false w B env A (compareOp .NotEq) VR (.ref j) (.ref k) σ K := by
  rintro fm ρ s x y Q E O r hx hy q
  obtain ⟨a, vs, rfl, e, hl, lr⟩ := r.list hj hx
  obtain ⟨b, us, rfl, e2, hl2, lr2⟩ := r.list hk hy
  have z1 : vs.size = rows.length := by rw [← Array.length_toList, ← lr.length, List.length_map, hi]
  have z2 : us.size = rows.length := by rw [← Array.length_toList, ← lr2.length, List.length_map, hjl]
  have hu : A.units < cLine := by have := hA.units; lia
  have key : ∀ t (g1 : t < vs.size) (g2 : t < us.size), SeqAt.EqAt A.in1 s vs[t] us[t] true := by
    intro t g1 g2
    obtain ⟨v, hv, vr⟩ := lr_idx lr g1
    obtain ⟨u, hu', ur⟩ := lr_idx lr2 g2
    rw [List.getElem?_map] at hv hu'
    cases q1 : is[t]? with
    | none => rw [q1] at hv; cases hv
    | some i =>
    cases q2 : js[t]? with
    | none => rw [q2] at hu'; cases hu'
    | some i' =>
      rw [q1] at hv; cases hv
      rw [q2] at hu'; cases hu'
      have ht : t < rows.length := by lia
      have hrow := List.getElem?_eq_getElem ht
      obtain ⟨p1, vs1, x1, y1, hl1, lr1⟩ := r.list (h1 t i _ q1 hrow) vr
      obtain ⟨p2, us1, x2, y2, hl3, lr3⟩ := r.list (h2 t i' _ q2 hrow) ur
      rw [x1, x2]
      have hpp : p1 ≠ p2 := fun hp => hne t i i' q1 q2 (r.inj i i' p1 (by rw [h1 t i _ q1 hrow]; exact Option.some_ne_none _) (by rw [h2 t i' _ q2 hrow]; exact Option.some_ne_none _) y1 (hp ▸ y2))
      refine SeqAt.EqAt.of_refs hpp ?_
      have hs : vs1.size = us1.size := by rw [← Array.length_toList, ← Array.length_toList, ← lr1.length, ← lr3.length]
      have := SeqAt.RcAt.lists (A := A.in1) (e := fun _ => true) hl1 hl3 hs (by show A.units + 1 < cLine; have := hA.units; lia) fun c g3 g4 => by
        obtain ⟨v, hv, vr⟩ := lr_idx lr1 g3
        obtain ⟨u, hu', ur⟩ := lr_idx lr3 g4
        rw [hv] at hu'; cases hu'
        rw [List.getElem?_map] at hv
        cases q3 : (rows[t])[c]? with
        | none => rw [q3] at hv; cases hv
        | some l =>
          rw [q3] at hv; cases hv
          exact eqAt_T vr ur
      have ea : (List.range vs1.size).all (fun _ => true) = true := by simp
      rw [ea] at this
      exact this
  have := SeqAt.RcNeAt.lists (A := A) (e := fun _ => true) hl hl2 (z1.trans z2.symm) hu key
  have ea : (!(List.range vs.size).all (fun _ => true)) = false := by simp
  rw [ea] at this
  exact wpG_of (PySem.EqBoolInt.of_rcne this (q (.bool false) σ ρ _ s ρ.le_refl r vbool h))
end
end Mine
end
section
set_option maxRecDepth 100000
set_option autoImplicit false
namespace Mine
open PySem PySem.Calls PySem.Spec PyProof.Rows PySem.W

-- where the octets go
theorem bs_get {w p : Nat} {d : List UInt8} (hp : p < 12) : (bs w d).getD p 0 = d.getD (rev w p) 0 := by simp [bs, hp]
theorem list12 {a b : List UInt8} (ha : a.length = 12) (hb : b.length = 12) (h : ∀ p, p < 12 → a.getD p 0 = b.getD p 0) : a = b := by
  refine List.ext_getElem (ha.trans hb.symm) fun i h1 h2 => ?_
  have := h i (by lia)
  simpa [h1, h2] using this
theorem turn_snoc (ws : List Nat) (w : Nat) (d : List UInt8) : turn (ws ++ [w]) d = bs w (turn ws d) := by unfold turn; rw [List.foldl_append]; rfl
theorem turn_append (a b : List Nat) (d : List UInt8) : turn (a ++ b) d = turn b (turn a d) := by unfold turn; rw [List.foldl_append]
theorem turn_get : ∀ (n : Nat) (ws : List Nat) (d : List UInt8) (p : Nat), ws.length = n → Widths ws → p < 12 → (turn ws d).getD p 0 = d.getD (back ws.reverse p) 0
  | 0, ws, d, p, hn, _, _ => by rw [List.length_eq_zero_iff.mp hn]; rfl
  | n + 1, ws, d, p, hn, hw, hp => by
    rcases List.eq_nil_or_concat ws with rfl | ⟨ws', w, rfl⟩
    · simp at hn
    · rw [List.concat_eq_append] at *
      have hww : Width w := hw w (List.mem_append_right _ (.head _))
      rw [turn_snoc, bs_get hp, turn_get n ws' d (rev w p) (by simpa using hn) (fun x hx => hw x (List.mem_append_left _ hx)) (hww.rev_lt hp), List.reverse_append]
      rfl
theorem told_is {ws : List Nat} {d : List UInt8} (hw : Widths ws) (hd : d.length = 12) : told ws d = turn ws d := by
  refine list12 (by simp [told]) (turn_length _ _ hd) fun p hp => ?_
  rw [turn_get _ ws d p rfl hw hp]
  simp [told, hp]
theorem rev_rev {w p : Nat} (hw : Width w) (hp : p < 12) : rev w (rev w p) = p := of_decide_eq_true (fin12 (P := fun w p => decide (rev w (rev w p) = p)) (by decide +kernel) hw hp)
theorem bs_bs {w : Nat} {d : List UInt8} (hw : Width w) (hd : d.length = 12) : bs w (bs w d) = d := by
  refine list12 (bs_length _ _) hd fun p hp => ?_
  rw [bs_get hp, bs_get (hw.rev_lt hp), rev_rev hw hp]
theorem turn_back : ∀ (n : Nat) (ws : List Nat) (d : List UInt8), ws.length = n → Widths ws → d.length = 12 → turn ws.reverse (turn ws d) = d
  | 0, ws, d, hn, _, _ => by rw [List.length_eq_zero_iff.mp hn]; rfl
  | n + 1, ws, d, hn, hw, hd => by
    rcases List.eq_nil_or_concat ws with rfl | ⟨ws', w, rfl⟩
    · rfl
    · rw [List.concat_eq_append] at *
      have hww : Width w := hw w (List.mem_append_right _ (.head _))
      rw [turn_snoc, List.reverse_append]
      show turn ws'.reverse (bs w (bs w (turn ws' d))) = d
      rw [bs_bs hww (turn_length _ _ hd)]
      exact turn_back n ws' d (by simpa using hn) (fun x hx => hw x (List.mem_append_left _ hx)) hd

/- one width divides the other -/
noncomputable def dv (a b : Nat) : Bool := b % a == 0 || a % b == 0
theorem all12 {P : Nat → Bool} (h : (List.range 12).all P = true) : ∀ p, p < 12 → P p = true := fun p hp => List.all_eq_true.mp h p (List.mem_range.mpr hp)
theorem dv_comm {a b : Nat} (ha : Width a) (hb : Width b) (h : dv a b = true) : ∀ p, p < 12 → rev a (rev b p) = rev b (rev a p) := by
  have key : (List.range 12).all (fun p => rev a (rev b p) == rev b (rev a p)) = true := by
    rcases ha with rfl | rfl | rfl | rfl | rfl | rfl <;> rcases hb with rfl | rfl | rfl | rfl | rfl | rfl <;> first | rfl | exact absurd h (by decide)
  intro p hp
  have := all12 key p hp
  simpa using this
theorem bs_comm {a b : Nat} {d : List UInt8} (ha : Width a) (hb : Width b) (h : dv a b = true) : bs a (bs b d) = bs b (bs a d) := by
  refine list12 (bs_length _ _) (bs_length _ _) fun p hp => ?_
  rw [bs_get hp, bs_get (ha.rev_lt hp), bs_get hp, bs_get (hb.rev_lt hp), dv_comm ha hb h p hp]
/- where two that do not divide part -/
theorem dv_part {a b : Nat} (ha : Width a) (hb : Width b) (h : dv a b = false) : ∃ p, p < 12 ∧ rev a (rev b p) ≠ rev b (rev a p) := by
  have key : (List.range 12).any (fun p => rev a (rev b p) != rev b (rev a p)) = true := by
    rcases ha with rfl | rfl | rfl | rfl | rfl | rfl <;> rcases hb with rfl | rfl | rfl | rfl | rfl | rfl <;> first | rfl | exact absurd h (by decide)
  obtain ⟨p, hp, hq⟩ := List.any_eq_true.mp key
  exact ⟨p, List.mem_range.mp hp, by simpa using hq⟩
/- twelve unlike octets -/
noncomputable def Unlike (d : List UInt8) : Prop := d.length = 12 ∧ ∀ p q, p < 12 → q < 12 → d.getD p 0 = d.getD q 0 → p = q
theorem swap_iff {a b : Nat} {d : List UInt8} (ha : Width a) (hb : Width b) (hd : Unlike d) : (turn [a, b] d == turn [b, a] d) = dv a b := by
  cases h : dv a b with
  | true =>
    have : turn [a, b] d = turn [b, a] d := (bs_comm hb ha (by unfold dv at h ⊢; rw [Bool.or_comm]; exact h))
    rw [this]; exact beq_self_eq_true _
  | false =>
    refine beq_eq_false_iff_ne.mpr fun e => ?_
    obtain ⟨p, hp, hq⟩ := dv_part ha hb h
    have e1 := congrArg (fun l => List.getD l p 0) e
    have e2 : (bs b (bs a d)).getD p 0 = (bs a (bs b d)).getD p 0 := e1
    rw [bs_get hp, bs_get (hb.rev_lt hp), bs_get hp, bs_get (ha.rev_lt hp)] at e2
    exact hq (hd.2 _ _ (ha.rev_lt (hb.rev_lt hp)) (hb.rev_lt (ha.rev_lt hp)) e2)

-- the sorter's order
noncomputable def Hof (w : Nat → Nat) (k : Nat) : List Nat := (List.range k).filter fun j => w k % w j != 0 && w j % w k != 0
noncomputable def mx (l : List Nat) : Nat := l.foldl max 0
theorem mx_from : ∀ (l : List Nat) (a : Nat), a ≤ l.foldl max a ∧ (∀ x ∈ l, x ≤ l.foldl max a) ∧ (l.foldl max a = a ∨ l.foldl max a ∈ l)
  | [], a => ⟨Nat.le_refl _, fun x hx => (by cases hx), .inl rfl⟩
  | x :: l, a => by
    obtain ⟨h1, h2, h3⟩ := mx_from l (max a x)
    refine ⟨Nat.le_trans (Nat.le_max_left ..) h1, fun y hy => ?_, ?_⟩
    · rcases List.mem_cons.mp hy with rfl | hy
      · exact Nat.le_trans (Nat.le_max_right ..) h1
      · exact h2 y hy
    · show l.foldl max (max a x) = a ∨ l.foldl max (max a x) ∈ x :: l
      rcases h3 with h3 | h3
      · rw [h3]
        rcases Nat.le_total a x with h | h
        · rw [Nat.max_eq_right h]; exact .inr (.head _)
        · rw [Nat.max_eq_left h]; exact .inl rfl
      · exact .inr (.tail _ h3)
theorem le_mx {l : List Nat} {x : Nat} (h : x ∈ l) : x ≤ mx l := (mx_from l 0).2.1 x h
theorem mx_mem {l : List Nat} (h : mx l ≠ 0) : mx l ∈ l := (mx_from l 0).2.2.resolve_left h
noncomputable def levs (H : Nat → List Nat) : Nat → List Nat
  | 0 => []
  | k + 1 => levs H k ++ [mx ((H k).map fun j => (levs H k).getD j 0 + 1)]
theorem levs_len {H : Nat → List Nat} : ∀ k, (levs H k).length = k
  | 0 => rfl
  | k + 1 => by rw [levs, List.length_append, levs_len k]; rfl
theorem levs_at {H : Nat → List Nat} {j : Nat} : ∀ {k : Nat}, j < k → (levs H k).getD j 0 = (levs H (j + 1)).getD j 0
  | 0, h => absurd h (Nat.not_lt_zero _)
  | k + 1, h => by
    by_cases hjk : j = k
    · rw [hjk]
    · have hlt : j < k := by lia
      rw [← levs_at hlt]
      show (levs H k ++ [_]).getD j 0 = _
      rw [List.getD_eq_getElem?_getD, List.getElem?_append_left (by rw [levs_len]; exact hlt), ← List.getD_eq_getElem?_getD]
noncomputable def lvOf (H : Nat → List Nat) (k : Nat) : Nat := (levs H 6).getD k 0
theorem lvOf_at {H : Nat → List Nat} {j k : Nat} (h : j < k) (hk : k ≤ 6) : (levs H k).getD j 0 = lvOf H j := by
  unfold lvOf; rw [levs_at h, levs_at (k := 6) (by lia)]
theorem lvOf_is {H : Nat → List Nat} {k : Nat} (hk : k < 6) (hH : ∀ j ∈ H k, j < k) : lvOf H k = mx ((H k).map fun j => lvOf H j + 1) := by
  rw [← lvOf_at (k := k + 1) (by lia) (by lia)]
  show (levs H k ++ [_]).getD k 0 = _
  rw [List.getD_eq_getElem?_getD, List.getElem?_append_right (by rw [levs_len]; exact Nat.le_refl _), levs_len, Nat.sub_self]
  show mx _ = _
  congr 1
  refine List.map_congr_left fun j hj => ?_
  rw [lvOf_at (hH j hj) (by lia)]
theorem Hof_lt {w : Nat → Nat} {j k : Nat} (h : j ∈ Hof w k) : j < k := List.mem_range.mp (List.mem_filter.mp h).1
theorem Lev.ofH (w : Nat → Nat) : Lev (Hof w) (lvOf (Hof w)) where
  nodup := fun k => List.nodup_range.filter _
  lt := fun k _ j hj => Hof_lt hj
  lower := fun k hk j hj => by
    rw [lvOf_is hk fun j hj => Hof_lt hj]
    exact le_mx (List.mem_map.mpr ⟨j, hj, rfl⟩)
  next := fun k hk m hm => by
    rw [lvOf_is hk fun j hj => Hof_lt hj] at hm
    have h0 := mx_mem (l := (Hof w k).map fun j => lvOf (Hof w) j + 1) (by lia)
    obtain ⟨j, hj, e⟩ := List.mem_map.mp h0
    exact ⟨j, hj, by lia⟩
noncomputable def Nof (H : Nat → List Nat) : Nat := mx (levs H 6) + 1
theorem lev_mem {H : Nat → List Nat} {k : Nat} (hk : k < 6) : lvOf H k ∈ levs H 6 := by
  unfold lvOf
  have hl := levs_len (H := H) 6
  rw [List.getD_eq_getElem?_getD, List.getElem?_eq_getElem (by lia)]
  exact List.getElem_mem _
theorem mem_lev {H : Nat → List Nat} {x : Nat} (hx : x ∈ levs H 6) : ∃ k, k < 6 ∧ lvOf H k = x := by
  obtain ⟨k, hk, e⟩ := List.mem_iff_getElem.mp hx
  rw [levs_len] at hk
  refine ⟨k, hk, ?_⟩
  unfold lvOf
  rw [List.getD_eq_getElem?_getD, List.getElem?_eq_getElem (by rw [levs_len]; exact hk), e]; rfl
theorem Lev.down {Hd : Nat → List Nat} {lev : Nat → Nat} (L : Lev Hd lev) : ∀ (n k : Nat), k < 6 → n ≤ lev k → ∃ k', k' < 6 ∧ lev k' = lev k - n
  | 0, k, hk, _ => ⟨k, hk, rfl⟩
  | n + 1, k, hk, hn => by
    obtain ⟨k', h1, h2⟩ := L.down n k hk (by lia)
    obtain ⟨j, h3, h4⟩ := L.next k' h1 (lev k - n - 1) (by lia)
    exact ⟨j, Nat.lt_trans (L.lt k' h1 j h3) h1, by lia⟩
theorem Nof_iff (w : Nat → Nat) (t : Nat) : t < Nof (Hof w) ↔ ∃ k, k < 6 ∧ lvOf (Hof w) k = t := by
  constructor
  · intro h
    by_cases h0 : mx (levs (Hof w) 6) = 0
    · have : t = 0 := by unfold Nof at h; lia
      have h1 := le_mx (lev_mem (H := Hof w) (k := 0) (by decide))
      exact ⟨0, by decide, by lia⟩
    · obtain ⟨k, hk, e⟩ := mem_lev (mx_mem h0)
      obtain ⟨k', h1, h2⟩ := (Lev.ofH w).down (lvOf (Hof w) k - t) k hk (by lia)
      unfold Nof at h
      exact ⟨k', h1, by lia⟩
  · rintro ⟨k, hk, rfl⟩
    have := le_mx (lev_mem (H := Hof w) hk)
    unfold Nof; lia
theorem lev_le (w : Nat → Nat) : ∀ (n k : Nat), k ≤ n → k < 6 → lvOf (Hof w) k ≤ k
  | n, k, hn, hk => by
    induction n generalizing k with
    | zero =>
      have hk0 : k = 0 := by lia
      subst hk0
      rw [lvOf_is hk fun j hj => Hof_lt hj]
      show mx [] ≤ 0
      exact Nat.le_refl _
    | succ n ih =>
      rw [lvOf_is hk fun j hj => Hof_lt hj]
      by_cases h0 : mx ((Hof w k).map fun j => lvOf (Hof w) j + 1) = 0
      · lia
      · obtain ⟨j, hj, e⟩ := List.mem_map.mp (mx_mem h0)
        have := Hof_lt hj
        have := ih j (by lia) (by lia)
        lia
theorem Nof_le (w : Nat → Nat) : Nof (Hof w) ≤ 6 := by
  unfold Nof
  by_cases h0 : mx (levs (Hof w) 6) = 0
  · lia
  · obtain ⟨k, hk, e⟩ := mem_lev (mx_mem h0)
    have := lev_le w k k (Nat.le_refl _) hk
    lia

-- the heads' last names, round by round
theorem turn_over {w : Nat → Nat} {m : Nat} (hw : ∀ k, Width (w k)) : ∀ (Y : List Nat) (d : List UInt8), (∀ y ∈ Y, dv (w m) (w y) = true) → turn (Y.map w) (bs (w m) d) = bs (w m) (turn (Y.map w) d)
  | [], _, _ => rfl
  | y :: Y, d, h => by
    show turn (Y.map w) (bs (w y) (bs (w m) d)) = bs (w m) (turn (Y.map w) (bs (w y) d))
    rw [← bs_comm (hw m) (hw y) (h y (.head _)), turn_over hw Y _ fun z hz => h z (.tail _ hz)]
theorem turn_move {w : Nat → Nat} {m : Nat} {X Y : List Nat} {d : List UInt8} (hw : ∀ k, Width (w k)) (h : ∀ y ∈ Y, dv (w m) (w y) = true) : turn ((X ++ m :: Y).map w) d = bs (w m) (turn ((X ++ Y).map w) d) := by
  rw [List.map_append, List.map_cons, turn_append, List.map_append, turn_append]
  exact turn_over hw Y _ h
/- the nodes below m, round by round, each round as g lays it -/
noncomputable def laid (g : List Nat → List Nat) (lev : Nat → Nat) (N m : Nat) : List Nat := (List.range N).flatMap fun t => g ((List.range m).filter fun k => lev k == t)
theorem laid_split {g : List Nat → List Nat} {lev : Nat → Nat} {N m t : Nat} (ht : t < N) : laid g lev N m = (List.range t).flatMap (fun t => g ((List.range m).filter fun k => lev k == t)) ++ (g ((List.range m).filter fun k => lev k == t) ++
    (List.range' (t + 1) (N - (t + 1))).flatMap fun t => g ((List.range m).filter fun k => lev k == t)) := by
  unfold laid
  have e : List.range N = List.range t ++ (t :: List.range' (t + 1) (N - (t + 1))) := by
    rw [List.range_eq_range', List.range_eq_range']
    have h1 : List.range' 0 N = List.range' 0 t ++ List.range' t (N - t) := by
      have := List.range'_append (s := 0) (m := t) (n := N - t) (step := 1)
      rw [Nat.one_mul, Nat.zero_add] at this
      rw [this]; congr 1; lia
    rw [h1]
    congr 1
    have h2 : N - t = (N - (t + 1)) + 1 := by lia
    rw [h2, List.range'_succ]
  rw [e, List.flatMap_append, List.flatMap_cons]
theorem laid_same {g : List Nat → List Nat} {lev : Nat → Nat} {m : Nat} (ts : List Nat) (h : ∀ t ∈ ts, lev m ≠ t) : (ts.flatMap fun t => g ((List.range (m + 1)).filter fun k => lev k == t)) = ts.flatMap fun t => g ((List.range m).filter fun k => lev k == t) := by
  induction ts with
  | nil => rfl
  | cons t ts ih =>
    rw [List.flatMap_cons, List.flatMap_cons, ih fun u hu => h u (.tail _ hu)]
    congr 2
    rw [List.range_succ, List.filter_append]
    have := h t (.head _)
    simp [this]
theorem mem_rest {g : List Nat → List Nat} {lev : Nat → Nat} {m y a b : Nat} (hg : ∀ l x, x ∈ g l → x ∈ l) (h : y ∈ (List.range' a b).flatMap fun t => g ((List.range m).filter fun k => lev k == t)) : y < m ∧ a ≤ lev y := by
  obtain ⟨t, ht, hy⟩ := List.mem_flatMap.mp h
  obtain ⟨h1, h2⟩ := List.mem_filter.mp (hg _ _ hy)
  have h3 := List.mem_range'_1.mp ht
  have h4 : lev y = t := by simpa using h2
  exact ⟨List.mem_range.mp h1, by lia⟩
theorem turn_laid {w : Nat → Nat} {lev : Nat → Nat} {N : Nat} {g : List Nat → List Nat} (hw : ∀ k, Width (w k)) (hg : ∀ l x, x ∈ g l → x ∈ l) (hs : ∀ l m, ∃ X Y, g (l ++ [m]) = X ++ m :: Y ∧ g l = X ++ Y) (hg0 : g [] = [])
    (hlev : ∀ k, k < 6 → lev k < N) (hc : ∀ m y, m < 6 → y < m → lev m ≤ lev y → dv (w m) (w y) = true) (d : List UInt8) : ∀ m, m ≤ 6 → turn ((laid g lev N m).map w) d = turn ((List.range m).map w) d
  | 0, _ => by
    have : laid g lev N 0 = [] := by
      unfold laid
      rw [List.flatMap_eq_nil_iff]
      intro t _
      simpa using hg0
    rw [this]; rfl
  | m + 1, hm => by
    have ih := turn_laid hw hg hs hg0 hlev hc d m (by lia)
    have ht := hlev m (by lia)
    rw [laid_split ht, laid_same (List.range (lev m)) (fun t h => by have := List.mem_range.mp h; lia), laid_same (List.range' (lev m + 1) (N - (lev m + 1))) (fun t h => by have := (List.mem_range'_1.mp h).1; lia)]
    have e1 : (List.range (m + 1)).filter (fun k => lev k == lev m) = (List.range m).filter (fun k => lev k == lev m) ++ [m] := by
      rw [List.range_succ, List.filter_append]; simp
    obtain ⟨X, Y, h1, h2⟩ := hs ((List.range m).filter fun k => lev k == lev m) m
    rw [laid_split ht, h2] at ih
    rw [e1, h1]
    have e2 : ∀ (P C : List Nat), P ++ (X ++ m :: Y ++ C) = (P ++ X) ++ m :: (Y ++ C) := fun P C => by simp
    rw [e2, turn_move hw ?_]
    · have e3 : ∀ (P C : List Nat), P ++ X ++ (Y ++ C) = P ++ (X ++ Y ++ C) := fun P C => by simp
      rw [e3, ih, List.range_succ, List.map_append]
      exact (turn_snoc _ _ _).symm
    · intro y hy
      rcases List.mem_append.mp hy with hy | hy
      · have : y ∈ g ((List.range m).filter fun k => lev k == lev m) := by rw [h2]; exact List.mem_append_right _ hy
        obtain ⟨g1, g2⟩ := List.mem_filter.mp (hg _ _ this)
        have g3 : lev y = lev m := by simpa using g2
        exact hc m y (by lia) (List.mem_range.mp g1) (by lia)
      · obtain ⟨g1, g2⟩ := mem_rest hg hy
        exact hc m y (by lia) g1 (by lia)
theorem Hof_dv {w : Nat → Nat} {m y : Nat} (hm : m < 6) (hy : y < m) (h : lvOf (Hof w) m ≤ lvOf (Hof w) y) : dv (w m) (w y) = true := by
  cases e : dv (w m) (w y) with
  | true => rfl
  | false =>
    have : y ∈ Hof w m := by
      unfold dv at e
      rw [Bool.or_eq_false_iff] at e
      refine List.mem_filter.mpr ⟨List.mem_range.mpr hy, ?_⟩
      simp only [bne, e.1, e.2]; rfl
    have := (Lev.ofH w).lower m hm y this
    lia
theorem turn_forth {w : Nat → Nat} (hw : ∀ k, Width (w k)) (d : List UInt8) : turn ((laid id (lvOf (Hof w)) (Nof (Hof w)) 6).map w) d = turn ((List.range 6).map w) d :=
  turn_laid hw (fun l x h => h) (fun l m => ⟨l, [], rfl, by simp⟩) rfl (fun k hk => (Nof_iff w _).mpr ⟨k, hk, rfl⟩) (fun m y hm hy h => Hof_dv hm hy h) d 6 (Nat.le_refl _)
theorem turn_aback {w : Nat → Nat} (hw : ∀ k, Width (w k)) (d : List UInt8) : turn ((laid List.reverse (lvOf (Hof w)) (Nof (Hof w)) 6).map w) d = turn ((List.range 6).map w) d :=
  turn_laid hw (fun l x h => List.mem_reverse.mp h) (fun l m => ⟨[], l.reverse, by simp, by simp⟩) rfl (fun k hk => (Nof_iff w _).mpr ⟨k, hk, rfl⟩) (fun m y hm hy h => Hof_dv hm hy h) d 6 (Nat.le_refl _)
end Mine
end
section
set_option maxRecDepth 100000
set_option autoImplicit false
namespace Mine
open PySem PySem.Calls PySem.Spec PyProof.Rows PySem.W

theorem pick_map {α β : Type} (g : α → β) (xs : List α) (lo hi st : Option Int) : pick (xs.map g) lo hi st = (pick xs lo hi st).map g := by
  unfold pick
  rw [List.length_map, List.map_filterMap]
  congr 1
  funext j
  rw [List.getElem?_map]
theorem pick_len {α : Type} (xs : List α) (lo hi st : Option Int) : True := trivial
theorem lr_ints {ρ : Rho} {vs : List Value} {ns : List Int} (h : IntsAre vs ns) : LR ρ (ns.map V.int) vs := by
  induction h with
  | nil => exact trivial
  | cons n t _ ih => exact ⟨⟨t, rfl⟩, ih⟩
/- the script: a list of ints that stands in the base -/
structure Scr (B : Heap) (sa : Addr) (ns : List Int) : Prop where
  list : ∃ vs : Array Value, B.IsList sa vs ∧ IntsAre vs.toList ns
  len : ns.length ≤ 63
section
variable {g : Bool} {w : World} {B : Heap} {env : Env} {A : Around} {σ : St} {K : V → St → Prop} {pos px apos : Pos}
theorem we_slice_base {value : Expr} {lo hi st : Option Expr} {sa : Addr} {ns : List Int} (S : Scr B sa ns) (h : WE false w B env A value σ fun o σ₁ => WO false w B env A lo σ₁ fun l σ₂ => WO false w B env A hi σ₂ fun u σ₃ => WO false w B env A st σ₃ fun k σ₄ =>
      ∃ i, o = .raw (.ref sa) ∧ k ≠ some 0 ∧ σ₄.free i ∧ K (.ref i) (σ₄.new i (.list ((pick ns l u k).map V.int))))
    (hs : ∃ f : Value → Value → List Value, ∀ o i, subscripted (.Slice lo hi st px) false o i = operate (f o i) (getItem o i) := by first | exact ⟨fun o i => [o, i], fun _ _ => rfl⟩ | exact ⟨fun o i => [i, o], fun _ _ => rfl⟩) :
    WE g w B env A (.Subscript value (.Slice lo hi st px) pos) σ K := fun fm ρ s Q E O r q => wpG_of <| by
  rw [eval_Subscript]
  refine wpAny_bind (wpG_any (h fm ρ s _ E O r fun o σ₁ ρ₁ a s₁ l₁ r₁ v₁ h₁ => ?_))
  refine wpAny_bind (wpAny_holding ?_)
  rw [arm_eval_Slice]
  refine wpAny_bind (wpG_any (h₁ fm ρ₁ s₁ _ E O r₁ fun pl σ₂ ρ₂ vl s₂ l₂ r₂ v₂ h₂ => ?_))
  refine wpAny_bind (wpAny_holding (wpG_any (h₂ fm ρ₂ s₂ _ E O r₂ fun pu σ₃ ρ₃ vu s₃ l₃ r₃ v₃ h₃ => ?_)))
  refine wpAny_bind (wpAny_holding (wpG_any (h₃ fm ρ₃ s₃ _ E O r₃ fun pk σ₄ ρ₄ vk s₄ l₄ r₄ v₄ h₄ => ?_)))
  obtain ⟨i, rfl, h0, hi', hk⟩ := h₄
  unfold newFields
  refine wpAny_newObj_type ?_ (by size_fits)
  have r₅ := r₄.kept (h' := s₄.heap.push { cls := .type "slice", data := .fields [vl, vu, vk].toArray }) s₄.toks fun b o e => Heap.get?_push_of_some _ e
  obtain ⟨vs, hlB, hI⟩ := S.list
  cases v₁
  have hl : (s₄.heap.push { cls := .type "slice", data := .fields [vl, vu, vk].toArray }).IsList sa vs := by
    obtain ⟨ob, g', r'⟩ := hlB
    exact ⟨ob, r₅.base O _ _ g', r'⟩
  have lr : LR ρ₄ (ns.map V.int) vs.toList := lr_ints hI
  have hT : (Shared.mk (s₄.heap.push { cls := .type "slice", data := .fields [vl, vu, vk].toArray }) s₄.gens s₄.drawn s₄.toks s₄.os).TypeIs (.ref sa) "list" := Heap.IsList.typeIs (s := { s₄ with heap := s₄.heap.push { cls := .type "slice", data := .fields [vl, vu, vk].toArray } }) hl
  refine (wpAny_bind (wpAny_standAt ?_))
  refine wpAny_bind ?_
  rw [getitemInPython_of_ne hT.not_modules]
  refine wpAny_bind (wpAny_specialOf hT list_getitem_lookup ?_)
  refine wpAny_pure ?_
  obtain ⟨f, hs⟩ := hs
  rw [hs]
  have hlen : vs.size = ns.length := by rw [← Array.length_toList]; have := lr.length.symm; simpa using this
  have hz := S.len
  refine wpAny_bind (wpAny_operating (wpAny_getItem_list_slice hl (Heap.IsSliceOf.new ..) v₂ v₃ v₄ h0 ?_ (Nat.le_trans (m := 1000) (by lia) (by decide))))
  refine wpAny_bind (wpAny_letTemporaryGo (wpAny_pure ?_))
  have hp : LR ρ₄ ((pick ns pl pu pk).map V.int) (slicePick vs pl pu pk).toList := by
    have e : (slicePick vs pl pu pk).toList = (sliceRange (sliceBounds pl pu pk ns.length).1 (sliceBounds pl pu pk ns.length).2.1 (sliceBounds pl pu pk ns.length).2.2).filterMap (vs.toList[·]?) := by
      simp [slicePick, hlen]
    rw [e, ← pick_map]
    unfold pick
    rw [List.length_map]
    exact lr.places _
  obtain ⟨h1, h2, h3⟩ := r₅.push (i := i) (o := .list ((pick ns pl pu pk).map V.int)) s₄.toks hi' (ob := { cls := .type "list", data := .seq (slicePick vs pl pu pk) }) rfl ⟨_, _, rfl, hp.mono (Rho.le_upd (r₅.free i hi'))⟩
  exact q _ _ _ _ _ ((((l₁.trans l₂).trans l₃).trans l₄).trans h1) h2 h3 hk
end

noncomputable def lawB (n : Nat) : List Stmt := (dBody (stN 16)).drop n
/- what is free: the ids from lo on below 1200, and those from hi on -/
noncomputable def LF (ob : Nat → Option O) (fr : Nat → Prop) (lo hi : Nat) : Prop := ∀ i, (lo ≤ i ∧ i < 1200) ∨ hi ≤ i → fr i ∧ ob i = none
theorem enum_le {lc : List (Str × V)} {ob : Nat → Option O} {fr : Nat → Prop} {e it t : Nat} {tup l q : O} :
    (⟨lc, pput (pput (pput ob t tup) it l) e q, pfree fr t⟩ : St).le ((((((⟨lc, ob, fr⟩ : St).drop e).drop it).new t tup).put it l).put e q) := by
  refine ⟨fun _ h => h, fun j o h => ?_, fun j h => h⟩
  refine Eq.trans ?_ h
  show (if j = e then some q else if j = it then some l else if j = t then some tup else if j = it then none else if j = e then none else ob j) = (if j = e then some q else if j = it then some l else if j = t then some tup else ob j)
  by_cases h1 : j = e <;> by_cases h2 : j = it <;> by_cases h3 : j = t <;> simp [h1, h2, h3]

section
variable {w : World} {B : Heap} {A : Around} {K : Fl → St → Prop} {L sa : Addr} {ns : List Int}
noncomputable abbrev eL (L : Addr) : Env := callEnvC fdLaw L 186
noncomputable def heads0 : List Int := [1, 2, 5, 3, 4, 1, 5]

set_option maxHeartbeats 2000000 in
theorem law0 {n : Nat} (HB : BaseOk w B) (hA : AOk n A) (S : Scr B sa ns)
    (h : ∀ (cs : List Int) ob fr, cs.length = 7 → ob 1 = some (.list (cs.map V.int)) → LF ob fr 2 2100 → WS true w B (eL L) A (lawB 1) ⟨[("script", .raw (.ref sa)), ("cells", .ref 1)], ob, fr⟩ K) :
    WS true w B (eL L) A (lawB 0) ⟨[("script", .raw (.ref sa))], fun _ => none, fun _ => True⟩ K := by
  refine ws_assign (WT.up (we_compS (cl := [("script", L + 1)]) (we_call HB (we_blt (v := .type "enumerate") HB ⟨_, rfl, kp_type _, wa_cons (we_list ?_)⟩)) ?_ ?_ ?_ ?_)) (.inr ⟨rfl, L + 2, rfl, Nat.lt_add_of_pos_right (by decide)⟩)
  rotate_left
  · rfl
  · intro p hp
    cases List.mem_singleton.mp hp
    exact mem_of_lookup (show (eL L).cells.lookup (Str.ofString "script") = some (L + 1) from rfl)
  · exact fun n => (show ([Str.ofString "script"]).Nodup by decide)
  · decide
  iterate 7 refine wa_cons (we_int ?_)
  refine wa_nil ⟨2000, trivial, by decide, ?_⟩
  refine wa_nil (wc_enumerate (e := 2002) (it := 2001) (li := 2000) (xs := heads0.map V.int) rfl ⟨trivial, by decide⟩ ⟨trivial, by decide⟩ (by decide) ?_)
  refine wp_enum (it := 2001) (k := 0) rfl ?_
  refine ⟨1, [("script", .raw (.ref sa))], ⟨⟨⟨trivial, by decide⟩, by decide⟩, by decide⟩, fun p hp => ?_, fun C => ⟨wp_enum (it := 2001) (k := 0) rfl ⟨rfl, rfl⟩, ?_⟩⟩
  · cases List.mem_singleton.mp hp
    exact ⟨List.mem_cons_self .., (show some NameKind.cell ≠ some NameKind.local by decide), fun C => ⟨(show some NameKind.cell ≠ some NameKind.local by decide), L + 1, rfl, rfl⟩⟩
  refine wcl_oneG (fun m σ' => ∃ k cs lc ob fr, k + m = 7 ∧ cs.length = k ∧ lc.lookup (Str.ofString "script") = some (.raw (.ref sa)) ∧ σ' = ⟨lc, ob, fr⟩ ∧ ob 1 = some (.list (cs.map V.int)) ∧ ob 2000 = some (.list (heads0.map V.int)) ∧ ob 2001 = some (Mine.lit 2000 k) ∧
    ob 2002 = some (.gen [2001] (EnP k)) ∧ LF ob fr 2 (2010 + 2 * k)) 7 ⟨0, [], _, _, _, rfl, rfl, rfl, rfl, rfl, rfl, rfl, rfl, fun i hi => ⟨⟨⟨⟨⟨trivial, by lia⟩, by lia⟩, by lia⟩, by lia⟩, ?_⟩⟩ ?_
  · show (if i = 1 then _ else if i = 2002 then _ else if i = 2001 then _ else if i = 2000 then _ else none) = none
    rw [if_neg (by lia), if_neg (by lia), if_neg (by lia), if_neg (by lia)]
  rintro m σ' Kn hKn jj
  refine ex5 jj fun k cs lc ob fr jk => ?_
  clear jj
  refine and9 jk fun hkm hcs hlc ee3 o1 o2 o3 o4 hF => ?_
  clear jk
  subst ee3
  refine W1.less (wn_enum (t := 2010 + 2 * k) hA o4 o3 o2 (by decide) (by decide) (by decide) (hF _ (by lia)).1 (fun v hv => ⟨_, enum_le, ?_⟩) fun hv => ⟨_, St.le.rfl, ?_⟩)
  · obtain ⟨e, rfl⟩ : ∃ e, v = V.int e := by
      rw [List.getElem?_map] at hv
      cases q : heads0[k]? with
      | none => rw [q] at hv; cases hv
      | some e => rw [q] at hv; cases hv; exact ⟨e, rfl⟩
    have hk7 : k < 7 := by
      have := (List.getElem?_eq_some_iff.mp hv).1
      simpa [heads0] using this
    have b0 : pput (pput (pput ob (2010 + 2 * k) (.tuple [.int (k : Int), .int e])) 2001 (Mine.lit 2000 (k + 1))) 2002 (.gen [2001, 2010 + 2 * k] (EnQ (k + 1))) 2002 = some (.gen [2001, 2010 + 2 * k] (EnQ (k + 1))) := pput_self
    refine wl_enum (e := 2002) (it := 2001) (t := 2010 + 2 * k) (k := k + 1) b0 ?_
    have b1 : pput (pput (pput (pput ob (2010 + 2 * k) (.tuple [.int (k : Int), .int e])) 2001 (Mine.lit 2000 (k + 1))) 2002 (.gen [2001, 2010 + 2 * k] (EnQ (k + 1)))) 2002 (.gen [2001] (EnP (k + 1))) 2002 = some (.gen [2001] (EnP (k + 1))) := pput_self
    have b2 : pput (pput (pput (pput ob (2010 + 2 * k) (.tuple [.int (k : Int), .int e])) 2001 (Mine.lit 2000 (k + 1))) 2002 (.gen [2001, 2010 + 2 * k] (EnQ (k + 1)))) 2002 (.gen [2001] (EnP (k + 1))) 2001 = some (Mine.lit 2000 (k + 1)) := by
      rw [pput_ne (by decide), pput_ne (by decide)]; exact pput_self
    have b3 : pput (pput (pput (pput ob (2010 + 2 * k) (.tuple [.int (k : Int), .int e])) 2001 (Mine.lit 2000 (k + 1))) 2002 (.gen [2001, 2010 + 2 * k] (EnQ (k + 1)))) 2002 (.gen [2001] (EnP (k + 1))) (2010 + 2 * k) = some (.tuple [.int (k : Int), .int e]) := by
      rw [pput_ne (by lia), pput_ne (by lia), pput_ne (by lia)]; exact pput_self
    have b4 : ∀ i, i ≠ 2001 → i ≠ 2002 → i ≠ 2010 + 2 * k → pput (pput (pput (pput ob (2010 + 2 * k) (.tuple [.int (k : Int), .int e])) 2001 (Mine.lit 2000 (k + 1))) 2002 (.gen [2001, 2010 + 2 * k] (EnQ (k + 1)))) 2002 (.gen [2001] (EnP (k + 1))) i = ob i := fun i h1 h2 h3 => by
      rw [pput_ne h2, pput_ne h2, pput_ne h1, pput_ne h3]
    show WTA false w B _ A _ _ ⟨lc, pput (pput (pput (pput ob (2010 + 2 * k) (.tuple [.int (k : Int), .int e])) 2001 (Mine.lit 2000 (k + 1))) 2002 (.gen [2001, 2010 + 2 * k] (EnQ (k + 1)))) 2002 (.gen [2001] (EnP (k + 1))), pfree fr (2010 + 2 * k)⟩ _
    generalize pput (pput (pput (pput ob (2010 + 2 * k) (.tuple [.int (k : Int), .int e])) 2001 (Mine.lit 2000 (k + 1))) 2002 (.gen [2001, 2010 + 2 * k] (EnQ (k + 1)))) 2002 (.gen [2001] (EnP (k + 1))) = ob2 at b1 b2 b3 b4
    refine wta_pair hA b3 (.inl (by kernel_rfl)) (.inl (by kernel_rfl)) (by kernel_rfl) ?_
    have lk : (lset (Str.ofString "x") (V.int e) (lset (Str.ofString "k") (V.int (k : Int)) lc)).lookup (Str.ofString "k") = some (V.int (k : Int)) := lookup_lset.trans ((if_neg (by decide)).trans lset_get)
    have lx : (lset (Str.ofString "x") (V.int e) (lset (Str.ofString "k") (V.int (k : Int)) lc)).lookup (Str.ofString "x") = some (V.int e) := lset_get
    have ls : (lset (Str.ofString "x") (V.int e) (lset (Str.ofString "k") (V.int (k : Int)) lc)).lookup (Str.ofString "script") = some (.raw (.ref sa)) := lookup_lset.trans ((if_neg (by decide)).trans (lookup_lset.trans ((if_neg (by decide)).trans hlc)))
    refine we_binop (we_local lx (we_call HB (we_blt (v := .builtin "sum") HB ⟨_, rfl, kp_builtin _, wa_cons (we_slice_base S (we_cell ls (wo_some (we_local lk ⟨_, rfl, wo_some (we_int ⟨_, rfl, wo_some (we_int ⟨_, rfl, 2011 + 2 * k, rfl, by decide, ⟨(hF _ (by lia)).1, by lia⟩, ?_⟩)⟩)⟩ (by kernel_rfl) (by kernel_rfl)) ) (by kernel_rfl) (by kernel_rfl)))⟩ (by kernel_rfl) (by kernel_rfl) (by decide) (by kernel_rfl) (by kernel_rfl) (by kernel_rfl) (by kernel_rfl))) (by kernel_rfl) (by kernel_rfl))
    refine wa_nil (wc_sum hA pput_self (op_add_int ?_))
    refine wc_append (xs := cs.map V.int) ((pput_ne (by lia)).trans ((b4 1 (by decide) (by decide) (by lia)).trans o1)) (by simp; lia) ?_
    refine hKn (m - 1) _ (by lia) ⟨k + 1, cs ++ [e + (pick ns (some (k : Int)) (some 24) (some 7)).sum], _, _, _, by lia, by simp [hcs], ls, rfl, ?_, ?_, ?_, ?_, ?_⟩
    · refine pput_self.trans ?_
      rw [List.map_append]; rfl
    · exact (pput_ne (by decide)).trans ((pput_ne (by lia)).trans ((b4 2000 (by decide) (by decide) (by lia)).trans o2))
    · exact (pput_ne (by decide)).trans ((pput_ne (by lia)).trans b2)
    · exact (pput_ne (by decide)).trans ((pput_ne (by lia)).trans b1)
    · intro i hi
      refine ⟨⟨⟨(hF i (by lia)).1, by lia⟩, by lia⟩, ?_⟩
      exact (pput_ne (by lia)).trans ((pput_ne (by lia)).trans ((b4 i (by lia) (by lia) (by lia)).trans (hF i (by lia)).2))
  · have hk7 : k = 7 := by
      have := List.getElem?_eq_none_iff.mp hv
      simp [heads0] at this
      lia
    subst hk7
    refine h cs _ _ hcs o1 fun i hi => ⟨(hF i (by lia)).1, ?_⟩
    show (if i = 2001 then none else ob i) = none
    rw [if_neg (by lia)]
    exact (hF i (by lia)).2
end
end Mine
end
section
set_option maxRecDepth 100000
set_option autoImplicit false
namespace Mine
open PySem PySem.Calls PySem.Spec PyProof.Rows PySem.W

noncomputable def wids : List Nat := [1, 2, 3, 4, 6, 12]
noncomputable def wOf (x : Int) : Nat := wids.getD (x.fmod 6).toNat 1
theorem fmod_range {x : Int} {m : Int} (hm : 0 < m) : 0 ≤ x.fmod m ∧ x.fmod m < m := ⟨Int.fmod_nonneg_of_pos _ hm, Int.fmod_lt_of_pos _ hm⟩
theorem wOf_width (x : Int) : Width (wOf x) := by
  have h := fmod_range (x := x) (m := 6) (by decide)
  have : (x.fmod 6).toNat = 0 ∨ (x.fmod 6).toNat = 1 ∨ (x.fmod 6).toNat = 2 ∨ (x.fmod 6).toNat = 3 ∨ (x.fmod 6).toNat = 4 ∨ (x.fmod 6).toNat = 5 := by lia
  unfold wOf
  unfold Width
  rcases this with h | h | h | h | h | h <;> rw [h] <;> decide
theorem wOf_at (x : Int) : (wids.map fun x : Nat => V.int (x : Int))[(x.fmod 6).toNat]? = some (V.int (wOf x : Int)) := by
  have h := fmod_range (x := x) (m := 6) (by decide)
  have : (x.fmod 6).toNat = 0 ∨ (x.fmod 6).toNat = 1 ∨ (x.fmod 6).toNat = 2 ∨ (x.fmod 6).toNat = 3 ∨ (x.fmod 6).toNat = 4 ∨ (x.fmod 6).toNat = 5 := by lia
  unfold wOf
  rcases this with h | h | h | h | h | h <;> rw [h] <;> rfl
/- the octets by the last cell -/
noncomputable def octs (q : Int) : List UInt8 := (List.range 12).map fun k : Nat => ((q + 7 * (k : Int)).fmod 256).toNat.toUInt8
theorem oct_int (x : Int) : (((x.fmod 256).toNat.toUInt8.toNat : Nat) : Int) = x.fmod 256 := by
  have h := fmod_range (x := x) (m := 256) (by decide)
  rw [Nat.toUInt8, UInt8.toNat_ofNat', Nat.mod_eq_of_lt (by lia)]
  lia
theorem octs_len {q : Int} : (octs q).length = 12 := by simp [octs]
theorem octs_get {q : Int} {p : Nat} (hp : p < 12) : (octs q).getD p 0 = ((q + 7 * (p : Int)).fmod 256).toNat.toUInt8 := by simp [octs, hp]
theorem octs_unlike {q : Int} : Unlike (octs q) := by
  refine ⟨octs_len, fun p r hp hr e => ?_⟩
  rw [octs_get hp, octs_get hr] at e
  have e2 : ((((q + 7 * (p : Int)).fmod 256).toNat.toUInt8.toNat : Nat) : Int) = ((((q + 7 * (r : Int)).fmod 256).toNat.toUInt8.toNat : Nat) : Int) := by rw [e]
  rw [oct_int, oct_int, Int.fmod_eq_emod_of_nonneg _ (by decide), Int.fmod_eq_emod_of_nonneg _ (by decide)] at e2
  lia

theorem new_self {σ : St} {i : Nat} {o : O} : (σ.new i o).obj i = some o := if_pos rfl
theorem new_ne {σ : St} {i j : Nat} {o : O} (h : j ≠ i) : (σ.new i o).obj j = σ.obj j := if_neg h
theorem put_self {σ : St} {i : Nat} {o : O} : (σ.put i o).obj i = some o := if_pos rfl
theorem put_ne {σ : St} {i j : Nat} {o : O} (h : j ≠ i) : (σ.put i o).obj j = σ.obj j := if_neg h
section
variable {w : World} {B : Heap} {A : Around} {K : Fl → St → Prop} {L sa : Addr} {ns : List Int}
theorem bindCell {L c : Addr} {x : Str} (h1 : (eL L).kindOf x = some .cell) (h2 : (eL L).cells.lookup x = some c) (h3 : L < c) : Binds (eL L) x := .inr ⟨h1, c, h2, h3⟩

set_option maxHeartbeats 2000000 in
theorem law1 {n : Nat} {c0 c1 c2 c3 c4 c5 c6 : Int} {ob : Nat → Option O} {fr : Nat → Prop} (HB : BaseOk w B) (hA : AOk n A)
    (o1 : ob 1 = some (.list ([c0, c1, c2, c3, c4, c5, c6].map V.int))) (hF : LF ob fr 2 2100)
    (h : ∀ ob fr, ob 1 = some (.list ([c0, c1, c2, c3, c4, c5, c6].map V.int)) → ob 2 = some (.list (vints ([c0, c1, c2, c3, c4, c5].map wOf))) → LF ob fr 3 2200 →
      WS true w B (eL L) A (lawB 2) ⟨[("script", .raw (.ref sa)), ("cells", .ref 1), ("widths", .ref 2)], ob, fr⟩ K) :
    WS true w B (eL L) A (lawB 1) ⟨[("script", .raw (.ref sa)), ("cells", .ref 1)], ob, fr⟩ K := by
  refine ws_assign (we_comp (cl := []) (we_slice (we_cell rfl (wo_none (wo_some (we_int ⟨_, rfl, wo_none ⟨1, _, 2100, rfl, o1, by simp, by decide, (hF 2100 (by lia)).1, ?_⟩⟩))))) ?_ ?_ ?_ ?_) (bindCell (c := L + 3) rfl rfl (Nat.lt_add_of_pos_right (by decide)))
  rotate_left
  · rfl
  · exact fun p hp => nil_no hp
  · exact fun n => List.nodup_nil
  · decide
  have e0 : pick ([c0, c1, c2, c3, c4, c5, c6].map V.int) none (some 6) none = [c0, c1, c2, c3, c4, c5].map V.int := rfl
  rw [e0]
  refine comp_mk 2 ([]) _ _ _ (⟨(hF 2 (by lia)).1, by decide⟩) (fun p hp => nil_no hp) (itersH_name (iters_list (i := 2100) (xs := [c0, c1, c2, c3, c4, c5].map V.int) hA) (fun C => .inl (by kernel_rfl)) (fun C => by kernel_rfl)) new_self (fun k σ' => σ'.obj 2 = some (.list (vints (([c0, c1, c2, c3, c4, c5].take k).map wOf))) ∧ σ'.obj 2100 = some (.list ([c0, c1, c2, c3, c4, c5].map V.int)) ∧ σ'.obj 1 = ob 1 ∧ LF σ'.obj σ'.free 3 (2110 + k)) ?_ ?_ ?_ ?_
  · refine ⟨rfl, rfl, rfl, fun i hi => ⟨⟨⟨(hF i (by lia)).1, by lia⟩, by lia⟩, ?_⟩⟩
    exact (new_ne (by lia)).trans ((new_ne (by lia)).trans (hF i (by lia)).2)
  · exact fun k σ' j => j.2.1
  · rintro C k σ' σ'' hk jj ⟨u, hu, rfl⟩
    refine and4 jj fun p1 p2 p3 hF' => ?_
    clear jj
    obtain ⟨x, hx, rfl⟩ : ∃ x, [c0, c1, c2, c3, c4, c5][k]? = some x ∧ u = V.int x := by
      rw [List.getElem?_map] at hu
      cases q : [c0, c1, c2, c3, c4, c5][k]? with
      | none => rw [q] at hu; cases hu
      | some x => rw [q] at hu; cases hu; exact ⟨x, rfl, rfl⟩
    have hk6 : k < 6 := hk
    refine wi_nil ?_
    rw [if_pos rfl]
    refine we_sub (we_list ?_)
    iterate 6 refine wa_cons (we_int ?_)
    refine wa_nil ⟨2110 + k, (hF' _ (by lia)).1, by decide, ?_⟩
    have hr := fmod_range (x := x) (m := 6) (by decide)
    refine we_binop (we_local lset_get (we_int (op_mod_int (by decide) (sub_list (xs := wids.map fun x : Nat => V.int (x : Int)) new_self hr.1 (by lia) (wOf_at x) ?_))) (by kernel_rfl) (by kernel_rfl))
    refine ⟨vints (([c0, c1, c2, c3, c4, c5].take k).map wOf), (new_ne (by lia)).trans p1, by simp [vints]; lia, ?_, (put_ne (by decide)).trans ((new_ne (by lia)).trans p2), (put_ne (by decide)).trans ((new_ne (by lia)).trans p3),
      fun i hi => ⟨⟨(hF' i (by lia)).1, by lia⟩, (put_ne (by lia)).trans ((new_ne (by lia)).trans (hF' i (by lia)).2)⟩⟩
    refine put_self.trans ?_
    rw [List.take_add_one, hx]
    unfold vints
    rw [List.map_append, List.map_append]; rfl
  · rintro σ' jj
    refine and4 jj fun p1 p2 p3 hF' => ?_
    clear jj
    exact h σ'.obj σ'.free (p3.trans o1) p1 fun i hi => hF' i (by simp; lia)

set_option maxHeartbeats 2000000 in
theorem law2 {n : Nat} {c0 c1 c2 c3 c4 c5 c6 : Int} {ob : Nat → Option O} {fr : Nat → Prop} {ws : List Nat} (HB : BaseOk w B) (hA : AOk n A)
    (o1 : ob 1 = some (.list ([c0, c1, c2, c3, c4, c5, c6].map V.int))) (o2 : ob 2 = some (.list (vints ws))) (hF : LF ob fr 3 2200)
    (h : ∀ ob fr, ob 1 = some (.list ([c0, c1, c2, c3, c4, c5, c6].map V.int)) → ob 2 = some (.list (vints ws)) → LF ob fr 3 2300 →
      WS true w B (eL L) A (lawB 3) ⟨[("script", .raw (.ref sa)), ("cells", .ref 1), ("widths", .ref 2), ("octets", .bytes (octs (c6.fdiv 2)).toArray)], ob, fr⟩ K) :
    WS true w B (eL L) A (lawB 2) ⟨[("script", .raw (.ref sa)), ("cells", .ref 1), ("widths", .ref 2)], ob, fr⟩ K := by
  refine ws_assign (we_call HB (we_blt (v := .type "bytes") HB ⟨_, rfl, kp_type _, wa_cons (we_comp (cl := [("cells", L + 2)]) (we_call HB (we_blt (v := .type "range") HB ⟨_, rfl, kp_type _, wa_cons (we_int (wa_nil (wc_range1 (i := 2200) (hF 2200 (by lia)).1 ?_)))⟩)) ?_ ?_ ?_ ?_)⟩))
  rotate_left
  · rfl
  · intro p hp
    cases List.mem_singleton.mp hp
    exact mem_of_lookup (show (eL L).cells.lookup (Str.ofString "cells") = some (L + 2) from rfl)
  · exact fun n => (show ([Str.ofString "cells"]).Nodup by decide)
  · decide
  refine comp_mk 2201 ([("cells", .ref 1)]) _ _ _ (⟨(hF 2201 (by lia)).1, by decide⟩) (fun p hp => ?_) (itersH_name (iters_range (i := 2200) (a := 0) (b := 12) (c := 1) hA (by decide)) (fun C => .inl (by kernel_rfl)) (fun C => by kernel_rfl)) new_self (fun k σ' => σ'.loc.lookup (Str.ofString "cells") = some (.ref 1) ∧ σ'.obj 2201 = some (.list (((octs (c6.fdiv 2)).take k).map fun c => V.int ((c.toNat : Nat) : Int))) ∧ σ'.obj 2200 = some (.range 0 12 1) ∧ σ'.obj 1 = ob 1 ∧ σ'.obj 2 = ob 2 ∧ LF σ'.obj σ'.free 3 2300) ?_ ?_ ?_ ?_
  · cases List.mem_singleton.mp hp
    exact ⟨List.mem_cons_of_mem _ (List.mem_cons_self ..), (show some NameKind.cell ≠ some NameKind.local by decide), fun C => ⟨(show some NameKind.cell ≠ some NameKind.local by decide), L + 2, rfl, rfl⟩⟩
  · refine ⟨rfl, rfl, rfl, rfl, rfl, fun i hi => ⟨⟨⟨(hF i (by lia)).1, by lia⟩, by lia⟩, ?_⟩⟩
    exact (new_ne (by lia)).trans ((new_ne (by lia)).trans (hF i (by lia)).2)
  · exact fun k σ' j => j.2.2.1
  · rintro C k σ' σ'' hk jj ⟨u, rfl, rfl⟩
    refine and6 jj fun hlc p1 p2 p3 p4 hF' => ?_
    clear jj
    have hk12 : k < 12 := hk
    have ek : (0 + (k : Int) * 1) = k := by lia
    rw [ek]
    have hlc' : (lset (Str.ofString "k") (V.int (k : Int)) σ'.loc).lookup (Str.ofString "cells") = some (.ref 1) := lookup_lset.trans ((if_neg (by decide)).trans hlc)
    refine wi_nil ?_
    rw [if_pos rfl]
    refine we_binop (we_binop (we_binop (we_sub (we_cell hlc' (we_int (sub_list (p3.trans o1) (by decide) (by decide) (v := .int c6) rfl (we_int (op_div_int (by decide) ?_ ?_)))) (by kernel_rfl) (by kernel_rfl)))))
    · unfold Builtin.divisionGoesByPylong
      rfl
    refine we_binop (we_int (we_local lset_get (op_mul_int (IntMulOk.of_right (intBits_le_64 (by lia) (by lia))) (op_add_int (we_int (op_mod_int (by decide) ?_)))) (by kernel_rfl) (by kernel_rfl)))
    have hget : (octs (c6.fdiv 2))[k]? = some ((c6.fdiv 2 + 7 * (k : Int)).fmod 256).toNat.toUInt8 := by simp [octs, hk12]
    refine ⟨_, p1, by simp; lia, hlc', ?_, (put_ne (by decide)).trans p2, (put_ne (by decide)).trans p3, (put_ne (by decide)).trans p4, fun i hi => ⟨(hF' i hi).1, (put_ne (by lia)).trans (hF' i hi).2⟩⟩
    refine put_self.trans ?_
    rw [List.take_add_one, hget, List.map_append]
    show _ = some (O.list (_ ++ [V.int _]))
    rw [oct_int]
  · rintro σ' jj
    refine and6 jj fun _ p1 p2 p3 p4 hF' => ?_
    clear jj
    have e12 : (octs (c6.fdiv 2)).take (Builtin.Range.rangeSize 0 12 1).toNat = octs (c6.fdiv 2) := List.take_of_length_le (by rw [octs_len]; decide)
    rw [e12] at p1
    refine wa_nil (wc_bytes_list (ns := (octs (c6.fdiv 2)).map fun c => ((c.toNat : Nat) : Int)) hA (p1.trans (by rw [List.map_map]; rfl)) (by simp [octs]) (fun n hn => ?_) ?_)
    · obtain ⟨c, _, rfl⟩ := List.mem_map.mp hn
      have := c.toNat_lt
      lia
    rw [byteArr_of]
    exact h σ'.obj σ'.free (p3.trans o1) (p4.trans o2) hF'
end
end Mine
end
section
set_option maxRecDepth 100000
set_option autoImplicit false
namespace Mine
open PySem PySem.Calls PySem.Spec PyProof.Rows PySem.W

section
variable {w : World} {B : Heap} {A : Around} {K : Fl → St → Prop} {L sa : Addr} {ns : List Int} {ob : Nat → Option O} {fr : Nat → Prop} {ws : List Nat} {d : List UInt8} {c0 c1 c2 c3 c4 c5 c6 : Int} {f : Bool}
theorem mapT {f : Bool} {ws : List Nat} : (ws.map nm).map (T f) = ws.map fun w => T f (nm w) := by rw [List.map_map]; rfl
set_option maxHeartbeats 2000000 in
theorem law3 {n : Nat} (HB : BaseOk w B) (hA : AOk n A) (hw : Widths ws) (h6 : ws.length = 6) (o1 : ob 1 = some (.list ([c0, c1, c2, c3, c4, c5, c6].map V.int))) (o2 : ob 2 = some (.list (vints ws))) (hF : LF ob fr 3 2300)
    (h : ∀ ob fr, ob 1 = some (.list ([c0, c1, c2, c3, c4, c5, c6].map V.int)) → ob 2 = some (.list (vints ws)) → LF ob fr 3 2400 →
      WS true w B (eL L) A (lawB 4) ⟨[("script", .raw (.ref sa)), ("cells", .ref 1), ("widths", .ref 2), ("octets", .bytes d.toArray), ("path", T false (pth ws))], ob, fr⟩ K) :
    WS true w B (eL L) A (lawB 3) ⟨[("script", .raw (.ref sa)), ("cells", .ref 1), ("widths", .ref 2), ("octets", .bytes d.toArray)], ob, fr⟩ K := by
  refine ws_assign (we_txt (f := false) HB sl_join tt_join (we_str ⟨[47], rfl, wa_cons (we_comp (cl := []) (we_cell rfl ?_) ?_ ?_ ?_ ?_)⟩))
  rotate_left
  · rfl
  · exact fun p hp => nil_no hp
  · exact fun n => List.nodup_nil
  · decide
  refine comp_mk 2301 ([]) _ _ _ ((hF 2301 (by lia)).1) (fun p hp => nil_no hp) (itersH_name (iters_list (i := 2) (xs := vints ws) hA) (fun C => .inl (by kernel_rfl)) (fun C => by kernel_rfl)) o2 (fun k σ' => σ'.obj 2301 = some (.list ((ws.take k).map fun w => T false (nm w))) ∧ σ'.obj 1 = ob 1 ∧ σ'.obj 2 = ob 2 ∧ LF σ'.obj σ'.free 3 2400) ?_ ?_ ?_ ?_
  · refine ⟨rfl, rfl, rfl, fun i hi => ⟨⟨(hF i (by lia)).1, by lia⟩, ?_⟩⟩
    exact (new_ne (by lia)).trans (hF i (by lia)).2
  · exact fun k σ' j => j.2.2.1.trans o2
  · rintro C k σ' σ'' hk jj ⟨u, hu, rfl⟩
    refine and4 jj fun p1 p2 p3 hF' => ?_
    clear jj
    obtain ⟨x, hx, rfl⟩ : ∃ x, ws[k]? = some x ∧ u = V.int ((x : Nat) : Int) := by
      unfold vints at hu
      rw [List.getElem?_map] at hu
      cases q : ws[k]? with
      | none => rw [q] at hu; cases hu
      | some x => rw [q] at hu; cases hu; exact ⟨x, rfl, rfl⟩
    have hk6 : k < 6 := by simp [vints] at hk; lia
    refine wi_nil ?_
    rw [if_pos rfl]
    refine we_call HB (we_blt (v := .type "str") HB ⟨_, rfl, kp_type _, wa_cons (we_local lset_get (wa_nil (wc_str_int (hw x (List.mem_of_getElem? hx)) ?_)) (by kernel_rfl) (by kernel_rfl))⟩ (by kernel_rfl) (by kernel_rfl) (by decide) (by kernel_rfl) (by kernel_rfl) (by kernel_rfl) (by kernel_rfl))
    refine ⟨_, p1, by simp; lia, ?_, (put_ne (by decide)).trans p2, (put_ne (by decide)).trans p3, fun i hi => ⟨(hF' i hi).1, (put_ne (by lia)).trans (hF' i hi).2⟩⟩
    refine put_self.trans ?_
    rw [List.take_add_one, hx, List.map_append]; rfl
  · rintro σ' jj
    refine and4 jj fun p1 p2 p3 hF' => ?_
    clear jj
    have hvl : (vints ws).length = ws.length := by simp [vints]
    rw [hvl, List.take_length] at p1
    have hz := hw.path (by lia)
    refine wa_nil (wc_join (f := false) (ns := ws.map nm) (p1.trans (by rw [mapT])) (by simp; lia) (by simp; lia) (fun n hn => Nat.le_trans (hw.len n hn) (by decide)) (by unfold pth at hz; lia) ?_)
    exact h σ'.obj σ'.free (p2.trans o1) (p3.trans o2) hF'

theorem law4 {n : Nat} (HB : BaseOk w B) (hA : AOk n A) (hw : Widths ws) (h6 : ws.length = 6) (o1 : ob 1 = some (.list ([c0, c1, c2, c3, c4, c5, c6].map V.int)))
    (h : ∀ f, WS true w B (eL L) A (lawB 5) ⟨[("script", .raw (.ref sa)), ("cells", .ref 1), ("widths", .ref 2), ("octets", .bytes d.toArray), ("path", T f (pth ws))], ob, fr⟩ K) :
    WS true w B (eL L) A (lawB 4) ⟨[("script", .raw (.ref sa)), ("cells", .ref 1), ("widths", .ref 2), ("octets", .bytes d.toArray), ("path", T false (pth ws))], ob, fr⟩ K := by
  refine ws_if (wb_cmp (we_binop (we_sub (we_cell rfl (we_int (sub_list o1 (by decide) (by decide) (v := .int c6) rfl (we_int (op_mod_int (by decide) (we_int (op_eq_int ⟨_, rfl, ?_⟩))))))))))
  cases c6.fmod 2 == 1 with
  | false => rw [if_neg (by decide)]; exact ws_nil (h false)
  | true =>
    rw [if_pos rfl]
    have hz := hw.path (by lia)
    have h2 : 2 ≤ (pth ws).length := by
      match ws, h6 with
      | a :: b :: r, _ =>
        have ha := (hw a (by simp)).nm.2.2.1
        have e : pth (a :: b :: r) = nm a ++ 47 :: jn ((b :: r).map nm) := rfl
        rw [e]; simp; lia
    refine ws_assign (we_meth HB PySem.F.plainAttrs_str PySem.F.slot_str_encode PySem.F.type_str_encode (we_local rfl ⟨ty_str, wa_nil (wc_encode (asc_jn fun n hn => (hw.names n hn).2) h2 (by lia) ?_)⟩))
    exact ws_nil (h true)

theorem law5 {n : Nat} (HB : BaseOk w B) (hA : AOk (n + 2) A) (hw : Widths ws) (h6 : ws.length = 6) (hd : d.length = 12) (o1 : ob 1 = some (.list ([c0, c1, c2, c3, c4, c5, c6].map V.int))) (o2 : ob 2 = some (.list (vints ws))) (hF : LF ob fr 3 2400)
    (h : ∀ ob fr, ob 2 = some (.list (vints ws)) → ob 3 = some (.list ((ws.map nm).map (T f))) → LF ob fr 4 2400 →
      WS true w B (eL L) A (lawB 8) ⟨[("script", .raw (.ref sa)), ("cells", .ref 1), ("widths", .ref 2), ("octets", .bytes d.toArray), ("path", T f (pth ws)), ("sep", T f [47]), ("names", .ref 3), ("turned", .bytes (turn ws d).toArray)], ob, fr⟩ K) :
    WS true w B (eL L) A (lawB 5) ⟨[("script", .raw (.ref sa)), ("cells", .ref 1), ("widths", .ref 2), ("octets", .bytes d.toArray), ("path", T f (pth ws))], ob, fr⟩ K := by
  have hz := hw.path (by lia)
  have h0 : ws ≠ [] := by rintro rfl; simp at h6
  refine ws_assign (we_call HB (we_glob (v := .ref 155) HB ⟨_, rfl, kp_fn, wa_cons (we_local rfl (wa_nil (wc_sep HB hA rfl rfl ?_)))⟩)) (bindCell (c := L + 4) rfl rfl (Nat.lt_add_of_pos_right (by decide)))
  refine ws_assign (we_txt (f := f) HB sl_split tt_split (we_local rfl ⟨_, rfl, wa_cons (we_cell rfl (wa_nil (wc_split (i := 3) (ns := ws.map nm) (hF 3 (by lia)).1 (by simpa using h0) hw.names (by unfold pth at hz; lia) ?_)))⟩))
  refine ws_assign (we_call HB (we_glob (v := .ref 162) HB ⟨_, rfl, kp_fn, wa_cons (we_local rfl (wa_cons (we_local rfl (wa_nil (wc_turned (n := n) (f := f) HB hA rfl rfl hd hw h0 (by lia) (fun i h1 h2 => ?_) ?_)))))⟩))
  · exact ⟨⟨(hF i (by lia)).1, by lia⟩, (new_ne (by lia)).trans (hF i (by lia)).2⟩
  refine h _ _ o2 rfl fun i hi => ⟨⟨(hF i (by lia)).1, by lia⟩, ?_⟩
  exact (new_ne (by lia)).trans (hF i (by lia)).2

theorem law8 {n : Nat} (HB : BaseOk w B) (hA : AOk (n + 2) A) (hw : Widths ws) (h6 : ws.length = 6) (hd : d.length = 12) (o2 : ob 2 = some (.list (vints ws))) (o3 : ob 3 = some (.list ((ws.map nm).map (T f)))) (hF : LF ob fr 4 2400)
    (h : ∀ ob fr, ob 2 = some (.list (vints ws)) → ob 3 = some (.list ((ws.map nm).map (T f))) → LF ob fr 4 2500 →
      WS true w B (eL L) A (lawB 9) ⟨[("script", .raw (.ref sa)), ("cells", .ref 1), ("widths", .ref 2), ("octets", .bytes d.toArray), ("path", T f (pth ws)), ("sep", T f [47]), ("names", .ref 3), ("turned", .bytes (turn ws d).toArray)], ob, fr⟩ K) :
    WS true w B (eL L) A (lawB 8) ⟨[("script", .raw (.ref sa)), ("cells", .ref 1), ("widths", .ref 2), ("octets", .bytes d.toArray), ("path", T f (pth ws)), ("sep", T f [47]), ("names", .ref 3), ("turned", .bytes (turn ws d).toArray)], ob, fr⟩ K := by
  have h0 : ws ≠ [] := by rintro rfl; simp at h6
  have hfr : ∀ i, 1000 ≤ i → i < 1004 → fr i ∧ ob i = none := fun i h1 h2 => hF i (by lia)
  refine ws_if (wb_boolop (wb_or (wb_cmp (we_local rfl (we_call HB (we_glob (v := .ref 169) HB ⟨_, rfl, kp_fn, wa_cons (we_local rfl (wa_cons (we_cell rfl (wa_nil (WC.up (wc_told (n := n + 1) HB hA rfl rfl hd hw (by lia) o2 (by decide) hfr (op_ne_bytes ⟨_, rfl, ?_⟩)))))))⟩))))))
  rw [told_is hw hd, bne_self_eq_false, if_neg (by decide)]
  have hr : Widths ws.reverse := fun x hx => hw x (List.mem_reverse.mp hx)
  have hz := hr.path (by simp; lia)
  refine wb_or (wb_cmp (we_call HB (we_glob (v := .ref 162) HB ⟨_, rfl, kp_fn, wa_cons (we_local rfl (wa_cons (we_txt (f := f) HB sl_join tt_join (we_cell rfl ⟨_, rfl, wa_cons (we_slice (we_local rfl (wo_none (wo_none (wo_some (we_unop (we_int (op_neg_int
    ⟨_, rfl, 3, _, 2400, rfl, o3, by simp; lia, by decide, (hF 2400 (by lia)).1, wa_nil ?_⟩))))))))⟩))))⟩)))
  rw [pick_rev, ← List.map_reverse, ← List.map_reverse]
  refine wc_join (f := f) (ns := ws.reverse.map nm) new_self (by simp; lia) (by simp; lia) (fun n hn => Nat.le_trans (hr.len n hn) (by decide)) (by unfold pth at hz; lia) (wa_nil ?_)
  refine wc_turned (n := n) (f := f) (ws := ws.reverse) HB hA rfl rfl (turn_length _ _ hd) hr (by simpa using h0) (by simp; lia) (fun i h1 h2 => ⟨⟨(hF i (by lia)).1, by lia⟩, (new_ne (by lia)).trans (hF i (by lia)).2⟩) (we_local rfl (op_ne_bytes ⟨_, rfl, ?_⟩))
  rw [turn_back 6 ws d h6 hw hd, bne_self_eq_false, if_neg (by decide)]
  refine wb_or_nil ?_
  rw [if_neg (by decide)]
  refine ws_nil (h _ _ o2 o3 fun i hi => ⟨⟨(hF i (by lia)).1, by lia⟩, ?_⟩)
  exact (new_ne (by lia)).trans (hF i (by lia)).2
end
end Mine
end
section
set_option maxRecDepth 100000
set_option autoImplicit false
namespace Mine
open PySem PySem.Calls PySem.Spec PyProof.Rows PySem.W

theorem fmod_zero {a b : Nat} : ((b : Int).fmod (a : Int) == 0) = (b % a == 0) := by
  rw [Int.fmod_eq_emod_of_nonneg _ (by lia)]
  by_cases h : b % a = 0
  · rw [h]
    have : (b : Int) % (a : Int) = ((b % a : Nat) : Int) := rfl
    rw [this, h]; rfl
  · have : (b : Int) % (a : Int) = ((b % a : Nat) : Int) := rfl
    rw [this, beq_eq_false_iff_ne.mpr h, beq_eq_false_iff_ne.mpr (by lia)]
theorem fmod_nz {a b : Nat} : ((b : Int).fmod (a : Int) != 0) = (b % a != 0) := by
  have := fmod_zero (a := a) (b := b)
  simp only [bne, this]
/- the width of the k-th name -/
noncomputable def wd (ws : List Nat) (k : Nat) : Nat := ws.getD k 1
theorem wd_width {ws : List Nat} (hw : Widths ws) (k : Nat) : Width (wd ws k) := by
  unfold wd
  rw [List.getD_eq_getElem?_getD]
  cases e : ws[k]? with
  | none => exact .inl rfl
  | some x => exact hw x (List.mem_of_getElem? e)
theorem wd_at {ws : List Nat} {k : Nat} (h : k < ws.length) : ws[k]? = some (wd ws k) := by
  unfold wd
  rw [List.getD_eq_getElem?_getD, List.getElem?_eq_getElem h]; rfl
theorem vints_at {ws : List Nat} {k : Nat} (h : k < ws.length) : (vints ws)[k]? = some (.int ((wd ws k : Nat) : Int)) := by
  unfold vints; rw [List.getElem?_map, wd_at h]; rfl
theorem names_at {f : Bool} {ws : List Nat} {k : Nat} (h : k < ws.length) : ((ws.map nm).map (T f))[k]? = some (T f (nm (wd ws k))) := by
  rw [List.getElem?_map, List.getElem?_map, wd_at h]; rfl
theorem two_path {a b : Nat} : nm a ++ [47] ++ nm b = pth [a, b] := by
  show nm a ++ [47] ++ nm b = nm a ++ 47 :: nm b
  simp

theorem W2.up {g : Bool} {w : World} {B : Heap} {env : Env} {A : Around} {α β : Type} {t : Value → Value → Sem α} {R : Rho → β → α → Prop} {x y : V} {σ : St} {K : β → St → Prop} (h : W2 false w B env A t R x y σ K) : W2 g w B env A t R x y σ K :=
  fun fm ρ s a b Q E O r hx hy q => wpG_up (h fm ρ s a b Q E O r hx hy q)
section
variable {w : World} {B : Heap} {A : Around} {K : Fl → St → Prop} {L sa : Addr} {ns : List Int} {ob : Nat → Option O} {fr : Nat → Prop} {ws : List Nat} {d : List UInt8} {f : Bool}
noncomputable abbrev loc9 (sa : Addr) (d : List UInt8) (f : Bool) (ws : List Nat) : List (Str × V) := [("script", .raw (.ref sa)), ("cells", .ref 1), ("widths", .ref 2), ("octets", .bytes d.toArray), ("path", T f (pth ws)), ("sep", T f [47]), ("names", .ref 3), ("turned", .bytes (turn ws d).toArray)]
set_option maxHeartbeats 2000000 in
theorem law9 {n : Nat} (HB : BaseOk w B) (hA : AOk (n + 2) A) (hw : Widths ws) (h6 : ws.length = 6) (hd : Unlike d) (o2 : ob 2 = some (.list (vints ws))) (o3 : ob 3 = some (.list ((ws.map nm).map (T f)))) (hF : LF ob fr 4 2500)
    (h : ∀ ob fr, ob 2 = some (.list (vints ws)) → LF ob fr 4 2600 → WS true w B (eL L) A (lawB 10) ⟨loc9 sa d f ws, ob, fr⟩ K) :
    WS true w B (eL L) A (lawB 9) ⟨loc9 sa d f ws, ob, fr⟩ K := by
  refine ws_for (we_call HB (we_blt (v := .type "range") HB ⟨_, rfl, kp_type _, wa_cons (we_int (wa_cons (we_int (wa_nil (wc_range2 (i := 2500) (hF 2500 (by lia)).1 ?_)))))⟩))
  have hw0 : ∀ k, Width (wd ws k) := wd_width hw
  refine ⟨_, _, _, iters_range (a := 1) (b := 6) (c := 1) hA (by decide), fun k σ' => σ' = ⟨loc9 sa d f ws, pput ob 2500 (.range 1 6 1), pfree fr 2500⟩, rfl, ?_, ?_, ?_⟩
  · rintro k σ' rfl; exact (pput_self : pput ob 2500 (.range 1 6 1) 2500 = _)
  · rintro k u σ' hk rfl rfl
    have hk5 : k < 5 := hk
    have o2' : pput ob 2500 (.range 1 6 1) 2 = some (.list (vints ws)) := (pput_ne (by decide)).trans o2
    have o3' : pput ob 2500 (.range 1 6 1) 3 = some (.list ((ws.map nm).map (T f))) := (pput_ne (by decide)).trans o3
    have hfr : ∀ i, 1000 ≤ i → i < 1004 → pfree fr 2500 i ∧ pput ob 2500 (.range 1 6 1) i = none := fun i h1 h2 => ⟨⟨(hF i (by lia)).1, by lia⟩, (pput_ne (by lia)).trans (hF i (by lia)).2⟩
    generalize pput ob 2500 (.range 1 6 1) = ob' at o2' o3' hfr
    generalize pfree fr 2500 = fr' at hfr
    have ei : (1 + (k : Int) * 1) = ((k + 1 : Nat) : Int) := by lia
    have ej : ((k + 1 : Nat) : Int) - 1 = ((k : Nat) : Int) := by lia
    rw [ei]
    have t1 : (nm (wd ws k)).length ≤ 2 := (hw0 k).nm.2.2.2
    have t2 : (nm (wd ws (k + 1))).length ≤ 2 := (hw0 (k + 1)).nm.2.2.2
    have hw1 : Widths [wd ws k, wd ws (k + 1)] := fun x hx => by
      simp only [List.mem_cons, List.not_mem_nil, or_false] at hx
      rcases hx with rfl | rfl <;> exact hw0 _
    have hw2 : Widths [wd ws (k + 1), wd ws k] := fun x hx => by
      simp only [List.mem_cons, List.not_mem_nil, or_false] at hx
      rcases hx with rfl | rfl <;> exact hw0 _
    refine WT.less ?_
    refine ws_assign (we_call HB (we_glob (v := .ref 162) HB ⟨_, rfl, kp_fn, wa_cons (we_local rfl (wa_cons (we_binop (we_binop (we_sub (we_local rfl (we_binop (we_local rfl (we_int (op_sub_int (sub_list o3' (by lia) (by lia) (v := T f (nm (wd ws k))) ?_ ?_)))))))))))⟩))
    · rw [ej, Int.toNat_natCast]; exact names_at (by lia)
    refine we_cell rfl (op_add_T (by simp; lia) (we_sub (we_local rfl (we_local rfl (sub_list o3' (by lia) (by lia) (v := T f (nm (wd ws (k + 1)))) ?_ (op_add_T (by simp; lia) (wa_nil ?_)))))))
    · rw [Int.toNat_natCast]; exact names_at (by lia)
    rw [two_path]
    refine wc_turned (n := n) (f := f) HB hA rfl rfl hd.1 hw1 (by simp) (by simp) hfr ?_
    refine ws_assign (we_call HB (we_glob (v := .ref 162) HB ⟨_, rfl, kp_fn, wa_cons (we_local rfl (wa_cons (we_binop (we_binop (we_sub (we_local rfl (we_local rfl (sub_list o3' (by lia) (by lia) (v := T f (nm (wd ws (k + 1)))) ?_ ?_))))))))⟩))
    · rw [Int.toNat_natCast]; exact names_at (by lia)
    refine we_cell rfl (op_add_T (by simp; lia) (we_sub (we_local rfl (we_binop (we_local rfl (we_int (op_sub_int (sub_list o3' (by lia) (by lia) (v := T f (nm (wd ws k))) ?_ (op_add_T (by simp; lia) (wa_nil ?_))))))))))
    · rw [ej, Int.toNat_natCast]; exact names_at (by lia)
    rw [two_path]
    refine wc_turned (n := n) (f := f) HB hA rfl rfl hd.1 hw2 (by simp) (by simp) hfr ?_
    refine ws_if (wb_cmp (we_cmp (we_local rfl (we_local rfl (op_eq_bytes ?_)))))
    rw [swap_iff (hw0 k) (hw0 (k + 1)) hd]
    have hp1 := (hw0 k).pos
    have hp2 := (hw0 (k + 1)).pos
    refine we_or (we_cmp (we_binop (we_sub (we_cell rfl (we_local rfl (sub_list o2' (by lia) (by lia) (v := .int ((wd ws (k + 1) : Nat) : Int)) ?_ ?_))))))
    · rw [Int.toNat_natCast]; exact vints_at (by lia)
    refine we_sub (we_cell rfl (we_binop (we_local rfl (we_int (op_sub_int (sub_list o2' (by lia) (by lia) (v := .int ((wd ws k : Nat) : Int)) ?_ (op_mod_int (by lia) (we_int (op_eq_int (truthy_b ?_))))))))))
    · rw [ej, Int.toNat_natCast]; exact vints_at (by lia)
    rw [fmod_zero]
    have hle : (⟨loc9 sa d f ws, ob', fr'⟩ : St).le ⟨loc9 sa d f ws ++ [(Str.ofString "k", V.int ((k + 1 : Nat) : Int)), (Str.ofString "ahead", V.bytes (turn [wd ws k, wd ws (k + 1)] d).toArray), (Str.ofString "behind", V.bytes (turn [wd ws (k + 1), wd ws k] d).toArray)], ob', fr'⟩ :=
      ⟨fun p hp => List.mem_append_left _ hp, fun _ _ e => e, fun _ e => e⟩
    have hdv : dv (wd ws k) (wd ws (k + 1)) = (wd ws (k + 1) % wd ws k == 0 || wd ws k % wd ws (k + 1) == 0) := rfl
    cases hb : wd ws (k + 1) % wd ws k == 0 with
    | true =>
      rw [hb, Bool.true_or] at hdv
      rw [if_pos rfl, hdv]
      refine W2.up (op_ne_bool ⟨_, rfl, ?_⟩)
      rw [show (!(true == true)) = false from rfl, if_neg (by decide)]
      exact ws_nil (ws_nil ⟨_, hle, rfl⟩)
    | false =>
      rw [hb, Bool.false_or] at hdv
      rw [if_neg (by decide), hdv]
      refine we_cmp (we_binop (we_sub (we_cell rfl (we_binop (we_local rfl (we_int (op_sub_int (sub_list o2' (by lia) (by lia) (v := .int ((wd ws k : Nat) : Int)) ?_ ?_))))))))
      · rw [ej, Int.toNat_natCast]; exact vints_at (by lia)
      refine we_sub (we_cell rfl (we_local rfl (sub_list o2' (by lia) (by lia) (v := .int ((wd ws (k + 1) : Nat) : Int)) ?_ (op_mod_int (by lia) (we_int (op_eq_int ?_))))))
      · rw [Int.toNat_natCast]; exact vints_at (by lia)
      rw [fmod_zero]
      refine W2.up (op_ne_bool ⟨_, rfl, ?_⟩)
      rw [beq_self_eq_true, if_neg (by decide)]
      exact ws_nil (ws_nil ⟨_, hle, rfl⟩)
  · rintro σ' rfl
    exact h _ _ ((pput_ne (by decide)).trans o2) fun i hi => ⟨⟨(hF i (by lia)).1, by lia⟩, (pput_ne (by lia)).trans (hF i (by lia)).2⟩
end
end Mine
end
section
set_option maxRecDepth 100000
set_option autoImplicit false
namespace Mine
open PySem PySem.Calls PySem.Spec PyProof.Rows PySem.W

section
variable {g : Bool} {w : World} {B : Heap} {env : Env} {A : Around} {σ : St} {pos px apos : Pos}
theorem ws_compU {elt target iter : Expr} {ifs : List Expr} {scope : Scope} {cl : List (Str × Addr)} {rest : List Stmt} {K : Fl → St → Prop} {y : Str} {py spos : Pos}
    (h : WE false w B env A iter σ fun v σ₁ => CompI w B env A elt target ifs scope cl v σ₁ fun i σ' => WS g w B env A rest (St.set { loc := σ₁.loc, obj := σ'.obj, free := σ'.free } y (.ref i)) K)
    (hclos : closureFor scope env = pure cl) (hcl : ∀ p ∈ cl, p ∈ env.cells) (hnd : ∀ n, ((cellsFrom n scope.names [] ++ cl).map (·.1)).Nodup) (hnames : ∀ x ∈ scope.names, x.2 = .local → scope.names.lookup x.1 = some .local)
    (hy : Binds env y := by exact .inl rfl) (hky : env.scope.kind = .function := by rfl) (hsw : swapsWith (.ListComp elt [⟨target, iter, ifs, 0⟩] scope pos) (some (.Name y py)) spos.line env = pure true := by rfl) (hkind : scope.kind = .function := by rfl) (hs : ∀ y, foldedSetIterable iter env y = pure y := by intro _; rfl) (ht : ∀ it v, letOwnedTupleGo target it v = pure () := by intro _ _; rfl) :
    WS g w B env A (.Assign [.Name y py] (.ListComp elt [⟨target, iter, ifs, 0⟩] scope pos) spos :: rest) σ K := ws_cons fun fm ρ s Q E O r q => by
  refine wpG_of ?_
  rw [exec_Assign_Name_used _ _ _ _ hsw]
  refine wpAny_bind (wpAny_standAt (wpAny_bind ?_))
  show wpAny _ A (do let _ ← comprehension (.ListComp elt [⟨target, iter, ifs, 0⟩] scope pos) scope env _ (newList []) false (eval iter env) (some (assign (.Name y py) env))) _ _ s
  refine wpAny_bind (wpAny_mono (wpAny_comprehension_free (use := some (assign (.Name y py) env)) (Q := fun _ s' => Q .next s') rfl hs hclos hkind hnames ?_) (fun _ s' hq => wpAny_pure (wpAny_pure hq)) fun _ _ e => e)
  refine wpG_any (h fm ρ s _ E O r fun v σ₁ ρ₁ a s₁ l₁ r₁ v₁ h₁ => ?_)
  refine comp_run O r₁ v₁ h₁ hcl hnd ht fun i C D ρ' σ' s' l' hm r' ap' vi kk => ?_
  obtain ⟨m, oC, esC, epC, gC, dC, kC, fC⟩ := hm
  show wpAny _ A (assign (.Name y py) env (.ref D)) _ _ _
  refine wpAny_assign_Name (wpG_any (store_ (g := false) (O.wk ap'.own) (r'.wk ap' gC) vi hy hky fun s₉ r₉ => ?_))
  obtain ⟨r₁₀, ap₁₀, g₁₀⟩ := r₉.unwk ap'.own
  exact ⟨m, ⟨oC, esC, epC, g₁₀, dC, kC, fC⟩, fun h₆ hs₆ => q .next _ ρ' _ _ (l₁.trans l') (r₁₀.besides s₉.toks ap₁₀ hs₆.extBut) rfl kk⟩
end
end Mine
end
section
set_option maxRecDepth 100000
set_option autoImplicit false
namespace Mine
open PySem PySem.Calls PySem.Spec PyProof.Rows PySem.W

theorem range_small {k : Nat} (h : k < 6) : Builtin.Range.small 0 (k : Int) 1 = true ∧ (Builtin.Range.rangeSize 0 (k : Int) 1).toNat = k := by
  have : k = 0 ∨ k = 1 ∨ k = 2 ∨ k = 3 ∨ k = 4 ∨ k = 5 := by lia
  rcases this with rfl | rfl | rfl | rfl | rfl | rfl <;> decide
section
variable {w : World} {B : Heap} {A : Around} {K : Fl → St → Prop} {L sa : Addr} {ns : List Int} {ob : Nat → Option O} {fr : Nat → Prop} {ws : List Nat} {d : List UInt8} {f : Bool}
noncomputable abbrev loc10 (sa : Addr) (d : List UInt8) (f : Bool) (ws : List Nat) : List (Str × V) := [("script", .raw (.ref sa)), ("cells", .ref 1), ("widths", .ref 2), ("octets", .bytes d.toArray), ("path", T f (pth ws)), ("sep", T f [47]), ("names", .ref 3), ("turned", .bytes (turn ws d).toArray), ("held", .ref 4)]
set_option maxHeartbeats 4000000 in
theorem law10 {n : Nat} (HB : BaseOk w B) (hA : AOk n A) (hw : Widths ws) (h6 : ws.length = 6) (o2 : ob 2 = some (.list (vints ws))) (hF : LF ob fr 4 2600)
    (h : ∀ ob fr, ob 4 = some (.list ((List.range 6).map fun k => V.ref (5 + k))) → (∀ k, k < 6 → ob (5 + k) = some (.list (vints (Hof (wd ws) k)))) → LF ob fr 11 2700 → WS true w B (eL L) A (lawB 11) ⟨loc10 sa d f ws, ob, fr⟩ K) :
    WS true w B (eL L) A (lawB 10) ⟨loc9 sa d f ws, ob, fr⟩ K := by
  have hw0 : ∀ k, Width (wd ws k) := wd_width hw
  refine ws_compU (cl := [("widths", L + 3)]) (we_call HB (we_blt (v := .type "range") HB ⟨_, rfl, kp_type _, wa_cons (we_int (wa_nil (wc_range1 (i := 2600) (hF 2600 (by lia)).1 ?_)))⟩)) ?_ ?_ ?_ ?_
  rotate_left
  · rfl
  · intro p hp
    cases List.mem_singleton.mp hp
    exact mem_of_lookup (show (eL L).cells.lookup (Str.ofString "widths") = some (L + 3) from rfl)
  · exact fun n => (show ([Str.ofString "k", Str.ofString "widths"]).Nodup by decide)
  · decide
  refine comp_mk 4 ([("widths", .ref 2)]) _ _ _ (⟨(hF 4 (by lia)).1, by decide⟩) (fun p hp => ?_) (itersH_name (iters_range (i := 2600) (a := 0) (b := 6) (c := 1) hA (by decide)) (fun C => .inr ⟨by kernel_rfl, C + 1, rfl, Nat.lt_succ_self C⟩) (fun C => by kernel_rfl)) new_self (fun k σ' => σ'.loc.lookup (Str.ofString "widths") = some (.ref 2) ∧ σ'.obj 4 = some (.list ((List.range k).map fun k => V.ref (5 + k))) ∧ (∀ j, j < k → σ'.obj (5 + j) = some (.list (vints (Hof (wd ws) j)))) ∧ σ'.obj 2600 = some (.range 0 6 1) ∧ σ'.obj 2 = ob 2 ∧
      (∀ i, (5 + k ≤ i ∧ i < 1200) ∨ 2610 + k ≤ i → σ'.free i ∧ σ'.obj i = none)) ?_ ?_ ?_ ?_
  · cases List.mem_singleton.mp hp
    exact ⟨List.mem_cons_of_mem _ (List.mem_cons_of_mem _ (List.mem_cons_self ..)), (show some NameKind.cell ≠ some NameKind.local by decide), fun C => ⟨(show some NameKind.cell ≠ some NameKind.local by decide), L + 3, rfl, rfl⟩⟩
  · refine ⟨rfl, rfl, fun j hj => absurd hj (Nat.not_lt_zero _), rfl, rfl, fun i hi => ⟨⟨⟨(hF i (by lia)).1, by lia⟩, by lia⟩, ?_⟩⟩
    exact (new_ne (by lia)).trans ((new_ne (by lia)).trans (hF i (by lia)).2)
  · exact fun k σ' j => j.2.2.2.1
  · rintro C k σ' σ'' hk jj ⟨u, rfl, rfl⟩
    refine and6 jj fun hlc p1 p2 p3 p4 hF' => ?_
    clear jj
    have hk6 : k < 6 := hk
    have ek : (0 + (k : Int) * 1) = k := by lia
    rw [ek]
    have hlc' : (lset (Str.ofString "k") (V.int (k : Int)) σ'.loc).lookup (Str.ofString "widths") = some (.ref 2) := lookup_lset.trans ((if_neg (by decide)).trans hlc)
    refine wi_nil ?_
    rw [if_pos rfl]
    refine we_comp (cl := [("widths", L + 3), ("k", C + 1)]) (we_call HB (we_blt (v := .type "range") HB ⟨_, rfl, kp_type _, wa_cons (we_cell lset_get (wa_nil (wc_range1 (i := 2610 + k) (hF' _ (by lia)).1 ?_)) (by kernel_rfl) (by kernel_rfl))⟩ (by kernel_rfl) (by kernel_rfl) (by decide) (by kernel_rfl) (by kernel_rfl) (by kernel_rfl) (by kernel_rfl))) ?_ ?_ ?_ ?_
    rotate_left
    · rfl
    · intro p hp
      have hp' : p ∈ [(Str.ofString "widths", L + 3), (Str.ofString "k", C + 1)] := hp
      show p ∈ [(Str.ofString "k", C + 1), (Str.ofString "widths", L + 3)]
      simp only [List.mem_cons, List.not_mem_nil, or_false] at hp' ⊢
      exact hp'.symm
    · exact fun n => (show ([Str.ofString "widths", Str.ofString "k"]).Nodup by decide)
    · decide
    obtain ⟨hsm, hsz⟩ := range_small hk6
    refine comp_mk (5 + k) ([("k", .int (k : Int)), ("widths", .ref 2)]) _ _ _ (⟨(hF' _ (by lia)).1, by lia⟩) (fun p hp => ?_) (itersH_name (iters_range (i := 2610 + k) (a := 0) (b := (k : Int)) (c := 1) hA hsm) (fun C => .inl (by kernel_rfl)) (fun C => by kernel_rfl)) new_self (fun m σ₂ => σ₂.loc.lookup (Str.ofString "widths") = some (.ref 2) ∧ σ₂.loc.lookup (Str.ofString "k") = some (.int (k : Int)) ∧ σ₂.obj (5 + k) = some (.list (vints ((List.range m).filter fun j => wd ws k % wd ws j != 0 && wd ws j % wd ws k != 0))) ∧
        σ₂.obj (2610 + k) = some (.range 0 k 1) ∧ (∀ i, i ≠ 5 + k → i ≠ 2610 + k → σ₂.obj i = σ'.obj i) ∧ (∀ i, σ'.free i → i ≠ 5 + k → i ≠ 2610 + k → σ₂.free i)) ?_ ?_ ?_ ?_
    · rcases List.mem_cons.mp hp with rfl | hp
      · exact ⟨mem_lset_self, (show some NameKind.cell ≠ some NameKind.local by decide), fun C2 => ⟨(show some NameKind.cell ≠ some NameKind.local by decide), C + 1, rfl, rfl⟩⟩
      · cases List.mem_singleton.mp hp
        exact ⟨mem_of_lookup hlc', (show some NameKind.cell ≠ some NameKind.local by decide), fun C2 => ⟨(show some NameKind.cell ≠ some NameKind.local by decide), L + 3, rfl, rfl⟩⟩
    · refine ⟨rfl, rfl, new_self, (new_ne (by lia)).trans new_self, fun i h1 h2 => (new_ne h1).trans (new_ne h2), fun i h0 h1 h2 => ⟨⟨h0, h2⟩, h1⟩⟩
    · exact fun m σ₂ j => j.2.2.2.1
    · rintro C2 m σ₂ σ₃ hm jj ⟨u, rfl, rfl⟩
      refine and6 jj fun l1 l2 q1 q2 q3 q4 => ?_
      clear jj
      have hmk : m < k := by rw [hsz] at hm; exact hm
      have em : (0 + (m : Int) * 1) = m := by lia
      rw [em]
      have l1' : (lset (Str.ofString "j") (V.int (m : Int)) σ₂.loc).lookup (Str.ofString "widths") = some (.ref 2) := lookup_lset.trans ((if_neg (by decide)).trans l1)
      have l2' : (lset (Str.ofString "j") (V.int (m : Int)) σ₂.loc).lookup (Str.ofString "k") = some (.int (k : Int)) := lookup_lset.trans ((if_neg (by decide)).trans l2)
      have w2 : σ₂.obj 2 = some (.list (vints ws)) := (q3 2 (by lia) (by lia)).trans (p4.trans o2)
      have v1 : (vints ws)[((k : Nat) : Int).toNat]? = some (.int ((wd ws k : Nat) : Int)) := by rw [Int.toNat_natCast]; exact vints_at (by lia)
      have v2 : (vints ws)[((m : Nat) : Int).toNat]? = some (.int ((wd ws m : Nat) : Int)) := by rw [Int.toNat_natCast]; exact vints_at (by lia)
      have hp1 := (hw0 k).pos
      have hp2 := (hw0 m).pos
      have next : ∀ (b : Bool), b = (wd ws k % wd ws m != 0 && wd ws m % wd ws k != 0) → b = false → (List.range (m + 1)).filter (fun j => wd ws k % wd ws j != 0 && wd ws j % wd ws k != 0) = (List.range m).filter (fun j => wd ws k % wd ws j != 0 && wd ws j % wd ws k != 0) := fun b h1 h2 => by
        rw [List.range_succ, List.filter_append, List.filter_cons, ← h1, h2]; simp
      refine wi_one (wb_boolop (wb_and (wb_cmp (we_binop (we_sub (we_cell l1' (we_cell l2' (sub_list w2 (by lia) (by lia) v1 ?_) (by kernel_rfl) (by kernel_rfl)) (by kernel_rfl) (by kernel_rfl)))))))
      refine we_sub (we_cell l1' (we_local lset_get (sub_list w2 (by lia) (by lia) v2 (op_mod_int (by lia) (we_int (op_ne_int ⟨_, rfl, ?_⟩)))) (by kernel_rfl) (by kernel_rfl)) (by kernel_rfl) (by kernel_rfl))
      rw [fmod_nz]
      cases hb : wd ws k % wd ws m != 0 with
      | false =>
        rw [if_neg (by decide), if_neg (by decide)]
        rw [hb] at next
        exact ⟨l1', l2', by rw [next false rfl rfl]; exact q1, q2, q3, q4⟩
      | true =>
        rw [if_pos rfl]
        refine wb_and (wb_cmp (we_binop (we_sub (we_cell l1' (we_local lset_get (sub_list w2 (by lia) (by lia) v2 ?_) (by kernel_rfl) (by kernel_rfl)) (by kernel_rfl) (by kernel_rfl)))))
        refine we_sub (we_cell l1' (we_cell l2' (sub_list w2 (by lia) (by lia) v1 (op_mod_int (by lia) (we_int (op_ne_int ⟨_, rfl, ?_⟩)))) (by kernel_rfl) (by kernel_rfl)) (by kernel_rfl) (by kernel_rfl))
        rw [fmod_nz]
        cases hb2 : wd ws m % wd ws k != 0 with
        | false =>
          rw [if_neg (by decide), if_neg (by decide)]
          rw [hb, hb2] at next
          exact ⟨l1', l2', by rw [next false rfl rfl]; exact q1, q2, q3, q4⟩
        | true =>
          rw [if_pos rfl]
          refine wb_and_nil ?_
          rw [if_pos rfl]
          refine we_local lset_get ⟨_, q1, ?_, l1', l2', ?_, (put_ne (by lia)).trans q2, fun i h1 h2 => (put_ne h1).trans (q3 i h1 h2), q4⟩ (by kernel_rfl) (by kernel_rfl)
          · unfold vints
            rw [List.length_map]
            exact filter_len (by simp; lia)
          · refine put_self.trans ?_
            rw [List.range_succ, List.filter_append, List.filter_cons, hb, hb2]
            unfold vints
            rw [List.map_append]; rfl
    · rintro σ₂ jj
      refine and6 jj fun _ _ q1 q2 q3 q4 => ?_
      clear jj
      rw [hsz] at q1
      refine ⟨(List.range k).map fun k => V.ref (5 + k), (q3 4 (by lia) (by lia)).trans p1, by simp; lia, hlc', ?_, fun j hj => ?_, (put_ne (by decide)).trans ((q3 2600 (by lia) (by lia)).trans p3), (put_ne (by decide)).trans ((q3 2 (by lia) (by lia)).trans p4), fun i hi => ⟨q4 i (hF' i (by lia)).1 (by lia) (by lia), ?_⟩⟩
      · refine put_self.trans ?_
        rw [List.range_succ, List.map_append]; rfl
      · by_cases hjk : j = k
        · subst hjk
          exact (put_ne (by lia)).trans q1
        · exact (put_ne (by lia)).trans ((q3 _ (by lia) (by lia)).trans (p2 j (by lia)))
      · exact (put_ne (by lia)).trans ((q3 i (by lia) (by lia)).trans (hF' i (by lia)).2)
  · rintro σ' jj
    refine and6 jj fun _ p1 p2 p3 p4 hF' => ?_
    clear jj
    exact h σ'.obj σ'.free p1 p2 fun i hi => hF' i (by show _ ∨ 2610 + 6 ≤ i; have e : (Builtin.Range.rangeSize 0 6 1).toNat = 6 := rfl; rw [e]; lia)
end
end Mine
end
section
set_option maxRecDepth 100000
set_option autoImplicit false
namespace Mine
open PySem PySem.Calls PySem.Spec PyProof.Rows PySem.W

/- the k-th head -/
noncomputable def hdOf (ws : List Nat) (k : Nat) : List Nat := pth (ws.take (k + 1))
theorem Widths.take {ws : List Nat} (hw : Widths ws) (k : Nat) : Widths (ws.take k) := fun x hx => hw x (List.mem_of_mem_take hx)
theorem hdOf_step {ws : List Nat} {m : Nat} (h6 : ws.length = 6) (hm : m + 1 < 6) : hdOf ws (m + 1) = hdOf ws m ++ 47 :: nm (wd ws (m + 1)) := pth_snoc (wd_at (by lia)) (by lia)
theorem hdOf_up {ws : List Nat} (h6 : ws.length = 6) : ∀ (n j : Nat), j + 1 + n < 6 → (hdOf ws j).length < (hdOf ws (j + 1 + n)).length
  | 0, j, h => by rw [Nat.add_zero, hdOf_step h6 (by lia)]; simp
  | n + 1, j, h => by
    have ih := hdOf_up h6 n j (by lia)
    have e : j + 1 + (n + 1) = (j + 1 + n) + 1 := by lia
    rw [e, hdOf_step h6 (by lia)]
    simp; lia
theorem hdOf_lt {ws : List Nat} (h6 : ws.length = 6) {j k : Nat} (h : j < k) (hk : k < 6) : (hdOf ws j).length < (hdOf ws k).length := by
  have := hdOf_up h6 (k - (j + 1)) j (by lia)
  have e : j + 1 + (k - (j + 1)) = k := by lia
  rwa [e] at this
theorem hdOf_ok {ws : List Nat} (hw : Widths ws) (h6 : ws.length = 6) : HdOk (hdOf ws) where
  asc := fun k => asc_jn fun n hn => ((hw.take _).names n hn).2
  inj := fun j k hj hk e => by
    rcases Nat.lt_trichotomy j k with h | h | h
    · have := hdOf_lt h6 h hk; rw [e] at this; lia
    · exact h
    · have := hdOf_lt h6 h hj; rw [e] at this; lia
section
variable {w : World} {B : Heap} {A : Around} {K : Fl → St → Prop} {L sa : Addr} {ns : List Int} {ob : Nat → Option O} {fr : Nat → Prop} {ws : List Nat} {d : List UInt8} {f : Bool}
noncomputable abbrev loc12 (sa : Addr) (d : List UInt8) (f : Bool) (ws : List Nat) : List (Str × V) := [("script", .raw (.ref sa)), ("cells", .ref 1), ("widths", .ref 2), ("octets", .bytes d.toArray), ("path", T f (pth ws)), ("sep", T f [47]), ("names", .ref 3), ("turned", .bytes (turn ws d).toArray), ("held", .ref 4), ("heads", .ref 11), ("rounds", .ref 12)]
noncomputable abbrev lv (ws : List Nat) : Nat → Nat := lvOf (Hof (wd ws))
noncomputable abbrev nv (ws : List Nat) : Nat := Nof (Hof (wd ws))
/- what the law's last part finds -/
structure LG (f : Bool) (ws : List Nat) (ob : Nat → Option O) : Prop where
  o4 : ob 4 = some (.list ((List.range 6).map fun k => V.ref (5 + k)))
  o5 : ∀ k, k < 6 → ob (5 + k) = some (.list (vints (Hof (wd ws) k)))
  o11 : ob 11 = some (.list ((List.range 6).map fun k => T f (hdOf ws k)))
  o12 : ob 12 = some (.list ((List.range (nv ws)).map fun t => V.ref (13 + t)))
  o13 : ∀ t, t < nv ws → ob (13 + t) = some (.list (txts f (hdOf ws) (lvl (lv ws) t)))
theorem law11 {n : Nat} (HB : BaseOk w B) (hA : AOk (n + 5) A) (hw : Widths ws) (h6 : ws.length = 6) (o4 : ob 4 = some (.list ((List.range 6).map fun k => V.ref (5 + k)))) (o5 : ∀ k, k < 6 → ob (5 + k) = some (.list (vints (Hof (wd ws) k)))) (hF : LF ob fr 11 2700)
    (h : ∀ ob fr, LG f ws ob → LF ob fr 19 2700 → WS true w B (eL L) A (lawB 13) ⟨loc12 sa d f ws, ob, fr⟩ K) :
    WS true w B (eL L) A (lawB 11) ⟨loc10 sa d f ws, ob, fr⟩ K := by
  have h0 : ws ≠ [] := by rintro rfl; simp at h6
  refine ws_assign (we_call HB (we_glob (v := .ref 176) HB ⟨_, rfl, kp_fn, wa_cons (we_local rfl (wa_nil (wc_heads (n := n + 3) (i := 11) HB hA rfl rfl hw h0 (by lia) (hF 11 (by lia)).1 (hF 11 (by lia)).2 (by decide) (fun i h1 h2 => hF i (by lia)) ?_)))⟩)) (bindCell (c := L + 5) rfl rfl (Nat.lt_add_of_pos_right (by decide)))
  have eh : heads f ws = (List.range 6).map fun k => T f (hdOf ws k) := by unfold heads; rw [h6]; rfl
  rw [eh]
  refine ws_assign (we_call HB (we_glob (v := .ref 181) HB ⟨_, rfl, kp_fn, wa_cons (we_cell rfl (wa_cons (we_local rfl (wa_nil (WC.up ?_)))))⟩))
  refine wc_rounds (n := n) (N := nv ws) (rI := 12) (hI := 11) (eI := 4) (hd := hdOf ws) (Hd := Hof (wd ws)) (lev := lv ws) (f := f) HB hA rfl rfl (hdOf_ok hw h6) (Lev.ofH _) (fun j k h1 h2 => hdOf_lt h6 h1 h2) (fun k => ?_) (Nof_iff _) (Nof_le _) rfl o4 (fun k hk => by show (if 5 + k = 11 then _ else ob (5 + k)) = _; rw [if_neg (by lia)]; exact o5 k hk)
    (by decide) (by decide) (by decide) (fun i h1 h2 => ?_) (fun i h1 h2 => ?_) ?_
  · have := (hw.take (k + 1)).path (by simp; lia)
    show (pth (ws.take (k + 1))).length ≤ 900
    lia
  · refine ⟨⟨(hF i (by lia)).1, by lia⟩, ?_⟩
    show (if i = 11 then _ else ob i) = none
    rw [if_neg (by lia)]; exact (hF i (by lia)).2
  · refine ⟨⟨(hF i (by lia)).1, by lia⟩, ?_⟩
    show (if i = 11 then _ else ob i) = none
    rw [if_neg (by lia)]; exact (hF i (by lia)).2
  have hN := Nof_le (wd ws)
  refine h _ _ ⟨?_, fun k hk => ?_, ?_, rfl, fun t ht => ?_⟩ fun i hi => ⟨⟨⟨(hF i (by lia)).1, by lia⟩, by lia⟩, ?_⟩
  · exact o4
  · show (if 5 + k = 12 then _ else if 12 < 5 + k ∧ 5 + k ≤ 12 + nv ws then _ else if 5 + k = 11 then _ else ob (5 + k)) = _
    rw [if_neg (by lia), if_neg (by lia), if_neg (by lia)]; exact o5 k hk
  · rfl
  · show (if 13 + t = 12 then _ else if 12 < 13 + t ∧ 13 + t ≤ 12 + nv ws then some (O.list (txts f (hdOf ws) (lvl (lv ws) (13 + t - 12 - 1)))) else _) = _
    rw [if_neg (by lia), if_pos ⟨by lia, by lia⟩]
    have e : 13 + t - 12 - 1 = t := by lia
    rw [e]
  · show (if i = 12 then _ else if 12 < i ∧ i ≤ 12 + nv ws then _ else if i = 11 then _ else ob i) = none
    unfold nv
    rw [if_neg (by lia), if_neg (by lia), if_neg (by lia)]; exact (hF i (by lia)).2
end
end Mine
end
section
set_option maxRecDepth 100000
set_option autoImplicit false
namespace Mine
open PySem PySem.Calls PySem.Spec PyProof.Rows PySem.W

theorem mx_int {l : List Nat} {M : Int} (h1 : M ∈ (0 : Int) :: l.map fun x : Nat => (x : Int)) (h2 : ∀ a ∈ (0 : Int) :: l.map fun x : Nat => (x : Int), a ≤ M) : M = ((mx l : Nat) : Int) := by
  refine Int.le_antisymm ?_ ?_
  · rcases List.mem_cons.mp h1 with rfl | h1
    · lia
    · obtain ⟨x, hx, rfl⟩ := List.mem_map.mp h1
      have := le_mx hx
      lia
  · by_cases h0 : mx l = 0
    · have := h2 0 (List.mem_cons_self ..)
      lia
    · exact h2 _ (List.mem_cons_of_mem _ (List.mem_map.mpr ⟨mx l, mx_mem h0, rfl⟩))
theorem mx_int' {l : List Nat} {M : Int} (h0 : l ≠ []) (h1 : M ∈ l.map fun x : Nat => (x : Int)) (h2 : ∀ a ∈ l.map fun x : Nat => (x : Int), a ≤ M) : M = ((mx l : Nat) : Int) := by
  have hM : 0 ≤ M := by obtain ⟨x, _, rfl⟩ := List.mem_map.mp h1; lia
  refine mx_int (List.mem_cons_of_mem _ h1) fun a ha => ?_
  rcases List.mem_cons.mp ha with rfl | ha
  · exact hM
  · exact h2 a ha
theorem Hof_len {ws : List Nat} {k : Nat} (hk : k < 6) : (Hof (wd ws) k).length ≤ 6 := filter_len (by simp; lia)
section
variable {w : World} {B : Heap} {A : Around} {K : Fl → St → Prop} {L sa : Addr} {ns : List Int} {ob : Nat → Option O} {fr : Nat → Prop} {ws : List Nat} {d : List UInt8} {f : Bool}
noncomputable abbrev loc13 (sa : Addr) (d : List UInt8) (f : Bool) (ws : List Nat) : List (Str × V) := [("script", .raw (.ref sa)), ("cells", .ref 1), ("widths", .ref 2), ("octets", .bytes d.toArray), ("path", T f (pth ws)), ("sep", T f [47]), ("names", .ref 3), ("turned", .bytes (turn ws d).toArray), ("held", .ref 4), ("heads", .ref 11), ("rounds", .ref 12), ("levels", .ref 19)]
theorem LG.of {ob ob' : Nat → Option O} (G : LG f ws ob) (h : ∀ i, 4 ≤ i → i < 19 → ob' i = ob i) : LG f ws ob' := by
  have hN := Nof_le (wd ws)
  exact ⟨(h 4 (by decide) (by decide)).trans G.o4, fun k hk => (h _ (by lia) (by lia)).trans (G.o5 k hk), (h 11 (by decide) (by decide)).trans G.o11, (h 12 (by decide) (by decide)).trans G.o12, fun t ht => (h _ (by lia) (by unfold nv at ht; lia)).trans (G.o13 t ht)⟩
noncomputable abbrev lvs (ws : List Nat) (k : Nat) : List Nat := levs (Hof (wd ws)) k
set_option maxHeartbeats 4000000 in
theorem law13 {n : Nat} (HB : BaseOk w B) (hA : AOk n A) (G : LG f ws ob) (hF : LF ob fr 19 2700)
    (h : ∀ ob fr, LG f ws ob → ob 19 = some (.list (vints (lvs ws 6))) → LF ob fr 20 2800 → WS true w B (eL L) A (lawB 15) ⟨loc13 sa d f ws, ob, fr⟩ K) :
    WS true w B (eL L) A (lawB 13) ⟨loc12 sa d f ws, ob, fr⟩ K := by
  refine ws_assign (we_list (wa_nil ⟨19, (hF 19 (by lia)).1, by decide, ?_⟩)) (bindCell (c := L + 6) rfl rfl (Nat.lt_add_of_pos_right (by decide)))
  refine ws_for (we_call HB (we_blt (v := .type "range") HB ⟨_, rfl, kp_type _, wa_cons (we_int (wa_nil (wc_range1 (i := 2700) ⟨(hF 2700 (by lia)).1, by decide⟩ ?_)))⟩))
  refine ⟨_, _, _, iters_range (a := 0) (b := 6) (c := 1) hA (by decide), fun k σ' => σ'.loc = loc13 sa d f ws ∧ LG f ws σ'.obj ∧ σ'.obj 19 = some (.list (vints (lvs ws k))) ∧ σ'.obj 2700 = some (.range 0 6 1) ∧ LF σ'.obj σ'.free 20 (2710 + 10 * k), ?_, ?_, ?_, ?_⟩
  · refine ⟨rfl, G.of fun i h1 h2 => (new_ne (by lia)).trans (if_neg (by lia)), rfl, rfl, fun i hi => ⟨⟨⟨(hF i (by lia)).1, by lia⟩, by lia⟩, ?_⟩⟩
    exact (new_ne (by lia)).trans ((if_neg (by lia)).trans (hF i (by lia)).2)
  · exact fun k σ' j => j.2.2.2.1
  · rintro k u ⟨lc, ob, fr⟩ hk rfl jj
    refine and5 jj fun e1 G p1 p2 hF => ?_
    clear jj
    dsimp only at e1 G p1 p2 hF
    subst e1
    have hk6 : k < 6 := hk
    have ek : (0 + (k : Int) * 1) = k := by lia
    rw [ek]
    refine WT.less (WT.gen fun K0 hK0 => ?_)
    refine ws_expr (we_meth HB PySem.F.plainAttrs_list PySem.F.slot_list_append PySem.F.type_list_append (we_cell rfl ⟨ty_list p1, wa_cons (we_call HB (we_blt (v := .builtin "max") HB ⟨_, rfl, kp_builtin _, wa_cons (we_binop (we_list (wa_cons (we_int (wa_nil ⟨2710 + 10 * k, (hF _ (by lia)).1, by decide, ?_⟩)))))⟩))⟩))
    refine we_comp (cl := [("levels", L + 6)]) (we_sub (we_local rfl (we_local rfl (sub_list (v := .ref (5 + k)) ((new_ne (by lia)).trans G.o4) (by lia) (by lia) ?_ ?_)))) ?_ ?_ ?_ ?_
    · rw [Int.toNat_natCast, List.getElem?_map, List.getElem?_range hk6]; rfl
    rotate_left
    · rfl
    · intro p hp
      cases List.mem_singleton.mp hp
      exact mem_of_lookup (show (eL L).cells.lookup (Str.ofString "levels") = some (L + 6) from rfl)
    · exact fun n => (show ([Str.ofString "levels"]).Nodup by decide)
    · decide
    have hHl := Hof_len (ws := ws) hk6
    refine comp_mk (2711 + 10 * k) ([("levels", .ref 19)]) _ _ _ (⟨(hF _ (by lia)).1, by lia⟩) (fun p hp => ?_) (itersH_name (iters_list (i := 5 + k) (xs := vints (Hof (wd ws) k)) hA) (fun C => .inl (by kernel_rfl)) (fun C => by kernel_rfl)) ((new_ne (by lia)).trans (G.o5 k hk6)) (fun m σ₂ => σ₂.loc.lookup (Str.ofString "levels") = some (.ref 19) ∧ σ₂.obj (2711 + 10 * k) = some (.list ((((Hof (wd ws) k).take m).map fun j => (lvs ws k).getD j 0 + 1).map fun x : Nat => V.int (x : Int))) ∧
        (∀ i, i ≠ 2711 + 10 * k → i ≠ 2710 + 10 * k → σ₂.obj i = ob i) ∧ σ₂.obj (2710 + 10 * k) = some (.list [.int 0]) ∧ (∀ i, fr i → i ≠ 2711 + 10 * k → i ≠ 2710 + 10 * k → σ₂.free i)) ?_ ?_ ?_ ?_
    · cases List.mem_singleton.mp hp
      refine ⟨mem_of_lookup (show (lset (Str.ofString "k") (V.int (k : Int)) (loc13 sa d f ws)).lookup (Str.ofString "levels") = some (.ref 19) from rfl), (show some NameKind.cell ≠ some NameKind.local by decide), fun C => ⟨(show some NameKind.cell ≠ some NameKind.local by decide), L + 6, rfl, rfl⟩⟩
    · exact ⟨rfl, new_self, fun i h1 h2 => (new_ne h1).trans (new_ne h2), (new_ne (by lia)).trans new_self, fun i h0 h1 h2 => ⟨⟨h0, h2⟩, h1⟩⟩
    · rintro m σ₂ ⟨_, _, q3, _⟩
      exact (q3 _ (by lia) (by lia)).trans (G.o5 k hk6)
    · rintro C m σ₂ σ₃ hm jj ⟨u, hu, rfl⟩
      refine and5 jj fun l1 q1 q3 q4 q5 => ?_
      clear jj
      obtain ⟨j, hj, rfl⟩ : ∃ j, (Hof (wd ws) k)[m]? = some j ∧ u = V.int ((j : Nat) : Int) := by
        unfold vints at hu
        rw [List.getElem?_map] at hu
        cases e : (Hof (wd ws) k)[m]? with
        | none => rw [e] at hu; cases hu
        | some j => rw [e] at hu; cases hu; exact ⟨j, rfl, rfl⟩
      have hjk := Hof_lt (List.mem_of_getElem? hj)
      have l1' : (lset (Str.ofString "j") (V.int (j : Int)) σ₂.loc).lookup (Str.ofString "levels") = some (.ref 19) := lookup_lset.trans ((if_neg (by decide)).trans l1)
      have v1 : (vints (lvs ws k))[((j : Nat) : Int).toNat]? = some (.int (((lvs ws k).getD j 0 : Nat) : Int)) := by
        rw [Int.toNat_natCast]
        unfold vints
        have hl : (lvs ws k).length = k := levs_len k
        rw [List.getElem?_map, List.getD_eq_getElem?_getD, List.getElem?_eq_getElem (by lia)]; rfl
      refine wi_nil ?_
      rw [if_pos rfl]
      refine we_binop (we_sub (we_cell l1' (we_local lset_get (sub_list ((q3 19 (by lia) (by lia)).trans p1) (by lia) (by lia) v1 (we_int (op_add_int ?_))) (by kernel_rfl) (by kernel_rfl)) (by kernel_rfl) (by kernel_rfl)))
      refine ⟨_, q1, by simp; lia, l1', ?_, fun i h1 h2 => (put_ne h1).trans (q3 i h1 h2), (put_ne (by lia)).trans q4, q5⟩
      refine put_self.trans ?_
      rw [List.take_add_one, hj, List.map_append, List.map_append]
      show some (O.list (_ ++ [V.int _])) = some (O.list (_ ++ [V.int _]))
      push_cast
      rfl
    · rintro σ₂ jj
      refine and5 jj fun _ q1 q3 q4 q5 => ?_
      clear jj
      have hvl : (vints (Hof (wd ws) k)).length = (Hof (wd ws) k).length := by simp [vints]
      rw [hvl, List.take_length] at q1
      refine op_add_list (i := 2712 + 10 * k) q4 q1 (by simp; lia) (q5 _ (hF _ (by lia)).1 (by lia) (by lia)) ?_
      refine wa_nil (wc_max (ns := (0 : Int) :: ((Hof (wd ws) k).map fun j => (lvs ws k).getD j 0 + 1).map fun x : Nat => (x : Int)) hA (new_self.trans ?_) (by simp) (fun M hM1 hM2 => ?_))
      · refine congrArg (fun l => some (O.list l)) ?_
        simp [List.map_map]
      have eM := mx_int hM1 hM2
      have hl : (lvs ws k).length = k := levs_len k
      refine wa_nil (wc_append (xs := vints (lvs ws k)) ((new_ne (by lia)).trans ((q3 19 (by lia) (by lia)).trans p1)) (by simp [vints]; lia) ?_)
      refine WT.weaken (σ' := ⟨loc13 sa d f ws, pput (pput σ₂.obj (2712 + 10 * k) (.list ([V.int 0] ++ (((Hof (wd ws) k).map fun j => (lvs ws k).getD j 0 + 1).map fun x : Nat => V.int (x : Int))))) 19 (.list (vints (lvs ws k) ++ [V.int M])), pfree σ₂.free (2712 + 10 * k)⟩)
        (ws_nil (hK0 _ _ ⟨_, St.le.rfl, rfl, G.of fun i h1 h2 => ?_, ?_, ?_, fun i hi => ⟨⟨q5 i (hF i (by lia)).1 (by lia) (by lia), by lia⟩, ?_⟩⟩)) ⟨fun p hp => List.mem_append_left [(Str.ofString "k", V.int (k : Int))] hp, fun _ _ e => e, fun _ e => e⟩
      · exact (pput_ne (by lia)).trans ((pput_ne (by lia)).trans (q3 i (by lia) (by lia)))
      · show pput (pput σ₂.obj (2712 + 10 * k) (.list ([V.int 0] ++ (((Hof (wd ws) k).map fun j => (lvs ws k).getD j 0 + 1).map fun x : Nat => V.int (x : Int))))) 19 (.list (vints (lvs ws k) ++ [V.int M])) 19 = some (O.list (vints (levs (Hof (wd ws)) k ++ [_])))
        rw [pput_self, eM]
        unfold vints
        rw [List.map_append]; rfl
      · exact (pput_ne (by lia)).trans ((q3 2700 (by lia) (by lia)).trans p2)
      · exact (pput_ne (by lia)).trans ((pput_ne (by lia)).trans ((q3 i (by lia) (by lia)).trans (hF i (by lia)).2))
  · rintro ⟨lc, ob, fr⟩ jj
    refine and5 jj fun e1 G p1 p2 hF => ?_
    clear jj
    dsimp only at e1 G p1 p2 hF
    subst e1
    exact h ob fr G p1 fun i hi => hF i (by have e : (Builtin.Range.rangeSize 0 6 1).toNat = 6 := rfl; rw [e]; lia)
end
end Mine
end
section
set_option maxRecDepth 100000
set_option autoImplicit false
namespace Mine
open PySem PySem.Calls PySem.Spec PyProof.Rows PySem.W

theorem range_small7 {k : Nat} (h : k ≤ 6) : Builtin.Range.small 0 (k : Int) 1 = true ∧ (Builtin.Range.rangeSize 0 (k : Int) 1).toNat = k := by
  have : k = 0 ∨ k = 1 ∨ k = 2 ∨ k = 3 ∨ k = 4 ∨ k = 5 ∨ k = 6 := by lia
  rcases this with rfl | rfl | rfl | rfl | rfl | rfl | rfl <;> decide
theorem txts_rows {f : Bool} {hd : Nat → List Nat} {l : List Nat} : txts f hd l = (l.map hd).map (T f) := by unfold txts; rw [List.map_map]; rfl
section
variable {w : World} {B : Heap} {A : Around} {K : Fl → St → Prop} {L sa : Addr} {ns : List Int} {ob : Nat → Option O} {fr : Nat → Prop} {ws : List Nat} {d : List UInt8} {f : Bool}
set_option maxHeartbeats 4000000 in
theorem law15 {n : Nat} (HB : BaseOk w B) (hA : AOk n A) (G : LG f ws ob) (o19 : ob 19 = some (.list (vints (lvs ws 6)))) (hF : LF ob fr 20 2800)
    (h : ∀ ob fr, LG f ws ob → LF ob fr 20 2900 → WS true w B (eL L) A (lawB 16) ⟨loc13 sa d f ws, ob, fr⟩ K) :
    WS true w B (eL L) A (lawB 15) ⟨loc13 sa d f ws, ob, fr⟩ K := by
  have hN := Nof_le (wd ws)
  have hl6 : (lvs ws 6).length = 6 := levs_len 6
  refine ws_if (wb_cmp (we_local rfl (WT.up (we_comp (cl := [("levels", L + 6), ("heads", L + 5)]) (we_call HB (we_blt (v := .type "range") HB ⟨_, rfl, kp_type _, wa_cons (we_binop (we_call HB (we_blt (v := .builtin "max") HB ⟨_, rfl, kp_builtin _, wa_cons (we_cell rfl (wa_nil ?_))⟩)))⟩)) ?_ ?_ ?_ ?_))))
  rotate_left
  · rfl
  · intro p hp
    have hp' : p ∈ [(Str.ofString "levels", L + 6), (Str.ofString "heads", L + 5)] := hp
    simp only [List.mem_cons, List.not_mem_nil, or_false] at hp'
    rcases hp' with rfl | rfl
    · exact mem_of_lookup (show (eL L).cells.lookup (Str.ofString "levels") = some (L + 6) from rfl)
    · exact mem_of_lookup (show (eL L).cells.lookup (Str.ofString "heads") = some (L + 5) from rfl)
  · exact fun n => (show ([Str.ofString "level", Str.ofString "levels", Str.ofString "heads"]).Nodup by decide)
  · decide
  refine wc_max (ns := (lvs ws 6).map fun x : Nat => (x : Int)) hA (o19.trans (by unfold vints; rw [List.map_map]; rfl)) (by simp; lia) (fun M hM1 hM2 => ?_)
  have eM := mx_int' (fun h0 => by rw [h0] at hl6; cases hl6) hM1 hM2
  subst eM
  refine we_int (op_add_int (wa_nil (wc_range1 (i := 2800) (hF 2800 (by lia)).1 ?_)))
  have eN : ((mx (lvs ws 6) : Nat) : Int) + 1 = ((nv ws : Nat) : Int) := by show _ = ((mx (levs (Hof (wd ws)) 6) + 1 : Nat) : Int); push_cast; rfl
  rw [eN]
  obtain ⟨hsm, hsz⟩ := range_small7 hN
  refine comp_mk 2801 ([("levels", .ref 19), ("heads", .ref 11)]) _ _ _ (⟨(hF 2801 (by lia)).1, by decide⟩) (fun p hp => ?_) (itersH_name (iters_range (i := 2800) (a := 0) (b := ((nv ws : Nat) : Int)) (c := 1) hA hsm) (fun C => .inr ⟨by kernel_rfl, C + 1, rfl, Nat.lt_succ_self C⟩) (fun C => by kernel_rfl)) new_self (fun t σ' => σ'.loc.lookup (Str.ofString "levels") = some (.ref 19) ∧ σ'.loc.lookup (Str.ofString "heads") = some (.ref 11) ∧ σ'.obj 2801 = some (.list ((List.range t).map fun s => V.ref (2810 + s))) ∧ (∀ s, s < t → σ'.obj (2810 + s) = some (.list (txts f (hdOf ws) (lvl (lv ws) s)))) ∧
      σ'.obj 2800 = some (.range 0 ((nv ws : Nat) : Int) 1) ∧ (∀ i, i < 2800 → σ'.obj i = ob i) ∧ (∀ i, (20 ≤ i ∧ i < 1200) ∨ (2810 + t ≤ i ∧ i < 2820) ∨ 2820 + t ≤ i → σ'.free i ∧ σ'.obj i = none)) ?_ ?_ ?_ ?_
  · simp only [List.mem_cons, List.not_mem_nil, or_false] at hp
    rcases hp with rfl | rfl
    · exact ⟨mem_of_lookup (show (loc13 sa d f ws).lookup (Str.ofString "levels") = some (.ref 19) from rfl), (show some NameKind.cell ≠ some NameKind.local by decide), fun C => ⟨(show some NameKind.cell ≠ some NameKind.local by decide), L + 6, rfl, rfl⟩⟩
    · exact ⟨mem_of_lookup (show (loc13 sa d f ws).lookup (Str.ofString "heads") = some (.ref 11) from rfl), (show some NameKind.cell ≠ some NameKind.local by decide), fun C => ⟨(show some NameKind.cell ≠ some NameKind.local by decide), L + 5, rfl, rfl⟩⟩
  · refine ⟨rfl, rfl, rfl, fun s hs => absurd hs (Nat.not_lt_zero _), rfl, fun i hi => (new_ne (by lia)).trans (new_ne (by lia)), fun i hi => ⟨⟨⟨(hF i (by lia)).1, by lia⟩, by lia⟩, ?_⟩⟩
    exact (new_ne (by lia)).trans ((new_ne (by lia)).trans (hF i (by lia)).2)
  · exact fun k σ' j => j.2.2.2.2.1
  · rintro C t σ' σ'' ht jj ⟨u, rfl, rfl⟩
    refine and7 jj fun l1 l2 p1 p2 p3 p4 hF' => ?_
    clear jj
    have htN : t < nv ws := by rw [hsz] at ht; exact ht
    have ht6 : t < 6 := by unfold nv at htN; lia
    have et : (0 + (t : Int) * 1) = t := by lia
    rw [et]
    have l1' : (lset (Str.ofString "level") (V.int (t : Int)) σ'.loc).lookup (Str.ofString "levels") = some (.ref 19) := lookup_lset.trans ((if_neg (by decide)).trans l1)
    have l2' : (lset (Str.ofString "level") (V.int (t : Int)) σ'.loc).lookup (Str.ofString "heads") = some (.ref 11) := lookup_lset.trans ((if_neg (by decide)).trans l2)
    refine wi_nil ?_
    rw [if_pos rfl]
    refine WT.gen fun Kn hKn => ?_
    refine we_comp (cl := [("levels", L + 6), ("level", C + 1), ("heads", L + 5)]) (we_call HB (we_blt (v := .type "range") HB ⟨_, rfl, kp_type _, wa_cons (we_int (wa_nil (wc_range1 (i := 2820 + t) (hF' _ (by lia)).1 ?_)))⟩ (by kernel_rfl) (by kernel_rfl) (by decide) (by kernel_rfl) (by kernel_rfl) (by kernel_rfl) (by kernel_rfl))) ?_ ?_ ?_ ?_
    rotate_left
    · rfl
    · intro p hp
      have hp' : p ∈ [(Str.ofString "levels", L + 6), (Str.ofString "level", C + 1), (Str.ofString "heads", L + 5)] := hp
      show p ∈ [(Str.ofString "level", C + 1), (Str.ofString "levels", L + 6), (Str.ofString "heads", L + 5)]
      simp only [List.mem_cons, List.not_mem_nil, or_false] at hp' ⊢
      rcases hp' with h | h | h
      · exact .inr (.inl h)
      · exact .inl h
      · exact .inr (.inr h)
    · exact fun n => (show ([Str.ofString "levels", Str.ofString "level", Str.ofString "heads"]).Nodup by decide)
    · decide
    refine comp_mk (2810 + t) ([("levels", .ref 19), ("level", .int (t : Int)), ("heads", .ref 11)]) _ _ _ (⟨(hF' _ (by lia)).1, by lia⟩) (fun p hp => ?_) (itersH_name (iters_range (i := 2820 + t) (a := 0) (b := 6) (c := 1) hA (by decide)) (fun C => .inl (by kernel_rfl)) (fun C => by kernel_rfl)) new_self (fun m σ₂ => σ₂.loc.lookup (Str.ofString "levels") = some (.ref 19) ∧ σ₂.loc.lookup (Str.ofString "level") = some (.int (t : Int)) ∧ σ₂.loc.lookup (Str.ofString "heads") = some (.ref 11) ∧ σ₂.obj (2810 + t) = some (.list (txts f (hdOf ws) ((List.range m).filter fun k => lv ws k == t))) ∧
        σ₂.obj (2820 + t) = some (.range 0 6 1) ∧ (∀ i, i ≠ 2810 + t → i ≠ 2820 + t → σ₂.obj i = σ'.obj i) ∧ (∀ i, σ'.free i → i ≠ 2810 + t → i ≠ 2820 + t → σ₂.free i)) ?_ ?_ ?_ ?_
    · simp only [List.mem_cons, List.not_mem_nil, or_false] at hp
      rcases hp with rfl | rfl | rfl
      · exact ⟨mem_of_lookup l1', (show some NameKind.cell ≠ some NameKind.local by decide), fun C2 => ⟨(show some NameKind.cell ≠ some NameKind.local by decide), L + 6, rfl, rfl⟩⟩
      · exact ⟨mem_lset_self, (show some NameKind.cell ≠ some NameKind.local by decide), fun C2 => ⟨(show some NameKind.cell ≠ some NameKind.local by decide), C + 1, rfl, rfl⟩⟩
      · exact ⟨mem_of_lookup l2', (show some NameKind.cell ≠ some NameKind.local by decide), fun C2 => ⟨(show some NameKind.cell ≠ some NameKind.local by decide), L + 5, rfl, rfl⟩⟩
    · refine ⟨rfl, rfl, rfl, new_self, (new_ne (by lia)).trans new_self, fun i h1 h2 => (new_ne h1).trans (new_ne h2), fun i h0 h1 h2 => ⟨⟨h0, h2⟩, h1⟩⟩
    · exact fun m σ₂ j => j.2.2.2.2.1
    · rintro C2 m σ₂ σ₃ hm jj ⟨u, rfl, rfl⟩
      refine and7 jj fun g1 g2 g3 q1 q2 q3 q4 => ?_
      clear jj
      have hm6 : m < 6 := hm
      have em : (0 + (m : Int) * 1) = m := by lia
      rw [em]
      have g1' : (lset (Str.ofString "k") (V.int (m : Int)) σ₂.loc).lookup (Str.ofString "levels") = some (.ref 19) := lookup_lset.trans ((if_neg (by decide)).trans g1)
      have g2' : (lset (Str.ofString "k") (V.int (m : Int)) σ₂.loc).lookup (Str.ofString "level") = some (.int (t : Int)) := lookup_lset.trans ((if_neg (by decide)).trans g2)
      have g3' : (lset (Str.ofString "k") (V.int (m : Int)) σ₂.loc).lookup (Str.ofString "heads") = some (.ref 11) := lookup_lset.trans ((if_neg (by decide)).trans g3)
      have w19 : σ₂.obj 19 = some (.list (vints (lvs ws 6))) := (q3 19 (by lia) (by lia)).trans ((p4 19 (by decide)).trans o19)
      have w11 : σ₂.obj 11 = some (.list ((List.range 6).map fun k => T f (hdOf ws k))) := (q3 11 (by lia) (by lia)).trans ((p4 11 (by decide)).trans G.o11)
      have v1 : (vints (lvs ws 6))[((m : Nat) : Int).toNat]? = some (.int ((lv ws m : Nat) : Int)) := by
        rw [Int.toNat_natCast]
        unfold vints lv lvOf
        rw [List.getElem?_map, List.getD_eq_getElem?_getD, List.getElem?_eq_getElem (by lia)]; rfl
      refine wi_one (wb_cmp (we_sub (we_cell g1' (we_local lset_get (sub_list w19 (by lia) (by lia) v1 (we_cell g2' (op_eq_int ⟨_, rfl, ?_⟩) (by kernel_rfl) (by kernel_rfl))) (by kernel_rfl) (by kernel_rfl)) (by kernel_rfl) (by kernel_rfl))))
      have eb : (((lv ws m : Nat) : Int) == ((t : Nat) : Int)) = (lv ws m == t) := by
        by_cases hq : lv ws m = t
        · rw [hq, beq_self_eq_true, beq_self_eq_true]
        · rw [beq_eq_false_iff_ne.mpr hq, beq_eq_false_iff_ne.mpr (by lia)]
      rw [eb]
      cases hb : lv ws m == t with
      | false =>
        rw [if_neg (by decide)]
        refine ⟨g1', g2', g3', ?_, q2, q3, q4⟩
        show σ₂.obj (2810 + t) = _
        rw [List.range_succ, List.filter_append, List.filter_cons, hb]
        simpa using q1
      | true =>
        rw [if_pos rfl]
        refine we_sub (we_cell g3' (we_local lset_get (sub_list w11 (by lia) (by lia) (v := T f (hdOf ws m)) ?_ ?_) (by kernel_rfl) (by kernel_rfl)) (by kernel_rfl) (by kernel_rfl))
        · rw [Int.toNat_natCast, List.getElem?_map, List.getElem?_range hm6]; rfl
        refine ⟨_, q1, ?_, g1', g2', g3', put_self.trans ?_, (put_ne (by lia)).trans q2, fun i h1 h2 => (put_ne h1).trans (q3 i h1 h2), q4⟩
        · unfold txts
          rw [List.length_map]
          exact filter_len (by simp; lia)
        · rw [List.range_succ, List.filter_append, List.filter_cons, hb]
          unfold txts
          rw [List.map_append]; rfl
    · rintro σ₂ jj
      refine and7 jj fun _ _ _ q1 q2 q3 q4 => ?_
      clear jj
      have e6 : (Builtin.Range.rangeSize 0 6 1).toNat = 6 := rfl
      rw [e6] at q1
      refine hKn _ _ ⟨(List.range t).map fun s => V.ref (2810 + s), (q3 2801 (by lia) (by lia)).trans p1, by simp; lia, l1', l2', put_self.trans ?_, fun s hs => ?_, (put_ne (by decide)).trans ((q3 2800 (by lia) (by lia)).trans p3), fun i hi => (put_ne (by lia)).trans ((q3 i (by lia) (by lia)).trans (p4 i hi)),
        fun i hi => ⟨q4 i (hF' i (by lia)).1 (by lia) (by lia), (put_ne (by lia)).trans ((q3 i (by lia) (by lia)).trans (hF' i (by lia)).2)⟩⟩
      · rw [List.range_succ, List.map_append]; rfl
      · by_cases hst : s = t
        · subst hst
          exact (put_ne (by lia)).trans q1
        · exact (put_ne (by lia)).trans ((q3 _ (by lia) (by lia)).trans (p2 s (by lia)))
  · rintro σ' jj
    refine and7 jj fun _ _ p1 p2 p3 p4 hF' => ?_
    clear jj
    rw [hsz] at p1 p2 hF'
    have e13 : (List.range (nv ws)).map (fun t => V.ref (13 + t)) = ((List.range (nv ws)).map fun t => 13 + t).map V.ref := by rw [List.map_map]; rfl
    have e28 : (List.range (nv ws)).map (fun t => V.ref (2810 + t)) = ((List.range (nv ws)).map fun t => 2810 + t).map V.ref := by rw [List.map_map]; rfl
    have hat : ∀ (g : Nat → Nat) (t i : Nat), ((List.range (nv ws)).map g)[t]? = some i → t < nv ws ∧ i = g t := fun g t i hi => by
      rw [List.getElem?_map] at hi
      by_cases ht : t < nv ws
      · rw [List.getElem?_range ht] at hi; cases hi; exact ⟨ht, rfl⟩
      · rw [List.getElem?_eq_none (by simp; lia)] at hi; cases hi
    have hrow : ∀ (t : Nat) (l : List (List Nat)), ((List.range (nv ws)).map fun t => (lvl (lv ws) t).map (hdOf ws))[t]? = some l → l = (lvl (lv ws) t).map (hdOf ws) := fun t l hl => by
      rw [List.getElem?_map] at hl
      by_cases ht : t < nv ws
      · rw [List.getElem?_range ht] at hl; cases hl; rfl
      · rw [List.getElem?_eq_none (by simp; lia)] at hl; cases hl
    refine W2.up (op_ne_rows (f := f) (rows := (List.range (nv ws)).map fun t => (lvl (lv ws) t).map (hdOf ws)) (is := (List.range (nv ws)).map fun t => 13 + t) (js := (List.range (nv ws)).map fun t => 2810 + t) hA ((p4 12 (by decide)).trans (G.o12.trans (by rw [e13]))) (p1.trans (by rw [e28])) (by simp) (by simp)
      (fun t i l h1 h2 => ?_) (fun t i l h1 h2 => ?_) (fun t i i' h1 h2 => ?_) ⟨_, rfl, ?_⟩)
    · obtain ⟨ht, rfl⟩ := hat _ t i h1
      rw [hrow t l h2, ← txts_rows]
      exact (p4 _ (by unfold nv at ht; lia)).trans (G.o13 t ht)
    · obtain ⟨ht, rfl⟩ := hat _ t i h1
      rw [hrow t l h2, ← txts_rows]
      exact p2 t ht
    · obtain ⟨ht, rfl⟩ := hat _ t i h1
      obtain ⟨_, rfl⟩ := hat _ t i' h2
      lia
    rw [if_neg (by decide)]
    exact ws_nil (h σ'.obj σ'.free (G.of fun i h1 h2 => p4 i (by lia)) fun i hi => hF' i (by lia))
end
end Mine
end
section
set_option maxRecDepth 100000
set_option autoImplicit false
namespace Mine
open PySem PySem.Calls PySem.Spec PyProof.Rows PySem.W

theorem laid_len {lev : Nat → Nat} {N : Nat} {g : List Nat → List Nat} (hs : ∀ l m, ∃ X Y, g (l ++ [m]) = X ++ m :: Y ∧ g l = X ++ Y) (hg0 : g [] = []) (hlev : ∀ k, k < 6 → lev k < N) : ∀ m, m ≤ 6 → (laid g lev N m).length = m
  | 0, _ => by
    have : laid g lev N 0 = [] := by
      unfold laid
      rw [List.flatMap_eq_nil_iff]
      intro t _
      simpa using hg0
    rw [this]; rfl
  | m + 1, hm => by
    have ih := laid_len hs hg0 hlev m (by lia)
    have ht := hlev m (by lia)
    rw [laid_split ht, laid_same (List.range (lev m)) (fun t h => by have := List.mem_range.mp h; lia), laid_same (List.range' (lev m + 1) (N - (lev m + 1))) (fun t h => by have := (List.mem_range'_1.mp h).1; lia)]
    have e1 : (List.range (m + 1)).filter (fun k => lev k == lev m) = (List.range m).filter (fun k => lev k == lev m) ++ [m] := by
      rw [List.range_succ, List.filter_append]; simp
    obtain ⟨X, Y, h1, h2⟩ := hs ((List.range m).filter fun k => lev k == lev m) m
    rw [laid_split ht, h2] at ih
    rw [e1, h1]
    simp only [List.length_append, List.length_cons] at ih ⊢
    lia
theorem lvl_lt {lev : Nat → Nat} {t k : Nat} (h : k ∈ lvl lev t) : k < 6 := List.mem_range.mp (List.mem_filter.mp h).1
section
variable {w : World} {B : Heap} {env ce : Env} {A : Around} {σ : St} {f : Bool} {ws : List Nat} {pos px p1 p2 p3 p4 p5 p6 p7 : Pos}
theorem drop_ne {i j : Nat} (h : j ≠ i) : (σ.drop i).obj j = σ.obj j := if_neg h
theorem set_obj {x : Str} {v : V} {i : Nat} : (σ.set x v).obj i = σ.obj i := rfl
theorem wta_name {x : Str} {v : V} {K : St → Prop} (hx : Binds env x) (hk : env.scope.kind = .function) (h : K (σ.set x v)) : WTA false w B env A (.Name x px) v σ K :=
  fun fm ρ s a Q E O r hv q => wpG_assign_Name (store_ O r hv hx hk fun s' r' => q () _ ρ () s' ρ.le_refl r' trivial h)
theorem wc_tail {K : V → St → Prop} {i k : Nat} (hw : Widths ws) (h6 : ws.length = 6) (hk : k < 6) (hi : σ.free i) (h : ∀ x y, K (.ref i) (σ.new i (.tuple [x, y, T f (nm (wd ws k))]))) :
    WC false w B env A (.builtin (idRpart f)) [T f (hdOf ws k), T f [47]] σ K := by
  have hwid := (wd_width hw k).nm
  have ha := (hdOf_ok hw h6).asc k
  have hz : (hdOf ws k).length ≤ 18 := (hw.take _).path (by rw [List.length_take]; lia)
  cases k with
  | zero =>
    have e : hdOf ws 0 = nm (wd ws 0) := by
      match ws, h6 with
      | a :: r, _ => rfl
    rw [e] at ha hz ⊢
    exact wc_rpart0 hi hwid.1 ha (by lia) (h _ _)
  | succ m =>
    rw [hdOf_step h6 hk] at ha hz ⊢
    exact wc_rpart hi hwid.1 ha (by lia) (h _ _)
theorem wcl_tails {n : Nat} {t0 i0 i1 : Expr} {sc : Scope} {it li acc lo q : Nat} {ls : List Nat} {xs : List V} {K : St → Prop} (HB : BaseOk w B) (hA : AOk n A) (hw : Widths ws) (h6 : ws.length = 6) (hl : ∀ k ∈ ls, k < 6)
    (s1 : σ.loc.lookup (Str.ofString "sep") = some (T f [47])) (o1 : σ.obj it = some (Mine.lit li 0)) (o2 : σ.obj li = some (.list (ls.map fun k => T f (hdOf ws k)))) (o3 : σ.obj acc = some (.list xs)) (hx : xs.length + ls.length ≤ 1000)
    (n1 : it ≠ li) (n2 : it ≠ acc) (n3 : li ≠ acc) (n4 : it < lo ∧ li < lo ∧ acc < lo) (hF : ∀ i, lo ≤ i → i < lo + ls.length → σ.free i)
    (kl : ce.kindOf (Str.ofString "head") = some .local) (ks : ce.kindOf (Str.ofString "sep") = some .cell) (kk : ce.scope.kind = .function) (hline : (p2.endLine == p4.line) = true)
    (h : ∀ σ' : St, σ'.loc.lookup (Str.ofString "sep") = some (T f [47]) → σ'.obj acc = some (.list (xs ++ ls.map fun k => T f (nm (wd ws k)))) → (∀ j, j ≠ it → j ≠ acc → (j < lo ∨ lo + ls.length ≤ j) → σ'.obj j = σ.obj j) →
      (∀ j, σ.free j → (j < lo ∨ lo + ls.length ≤ j) → σ'.free j) → K σ') :
    WCL w B ce A (.ListComp (.Subscript (.Call (.Attribute (.Name (Str.ofString "head") p1) (Str.ofString "rpartition") p2) [.Name (Str.ofString "sep") p3] [] p4) (.Constant (.int 2) q p5) p6) [⟨t0, i0, [], 0⟩, ⟨.Name (Str.ofString "head") p7, i1, [], 0⟩] sc pos) 1 (.ref it) (.ref acc) σ K := by
  refine wcl_inG (fun m σ' => ∃ p, p + m = ls.length ∧ σ'.loc.lookup (Str.ofString "sep") = some (T f [47]) ∧ σ'.obj it = some (Mine.lit li p) ∧ σ'.obj acc = some (.list (xs ++ (ls.take p).map fun k => T f (nm (wd ws k)))) ∧
    (∀ j, j ≠ it → j ≠ acc → (j < lo ∨ lo + p ≤ j) → σ'.obj j = σ.obj j) ∧ (∀ j, σ.free j → (j < lo ∨ lo + p ≤ j) → σ'.free j)) ls.length ⟨0, Nat.zero_add _, s1, o1, by rw [o3]; simp, fun j _ _ _ => rfl, fun j hj _ => hj⟩ ?_
  rintro m σ' Kn hKn jj
  refine ex1 jj fun p jk => ?_
  clear jj
  refine and6 jk fun hp g1 g2 g3 g4 g5 => ?_
  clear jk
  have oli := (g4 li (Ne.symm n1) n3 (.inl n4.2.1)).trans o2
  refine wn_lit hA g2 oli (fun v hv => ?_) (fun hv => ?_)
  · have hpl : p < ls.length := by
      by_cases hc : p < ls.length
      · exact hc
      · rw [List.getElem?_eq_none (by simp; lia)] at hv; cases hv
    have hk := hl _ (List.getElem_mem hpl)
    have ev : v = T f (hdOf ws ls[p]) := by rw [List.getElem?_map, List.getElem?_eq_getElem hpl] at hv; cases hv; rfl
    subst ev
    refine wl_name (wta_name (.inl kl) kk ?_)
    refine we_sub (we_txt (f := f) HB sl_rpart tt_rpart (we_local lset_get ⟨_, rfl, wa_cons (we_cell (lookup_lset.trans ((if_neg (by decide)).trans g1)) (wa_nil (wc_tail (i := lo + p) hw h6 hk (g5 _ (hF _ (by lia) (by lia)) (.inr (Nat.le_refl _))) fun x y => ?_)) ks kk)⟩ kl kk) (by rfl) hline)
    refine we_int (sub_tuple (v := T f (nm (wd ws ls[p]))) new_self (by decide) (by decide) rfl ?_)
    refine wc_append (xs := xs ++ (ls.take p).map fun k => T f (nm (wd ws k))) ((new_ne (by lia)).trans ((put_ne (Ne.symm n2)).trans g3)) (by simp; lia) (hKn (m - 1) _ (by lia) ⟨p + 1, by lia, lookup_lset.trans ((if_neg (by decide)).trans g1), ?_, put_self.trans ?_, fun j h1 h2 h3 => ?_, fun j h1 h2 => ⟨g5 j h1 (by lia), by lia⟩⟩)
    · exact (put_ne n2).trans ((new_ne (by lia)).trans put_self)
    · rw [List.append_assoc, List.take_add_one, List.map_append, List.getElem?_eq_getElem hpl]; rfl
    · exact (put_ne h2).trans ((new_ne (by lia)).trans ((put_ne h1).trans (g4 j h1 h2 (by lia))))
  · have hpl : p = ls.length := by
      by_cases hc : p < ls.length
      · rw [List.getElem?_map, List.getElem?_eq_getElem hc] at hv; cases hv
      · lia
    subst hpl
    rw [List.take_length] at g3
    exact h _ g1 ((if_neg (Ne.symm n2)).trans g3) (fun j h1 h2 h3 => (if_neg h1).trans (g4 j h1 h2 h3)) g5
end
section
variable {w : World} {B : Heap} {A : Around} {K : Fl → St → Prop} {L sa : Addr} {ns : List Int} {ob : Nat → Option O} {fr : Nat → Prop} {ws : List Nat} {d : List UInt8} {f : Bool}
/- the widths, round by round -/
noncomputable def ordF (ws : List Nat) : List Nat := (laid id (lv ws) (nv ws) 6).map (wd ws)
noncomputable def ordB (ws : List Nat) : List Nat := (laid List.reverse (lv ws) (nv ws) 6).map (wd ws)
theorem lv_lt (ws : List Nat) (k : Nat) (hk : k < 6) : lv ws k < nv ws := (Nof_iff (wd ws) _).mpr ⟨k, hk, rfl⟩
theorem ordF_len (ws : List Nat) : (ordF ws).length = 6 := (List.length_map ..).trans (laid_len (fun l m => ⟨l, [], rfl, by simp⟩) rfl (fun k hk => lv_lt ws k hk) 6 (Nat.le_refl _))
theorem ordB_len (ws : List Nat) : (ordB ws).length = 6 := (List.length_map ..).trans (laid_len (fun l m => ⟨[], l.reverse, by simp, by simp⟩) rfl (fun k hk => lv_lt ws k hk) 6 (Nat.le_refl _))
theorem ordF_w (hw : Widths ws) : Widths (ordF ws) := fun x hx => by obtain ⟨k, _, rfl⟩ := List.mem_map.mp hx; exact wd_width hw k
theorem ordB_w (hw : Widths ws) : Widths (ordB ws) := fun x hx => by obtain ⟨k, _, rfl⟩ := List.mem_map.mp hx; exact wd_width hw k
noncomputable abbrev loc16 (sa : Addr) (d : List UInt8) (f : Bool) (ws : List Nat) : List (Str × V) := [("script", .raw (.ref sa)), ("cells", .ref 1), ("widths", .ref 2), ("octets", .bytes d.toArray), ("path", T f (pth ws)), ("sep", T f [47]), ("names", .ref 3), ("turned", .bytes (turn ws d).toArray), ("held", .ref 4), ("heads", .ref 11), ("rounds", .ref 12), ("levels", .ref 19), ("forth", T f (pth (ordF ws)))]
noncomputable abbrev loc17 (sa : Addr) (d : List UInt8) (f : Bool) (ws : List Nat) : List (Str × V) := [("script", .raw (.ref sa)), ("cells", .ref 1), ("widths", .ref 2), ("octets", .bytes d.toArray), ("path", T f (pth ws)), ("sep", T f [47]), ("names", .ref 3), ("turned", .bytes (turn ws d).toArray), ("held", .ref 4), ("heads", .ref 11), ("rounds", .ref 12), ("levels", .ref 19), ("forth", T f (pth (ordF ws))), ("back", T f (pth (ordB ws)))]
theorem sum_le {b : Nat} : ∀ {l : List Nat}, (∀ x ∈ l, x ≤ b) → l.sum ≤ b * l.length
  | [], _ => Nat.zero_le _
  | x :: l, h => by
    rw [List.sum_cons, List.length_cons, Nat.mul_succ]
    have := sum_le (l := l) fun y hy => h y (.tail _ hy)
    have := h x (.head _)
    lia
set_option maxHeartbeats 4000000 in
theorem law16 {n : Nat} (HB : BaseOk w B) (hA : AOk n A) (hw : Widths ws) (h6 : ws.length = 6) (G : LG f ws ob) (hF : LF ob fr 20 2900)
    (h : ∀ ob fr, LG f ws ob → LF ob fr 20 3000 → WS true w B (eL L) A (lawB 17) ⟨loc16 sa d f ws, ob, fr⟩ K) :
    WS true w B (eL L) A (lawB 16) ⟨loc13 sa d f ws, ob, fr⟩ K := by
  have hN : nv ws ≤ 6 := Nof_le (wd ws)
  refine ws_assign (we_txt (f := f) HB sl_join tt_join (we_cell rfl ⟨_, rfl, wa_cons (we_compS (cl := [("sep", L + 4)]) (we_local rfl (wp_list (i := 2900) (li := 12) G.o12 (hF 2900 (by lia)).1 ?_)) ?_ ?_ ?_ ?_)⟩))
  rotate_left
  · rfl
  · intro p hp
    cases List.mem_singleton.mp hp
    exact mem_of_lookup (show (eL L).cells.lookup (Str.ofString "sep") = some (L + 4) from rfl)
  · exact fun n => (show ([Str.ofString "sep"]).Nodup by decide)
  · decide
  refine ⟨2900 + 1, [("sep", T f [47])], ⟨(hF _ (by lia)).1, by decide⟩, fun p hp => ?_, fun C => ⟨wp_self (li := 12) (k := 0) rfl, ?_⟩⟩
  · cases List.mem_singleton.mp hp
    exact ⟨mem_of_lookup (show (loc13 sa d f ws).lookup (Str.ofString "sep") = some (T f [47]) from rfl), (show some NameKind.cell ≠ some NameKind.local by decide), fun C => ⟨(show some NameKind.cell ≠ some NameKind.local by decide), L + 4, rfl, rfl⟩⟩
  refine wcl_twoG (fun m σ' => ∃ t, t + m = nv ws ∧ σ'.loc.lookup (Str.ofString "sep") = some (T f [47]) ∧ σ'.obj 2900 = some (Mine.lit 12 t) ∧ σ'.obj (2900 + 1) = some (.list (((List.range t).flatMap fun s => id (lvl (lv ws) s)).map fun k => T f (nm (wd ws k)))) ∧
    (∀ i, i < 2900 → σ'.obj i = ob i) ∧ (∀ i, (20 ≤ i ∧ i < 1200) ∨ (2900 + 10 + t ≤ i ∧ i < 2900 + 20) ∨ (2900 + 20 + t ≤ i ∧ i < 2900 + 30) ∨ 2900 + 30 + 10 * t ≤ i → σ'.free i ∧ σ'.obj i = none)) (nv ws) ⟨0, Nat.zero_add _, rfl, rfl, rfl, fun i hi => (new_ne (by lia)).trans (new_ne (by lia)), fun i hi => ⟨⟨⟨(hF i (by lia)).1, by lia⟩, by lia⟩, ?_⟩⟩ ?_
  · exact (new_ne (by lia)).trans ((new_ne (by lia)).trans (hF i (by lia)).2)
  rintro m σ' Kn hKn jj
  refine ex1 jj fun t jk => ?_
  clear jj
  refine and6 jk fun htm s1 q0 q1 q2 q3 => ?_
  clear jk
  refine wn_lit hA q0 ((q2 12 (by decide)).trans G.o12) (fun v hv => ?_) (fun hv => ?_)
  · have ht : t < nv ws := by
      by_cases hc : t < nv ws
      · exact hc
      · rw [List.getElem?_eq_none (by simp; lia)] at hv; cases hv
    have ht6 : t < 6 := Nat.lt_of_lt_of_le ht hN
    have ev : v = .ref (13 + t) := by rw [List.getElem?_map, List.getElem?_range ht] at hv; cases hv; rfl
    subst ev
    have o13 := (q2 (13 + t) (by lia)).trans (G.o13 t ht)
    have hlen : (lvl (lv ws) t).length ≤ 6 := filter_len (by simp)
    refine wl_name (wta_name (.inl (by kernel_rfl)) (by kernel_rfl) ?_)
    refine we_local lset_get (wp_list (i := 2910 + t) (li := 13 + t) ((put_ne (by lia)).trans o13) (q3 _ (by lia)).1 ⟨wp_self (li := 13 + t) (k := 0) new_self, ?_⟩) (by kernel_rfl) (by kernel_rfl)
    have e30 : (((List.range t).flatMap fun s => id (lvl (lv ws) s)).map fun k => T f (nm (wd ws k))).length ≤ 36 := by
      rw [List.length_map, List.length_flatMap]
      refine Nat.le_trans (sum_le (b := 6) fun x hx => ?_) (by simp; lia)
      obtain ⟨s, _, rfl⟩ := List.mem_map.mp hx
      exact filter_len (by simp)
    refine wcl_tails (f := f) (lo := 2900 + 30 + 10 * t) (ls := id (lvl (lv ws) t)) (xs := ((List.range t).flatMap fun s => id (lvl (lv ws) s)).map fun k => T f (nm (wd ws k))) HB hA hw h6 (fun k hk => lvl_lt hk) ?_ new_self ?_ ?_ ?_ (by lia) (by lia) (by lia) (by lia) ?_ (by kernel_rfl) (by kernel_rfl) (by kernel_rfl) (by rfl) ?_
    · exact lookup_lset.trans ((if_neg (by decide)).trans s1)
    · exact (new_ne (by lia)).trans ((put_ne (by lia)).trans o13)
    · exact (new_ne (by lia)).trans (set_obj.trans ((put_ne (by lia)).trans q1))
    · show _ + (lvl (lv ws) t).length ≤ _
      lia
    · exact fun i h1 h2 => ⟨(q3 i (by lia)).1, by lia⟩
    · rintro σ₂ z1 z2 z3 z4
      have hl' : (id (lvl (lv ws) t)).length ≤ 6 := hlen
      refine hKn (m - 1) _ (by lia) ⟨t + 1, by lia, z1, ?_, z2.trans ?_, fun i hi => ?_, fun i hi => ?_⟩
      · exact (z3 2900 (by lia) (by lia) (by lia)).trans ((new_ne (by lia)).trans (set_obj.trans put_self))
      · rw [List.range_succ, List.flatMap_append, List.map_append]; simp
      · exact (z3 i (by lia) (by lia) (by lia)).trans ((new_ne (by lia)).trans ((put_ne (by lia)).trans (q2 i hi)))
      · exact ⟨z4 i ⟨(q3 i (by lia)).1, by lia⟩ (by lia), (z3 i (by lia) (by lia) (by lia)).trans ((new_ne (by lia)).trans ((put_ne (by lia)).trans (q3 i (by lia)).2))⟩
  · have htn : t = nv ws := by
      by_cases hc : t < nv ws
      · rw [List.getElem?_map, List.getElem?_range hc] at hv; cases hv
      · lia
    subst htn
    have hz := (ordF_w hw).path (by rw [ordF_len]; lia)
    have hlen := ordF_len ws
    refine wa_nil (wc_join (f := f) (ns := (ordF ws).map nm) ?_ (by rw [List.length_map, hlen]; decide) (by rw [List.length_map, hlen]; decide) (fun x hx => Nat.le_trans ((ordF_w hw).len x hx) (by decide)) (by unfold pth at hz; lia) ?_)
    · refine (drop_ne (show 2900 + 1 ≠ 2900 by decide)).trans (q1.trans ?_)
      unfold ordF laid lvl
      rw [List.map_map, List.map_map]; rfl
    exact h _ _ (G.of fun i h1 h2 => (drop_ne (by lia)).trans (q2 i (by lia))) fun i hi => ⟨(q3 i (by lia)).1, (drop_ne (by lia)).trans (q3 i (by lia)).2⟩
set_option maxHeartbeats 4000000 in
theorem law17 {n : Nat} (HB : BaseOk w B) (hA : AOk n A) (hw : Widths ws) (h6 : ws.length = 6) (G : LG f ws ob) (hF : LF ob fr 20 3000)
    (h : ∀ ob fr, LG f ws ob → LF ob fr 20 3100 → WS true w B (eL L) A (lawB 18) ⟨loc17 sa d f ws, ob, fr⟩ K) :
    WS true w B (eL L) A (lawB 17) ⟨loc16 sa d f ws, ob, fr⟩ K := by
  have hN : nv ws ≤ 6 := Nof_le (wd ws)
  refine ws_assign (we_txt (f := f) HB sl_join tt_join (we_cell rfl ⟨_, rfl, wa_cons (we_compS (cl := [("sep", L + 4)]) (we_local rfl (wp_list (i := 3000) (li := 12) G.o12 (hF 3000 (by lia)).1 ?_)) ?_ ?_ ?_ ?_)⟩))
  rotate_left
  · rfl
  · intro p hp
    cases List.mem_singleton.mp hp
    exact mem_of_lookup (show (eL L).cells.lookup (Str.ofString "sep") = some (L + 4) from rfl)
  · exact fun n => (show ([Str.ofString "sep"]).Nodup by decide)
  · decide
  refine ⟨3000 + 1, [("sep", T f [47])], ⟨(hF _ (by lia)).1, by decide⟩, fun p hp => ?_, fun C => ⟨wp_self (li := 12) (k := 0) rfl, ?_⟩⟩
  · cases List.mem_singleton.mp hp
    exact ⟨mem_of_lookup (show (loc16 sa d f ws).lookup (Str.ofString "sep") = some (T f [47]) from rfl), (show some NameKind.cell ≠ some NameKind.local by decide), fun C => ⟨(show some NameKind.cell ≠ some NameKind.local by decide), L + 4, rfl, rfl⟩⟩
  refine wcl_twoG (fun m σ' => ∃ t, t + m = nv ws ∧ σ'.loc.lookup (Str.ofString "sep") = some (T f [47]) ∧ σ'.obj 3000 = some (Mine.lit 12 t) ∧ σ'.obj (3000 + 1) = some (.list (((List.range t).flatMap fun s => List.reverse (lvl (lv ws) s)).map fun k => T f (nm (wd ws k)))) ∧
    (∀ i, i < 3000 → σ'.obj i = ob i) ∧ (∀ i, (20 ≤ i ∧ i < 1200) ∨ (3000 + 10 + t ≤ i ∧ i < 3000 + 20) ∨ (3000 + 20 + t ≤ i ∧ i < 3000 + 30) ∨ 3000 + 30 + 10 * t ≤ i → σ'.free i ∧ σ'.obj i = none)) (nv ws) ⟨0, Nat.zero_add _, rfl, rfl, rfl, fun i hi => (new_ne (by lia)).trans (new_ne (by lia)), fun i hi => ⟨⟨⟨(hF i (by lia)).1, by lia⟩, by lia⟩, ?_⟩⟩ ?_
  · exact (new_ne (by lia)).trans ((new_ne (by lia)).trans (hF i (by lia)).2)
  rintro m σ' Kn hKn jj
  refine ex1 jj fun t jk => ?_
  clear jj
  refine and6 jk fun htm s1 q0 q1 q2 q3 => ?_
  clear jk
  refine wn_lit hA q0 ((q2 12 (by decide)).trans G.o12) (fun v hv => ?_) (fun hv => ?_)
  · have ht : t < nv ws := by
      by_cases hc : t < nv ws
      · exact hc
      · rw [List.getElem?_eq_none (by simp; lia)] at hv; cases hv
    have ht6 : t < 6 := Nat.lt_of_lt_of_le ht hN
    have ev : v = .ref (13 + t) := by rw [List.getElem?_map, List.getElem?_range ht] at hv; cases hv; rfl
    subst ev
    have o13 := (q2 (13 + t) (by lia)).trans (G.o13 t ht)
    have hlen : (lvl (lv ws) t).length ≤ 6 := filter_len (by simp)
    refine wl_name (wta_name (.inl (by kernel_rfl)) (by kernel_rfl) ?_)
    refine we_slice (we_local lset_get (wo_none (wo_none (wo_some (we_unop (we_int (op_neg_int ⟨_, rfl, 13 + t, _, 3020 + t, rfl, (put_ne (by lia)).trans o13, by rw [show (txts f (hdOf ws) (lvl (lv ws) t)).length = (lvl (lv ws) t).length from List.length_map ..]; lia, by decide, (q3 _ (by lia)).1, ?_⟩)))))) (by kernel_rfl) (by kernel_rfl))
    rw [pick_rev]
    refine wp_list (i := 3010 + t) (li := 3020 + t) new_self ⟨(q3 _ (by lia)).1, by lia⟩ ⟨wp_self (li := 3020 + t) (k := 0) new_self, ?_⟩
    have e30 : (((List.range t).flatMap fun s => List.reverse (lvl (lv ws) s)).map fun k => T f (nm (wd ws k))).length ≤ 36 := by
      rw [List.length_map, List.length_flatMap]
      refine Nat.le_trans (sum_le (b := 6) fun x hx => ?_) (by simp; lia)
      obtain ⟨s, _, rfl⟩ := List.mem_map.mp hx
      rw [List.length_reverse]; exact filter_len (by simp)
    refine wcl_tails (f := f) (lo := 3000 + 30 + 10 * t) (ls := List.reverse (lvl (lv ws) t)) (xs := ((List.range t).flatMap fun s => List.reverse (lvl (lv ws) s)).map fun k => T f (nm (wd ws k))) HB hA hw h6 (fun k hk => lvl_lt (List.mem_reverse.mp hk)) ?_ new_self ?_ ?_ ?_ (by lia) (by lia) (by lia) (by lia) ?_ (by kernel_rfl) (by kernel_rfl) (by kernel_rfl) (by rfl) ?_
    · exact lookup_lset.trans ((if_neg (by decide)).trans s1)
    · refine (new_ne (by lia)).trans (new_self.trans ?_)
      unfold txts
      rw [← List.map_reverse]
    · exact (new_ne (by lia)).trans ((new_ne (by lia)).trans (set_obj.trans ((put_ne (by lia)).trans q1)))
    · rw [List.length_reverse]
      lia
    · exact fun i h1 h2 => ⟨⟨(q3 i (by lia)).1, by lia⟩, by lia⟩
    · rintro σ₂ z1 z2 z3 z4
      have hl' : (List.reverse (lvl (lv ws) t)).length ≤ 6 := by rw [List.length_reverse]; exact hlen
      refine hKn (m - 1) _ (by lia) ⟨t + 1, by lia, z1, ?_, z2.trans ?_, fun i hi => ?_, fun i hi => ?_⟩
      · exact (z3 3000 (by lia) (by lia) (by lia)).trans ((new_ne (by lia)).trans ((new_ne (by lia)).trans (set_obj.trans put_self)))
      · rw [List.range_succ, List.flatMap_append, List.map_append]; simp
      · exact (z3 i (by lia) (by lia) (by lia)).trans ((new_ne (by lia)).trans ((new_ne (by lia)).trans ((put_ne (by lia)).trans (q2 i hi))))
      · exact ⟨z4 i ⟨⟨(q3 i (by lia)).1, by lia⟩, by lia⟩ (by lia), (z3 i (by lia) (by lia) (by lia)).trans ((new_ne (by lia)).trans ((new_ne (by lia)).trans ((put_ne (by lia)).trans (q3 i (by lia)).2)))⟩
  · have htn : t = nv ws := by
      by_cases hc : t < nv ws
      · rw [List.getElem?_map, List.getElem?_range hc] at hv; cases hv
      · lia
    subst htn
    have hz := (ordB_w hw).path (by rw [ordB_len]; lia)
    have hlen := ordB_len ws
    refine wa_nil (wc_join (f := f) (ns := (ordB ws).map nm) ?_ (by rw [List.length_map, hlen]; decide) (by rw [List.length_map, hlen]; decide) (fun x hx => Nat.le_trans ((ordB_w hw).len x hx) (by decide)) (by unfold pth at hz; lia) ?_)
    · refine (drop_ne (show 3000 + 1 ≠ 3000 by decide)).trans (q1.trans ?_)
      unfold ordB laid lvl
      rw [List.map_map, List.map_map]; rfl
    exact h _ _ (G.of fun i h1 h2 => (drop_ne (by lia)).trans (q2 i (by lia))) fun i hi => ⟨(q3 i (by lia)).1, (drop_ne (by lia)).trans (q3 i (by lia)).2⟩
end
end Mine
end
section
set_option maxRecDepth 100000
set_option autoImplicit false
namespace Mine
open PySem PySem.Calls PySem.Spec PyProof.Rows PySem.W
section
variable {w : World} {B : Heap} {A : Around} {K : Fl → St → Prop} {L sa : Addr} {ns : List Int} {ob : Nat → Option O} {fr : Nat → Prop} {ws : List Nat} {d : List UInt8} {f : Bool}
theorem wd_all {ws : List Nat} (h6 : ws.length = 6) : (List.range 6).map (wd ws) = ws := by
  match ws, h6 with
  | [a, b, c, d, e, f], _ => rfl
theorem ordF_turn {ws : List Nat} (hw : Widths ws) (h6 : ws.length = 6) (d : List UInt8) : turn (ordF ws) d = turn ws d :=
  (turn_forth (wd_width hw) d).trans (by rw [wd_all h6])
theorem ordB_turn {ws : List Nat} (hw : Widths ws) (h6 : ws.length = 6) (d : List UInt8) : turn (ordB ws) d = turn ws d :=
  (turn_aback (wd_width hw) d).trans (by rw [wd_all h6])
theorem ne_of_len {l : List Nat} (h : l.length = 6) : l ≠ [] := by rintro rfl; cases h
theorem law18 {n : Nat} (HB : BaseOk w B) (hA : AOk (n + 2) A) (hw : Widths ws) (h6 : ws.length = 6) (hd : d.length = 12) (hF : LF ob fr 20 3100)
    (h : K (.ret (.bool true)) ⟨loc17 sa d f ws, ob, fr⟩) : WS true w B (eL L) A (lawB 18) ⟨loc17 sa d f ws, ob, fr⟩ K := by
  have hfr : Fresh (⟨loc17 sa d f ws, ob, fr⟩ : St) 1000 1004 := fun i h1 h2 => hF i (by lia)
  refine ws_return (we_and (we_cmp (we_call HB (we_glob (v := .ref 162) HB ⟨_, rfl, kp_fn, wa_cons (we_local rfl (wa_cons (we_local rfl (wa_nil (wc_turned (n := n) (f := f) (ws := ordF ws) HB hA rfl rfl hd (ordF_w hw) (ne_of_len (ordF_len ws)) (by rw [ordF_len]; decide) hfr (we_local rfl (op_eq_bytes ?_)))))))⟩))))
  rw [ordF_turn hw h6, beq_self_eq_true]
  refine truthy_b ?_
  rw [if_pos rfl]
  refine we_cmp (we_call HB (we_glob (v := .ref 162) HB ⟨_, rfl, kp_fn, wa_cons (we_local rfl (wa_cons (we_local rfl (wa_nil (wc_turned (n := n) (f := f) (ws := ordB ws) HB hA rfl rfl hd (ordB_w hw) (ne_of_len (ordB_len ws)) (by rw [ordB_len]; decide) hfr (we_local rfl (op_eq_bytes ?_)))))))⟩))
  rw [ordB_turn hw h6, beq_self_eq_true]
  exact h
end
end Mine
end
section
set_option maxRecDepth 100000
set_option autoImplicit false
namespace Mine
open PySem PySem.Calls PySem.Spec PyProof.Rows PySem.W
section
variable {w : World} {B : Heap} {A : Around} {K : Fl → St → Prop} {L sa : Addr} {ns : List Int}
/- the law's body gives True -/
theorem law_all (HB : BaseOk w B) (hA : AOk 5 A) (S : Scr B sa ns) : WS true w B (eL L) A (lawB 0) ⟨[("script", .raw (.ref sa))], fun _ => none, fun _ => True⟩ fun fl _ => fl = .ret (.bool true) := by
  have hA2 : AOk (3 + 2) A := hA
  refine law0 HB hA S fun cs ob fr hc o1 hF => ?_
  match cs, hc with
  | [c0, c1, c2, c3, c4, c5, c6], _ =>
    have hw : Widths ([c0, c1, c2, c3, c4, c5].map wOf) := fun x hx => by obtain ⟨c, _, rfl⟩ := List.mem_map.mp hx; exact wOf_width c
    have h6 : ([c0, c1, c2, c3, c4, c5].map wOf).length = 6 := rfl
    refine law1 HB hA o1 hF fun ob fr o1 o2 hF => law2 HB hA o1 o2 hF fun ob fr o1 o2 hF => law3 HB hA hw h6 o1 o2 hF fun ob fr o1 o2 hF => law4 HB hA hw h6 o1 fun f => ?_
    refine law5 HB hA2 hw h6 octs_len o1 o2 hF fun ob fr o2 o3 hF => law8 HB hA2 hw h6 octs_len o2 o3 hF fun ob fr o2 o3 hF => law9 HB hA2 hw h6 octs_unlike o2 o3 hF fun ob fr o2 hF => ?_
    refine law10 HB hA hw h6 o2 hF fun ob fr o4 o5 hF => law11 (n := 0) HB hA hw h6 o4 o5 hF fun ob fr G hF => law13 HB hA G hF fun ob fr G o19 hF => law15 HB hA G o19 hF fun ob fr G hF => ?_
    exact law16 HB hA hw h6 G hF fun ob fr G hF => law17 HB hA hw h6 G hF fun ob fr G hF => law18 HB hA2 hw h6 octs_len hF rfl
end

theorem lookup_of_nodup {α : Type} : ∀ {l : List (Str × α)} {p : Str × α}, (l.map (·.1)).Nodup → p ∈ l → l.lookup p.1 = some p.2
  | [], _, _, h => nomatch h
  | (x, c) :: l, p, hn, h => by
    rw [List.map_cons, List.nodup_cons] at hn
    rcases List.mem_cons.mp h with e | h
    · subst e; simp
    · have hne : p.1 ≠ x := fun e => hn.1 (e ▸ List.mem_map.mpr ⟨p, h, rfl⟩)
      rw [List.lookup_cons, beq_eq_false_iff_ne.mpr hne]
      exact lookup_of_nodup hn.2 h

/- what the frame of a call from nowhere must keep: all -/
noncomputable def fmTop (s : Shared) : Fm := ⟨s.heap.get?, fun _ => none, [], s⟩
theorem aok_caller : AOk 6 callerA := ⟨by decide, by decide, rfl, rfl⟩
theorem wpG_top {w : World} {fa : Addr} {fd : FuncData} {body : List Stmt} {x : Str} {v : Value} {Q : Value → Shared → Prop} {E : Value → Shared → Prop} {s : Shared} (HB : BaseOk w s.heap) (D : DefOk w fa fd body [x])
    (hbind : bindArgs fd ⟨[v], []⟩ = pure [(x, v)])
    (h : ∀ L A', AOk 5 A' → WS true w s.heap (callEnvC fd L fa) A' body ⟨[(x, .raw v)], fun _ => none, fun _ => True⟩ fun fl _ => fl = .ret (.bool true))
    (q : ∀ s' : Shared, (∀ b o, s.heap.get? b = some o → s'.heap.get? b = some o) → (∃ h tk, s' = { s with heap := h, toks := tk }) → Q (.bool true) s') :
    wpG true (model PR w) callerA (PySem.call (.ref fa) [v]) Q E s := by
  obtain ⟨ob, hob, hd⟩ := D.obj
  obtain ⟨p, l, m, mg, mb, T⟩ := HB.top
  refine wpG_call (codeG_call_cells (fd := fd) (body := body) (binds := [(x, v)]) (by decide) (HB.kin _ _ hob) hd T.nolimit (codeRec_of HB.kin D.code) D.body (by rw [hbind]; exact wpG_pure ⟨rfl, rfl⟩) D.clo
    (fun y hy => ?_) (fun s₁ ic => ?_) D.co D.gen D.fn)
  · cases List.mem_singleton.mp hy
    exact D.kinds _ _ (List.mem_singleton.mpr rfl)
  · have hnew : ∀ b, s.heap.objs.size ≤ b → s.heap.get? b = none := fun b hb => by
      cases g : s.heap.get? b with
      | none => rfl
      | some o => exact absurd (Heap.lt_size g) (Nat.not_lt.mpr hb)
    have hin := ic.toInCall
    refine h s.heap.objs.size _ aok_caller.deeper (fmTop s) (fun _ => none) _ _ _ ?_ ?_ fun fl σ' ρ' a s' le r'' fr kk => ?_
    · exact {
        frs := fun _ => rfl
        frok := fun L e => .inl (Option.some.inj e).symm
        base := fun b o e => e
        locs := ⟨hnew _ (Nat.le_refl _), rfl⟩
        cels := fun p hp => ⟨rfl, Nat.ne_of_gt (ic.above p.1 p.2 hp), fun hl => hnew _ (Nat.le_of_lt hl)⟩
        dj := fun b hb => rfl
        apart := ic.apart
        outs := fun e he => nomatch he }
    · exact {
        same := hin.same
        keep := hin.keep
        dat := fun b d e => nomatch e
        ns := ⟨_, hin.ns, fun p hp hl => by
          cases List.mem_singleton.mp hp
          exact ⟨v, bindL_get (ns := [x]) (xs := [v]) (i := 0) D.nodup rfl rfl hl, rfl⟩⟩
        cel := fun p hp hl => by
          cases List.mem_singleton.mp hp
          rcases D.kinds (s.heap.objs.size + 1) x (List.mem_singleton.mpr rfl) with hk | ⟨_, hk⟩
          · exact absurd hk hl
          · obtain ⟨c, hc⟩ := Option.isSome_iff_exists.mp hk
            have e := ic.cell x c hc
            rw [show bindC (callEnvC fd s.heap.objs.size fa).kindOf [(x, v)] (fun _ => none) x = some v from bindC_get (ns := [x]) (xs := [v]) (i := 0) D.nodup rfl rfl hl] at e
            exact ⟨c, v, hc, e, rfl⟩
        cells := fun p hp => ⟨_, ic.cell p.1 p.2 (lookup_of_nodup (D.cellsNodup _) hp)⟩
        obj := fun i o e => nomatch e
        inj := fun i j a hi => absurd rfl hi
        free := fun i _ => rfl }
    · subst kk
      obtain ⟨y, rfl, vr⟩ := fr
      cases vr
      exact q s' r''.keep r''.same
end Mine
end
section
set_option maxRecDepth 100000
set_option autoImplicit false
open PySem PySem.W PyProof.Rows PySem.Calls
set_option maxRecDepth 1000000
set_option maxHeartbeats 0
namespace Mine
noncomputable def HK : Hook := kHook KK kAdr (fun _ => by kernel_rfl)
noncomputable abbrev pv : Program := view PR [0, 2, 4, 5, 6, 7, 8, 10, 12, 13, 14, 15, 16]
theorem left : LeftO PR pv [Str.ofString "_NodeInfo"] (fun s => xlAt pv [] s && recOk [] s) (Hook.obs HK) (Hook.val HK) 2680 := fun w => by
  first
  | unfold openEnds fencedOpening topFrom
    rw [PySem.W.Fast.te10274390034422433532, PySem.W.Fast.te14364793385576792824, PySem.W.Fast.te14289696077712309145, PySem.W.Fast.te14082659384304107361, PySem.W.Fast.te4187177175401517315]
    kernel_rfl
  | kernel_rfl
end Mine
end
section
set_option maxRecDepth 100000
set_option autoImplicit false
namespace Mine
open PySem PySem.Calls PySem.Spec PyProof.Rows PySem.W
open Sem (wp)

theorem gi_caller : GI true (⟨.builtin "claim.caller" {}, none, none, [], none⟩ : PySem.Ctx) := fun _ => ⟨by decide +kernel, fun c hc => nomatch hc⟩
/- a call from nowhere ends -/
theorem ends_g {prog : Program} {w : World} {t : Sem Fin} {s : Shared} {R : Result → Shared → Prop} (hz : s.asleep)
    (h : wpG true (model prog w) callerA t (fun fin s' => ∃ f, fin = .done f ∧ R (.ok f) s' ∧ leftWithCleanup s'.gens = false) (fun _ _ => False) s) :
    ∃ n r s' s'', runN (denote table) prog w n s ⟨t, .builtin "claim.caller" {}, default, []⟩ = .halted (outcomeOf r) s' ∧
      schedN (denote table) prog w n (.single s ⟨t, .builtin "claim.caller" {}, default, []⟩) = .halted (outcomeOf r) s' ∧ s'.forget = s''.forget ∧ R r s'' := by
  obtain ⟨n, r, s₁, s₂, hs, hn, hfo, hR⟩ := wp_halts_full (M := model prog w) (R := R) (p := default) hz (Sem.wp_mono _ _ t (fun fin p' s' h' => by
    obtain ⟨f, rfl, hf⟩ := h'
    exact hf) (fun _ _ _ h' => h'.elim) default s (h _ default caller_in gi_caller))
  exact ⟨n, r, s₂, s₁, hn, hs, hfo, hR⟩
theorem call_from {c : ClaimW} {tree : List Value → Sem Fin} {w : World} {s : Shared} {free : Addr → Prop} {gens : Prop} {kept : Heap → Prop} (hk : ∀ h, kept h) (hz : s.asleep) (hgens : s.gens = #[])
    (spec : ∀ args, c.pre args = true → WData.layableAll args = true → ∀ ord : List DictEntry → List DictEntry, (∀ l, (ord l).Perm l) → ∃ vs s₁, layAllW c.records (classAt s.heap) w.params ord args s = some (vs, s₁) ∧
      wpG true (model c.prog w) callerA (tree vs) (fun fin s' => ∃ f, fin = .done f ∧ c.Ends s args vs s₁ (.ok f) s' ∧ s'.os = s.os ∧ AllBare s'.gens) (fun _ _ => False) s₁) :
    c.CallFrom (fun vs => ⟨tree vs, .builtin "claim.caller" {}, default, []⟩) w free gens kept s := by
  intro args hpre hlay ord hord
  obtain ⟨vs, s₁, hlaid, hcode⟩ := spec args hpre hlay ord hord
  have hal := layAllW_rest _ _ _ hlaid
  obtain ⟨k, r, s', s'', hrun, hsched, hfo, hcase, hos⟩ := ends_g (prog := c.prog) (w := w) (t := tree vs) (s := s₁) (R := fun r s' => c.Ends s args vs s₁ r s' ∧ s'.os = s.os)
    (Shared.asleep_of_life hal.2.2.2 hz) (wpG_mono hcode (fun fin s' h => by
      obtain ⟨f, e, h1, h2, h3⟩ := h
      exact ⟨f, e, ⟨h1, h2⟩, leftWithCleanup_false_of_bare h3⟩) fun _ _ h => h)
  obtain ⟨eh, _, _, eo, _⟩ := Shared.forget_eq hfo
  have hcase := hcase.congr eh
  rw [← eo] at hos
  have hlife : s'.heap.life = s.heap.life := (runN_life _ _ _ hrun).trans hal.2.2.2
  refine ⟨vs, s₁, hlaid, k, _, s', hsched, ?_, (fun _ i x hx => by rw [hgens] at hx; simp at hx), hk _, by rw [hlife], Shared.rest_eq hos⟩
  rcases hcase with h | h
  · exact .inl (h.elim fun v h => ⟨v, by rw [h.1]; rfl, h.2.1, h.2.2.1, h.2.2.2.1, fun b o y _ => h.2.2.2.2.1 b o y, h.2.2.2.2.2⟩)
  · exact .inr (h.elim fun e h => h.elim fun o h => h.elim fun cls h => ⟨e, o, cls, by rw [h.1]; rfl, h.2.1, h.2.2.1, h.2.2.2.1, h.2.2.2.2.1, fun b o y _ => h.2.2.2.2.2 b o y⟩)

theorem ints_of {R : WRecords} {cl : Str → Option Addr} {h : Heap} : ∀ {ns : List Int} {vs : List Value} {as : List Addr}, ReadsAllW R cl h vs (ns.map WData.int) as → IntsAre vs ns
  | [], _, _, .nil => .nil
  | _ :: _, _, _, .cons r1 r2 => by
    cases r1
    exact .cons _ _ (ints_of r2)
theorem defLaw {w : World} : DefOk w 186 fdLaw (lawB 0) ["script"] where
  obj := ⟨{ cls := .type "function", data := .func _ }, by kernel_rfl, rfl⟩
  body := rfl
  code := by kernel_rfl
  clo := rfl
  nodup := by decide
  kinds := fun n x hx => by
    simp only [List.mem_singleton] at hx
    subst hx
    exact .inr ⟨by kernel_rfl, rfl⟩
  cellsNodup := fun n => (show ([Str.ofString "levels", Str.ofString "heads", Str.ofString "sep", Str.ofString "widths", Str.ofString "cells", Str.ofString "script"] : List Str).Nodup by decide)
  co := by kernel_rfl
  gen := by kernel_rfl
  fn := by kernel_rfl
/- the law, called -/
theorem call_law {w : World} {s : Shared} {sa : Addr} {ns : List Int} {Q E} (HB : BaseOk w s.heap) (S : Scr s.heap sa ns)
    (q : ∀ s' : Shared, (∀ b o, s.heap.get? b = some o → s'.heap.get? b = some o) → (∃ h tk, s' = { s with heap := h, toks := tk }) → Q (.bool true) s') :
    wpG true (model PR w) callerA (PySem.call (.ref 186) [.ref sa]) Q E s :=
  wpG_top HB defLaw (by kernel_rfl) (fun L A' hA => law_all HB hA S) q
end Mine
end
section
set_option maxRecDepth 100000
set_option autoImplicit false
namespace Mine
open PySem PySem.Calls PySem.Spec PyProof.Rows PySem.W

noncomputable abbrev RW0 : OpenRow := PySem.Challenge.rw_op0139_01.row
noncomputable def dPos : Stmt → Pos
  | .FunctionDef _ _ _ _ _ _ _ _ _ p => p
  | _ => noPos
noncomputable def dLaw : DefRec := { name := "law", params := fdLaw.params, body := dBody (stN 16), scope := fdLaw.scope, pos := dPos (stN 16) }
theorem look : looksOpen PR = true := by
  unfold looksOpen
  exact look_both (look_both (look_both (look_both (look_both (by decide +kernel) (by decide +kernel)) (by decide +kernel)) (by decide +kernel)) (by decide +kernel)) (by decide +kernel)
theorem said : PySem.Challenge.rw_op0139_01.wellSaid = true := by
  unfold OpenLaw.wellSaid OpenRow.wellSaid OpenRow.partSaid
  rw [show looksOpen PySem.Challenge.rw_op0139_01.row.prog = true from look]
  kernel_rfl
theorem pledged : RW0.toRowW.promised := ⟨[.list []], by decide +kernel, by decide +kernel⟩
theorem base_of {w : World} {s₀ : Shared} {mg mb : Str → Option Value} {XP : (Str → Option Value) → Heap → Prop} {R : WRecords} {h : Heap} (G : Ground pv [Str.ofString "_NodeInfo"] R XP w s₀ mg mb h) (Y : HK.says w h) : BaseOk w h where
  kin := kIn_of Y
  top := ⟨_, _, _, _, _, G.T⟩
  mods := by
    obtain ⟨_, ⟨o, _, _, e, _⟩, _⟩ := (G.T.seer (by kernel_rfl)).mods
    exact ⟨o, e⟩
theorem pre_law {args : List WData} (h : RW0.claim.pre args = true) : ∃ ns : List Int, args = [.list (ns.map .int)] ∧ ns.length ≤ 63 := by
  obtain ⟨h1, h2⟩ := pre_splitW h
  obtain ⟨d, r, rfl, h3, h4⟩ := hasAllW_cons h1
  obtain rfl : r = [] := by cases r with
    | nil => rfl
    | cons x xs => simp [WShape.hasAll] at h4
  obtain ⟨xs, rfl, h5⟩ := hasW_list h3
  obtain ⟨ns, rfl⟩ := items_int h5
  refine ⟨ns, rfl, ?_⟩
  have h2' : WTm.holds [] (.and (.not (.lt (.lit (.int 63)) (.len (.arg 0)))) (.lit (.bool true))) { args := [.list (ns.map WData.int)] } = true := h2
  simp [WTm.holds, WTm.value, W.less?, Num.less?] at h2'
  by_cases hc : ns.length ≤ 63
  · exact hc
  · rw [decide_eq_true (show (63 : Int) < ns.length by lia)] at h2'
    cases h2'
theorem post_law {ns : List Int} : RW0.claim.post [.list (ns.map .int)] (.bool true) [.list (ns.map .int)] = true := by
  show (WShape.has [] (.bool true) .bool && WTm.holds [] (.eq .res (.lit (.bool true))) { args := [.list (ns.map WData.int)], res := some (.bool true), after := [.list (ns.map WData.int)] }) = true
  simp [WTm.holds, WTm.value, WShape.has, WShape.arms, W.same]
theorem hdef : defOf pv "law" = some (dLaw, []) := by kernel_rfl
theorem hthe : PR.theDef "law" = some (dLaw.params, dLaw.body, dLaw.scope) := by kernel_rfl
theorem looks_open : (chainsOk pv && opensWell PR && (frees RW0.toRowW && RW0.within.isEmpty)) = true := by kernel_rfl
theorem bare_law : PR.bare := ⟨rfl, rfl, rfl, rfl, rfl, by decide +kernel⟩

theorem row_holds : RW0.Holds := by
  obtain ⟨ok, k5⟩ := Bool.and_eq_true_iff.mp looks_open
  obtain ⟨hch, o1⟩ := Bool.and_eq_true_iff.mp ok
  obtain ⟨k5, k6⟩ := Bool.and_eq_true_iff.mp k5
  obtain ⟨hsame, hu, ha, hap, hm⟩ := frees_parts k5
  refine ⟨row_said said, pledged, ⟨bare_law, o1, rfl⟩, pledged.witness, fun w => ?_⟩
  have bh := left.behind (XP := fun _ _ => True) (fun _ _ => trivial) hch w
  refine ⟨bh.1, fun s' hs' => ?_⟩
  obtain ⟨s₀, hf, hg0, s, hT, hz, hgens, hg, G, y⟩ := bh.2 s' hs'
  refine ⟨s₀, hf, hg0, s, hT, fun n hn => ?_, fun x hx => (nomatch hx), fun x hx => (nomatch hx), ?_⟩
  · cases List.mem_singleton.mp (show n ∈ [Str.ofString "law"] from hn)
    exact pinned_of_view hg G hdef hthe rfl
  have hgens : s.gens = #[] := Array.eq_empty_of_size_eq_zero (beq_iff_eq.mp hgens)
  refine call_from (c := RW0.claim) (tree := fun vs => do match ← nsGet mainNs RW0.name with
    | some f => do ret (← PySem.call f vs)
    | none => unsupported "claim.caller:no-such-global") (fun _ h => (nomatch h)) hz hgens fun args hpre hlay ord hord => ?_
  obtain ⟨⟨vs, s₁⟩, hlaid⟩ := Option.isSome_iff_exists.mp (layAllW_isSome (P := w.params) (ord := ord) G.has args RW0.args s (pre_splitW hpre).1)
  have keeps := layAllW_keeps _ _ _ hlaid
  have hal := layAllW_rest _ _ _ hlaid
  obtain ⟨as, hrd, hin, hold⟩ := reads_layAllW hord _ _ _ hlaid hlay s₁.heap (fun _ _ e => e)
  have hLaid : Laid [] w s s₁ args vs as := ⟨⟨ord, hord, hlaid⟩, hrd, hin, hold, keeps, hal.1.trans hgens, hal.2.2.1⟩
  have G₁ := G.keeps (fun _ _ _ _ _ => trivial) keeps
  have HB : BaseOk w s₁.heap := base_of G₁ (HK.keeps _ _ _ (HK.of _ _ y) keeps)
  obtain ⟨ns, rfl, hlen⟩ := pre_law hpre
  have hread := hLaid.reads
  cases hread with
  | cons r1 r2 =>
  cases r2
  obtain ⟨l, o, its, n, ai, rfl, e1, e2, e3, hi, _⟩ := readsW_list_open r1
  have S : Scr s₁.heap l ns := ⟨⟨its, ⟨o, e1, e2, n, e3⟩, ints_of hi⟩, hlen⟩
  refine ⟨[.ref l], s₁, hlaid, wpG_bind (wpG_of (wpAny_nsGet G₁.T.g ?_))⟩
  rw [mg_of HB.kin G₁.T.g (show nsIn (KK w.params) mainGlobals RW0.name = some (some (.ref 186)) by kernel_rfl)]
  refine wpG_bind (call_law HB S fun s' hk hs => wpG_pure ⟨_, rfl, ?_⟩)
  obtain ⟨h, tk, e⟩ := hs
  have g : GoodWG RW0.claim (classAt s.heap) (ExcName.means s.heap) [.list (ns.map .int)] s₁ (.ok (.ret (.bool true))) s' :=
    ⟨.inl ⟨.bool true, .bool true, [], rfl, fun _ => rfl, .bool true, post_law, fun _ => ⟨List.nodup_nil, fun _ h => (nomatch h)⟩⟩, .of_keep hk, by rw [e], .of_eq (by rw [e]; exact hLaid.gens)⟩
  exact g.laid (c := RW0.claim) hsame (List.isEmpty_iff.mp k6) (ident_freeW hu ha hap) hLaid
end Mine
theorem PySem.Challenge.cw_op0139_01_holds : PySem.Challenge.rw_op0139_01.Holds := by
  exact ⟨Mine.said, Mine.row_holds⟩
end
