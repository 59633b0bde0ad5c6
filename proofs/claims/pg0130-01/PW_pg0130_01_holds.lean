import PyProof.Rows.All
import Wide.All
import OpenK.AllK
import Wide.FinOn
import Lean
import PySem.Challenge.RW_pg0130_01
set_option maxRecDepth 100000
set_option Elab.async false
set_option linter.unusedVariables false
set_option maxHeartbeats 8000000
namespace Mine
open PySem PySem.Spec PySem.Calls PyProof.Rows PySem.W
noncomputable section
/-! the head by one check: what the top leaves in the heap, told by the places of the defs in the row's own text -/
noncomputable def isDefn : Stmt → Bool
  | .FunctionDef .. => true
  | .ClassDef .. => true
  | _ => false
noncomputable def at_ : List Stmt → Nat → Stmt
  | [], _ => .Pass ⟨0, 0, 0, 0⟩
  | s :: _, 0 => s
  | _ :: r, k + 1 => at_ r k
noncomputable def inCls : Stmt → List Stmt
  | .ClassDef _ _ _ b _ _ _ _ _ _ _ => b
  | _ => []
noncomputable def stmtsOf : Stmt → List Stmt
  | .FunctionDef _ _ b _ _ _ _ _ _ _ => b
  | _ => []
noncomputable def paramsOf : Stmt → Arguments
  | .FunctionDef _ p _ _ _ _ _ _ _ _ => p
  | _ => ⟨[], [], none, [], [], none, []⟩
noncomputable def scopeOf : Stmt → Scope
  | .FunctionDef _ _ _ _ _ _ s _ _ _ => s
  | _ => ⟨.function, [], false, false, []⟩
noncomputable def posOf : Stmt → Pos
  | .FunctionDef _ _ _ _ _ _ _ _ _ p => p
  | _ => ⟨0, 0, 0, 0⟩
noncomputable def fdOf (s : Stmt) (name qual : Str) (mod : Value) (c : Nat) : FuncData :=
  { name := name, qualname := qual, params := paramsOf s, body := .stmts (stmtsOf s), scope := scopeOf s, globals := 3, closure := [], defaults := .none, kwdefaults := .none, pyModule := mod, code := .ref c }
noncomputable def fnObj (fd : FuncData) : Obj := { cls := .type "function", data := .func fd }
/-- the qualified name that a code object bears -/
noncomputable def qualAt (h : Heap) (c : Nat) : Option Value := match h.get? c with
  | some ⟨_, _, .fields vs, _⟩ => vs[1]?
  | _ => none
noncomputable def namesAt (h : Heap) (ns : List (Str × Option Value)) : Option (List (Option Value)) := match h.get? mainGlobals with
  | some ⟨_, _, .dict es _, _⟩ => some (ns.map fun x => nsFind es x.1)
  | _ => none
structure Says (K : Params → Frag) (cs : List (Nat × Value)) (ns : List (Str × Option Value)) (ts : List Nat) (w : World) (h : Heap) : Prop where
  frag : (K w.params).In h
  quals : ∀ c ∈ cs, ∃ o vs, h.get? c.1 = some o ∧ o.data = .fields vs ∧ vs[1]? = some c.2
  names : ∃ o es ep, h.get? mainGlobals = some o ∧ o.data = .dict es ep ∧ ∀ x ∈ ns, nsFind es x.1 = x.2
  tabs : ∀ t ∈ ts, h.get? t = some (tabObj #[])
  sys : ∃ o, h.get? sysModules = some o
noncomputable def hk (K : Params → Frag) (as : List Nat) (cs : List (Nat × Value)) (ns : List (Str × Option Value)) (ts : List Nat) (e : ∀ P, as = (K P).map (·.1)) : Hook where
  α := List (Option Obj) × List (Option Value) × Option (List (Option Value)) × List (Option Obj) × Bool
  obs := fun s => (as.map s.heap.get?, cs.map (fun c => qualAt s.heap c.1), namesAt s.heap ns, ts.map s.heap.get?, (s.heap.get? sysModules).isSome)
  val := fun w => ((K w.params).map fun p => some p.2, cs.map (fun c => some c.2), some (ns.map (·.2)), ts.map fun _ => some (tabObj #[]), true)
  says := Says K cs ns ts
  of := fun w s x => by
    obtain ⟨h1, h2⟩ := Prod.mk.inj x
    obtain ⟨h2, h3⟩ := Prod.mk.inj h2
    obtain ⟨h3, h4⟩ := Prod.mk.inj h3
    obtain ⟨h4, h5⟩ := Prod.mk.inj h4
    refine ⟨InK.of e w s h1, fun c hc => ?_, ?_, List.map_inj_left.mp h4, Option.isSome_iff_exists.mp h5⟩
    · have := List.map_inj_left.mp h2 c hc
      unfold qualAt at this
      split at this
      · rename_i q; exact ⟨_, _, q, rfl, this⟩
      · cases this
    · unfold namesAt at h3
      split at h3
      · rename_i q; exact ⟨_, _, _, q, rfl, List.map_inj_left.mp (Option.some.inj h3)⟩
      · cases h3
  keeps := fun w h h' x k => ⟨Frag.In.keeps x.frag k, fun c hc => let ⟨o, vs, a, b⟩ := x.quals c hc; ⟨o, vs, k _ _ a, b⟩, let ⟨o, es, ep, a, b⟩ := x.names; ⟨o, es, ep, k _ _ a, b⟩, fun t ht => k _ _ (x.tabs t ht), let ⟨o, e⟩ := x.sys; ⟨o, k _ _ e⟩⟩
 abbrev PP : Program := PySem.Challenge.pw_pg0130_01
noncomputable def bodyP : List Stmt := PP.main.body
noncomputable def viewP : Program := { PP with main := { PP.main with body := PP.main.body.filter isDefn } }
noncomputable def fd21 : FuncData := fdOf (at_ bodyP 1) "heappush" "heappush" (.str "cpy313.heapq" 187) 20
noncomputable def fd28 : FuncData := fdOf (at_ bodyP 2) "heappop" "heappop" (.str "cpy313.heapq" 187) 27
noncomputable def fd35 : FuncData := fdOf (at_ bodyP 3) "_siftdown" "_siftdown" (.str "cpy313.heapq" 187) 34
noncomputable def fd42 : FuncData := fdOf (at_ bodyP 4) "_siftup" "_siftup" (.str "cpy313.heapq" 187) 41
noncomputable def fd56 : FuncData := fdOf (at_ (inCls (at_ bodyP 6)) 0) "__init__" "_netrclex.__init__" (.str "cpy313.netrc" 231) 55
noncomputable def fd63 : FuncData := fdOf (at_ (inCls (at_ bodyP 6)) 1) "_read_char" "_netrclex._read_char" (.str "cpy313.netrc" 231) 62
noncomputable def fd70 : FuncData := fdOf (at_ (inCls (at_ bodyP 6)) 2) "get_token" "_netrclex.get_token" (.str "cpy313.netrc" 231) 69
noncomputable def fd77 : FuncData := fdOf (at_ (inCls (at_ bodyP 6)) 3) "push_token" "_netrclex.push_token" (.str "cpy313.netrc" 231) 76
noncomputable def fd91 : FuncData := fdOf (at_ bodyP 8) "func_std_string" "func_std_string" (.str "cpy313.pstats" 291) 90
noncomputable def fd98 : FuncData := fdOf (at_ bodyP 9) "add_func_stats" "add_func_stats" (.str "cpy313.pstats" 291) 97
noncomputable def fd105 : FuncData := fdOf (at_ bodyP 10) "add_callers" "add_callers" (.str "cpy313.pstats" 291) 104
noncomputable def fd112 : FuncData := fdOf (at_ bodyP 11) "count_calls" "count_calls" (.str "cpy313.pstats" 291) 111
noncomputable def fd119 : FuncData := fdOf (at_ bodyP 13) "_law_machine" "_law_machine" (.str "law_pg0130_01" 339) 118
noncomputable def fd124 : FuncData := fdOf (at_ bodyP 14) "_law_written" "_law_written" (.str "law_pg0130_01" 339) 123
noncomputable def fd131 : FuncData := fdOf (at_ bodyP 15) "_law_numbers" "_law_numbers" (.str "law_pg0130_01" 339) 130
noncomputable def fd136 : FuncData := fdOf (at_ bodyP 16) "_law_turned" "_law_turned" (.str "law_pg0130_01" 339) 135
noncomputable def fd141 : FuncData := fdOf (at_ bodyP 17) "_law_taken" "_law_taken" (.str "law_pg0130_01" 339) 140
noncomputable def fd146 : FuncData := fdOf (at_ bodyP 18) "_law_falls" "_law_falls" (.str "law_pg0130_01" 339) 145
noncomputable def fd151 : FuncData := fdOf (at_ bodyP 19) "_law_pairs" "_law_pairs" (.str "law_pg0130_01" 339) 150
noncomputable def fd156 : FuncData := fdOf (at_ bodyP 20) "_law_placed" "_law_placed" (.str "law_pg0130_01" 339) 155
noncomputable def fd161 : FuncData := fdOf (at_ bodyP 21) "_law_orders" "_law_orders" (.str "law_pg0130_01" 339) 160
noncomputable def fd166 : FuncData := fdOf (at_ bodyP 22) "_law_booked" "_law_booked" (.str "law_pg0130_01" 339) 165
noncomputable def fd171 : FuncData := fdOf (at_ bodyP 23) "_law_due" "_law_due" (.str "law_pg0130_01" 339) 170
noncomputable def fd176 : FuncData := fdOf (at_ bodyP 24) "_law_filled" "_law_filled" (.str "law_pg0130_01" 339) 175
noncomputable def fd181 : FuncData := fdOf (at_ bodyP 25) "law" "law" (.str "law_pg0130_01" 339) 180
noncomputable def KK (P : Params) : Frag := [
  (2, { cls := .none, data := .dict #[] }),
  (21, fnObj fd21),
  (28, fnObj fd28),
  (35, fnObj fd35),
  (42, fnObj fd42),
  (56, fnObj fd56),
  (63, fnObj fd63),
  (70, fnObj fd70),
  (77, fnObj fd77),
  (79, { cls := .type "dict", data := .dict #[{ hash := PyData.keyHash P "__module__", key := .str "__module__" 240, val := .str "cpy313.netrc" 231 }, { hash := PyData.keyHash P "__firstlineno__", key := .str "__firstlineno__" 244, val := .int 39 243 }, { hash := PyData.keyHash P "__init__", key := .str "__init__" 252, val := .ref 56 }, { hash := PyData.keyHash P "_read_char", key := .str "_read_char" 260, val := .ref 63 }, { hash := PyData.keyHash P "get_token", key := .str "get_token" 270, val := .ref 70 }, { hash := PyData.keyHash P "push_token", key := .str "push_token" 278, val := .ref 77 }, { hash := PyData.keyHash P "__static_attributes__", key := .str "__static_attributes__" 283, val := .ref 78 }, { hash := PyData.keyHash P "__dict__", key := .str "__dict__" 285, val := .ref 81 }, { hash := PyData.keyHash P "__weakref__", key := .str "__weakref__" 287, val := .ref 82 }, { hash := PyData.keyHash P "__doc__", key := .str "__doc__" 288, val := .none }] 4 }),
  (80, { cls := .type "type", data := .cls { name := "_netrclex", bases := [.type "object"], mro := [.ref 80, .type "object"], ns := 79, qualname := "_netrclex" }, slots := #[none, none, some (.str "_netrclex" 233), some (.str "_netrclex" 241), some (.builtin "object.__new__"), some (.bool true)] }),
  (81, { cls := .type "getset_descriptor", data := .fields #[.str "__dict__" 284, .ref 80, .builtin "function.__dict__", .builtin "function.__dict__#set"] }),
  (82, { cls := .type "getset_descriptor", data := .fields #[.str "__weakref__" 286, .ref 80, .builtin "ExceptionGroup.__weakref__", .none] }),
  (91, fnObj fd91),
  (98, fnObj fd98),
  (105, fnObj fd105),
  (112, fnObj fd112),
  (118, { cls := .type "code", data := .fields #[.str "_law_machine" 341, .str "_law_machine" 342, .str "/claim/cut.py" 343, .int 115 0, .int 1 0, .int 0 0, .int 0 0, .int 3 0, .ref 113, .bool true, .int 181 0, .ref 114, .none, .ref 115, .ref 116, .ref 117, .int 349 0, .int 115 0, .str "/claim/cut.py" 350] }),
  (119, fnObj fd119),
  (124, fnObj fd124),
  (131, fnObj fd131),
  (136, fnObj fd136),
  (141, fnObj fd141),
  (146, fnObj fd146),
  (151, fnObj fd151),
  (156, fnObj fd156),
  (161, fnObj fd161),
  (166, fnObj fd166),
  (171, fnObj fd171),
  (176, fnObj fd176),
  (181, fnObj fd181)]
noncomputable def asP : List Nat := [2, 21, 28, 35, 42, 56, 63, 70, 77, 79, 80, 81, 82, 91, 98, 105, 112, 118, 119, 124, 131, 136, 141, 146, 151, 156, 161, 166, 171, 176, 181]
/-- code objects: their qualified names, their tables -/
noncomputable def csP : List (Nat × Value) := [(20, .str "heappush" 190), (27, .str "heappop" 198), (34, .str "_siftdown" 207), (41, .str "_siftup" 219), (55, .str "_netrclex.__init__" 246), (62, .str "_netrclex._read_char" 254), (69, .str "_netrclex.get_token" 262), (76, .str "_netrclex.push_token" 272), (90, .str "func_std_string" 294), (97, .str "add_func_stats" 302), (104, .str "add_callers" 320), (111, .str "count_calls" 331), (118, .str "_law_machine" 342), (123, .str "_law_written" 353), (130, .str "_law_numbers" 359), (135, .str "_law_turned" 368), (140, .str "_law_taken" 374), (145, .str "_law_falls" 380), (150, .str "_law_pairs" 386), (155, .str "_law_placed" 392), (160, .str "_law_orders" 398), (165, .str "_law_booked" 404), (170, .str "_law_due" 410), (175, .str "_law_filled" 416), (180, .str "law" 422)]
noncomputable def nsP : List (Str × Option Value) := [("heappush", some (.ref 21)), ("heappop", some (.ref 28)), ("_siftdown", some (.ref 35)), ("_siftup", some (.ref 42)), ("func_std_string", some (.ref 91)), ("add_func_stats", some (.ref 98)), ("add_callers", some (.ref 105)), ("count_calls", some (.ref 112)), ("_law_machine", some (.ref 119)), ("_law_written", some (.ref 124)), ("_law_numbers", some (.ref 131)), ("_law_turned", some (.ref 136)), ("_law_taken", some (.ref 141)), ("_law_falls", some (.ref 146)), ("_law_pairs", some (.ref 151)), ("_law_placed", some (.ref 156)), ("_law_orders", some (.ref 161)), ("_law_booked", some (.ref 166)), ("_law_due", some (.ref 171)), ("_law_filled", some (.ref 176)), ("law", some (.ref 181)), ("_netrclex", some (.ref 80)), ("len", none), ("sum", none), ("sorted", none), ("iter", none), ("isinstance", none), ("range", none), ("str", none), ("dict", none), ("tuple", none)]
noncomputable def tbNames : List (Str × Value) := [("heappush", .ref 21), ("heappop", .ref 28), ("_siftdown", .ref 35), ("_siftup", .ref 42), ("func_std_string", .ref 91), ("add_func_stats", .ref 98), ("add_callers", .ref 105), ("count_calls", .ref 112), ("_law_machine", .ref 119), ("_law_written", .ref 124), ("_law_numbers", .ref 131), ("_law_turned", .ref 136), ("_law_taken", .ref 141), ("_law_falls", .ref 146), ("_law_pairs", .ref 151), ("_law_placed", .ref 156), ("_law_orders", .ref 161), ("_law_booked", .ref 166), ("_law_due", .ref 171), ("_law_filled", .ref 176), ("law", .ref 181), ("_netrclex", .ref 80), ("len", .builtin "len"), ("sum", .builtin "sum"), ("sorted", .builtin "sorted"), ("iter", .builtin "iter"), ("isinstance", .builtin "isinstance"), ("range", .type "range"), ("str", .type "str"), ("dict", .type "dict"), ("tuple", .type "tuple")]
noncomputable def tbFns : List Nat := [21, 28, 35, 42, 56, 63, 70, 77, 91, 98, 105, 112, 119, 124, 131, 136, 141, 146, 151, 156, 161, 166, 171, 176, 181, 80]
noncomputable def dP : DefRec := ⟨"law", fd181.params, stmtsOf (at_ bodyP 25), fd181.scope, posOf (at_ bodyP 25)⟩
 abbrev rwP : OpenLaw := PySem.Challenge.rw_pg0130_01
noncomputable def hkP : Hook := hk KK asP csP nsP [114] (fun _ => by kernel_rfl)
theorem saidP : rwP.wellSaid = true := by kernel_rfl
theorem leftP : LeftO PP viewP [] (fun s => xlAt viewP [] s && recOk (RowW.records rwP.row.toRowW) s) hkP.obs hkP.val 2072 := by
  intro w
  kernel_rfl
theorem promisedP : rwP.row.toRowW.promised := by w_witness2
theorem headP (call : WalkO viewP [] (XL viewP []) hkP.says rwP.row.toRowW dP [] fun f vs => PySem.call f vs) : rwP.Holds :=
  holds_law saidP fun said => holds_open (r := rwP.row) (q := viewP) (loose := []) (Xt := fun s => xlAt viewP [] s && recOk (RowW.records rwP.row.toRowW) s) (XP := XL viewP []) (Yf := hkP.obs) (Ya := hkP.val) (YP := hkP.says) (N := 2072)
    leftP hkP.of hkP.keeps (fun s e => xl_of s (Bool.and_eq_true_iff.mp e).1) XL.keeps (by rfl) (by rfl) (by rfl) (fun s e => recFacts_of (Bool.and_eq_true_iff.mp e).2) (by rfl) said (by decide +kernel) ⟨rfl, rfl, rfl, rfl, rfl, by decide +kernel⟩ promisedP call
end
noncomputable section
/-! arithmetic that the walks lean on -/
theorem ar0 {x0 : Nat} : ((0 : Int) ≤ ((x0 : Nat) : Int)) := Int.natCast_nonneg _
theorem ar1 {x0 : Nat} {x1 : Nat} (h1 : ((x0 + (1 : Nat)) ≤ x1)) : (x0 ≠ x1) := Nat.ne_of_lt (Nat.lt_of_lt_of_le (Nat.lt_succ_self _) h1)
theorem ar2 {x0 : Nat} {x1 : Nat} (h1 : (x0 ≤ x1)) : (x0 ≤ x1) := h1
theorem ar3 {x0 : Nat} {x1 : Nat} {x2 : Nat} (h1 : (x0 ≤ x2)) (h2 : ((x2 + (1 : Nat)) ≤ x1)) : (x0 ≤ x1) := Nat.le_trans h1 (Nat.le_trans (Nat.le_succ _) h2)
theorem ar4 {x0 : Nat} (h1 : (x0 ≤ (9000 : Nat))) : (x0 < (9900 : Nat)) := Nat.lt_of_le_of_lt h1 (by decide)
theorem ar5 {x0 : Nat} {x1 : Nat} (h1 : ((x0 + (1 : Nat)) ≤ x1)) : (x0 ≤ x1) := Nat.le_trans (Nat.le_succ _) h1
theorem ar6 {x0 : Nat} {x1 : Nat} (h1 : (x0 ≤ x1)) : (x0 ≤ (x1 + (1 : Nat))) := Nat.le_succ_of_le h1
theorem ar7 {x0 : Nat} : ((x0 + (1 : Nat)) ≠ (x0 + (2 : Nat))) := Nat.ne_of_lt (Nat.lt_succ_self _)
theorem ar8 {x0 : Nat} {x1 : Nat} {x2 : Nat} {x3 : Nat} {x4 : Nat} (h1 : (x0 < x2)) (h2 : (x2 ≤ x3)) (h3 : ((x3 + (1 : Nat)) ≤ x4)) (h4 : ((x4 + (2 : Nat)) ≤ x1)) : (x0 ≠ x1) := (Nat.ne_of_lt (Nat.lt_of_lt_of_le (Nat.lt_trans (Nat.lt_trans (Nat.lt_of_lt_of_le h1 h2) h3) (Nat.lt_add_of_pos_right (by decide))) h4))
theorem ar9 {x0 : Nat} : ((1 : Nat) ≤ (x0 + (1 : Nat))) := Nat.succ_le_succ (Nat.zero_le _)
theorem ar10 {x0 : Nat} {x1 : Nat} (h1 : (x1 < (64 : Nat))) (h2 : (x0 < x1)) : (((x0 : Nat) : Int) < ((2 : Int) ^ (60 : Nat))) := (Int.lt_of_lt_of_le (Int.ofNat_lt.mpr (Nat.lt_trans h2 h1)) (by decide))
theorem ar11 {x0 : Nat} {x1 : Nat} {x2 : Nat} {x3 : Nat} (h1 : (x0 < x2)) (h2 : (x2 ≤ x3)) (h3 : ((x3 + (1 : Nat)) ≤ x1)) : (x0 ≠ x1) := (Nat.ne_of_lt (Nat.lt_trans (Nat.lt_of_lt_of_le h1 h2) h3))
theorem ar12 {x0 : Nat} {x1 : Nat} {x2 : Nat} (h1 : (((x2 + (1 : Nat)) ≤ x0) ∧ (x0 < x1))) : (x0 < x1) := h1.2
theorem ar13 {x0 : Nat} : ((((x0 : Nat) : Int) + (1 : Int)) = (((x0 + (1 : Nat)) : Nat) : Int)) := by lia
theorem ar14 {x0 : Nat} : (x0 < (x0 + (1 : Nat))) := Nat.lt_succ_self _
theorem ar15 {x0 : Nat} {x1 : Nat} {x2 : Nat} (h1 : ((x0 + ((4 : Nat) * (x1 + (1 : Nat)))) < x2)) : (((x0 + (1 : Nat)) + ((4 : Nat) * x1)) < x2) := by lia
theorem ar16 {x0 : Nat} {x1 : Nat} {x2 : Nat} (h1 : ((x0 + ((4 : Nat) * (x2 + (1 : Nat)))) < x1)) : (x0 < x1) := (Nat.lt_of_le_of_lt (Nat.le_add_right _ _) h1)
theorem ar17 {x0 : Nat} {x1 : Nat} {x2 : Nat} (h1 : ((x0 + (x1 + (1 : Nat))) ≤ x2)) : (((x0 + (1 : Nat)) + x1) ≤ x2) := by lia
theorem ar18 {x0 : Nat} {x1 : Nat} {x2 : Nat} (h1 : (x0 ≤ ((x1 + (1 : Nat)) + x2))) : (x0 ≤ (x1 + (x2 + (1 : Nat)))) := by lia
theorem ar19 {x0 : Nat} {x1 : Nat} (h1 : (x0 = x1)) : (x0 ≤ x1) := (Nat.le_of_eq h1)
theorem ar20 {x0 : Nat} (h1 : (x0 < (64 : Nat))) : (x0 ≤ (16777216 : Nat)) := Nat.le_of_lt (Nat.lt_trans h1 (by decide))
theorem ar21 {x0 : Nat} {x1 : Nat} (h1 : (¬ (x1 ≤ x0))) : (x0 ≤ x1) := (Nat.le_of_lt (Nat.not_le.mp h1))
theorem ar22 {x0 : Nat} {x1 : Nat} {x2 : Nat} (h1 : (x1 = x2)) (h2 : (x0 < x2)) : (((x0 : Nat) : Int) < ((x1 : Nat) : Int)) := (Int.ofNat_lt.mpr (Nat.lt_of_lt_of_le h2 (Nat.le_of_eq h1.symm)))
theorem ar23 {x0 : Nat} {x1 : Nat} (h1 : (x0 ≤ x1)) : (x0 ≤ (x1 + (2 : Nat))) := (Nat.le_of_lt (Nat.lt_of_le_of_lt h1 (Nat.lt_add_of_pos_right (by decide))))
theorem ar24 {x0 : Nat} (h1 : ((x0 + (1 : Nat)) ≤ (4 : Nat))) : (x0 ≤ (4 : Nat)) := Nat.le_trans (Nat.le_succ _) h1
theorem ar25 {x0 : Nat} {x1 : Nat} (h1 : (x0 ≤ x1)) : (((0 : Nat) + x0) ≤ x1) := by lia
theorem ar26 {x0 : Nat} (h1 : (x0 < (10 : Nat))) : (x0 < (1099511627776 : Nat)) := Nat.lt_trans h1 (by decide)
theorem ar27 {x0 : Nat} {x1 : Nat} (h1 : ((x1 + (1 : Nat)) ≤ x0)) : (x0 ≠ x1) := (Nat.ne_of_gt h1)
theorem ar28 {x0 : Nat} {x1 : Nat} {x2 : Nat} (h1 : (x2 ≤ x1)) (h2 : (x0 < x2)) : (x0 ≠ (x1 + (1 : Nat))) := (Nat.ne_of_lt (Nat.lt_trans (Nat.lt_of_lt_of_le h2 h1) (Nat.lt_succ_self _)))
theorem ar29 {x0 : Nat} {x1 : Nat} {x2 : Nat} {x3 : Nat} (h1 : (x0 < x2)) (h2 : ((x2 + (1 : Nat)) ≤ x3)) (h3 : (x3 < x1)) : (x0 ≠ x1) := (Nat.ne_of_lt (Nat.lt_trans (Nat.lt_trans h1 h2) h3))
theorem ar30 {x0 : Nat} {x1 : Nat} (h1 : (x0 ≤ x1)) (h2 : (¬ (x0 < x1))) : (x0 = x1) := (Nat.le_antisymm h1 (Nat.not_lt.mp h2))
theorem ar31 {x0 : Nat} {x1 : Nat} (h1 : (x1 ≤ (50 : Nat))) (h2 : (x0 ≤ (9000 : Nat))) : (((x0 + (1 : Nat)) + ((4 : Nat) * x1)) < (9900 : Nat)) := by lia
theorem ar32 {x0 : Nat} {x1 : Nat} {x2 : Nat} (h1 : ((x0 + (x2 + (1 : Nat))) ≤ x1)) : (x0 < x1) := by lia
theorem ar33 {x0 : Nat} {x1 : Nat} {x2 : Nat} (h1 : ((1 : Nat) ≤ x0)) (h2 : ((x0 + (x2 + (1 : Nat))) ≤ x1)) : ((x0 - (1 : Nat)) < x1) := by lia
theorem ar34 {x0 : Nat} : (((0 : Nat) + (1 : Nat)) ≤ (x0 + (1 : Nat))) := Nat.succ_le_succ (Nat.zero_le _)
theorem ar35 {x0 : Nat} {x1 : Nat} (h1 : (x0 < (x1 + (1 : Nat)))) (h2 : (¬ (x0 = x1))) : (x0 < x1) := by lia
theorem ar36 {x0 : Nat} {x1 : Nat} {x2 : Nat} (h1 : ((x2 + (1 : Nat)) ≤ x1)) (h2 : (x0 ≤ ((x2 + (1 : Nat)) + (x1 - (x2 + (1 : Nat)))))) : (x0 ≤ x1) := by lia
theorem ar37 {x0 : Nat} : (x0 ≤ ((0 : Nat) + x0)) := (Nat.le_add_left _ _)
theorem ar38 {x0 : Nat} {x1 : Nat} (h1 : ((1 : Nat) ≤ x1)) (h2 : (x0 < (x1 + (1 : Nat)))) : ((x0 - (1 : Nat)) < x1) := by lia
theorem ar39 {x0 : Nat} {x1 : Nat} {x2 : Nat} (h1 : (x2 = x1)) (h2 : (x0 < x2)) : (x0 < x1) := (Nat.lt_of_lt_of_le h2 (Nat.le_of_eq h1))
theorem ar40 {x0 : Nat} {x1 : Nat} {x2 : Nat} (h1 : (x1 = x2)) (h2 : (x0 < x2)) : (x0 < x1) := (Nat.lt_of_lt_of_le h2 (Nat.le_of_eq h1.symm))
theorem ar41 {x0 : Nat} : (x0 < (((2 : Nat) * x0) + (1 : Nat))) := by lia
theorem ar42 {x0 : Nat} {x1 : Nat} (h1 : (x0 < x1)) : (x0 ≠ x1) := Nat.ne_of_lt h1
theorem ar43 {x0 : Nat} {x1 : Nat} (h1 : (x1 < ((2 : Nat) ^ (20 : Nat)))) (h2 : (x0 = x1)) : (x0 < ((2 : Nat) ^ (40 : Nat))) := (Nat.lt_trans (Nat.lt_of_le_of_lt (Nat.le_of_eq h2) h1) (by decide))
theorem ar44 {x0 : Nat} (h1 : (x0 < ((2 : Nat) ^ (19 : Nat)))) : (x0 < ((2 : Nat) ^ (40 : Nat))) := Nat.lt_trans h1 (by decide)
theorem ar45 {x0 : Nat} (h1 : (x0 < (64 : Nat))) : (x0 < (1099511627776 : Nat)) := Nat.lt_trans h1 (by decide)
theorem ar46 {x0 : Nat} (h1 : (x0 < (64 : Nat))) : (((x0 : Nat) : Int) < ((2 : Int) ^ (60 : Nat))) := (Int.lt_of_lt_of_le (Int.ofNat_lt.mpr h1) (by decide))
theorem ar47 {x0 : Nat} {x1 : Nat} (h1 : (x1 = (4 : Nat))) (h2 : (x0 = x1)) : (x0 < (1000 : Nat)) := (Nat.lt_of_le_of_lt (Nat.le_trans (Nat.le_of_eq h2) (Nat.le_of_eq h1)) (by decide))
theorem ar48 {x0 : Nat} {x1 : Nat} {x2 : Nat} (h1 : ((x0 + (1 : Nat)) ≤ x2)) (h2 : (x2 < x1)) : (x0 ≠ x1) := (Nat.ne_of_lt (Nat.lt_trans h1 h2))
theorem ar49 {x0 : Nat} {x1 : Nat} (h1 : ((x0 + (1 : Nat)) ≤ x1)) : (x0 < x1) := Nat.lt_of_lt_of_le (Nat.lt_succ_self _) h1
theorem ar52 {x0 : Nat} {x1 : Nat} (h1 : ((x0 + (x1 + (1 : Nat))) ≤ (900 : Nat))) : (x0 < (1000 : Nat)) := (Nat.lt_of_le_of_lt (Nat.le_trans (Nat.le_add_right _ _) h1) (by decide))
theorem ar53 {x0 : Nat} (h1 : (x0 < ((2 : Nat) ^ (40 : Nat)))) : (¬ (((x0 : Nat) : Int) ≥ ((2 : Int) ^ (63 : Nat)))) := by lia
theorem ar54 {x0 : Nat} {x1 : Nat} (h1 : (x1 < ((2 : Nat) ^ (20 : Nat)))) (h2 : ((x1 + (1 : Nat)) = x0)) : (x0 ≤ ((2 : Nat) ^ (24 : Nat))) := (Nat.le_of_lt (Nat.lt_of_le_of_lt (Nat.le_trans (Nat.le_of_eq h2.symm) (Nat.succ_le_of_lt h1)) (by decide)))
theorem ar55 {x0 : Nat} {x1 : Nat} (h1 : ((x1 + (1 : Nat)) = x0)) : ((0 : Nat) < x0) := by lia
theorem ar56 {x0 : Int} (h1 : (x0 < ((2 : Int) ^ (60 : Nat)))) : (x0 < ((2 : Int) ^ (63 : Nat))) := by lia
theorem ar57 {x0 : Nat} {x1 : Nat} {x2 : Nat} (h1 : (x2 ≤ x1)) (h2 : (x0 < x2)) : (x0 ≠ x1) := (Nat.ne_of_lt (Nat.lt_of_lt_of_le h2 h1))
theorem ar58 {x0 : Nat} {x1 : Nat} {x2 : Nat} {x3 : Nat} (h1 : (x2 ≤ x3)) (h2 : (x3 < x1)) (h3 : (x0 ≤ x2)) : (x0 ≤ (x1 + (1 : Nat))) := (Nat.le_of_lt (Nat.lt_trans (Nat.lt_of_le_of_lt (Nat.le_trans h3 h1) h2) (Nat.lt_succ_self _)))
theorem ar59 {x0 : Nat} {x1 : Nat} {x2 : Nat} (h1 : (x0 ≤ x2)) (h2 : (x2 ≤ x1)) : (x0 ≤ x1) := Nat.le_trans h1 h2
theorem ar60 {x0 : Nat} (h1 : (x0 < ((2 : Nat) ^ (20 : Nat)))) : (x0 ≤ (16777216 : Nat)) := Nat.le_of_lt (Nat.lt_trans h1 (by decide))
theorem ar61 {x0 : Nat} (h1 : ((1 : Nat) ≤ x0)) : ((x0 - (1 : Nat)) < x0) := by lia
theorem ar62 {x0 : Nat} {x1 : Nat} : (x0 ≤ (x0 + (x1 + (1 : Nat)))) := (Nat.le_add_right _ _)
theorem ar63 {x0 : Nat} {x1 : Nat} (h1 : (((x1 + (1 : Nat)) - ((0 : Nat) + (1 : Nat))) ≤ x0)) (h2 : (x0 < (x1 + (1 : Nat)))) : (x0 = ((x1 + (1 : Nat)) - (1 : Nat))) := by lia
theorem ar64 {x0 : Nat} {x1 : Nat} (h1 : ((1 : Nat) ≤ x0)) : (((((0 : Nat) + x0) - (1 : Nat)) - x1) < x0) := by lia
theorem ar65 {x0 : Nat} {x1 : Nat} (h1 : ((x1 + (1 : Nat)) ≤ x0)) : ((1 : Nat) ≤ x0) := by lia
theorem ar66 {x0 : Nat} {x1 : Nat} (h1 : ((1 : Nat) ≤ x1)) (h2 : (x0 ≤ ((1 : Nat) + (x1 - (1 : Nat))))) (h3 : (¬ (x0 = x1))) : (x0 ≤ x1) := by lia
theorem ar67 {x0 : Nat} (h1 : ((1 : Nat) ≤ x0)) : ((1 : Nat) ≤ x0) := h1
theorem ar68 {x0 : Nat} {x1 : Nat} {x2 : Nat} (h1 : ((x0 + (x2 + (1 : Nat))) = x1)) : (x0 < x1) := by lia
theorem ar69 {x0 : Nat} {x1 : Nat} (h1 : ((1 : Nat) ≤ x0)) : ((x0 - x1) ≤ x0) := (Nat.sub_le _ _)
theorem ar70 {x0 : Nat} {x1 : Nat} (h1 : ((1 : Nat) ≤ x0)) (h2 : (x1 = x0)) (h3 : (¬ (x1 < (2 : Nat)))) : ((2 : Nat) ≤ x0) := (Nat.le_trans (Nat.not_lt.mp h3) (Nat.le_of_eq h2))
theorem ar71 {x0 : Nat} (h1 : ((0 : Nat) < x0)) (h2 : ((0 : Nat) < ((x0 - (1 : Nat)) / (2 : Nat)))) : (¬ (x0 = ((((x0 - (1 : Nat)) / (2 : Nat)) - (1 : Nat)) / (2 : Nat)))) := by lia
theorem ar72 {x0 : Nat} : ((((((2 : Nat) * x0) + (1 : Nat)) - (1 : Nat)) / (2 : Nat)) = x0) := by lia
theorem ar73 {x0 : Nat} {x1 : Nat} (h1 : ((0 : Nat) < x0)) (h2 : (((x0 - (1 : Nat)) / (2 : Nat)) = x1)) : ((x0 = (((2 : Nat) * x1) + (1 : Nat))) ∨ (x0 = (((2 : Nat) * x1) + (2 : Nat)))) := by lia
theorem ar74 {x0 : Nat} : (x0 < (((2 : Nat) * x0) + (2 : Nat))) := by lia
theorem ar75 {x0 : Nat} {x1 : Nat} {x2 : Nat} {x3 : Nat} (h1 : (x0 ≤ (x3 + (x2 + (1 : Nat))))) (h2 : (x3 < x1)) : (x0 ≤ (x1 + x2)) := by lia
theorem ar76 {x0 : Nat} (h1 : (x0 < ((2 : Nat) ^ (19 : Nat)))) : (x0 < ((2 : Nat) ^ (20 : Nat))) := Nat.lt_trans h1 (by decide)
theorem ar77 {x0 : Nat} {x1 : Nat} (h1 : (x1 < ((2 : Nat) ^ (19 : Nat)))) (h2 : (x0 = x1)) : (x0 < ((2 : Nat) ^ (40 : Nat))) := (Nat.lt_trans (Nat.lt_of_le_of_lt (Nat.le_of_eq h2) h1) (by decide))
theorem ar78 {x0 : Nat} (h1 : (x0 ≤ (2000 : Nat))) : (x0 ≤ (16777215 : Nat)) := Nat.le_trans h1 (by decide)
theorem ar79 {x0 : Nat} (h1 : (x0 ≤ (2000 : Nat))) : (x0 ≤ (16777214 : Nat)) := Nat.le_trans h1 (by decide)
theorem ar80 {x0 : Nat} (h1 : (x0 < (7 : Nat))) : (((x0 : Nat) : Int) < ((2 : Int) ^ (60 : Nat))) := (Int.lt_of_lt_of_le (Int.ofNat_lt.mpr h1) (by decide))
theorem ar81 {x0 : Nat} {x1 : Nat} (h1 : (x0 = x1)) : (x0 = x1) := h1
theorem ar82 {x0 : Nat} (h1 : (x0 < (1000 : Nat))) : (x0 < (1099511627776 : Nat)) := Nat.lt_trans h1 (by decide)
theorem ar83 {x0 : Nat} {x1 : Nat} {x2 : Nat} {x3 : Nat} (h1 : (x0 ≤ x2)) (h2 : ((x2 + (1 : Nat)) < x3)) (h3 : (x3 ≤ x1)) : (x0 ≤ x1) := (Nat.le_of_lt (Nat.lt_of_lt_of_le (Nat.lt_trans (Nat.lt_of_le_of_lt h1 (Nat.lt_succ_self _)) h2) h3))
theorem ar84 {x0 : Nat} {x1 : Nat} {x2 : Nat} (h1 : (x2 < x1)) : ((min x0 (x1 - (x2 + (1 : Nat)))) ≤ x1) := by lia
theorem ar85 {x0 : Nat} {x1 : Nat} {x2 : Nat} (h1 : (x0 < x2)) (h2 : ((x0 + (1 : Nat)) < x2)) (h3 : (x2 ≤ x1)) : ((x0 + (1 : Nat)) ≠ x1) := (Nat.ne_of_lt (Nat.lt_of_lt_of_le h2 h3))
theorem ar86 {x0 : Nat} (h1 : (x0 ≤ (1000 : Nat))) : (x0 ≤ (1000000 : Nat)) := Nat.le_trans h1 (by decide)
theorem ar87 {x0 : Nat} {x1 : Nat} {x2 : Nat} (h1 : ((x1 + x2) < ((2 : Nat) ^ (19 : Nat)))) (h2 : (x0 ≤ (x1 + x2))) : (x0 < ((2 : Nat) ^ (20 : Nat))) := (Nat.lt_trans (Nat.lt_of_le_of_lt h2 h1) (by decide))
theorem ar88 {x0 : Nat} {x1 : Nat} {x2 : Nat} {x3 : Nat} (h1 : (x0 ≤ x2)) (h2 : (x1 ≤ x3)) : ((x0 + x1) ≤ (x2 + x3)) := by lia
theorem ar89 {x0 : Nat} {x1 : Nat} {x2 : Nat} {x3 : Nat} (h1 : (x0 < x2)) (h2 : ((x0 + (2 : Nat)) < x2)) (h3 : (x2 ≤ x3)) (h4 : (x3 ≤ x1)) : ((x0 + (1 : Nat)) ≠ x1) := (Nat.ne_of_lt (Nat.lt_of_lt_of_le (Nat.lt_of_lt_of_le (Nat.lt_trans (Nat.add_lt_add_left (by decide) _) h2) h3) h4))
theorem ar90 {x0 : Nat} (h1 : ((x0 + (1 : Nat)) ≤ (4 : Nat))) : (¬ ((8 : Nat) < x0)) := (Nat.not_lt.mpr (Nat.le_of_lt (Nat.lt_trans h1 (by decide))))
theorem ar91 {x0 : Nat} {x1 : Nat} (h1 : ((x1 + (1 : Nat)) ≤ (4 : Nat))) (h2 : (x0 < (x1 + (1 : Nat)))) : (((x0 : Nat) : Int) < ((2 : Int) ^ (60 : Nat))) := (Int.lt_of_lt_of_le (Int.ofNat_lt.mpr (Nat.lt_of_lt_of_le h2 h1)) (by decide))
theorem ar92 {x0 : Nat} {x1 : Nat} {x2 : Nat} (h1 : (x1 = (x2 + (1 : Nat)))) (h2 : (x0 < (x2 + (1 : Nat)))) : ((Int.toNat ((x0 : Nat) : Int)) < x1) := by lia
theorem ar93 {x0 : Nat} {x1 : Nat} {x2 : Nat} {x3 : Nat} {x4 : Nat} (h1 : (x0 ≤ x2)) (h2 : ((x2 + (2 : Nat)) < x3)) (h3 : (x3 ≤ x4)) (h4 : (x4 ≤ x1)) : (x0 ≤ x1) := (Nat.le_of_lt (Nat.lt_of_lt_of_le (Nat.lt_of_lt_of_le (Nat.lt_trans (Nat.lt_of_le_of_lt h1 (Nat.lt_add_of_pos_right (by decide))) h2) h3) h4))
theorem ar94 {x0 : Nat} : ((x0 + (2 : Nat)) ≠ (x0 + (1 : Nat))) := Nat.ne_of_gt (Nat.lt_succ_self _)
theorem ar95 {x0 : Nat} (h1 : (x0 ≤ (4 : Nat))) : (((x0 : Nat) : Int) < ((2 : Int) ^ (60 : Nat))) := by lia
theorem ar96 {x0 : Nat} {x1 : Nat} : ((x0 + (x1 + (1 : Nat))) = ((x0 + (1 : Nat)) + x1)) := by lia
theorem ar97 {x0 : Nat} {x1 : Nat} (h1 : (x0 < x1)) : ((min x0 x1) ≤ x0) := (Nat.min_le_left _ _)
theorem ar98 {x0 : Nat} (h1 : (x0 = (4 : Nat))) : (x0 < (64 : Nat)) := (Nat.lt_of_le_of_lt (Nat.le_of_eq h1) (by decide))
theorem ar99 {x0 : Nat} {x1 : Nat} (h1 : (x1 = (4 : Nat))) (h2 : (x0 = x1)) : ((1 : Nat) ≤ x0) := (Nat.le_of_lt (Nat.lt_of_lt_of_le (Nat.lt_of_lt_of_le (by decide) (Nat.le_of_eq h1.symm)) (Nat.le_of_eq h2.symm)))
theorem ar100 {x0 : Nat} {x1 : Nat} (h1 : (x1 < (10 : Nat))) (h2 : (x0 < x1)) : ((min x0 x1) < (1048576 : Nat)) := (Nat.lt_trans (Nat.lt_of_le_of_lt (Nat.min_le_right _ _) h1) (by decide))
theorem ar101 {x0 : Nat} {x1 : Nat} {x2 : Nat} (h1 : (x1 < x2)) : ((Int.natAbs ((x0 : Nat) : Int)) = x0) := by lia
theorem ar102 {x0 : Nat} {x1 : Nat} {x2 : Nat} (h1 : (x1 < x2)) (h2 : (x0 < (10 : Nat))) : (x0 < (1920 : Nat)) := (Nat.lt_trans h2 (by decide))
theorem ar103 {x0 : Nat} (h1 : (x0 < (10 : Nat))) : (x0 < (1000 : Nat)) := Nat.lt_trans h1 (by decide)
theorem ar104 {x0 : Nat} {x1 : Nat} {x2 : Nat} (h1 : (x1 ≤ (1000 : Nat))) (h2 : (x2 < x1)) (h3 : (x0 ≤ x2)) : (x0 < ((2 : Nat) ^ (20 : Nat))) := (Nat.lt_trans (Nat.lt_of_lt_of_le (Nat.lt_of_le_of_lt h3 h2) h1) (by decide))
theorem ar105 {x0 : Nat} (h1 : (x0 = (4 : Nat))) : ((1 : Nat) ≤ x0) := (Nat.le_of_lt (Nat.lt_of_lt_of_le (by decide) (Nat.le_of_eq h1.symm)))
theorem ar106 {x0 : Nat} {x1 : Nat} {x2 : Nat} {x3 : Nat} {x4 : Nat} {x5 : Nat} {x6 : Nat} {x7 : Nat} {x8 : Nat} (h1 : (x0 ≤ x2)) (h2 : ((x2 + (1 : Nat)) ≤ x3)) (h3 : (x3 ≤ x4)) (h4 : (x4 ≤ x5)) (h5 : (x5 ≤ x6)) (h6 : (x6 ≤ x7)) (h7 : (x7 ≤ x8)) (h8 : ((x8 + (1 : Nat)) ≤ x1)) : (x0 ≤ x1) := (Nat.le_of_lt (Nat.lt_trans (Nat.lt_of_lt_of_le (Nat.lt_of_lt_of_le (Nat.lt_of_lt_of_le (Nat.lt_of_lt_of_le (Nat.lt_of_lt_of_le (Nat.lt_of_le_of_lt h1 h2) h3) h4) h5) h6) h7) h8))
theorem ar107 {x0 : Nat} (h1 : (x0 < (1000 : Nat))) : (x0 < (1048576 : Nat)) := Nat.lt_trans h1 (by decide)
theorem ar108 {x0 : Nat} {x1 : Nat} (h1 : ((x0 + ((x1 + (1 : Nat)) + (1 : Nat))) ≤ (10000 : Nat))) : ((x0 + (1 : Nat)) ≤ (16777216 : Nat)) := by lia
theorem ar109 {x0 : Nat} : (x0 < ((x0 + (1 : Nat)) + (1 : Nat))) := by lia
theorem ar110 {x0 : Nat} {x1 : Nat} (h1 : ((x0 + ((x1 + (1 : Nat)) + (1 : Nat))) ≤ (10000 : Nat))) : (((x0 + (1 : Nat)) + x1) ≤ (10000 : Nat)) := by lia
theorem ar111 {x0 : Nat} {x1 : Nat} (h1 : ((x0 + (x1 + (1 : Nat))) ≤ (10000 : Nat))) : ((x0 + (1 : Nat)) ≤ (16777216 : Nat)) := by lia
theorem ar112 {x0 : Nat} {x1 : Nat} (h1 : ((x0 + (x1 + (1 : Nat))) ≤ (10000 : Nat))) : (((x0 + (1 : Nat)) + x1) ≤ (10000 : Nat)) := by lia
theorem ar113 {x0 : Nat} {x1 : Nat} {x2 : Nat} {x3 : Nat} (h1 : (x2 ≤ x3)) (h2 : ((x3 + (1 : Nat)) ≤ x1)) (h3 : (x0 < x2)) : (x0 ≠ x1) := (Nat.ne_of_lt (Nat.lt_trans (Nat.lt_of_lt_of_le h3 h1) h2))
theorem ar114 {x0 : Nat} {x1 : Nat} (h1 : ((x1 + (2 : Nat)) ≤ x0)) : (x0 ≠ x1) := (Nat.ne_of_gt (Nat.lt_of_lt_of_le (Nat.lt_add_of_pos_right (by decide)) h1))
theorem ar115 {x0 : Nat} {x1 : Nat} {x2 : Nat} (h1 : (x2 ≤ x1)) (h2 : (x0 < x2)) : (x0 ≠ (x1 + (2 : Nat))) := (Nat.ne_of_lt (Nat.lt_trans (Nat.lt_of_lt_of_le h2 h1) (Nat.lt_add_of_pos_right (by decide))))
theorem ar116 {x0 : Nat} {x1 : Nat} {x2 : Nat} {x3 : Nat} (h1 : (x1 < x2)) (h2 : ((x1 + (2 : Nat)) < x2)) (h3 : (x2 ≤ x3)) (h4 : ((x3 + (1 : Nat)) ≤ x0)) : (x0 ≠ (x1 + (2 : Nat))) := (Nat.ne_of_gt (Nat.lt_trans (Nat.lt_of_lt_of_le h2 h3) h4))
theorem ar117 {x0 : Nat} {x1 : Nat} {x2 : Nat} {x3 : Nat} {x4 : Nat} (h1 : (x1 ≤ x2)) (h2 : ((x2 + (2 : Nat)) < x3)) (h3 : (x3 ≤ x4)) (h4 : ((114 : Nat) < x1)) (h5 : ((x4 + (1 : Nat)) ≤ x0)) : ((114 : Nat) ≠ x0) := (Nat.ne_of_lt (Nat.lt_trans (Nat.lt_of_lt_of_le (Nat.lt_trans (Nat.lt_trans (Nat.lt_of_lt_of_le h4 h1) (Nat.lt_add_of_pos_right (by decide))) h2) h3) h5))
theorem ar118 {x0 : Nat} {x1 : Nat} {x2 : Nat} {x3 : Nat} {x4 : Nat} {x5 : Nat} {x6 : Nat} (h1 : ((x0 + (2 : Nat)) < x2)) (h2 : (x2 ≤ x3)) (h3 : ((x3 + (1 : Nat)) ≤ x4)) (h4 : (x4 < x5)) (h5 : ((x5 + (1 : Nat)) ≤ x6)) (h6 : (x6 < x1)) : ((x0 + (1 : Nat)) ≠ x1) := (Nat.ne_of_lt (Nat.lt_trans (Nat.lt_trans (Nat.lt_trans (Nat.lt_trans (Nat.lt_of_lt_of_le (Nat.lt_trans (Nat.add_lt_add_left (by decide) _) h1) h2) h3) h4) h5) h6))
theorem ar119 {x0 : Nat} {x1 : Nat} {x2 : Nat} {x3 : Nat} {x4 : Nat} {x5 : Nat} {x6 : Nat} (h1 : ((x0 + (2 : Nat)) < x2)) (h2 : (x2 ≤ x3)) (h3 : ((x3 + (1 : Nat)) ≤ x4)) (h4 : (x4 < x5)) (h5 : ((x5 + (1 : Nat)) ≤ x6)) (h6 : (x6 < x1)) : ((x0 + (2 : Nat)) ≠ x1) := (Nat.ne_of_lt (Nat.lt_trans (Nat.lt_trans (Nat.lt_trans (Nat.lt_trans (Nat.lt_of_lt_of_le h1 h2) h3) h4) h5) h6))
theorem ar120 {x0 : Nat} {x1 : Nat} {x2 : Nat} {x3 : Nat} {x4 : Nat} (h1 : ((x0 + (1 : Nat)) ≤ x2)) (h2 : (x2 < x3)) (h3 : ((x3 + (1 : Nat)) ≤ x4)) (h4 : (x4 < x1)) : (x0 ≠ x1) := (Nat.ne_of_lt (Nat.lt_trans (Nat.lt_trans (Nat.lt_trans h1 h2) h3) h4))
theorem ar121 {x0 : Nat} {x1 : Nat} (h1 : (x1 ≤ x0)) (h2 : ((114 : Nat) < x1)) : ((x0 + (1 : Nat)) ≠ (114 : Nat)) := (Nat.ne_of_gt (Nat.lt_trans (Nat.lt_of_lt_of_le h2 h1) (Nat.lt_succ_self _)))
theorem ar122 {x0 : Nat} {x1 : Nat} {x2 : Nat} {x3 : Nat} (h1 : ((x0 + (2 : Nat)) < x2)) (h2 : (x2 ≤ x3)) (h3 : ((x3 + (1 : Nat)) ≤ x1)) : ((x0 + (1 : Nat)) ≠ x1) := (Nat.ne_of_lt (Nat.lt_trans (Nat.lt_of_lt_of_le (Nat.lt_trans (Nat.add_lt_add_left (by decide) _) h1) h2) h3))
theorem ar123 {x0 : Nat} {x1 : Nat} (h1 : (x1 ≤ x0)) (h2 : ((114 : Nat) < x1)) : ((x0 + (2 : Nat)) ≠ (114 : Nat)) := (Nat.ne_of_gt (Nat.lt_trans (Nat.lt_of_lt_of_le h2 h1) (Nat.lt_add_of_pos_right (by decide))))
theorem ar124 {x0 : Nat} {x1 : Nat} {x2 : Nat} {x3 : Nat} (h1 : (x0 < x2)) (h2 : ((x0 + (2 : Nat)) < x2)) (h3 : (x2 ≤ x3)) (h4 : ((x3 + (1 : Nat)) ≤ x1)) : ((x0 + (2 : Nat)) ≠ x1) := (Nat.ne_of_lt (Nat.lt_trans (Nat.lt_of_lt_of_le h2 h3) h4))
theorem ar125 {x0 : Nat} {x1 : Nat} {x2 : Nat} {x3 : Nat} (h1 : (x1 ≤ x2)) (h2 : ((x2 + (2 : Nat)) < x3)) (h3 : (x3 ≤ x0)) (h4 : ((114 : Nat) < x1)) : (x0 ≠ (114 : Nat)) := (Nat.ne_of_gt (Nat.lt_of_lt_of_le (Nat.lt_trans (Nat.lt_trans (Nat.lt_of_lt_of_le h4 h1) (Nat.lt_add_of_pos_right (by decide))) h2) h3))
theorem ar126 {x0 : Nat} {x1 : Nat} {x2 : Nat} (h1 : (x0 < x2)) (h2 : ((x2 + (1 : Nat)) ≤ x1)) : (x0 ≠ x1) := (Nat.ne_of_lt (Nat.lt_trans h1 h2))
theorem ar127 {x0 : Nat} {x1 : Nat} {x2 : Nat} {x3 : Nat} {x4 : Nat} {x5 : Nat} {x6 : Nat} {x7 : Nat} {x8 : Nat} (h1 : (x1 ≤ x2)) (h2 : ((x2 + (2 : Nat)) < x3)) (h3 : (x3 ≤ x4)) (h4 : ((114 : Nat) < x1)) (h5 : ((x4 + (1 : Nat)) ≤ x5)) (h6 : (x5 < x6)) (h7 : ((x6 + (1 : Nat)) ≤ x7)) (h8 : (x7 < x8)) (h9 : ((x8 + (1 : Nat)) ≤ x0)) : (x0 ≠ (114 : Nat)) := (Nat.ne_of_gt (Nat.lt_trans (Nat.lt_trans (Nat.lt_trans (Nat.lt_trans (Nat.lt_trans (Nat.lt_of_lt_of_le (Nat.lt_trans (Nat.lt_trans (Nat.lt_of_lt_of_le h4 h1) (Nat.lt_add_of_pos_right (by decide))) h2) h3) h5) h6) h7) h8) h9))
theorem ar128 {x0 : Nat} {x1 : Nat} {x2 : Nat} {x3 : Nat} {x4 : Nat} {x5 : Nat} {x6 : Nat} (h1 : (x2 ≤ x3)) (h2 : ((x3 + (2 : Nat)) < x4)) (h3 : (x4 ≤ x5)) (h4 : (x0 < x2)) (h5 : ((x5 + (1 : Nat)) ≤ x6)) (h6 : ((x6 + (1 : Nat)) ≤ x1)) : (x0 ≠ x1) := (Nat.ne_of_lt (Nat.lt_trans (Nat.lt_trans (Nat.lt_of_lt_of_le (Nat.lt_trans (Nat.lt_trans (Nat.lt_of_lt_of_le h4 h1) (Nat.lt_add_of_pos_right (by decide))) h2) h3) h5) h6))
theorem ar129 {x0 : Nat} {x1 : Nat} {x2 : Nat} {x3 : Nat} {x4 : Nat} (h1 : ((x0 + (2 : Nat)) < x2)) (h2 : (x2 ≤ x3)) (h3 : ((x3 + (1 : Nat)) ≤ x4)) (h4 : ((x4 + (1 : Nat)) ≤ x1)) : ((x0 + (1 : Nat)) ≠ x1) := (Nat.ne_of_lt (Nat.lt_trans (Nat.lt_trans (Nat.lt_of_lt_of_le (Nat.lt_trans (Nat.add_lt_add_left (by decide) _) h1) h2) h3) h4))
theorem ar130 {x0 : Nat} {x1 : Nat} {x2 : Nat} {x3 : Nat} {x4 : Nat} (h1 : ((x0 + (2 : Nat)) < x2)) (h2 : (x2 ≤ x3)) (h3 : ((x3 + (1 : Nat)) ≤ x4)) (h4 : ((x4 + (1 : Nat)) ≤ x1)) : ((x0 + (2 : Nat)) ≠ x1) := (Nat.ne_of_lt (Nat.lt_trans (Nat.lt_trans (Nat.lt_of_lt_of_le h1 h2) h3) h4))
theorem ar131 {x0 : Nat} {x1 : Nat} {x2 : Nat} (h1 : ((x0 + (1 : Nat)) ≤ x2)) (h2 : ((x2 + (1 : Nat)) ≤ x1)) : (x0 ≠ x1) := (Nat.ne_of_lt (Nat.lt_trans h1 h2))
theorem ar132 {x0 : Nat} (h1 : (x0 < (2 : Nat))) : ((x0 = (0 : Nat)) ∨ (x0 = (1 : Nat))) := by lia
theorem ar134 {x0 : Nat} {x1 : Nat} {x2 : Nat} (h1 : (x0 < x2)) (h2 : ((x2 + (1 : Nat)) ≤ x1)) : (x0 < x1) := (Nat.lt_trans h1 h2)
theorem ar135 {x0 : Nat} {x1 : Nat} (h1 : (x0 < (x1 - (1 : Nat)))) : ((x0 + (1 : Nat)) < x1) := by lia
theorem ar136 {x0 : Nat} (h1 : (x0 < x0)) : False := by lia
theorem ar137 {x0 : Nat} {x1 : Nat} (h1 : ((x0 + (x1 + (1 : Nat))) ≤ (900 : Nat))) : ((x0 + x1) ≤ (900 : Nat)) := by lia
theorem ar138 {x0 : Nat} {x1 : Nat} (h1 : ((x0 + ((50 : Nat) * (x1 + (1 : Nat)))) ≤ (9000 : Nat))) : (((x0 + (1 : Nat)) + ((50 : Nat) * x1)) ≤ (9000 : Nat)) := by lia
theorem ar139 {x0 : Nat} {x1 : Nat} (h1 : ((x0 + (x1 + (1 : Nat))) ≤ (900 : Nat))) : (((x0 + (1 : Nat)) + x1) ≤ (900 : Nat)) := by lia
theorem ar140 {x0 : Nat} {x1 : Nat} (h1 : ((x0 + ((50 : Nat) * (x1 + (1 : Nat)))) ≤ (9000 : Nat))) : (((x0 + (3 : Nat)) + ((50 : Nat) * x1)) ≤ (9000 : Nat)) := by lia
theorem ar141 {x0 : Nat} {x1 : Nat} {x2 : Nat} (h1 : (x1 ≤ x2)) (h2 : ((x0 + x2) ≤ (900 : Nat))) : ((x0 + x1) ≤ (900 : Nat)) := by lia
theorem ar142 {x0 : Nat} {x1 : Nat} {x2 : Nat} (h1 : (x1 ≤ x2)) (h2 : ((x0 + ((50 : Nat) * x2)) ≤ (9000 : Nat))) : ((x0 + ((50 : Nat) * x1)) ≤ (9000 : Nat)) := by lia
theorem ar143 {x0 : Nat} (h1 : (x0 < ((2 : Nat) ^ (40 : Nat)))) : (((x0 : Nat) : Int) < ((2 : Int) ^ (63 : Nat))) := (Int.lt_of_lt_of_le (Int.ofNat_lt.mpr h1) (by decide))
theorem ar144 {x0 : Int} {x1 : Nat} (h1 : ((0 : Int) ≤ x0)) (h2 : ((Int.toNat x0) < x1)) : (((0 : Int) ≤ x0) ∧ (x0 < ((x1 : Nat) : Int))) := by lia
theorem ar145 {x0 : Nat} {x1 : Nat} (h1 : (x1 < ((2 : Nat) ^ (20 : Nat)))) (h2 : (x1 = x0)) : (x0 ≤ ((2 : Nat) ^ (24 : Nat))) := (Nat.le_of_lt (Nat.lt_trans (Nat.lt_of_le_of_lt (Nat.le_of_eq h2.symm) h1) (by decide)))
theorem ar146 {x0 : Nat} {x1 : Nat} (h1 : ((x1 + (1 : Nat)) = x0)) : ((x0 - (1 : Nat)) = x1) := by lia
theorem ar147 {x0 : Nat} {x1 : Nat} (h1 : ((x0 + (1 : Nat)) = x1)) : (x0 < x1) := (Nat.le_of_eq h1)
theorem ar148 {x0 : Nat} {x1 : Nat} (h1 : ((x1 + (1 : Nat)) = x0)) : (x0 ≤ (x1 + (1 : Nat))) := (Nat.le_of_eq h1.symm)
theorem ar149 {x0 : Nat} {x1 : Nat} {x2 : Nat} {x3 : Nat} (h1 : ((x2 + x3) < ((2 : Nat) ^ (20 : Nat)))) (h2 : (x2 = x0)) (h3 : (x3 = x1)) : ((x0 + x1) ≤ (16777216 : Nat)) := by lia
theorem ar150 {x0 : Nat} {x1 : Nat} {x2 : Nat} (h1 : ((x1 + x2) < ((2 : Nat) ^ (20 : Nat)))) (h2 : (x1 = x0)) : (x0 ≤ ((2 : Nat) ^ (24 : Nat))) := (Nat.le_of_lt (Nat.lt_trans (Nat.lt_of_le_of_lt (Nat.le_trans (Nat.le_of_eq h2.symm) (Nat.le_add_right _ _)) h1) (by decide)))
theorem ar151 {x0 : Nat} {x1 : Nat} {x2 : Nat} {x3 : Nat} (h1 : ((x2 + x3) < ((2 : Nat) ^ (20 : Nat)))) (h2 : (x2 = x0)) (h3 : (x3 = x1)) : ((x0 + x1) ≤ (((2 : Nat) ^ (24 : Nat)) + (1 : Nat))) := by lia
theorem ar152 {x0 : Nat} {x1 : Nat} (h1 : (x1 < ((2 : Nat) ^ (40 : Nat)))) (h2 : (x1 = x0)) : (((x0 : Nat) : Int) < ((2 : Int) ^ (63 : Nat))) := (Int.lt_of_lt_of_le (Int.ofNat_lt.mpr (Nat.lt_of_le_of_lt (Nat.le_of_eq h2.symm) h1)) (by decide))
theorem ar153 {x0 : Int} (h1 : ((0 : Int) ≤ x0)) : ((-((2 : Int) ^ (63 : Nat))) ≤ x0) := by lia
theorem ar154 {x0 : Int} {x1 : Nat} (h1 : (x0 < ((x1 : Nat) : Int))) (h2 : (x1 < ((2 : Nat) ^ (40 : Nat)))) : (x0 < ((2 : Int) ^ (63 : Nat))) := by lia
theorem ar155 {x0 : Int} {x1 : Nat} {x2 : Nat} (h1 : (x0 < ((x2 : Nat) : Int))) (h2 : (x2 = x1)) : (x0 < ((x1 : Nat) : Int)) := by lia
theorem ar156 {x0 : Nat} {x1 : Nat} {x2 : Nat} {x3 : Nat} (h1 : (x2 = x0)) (h2 : (x3 = x1)) (h3 : (x2 = x3)) : (x0 = x1) := (Nat.le_antisymm (Nat.le_trans (Nat.le_trans (Nat.le_of_eq h1.symm) (Nat.le_of_eq h3)) (Nat.le_of_eq h2)) (Nat.le_trans (Nat.le_trans (Nat.le_of_eq h2.symm) (Nat.le_of_eq h3.symm)) (Nat.le_of_eq h1)))
theorem ar157 {x0 : Nat} {x1 : Nat} (h1 : ((x0 + ((50 : Nat) * x1)) ≤ (9000 : Nat))) : (x0 < (9900 : Nat)) := (Nat.lt_of_le_of_lt (Nat.le_trans (Nat.le_add_right _ _) h1) (by decide))
theorem ar158 {x0 : Nat} : (((((((x0 : Nat) : Int) - (0 : Int)) - (1 : Int)) / (1 : Int)) + (1 : Int)) = ((x0 : Nat) : Int)) := by lia
theorem ar159 {x0 : Nat} (h1 : (¬ ((0 : Int) < ((x0 : Nat) : Int)))) : ((0 : Int) = ((x0 : Nat) : Int)) := by lia
theorem ar160 {x0 : Nat} (h1 : (((x0 : Nat) : Int) < ((2 : Int) ^ (60 : Nat)))) : (((x0 : Nat) : Int) < (9223372036854775808 : Int)) := by lia
theorem ar161 {x0 : Nat} : ((((x0 : Nat) : Int) + ((1 : Int) - (1 : Int))) = ((x0 : Nat) : Int)) := by lia
theorem ar162 {x0 : Nat} {x1 : Nat} (h1 : (x1 < x0)) : ((0 : Int) < (((x0 : Nat) : Int) - ((x1 : Nat) : Int))) := by lia
theorem ar163 {x0 : Nat} {x1 : Nat} : (((((x0 : Nat) : Int) - ((x1 : Nat) : Int)) - (1 : Int)) = (((x0 : Nat) : Int) - (((x1 + (1 : Nat)) : Nat) : Int))) := by lia
theorem ar164 {x0 : Nat} : ((((x0 : Nat) : Int) - ((x0 : Nat) : Int)) ≤ (0 : Int)) := by lia
theorem ar165 {x0 : Nat} : ((((x0 : Nat) : Int) - (((0 : Nat) : Nat) : Int)) = ((x0 : Nat) : Int)) := by lia
theorem ar166 {x0 : Nat} {x1 : Nat} {x2 : Nat} (h1 : (x0 ≤ x1)) (h2 : (x1 < x2)) (h3 : (x2 < x0)) : False := by lia
theorem ar167 {x0 : Nat} {x1 : Nat} {x2 : Nat} {x3 : Nat} (h1 : (x0 ≤ x2)) (h2 : (x2 ≤ x3)) (h3 : ((x3 + (1 : Nat)) ≤ x1)) : (x0 ≤ x1) := (Nat.le_of_lt (Nat.lt_of_le_of_lt (Nat.le_trans h1 h2) h3))
theorem ar168 {x0 : Nat} {x1 : Nat} {x2 : Nat} (h1 : (x0 ≤ x2)) (h2 : (x1 = x2)) : (x0 ≤ x1) := (Nat.le_trans h1 (Nat.le_of_eq h2.symm))
theorem ar169 {x0 : Nat} {x1 : Nat} {x2 : Nat} (h1 : (x1 < (1000 : Nat))) (h2 : (x0 ≤ x2)) (h3 : (x2 ≤ (x1 + (1 : Nat)))) : (x0 ≤ ((16777216 : Nat) + (1 : Nat))) := (Nat.le_of_lt (Nat.lt_of_le_of_lt (Nat.le_trans (Nat.le_trans h2 h3) (Nat.succ_le_of_lt h1)) (by decide)))
theorem ar170 {x0 : Nat} {x1 : Nat} {x2 : Nat} (h1 : (x1 ≤ (1 : Nat))) (h2 : ((x0 + (x2 + (1 : Nat))) ≤ (900 : Nat))) : (((x0 + x1) + x2) ≤ (900 : Nat)) := by lia
theorem ar171 {x0 : Nat} {x1 : Nat} {x2 : Nat} (h1 : (x1 ≤ (50 : Nat))) (h2 : ((x0 + ((50 : Nat) * (x2 + (1 : Nat)))) ≤ (9000 : Nat))) : (((x0 + x1) + ((50 : Nat) * x2)) ≤ (9000 : Nat)) := by lia
theorem ar172 {x0 : Nat} : (x0 ≤ (x0 + (2 : Nat))) := (Nat.le_of_lt (Nat.lt_add_of_pos_right (by decide)))
theorem ar173 {x0 : Nat} (h1 : (x0 ≤ (1 : Nat))) : (x0 ≤ ((16777216 : Nat) + (1 : Nat))) := Nat.le_trans h1 (by decide)
theorem ar174 {x0 : Nat} {x1 : Nat} {x2 : Nat} {x3 : Nat} (h1 : (x2 ≤ x3)) (h2 : (x3 < x1)) (h3 : (x0 < x2)) : (x0 ≠ x1) := (Nat.ne_of_lt (Nat.lt_trans (Nat.lt_of_lt_of_le h3 h1) h2))
theorem ar175 {x0 : Nat} {x1 : Nat} {x2 : Nat} (h1 : (x2 < x1)) (h2 : (x0 = x2)) : (x0 < (x1 + (1 : Nat))) := (Nat.lt_trans (Nat.lt_of_le_of_lt (Nat.le_of_eq h2) h1) (Nat.lt_succ_self _))
theorem ar176 {x0 : Nat} {x1 : Nat} {x2 : Nat} {x3 : Nat} {x4 : Nat} (h1 : (x2 ≤ x3)) (h2 : (x3 < x1)) (h3 : (x4 < x2)) (h4 : (x0 = x4)) : (x0 < (x1 + (1 : Nat))) := (Nat.lt_trans (Nat.lt_trans (Nat.lt_of_lt_of_le (Nat.lt_of_le_of_lt (Nat.le_of_eq h4) h3) h1) h2) (Nat.lt_succ_self _))
theorem ar177 {x0 : Nat} {x1 : Nat} {x2 : Nat} {x3 : Nat} {x4 : Nat} (h1 : (x2 ≤ x3)) (h2 : (x3 < x1)) (h3 : (x0 < x4)) (h4 : (x4 ≤ x2)) : (x0 < (x1 + (1 : Nat))) := (Nat.lt_trans (Nat.lt_trans (Nat.lt_of_lt_of_le (Nat.lt_of_lt_of_le h3 h4) h1) h2) (Nat.lt_succ_self _))
theorem ar178 {x0 : Nat} {x1 : Nat} {x2 : Nat} {x3 : Nat} (h1 : (x2 ≤ x3)) (h2 : (x3 < x1)) (h3 : (x0 < x2)) : (x0 < (x1 + (1 : Nat))) := (Nat.lt_trans (Nat.lt_trans (Nat.lt_of_lt_of_le h3 h1) h2) (Nat.lt_succ_self _))
theorem ar179 {x0 : Nat} {x1 : Nat} {x2 : Nat} {x3 : Nat} {x4 : Nat} (h1 : (x0 ≤ x2)) (h2 : (x2 ≤ x3)) (h3 : (x3 ≤ x4)) (h4 : (x4 ≤ x1)) : (x0 ≤ x1) := (Nat.le_trans (Nat.le_trans (Nat.le_trans h1 h2) h3) h4)
theorem ar180 {x0 : Nat} {x1 : Nat} {x2 : Nat} {x3 : Nat} (h1 : (x0 < x2)) (h2 : (x2 ≤ x3)) (h3 : (x3 ≤ x1)) : (x0 < x1) := Nat.lt_of_lt_of_le h1 (Nat.le_trans h2 h3)
theorem ar181 {x0 : Nat} (h1 : (x0 < (30 : Nat))) : (((x0 + (0 : Nat)) + (0 : Nat)) < (30 : Nat)) := by lia
theorem ar182 {x0 : Nat} (h1 : ((0 : Nat) < x0)) : (x0 = ((x0 - (1 : Nat)) + (1 : Nat))) := by lia
theorem ar183 {x0 : Int} (h1 : ((0 : Int) ≤ x0)) : (¬ (x0 < (-((2 : Int) ^ (63 : Nat))))) := by lia
theorem ar184 {x0 : Int} (h1 : (x0 < ((2 : Int) ^ (60 : Nat)))) : (¬ (x0 ≥ ((2 : Int) ^ (63 : Nat)))) := by lia
theorem ar185 {x0 : Nat} : (((1 : Int) + ((x0 : Nat) : Int)) = (((x0 : Nat) : Int) + (1 : Int))) := by lia
theorem ar186 {x0 : Nat} {x1 : Nat} (h1 : (x1 = (x0 + (1 : Nat)))) : ((x0 + (1 : Nat)) ≤ x1) := (Nat.le_of_eq h1.symm)
theorem ar187 {x0 : Int} (h1 : ((Int.natAbs x0) < ((2 : Nat) ^ (30 : Nat)))) (h2 : ((0 : Int) ≤ x0)) : (x0 < (1073741824 : Int)) := by lia
theorem ar188 {x0 : Nat} {x1 : Nat} (h1 : ((x0 + ((50 : Nat) * x1)) ≤ (9000 : Nat))) : (x0 ≤ (9000 : Nat)) := Nat.le_trans (Nat.le_add_right _ _) h1
theorem ar189 {x0 : Nat} {x1 : Nat} (h1 : ((x1 + (1 : Nat)) ≤ (50 : Nat))) (h2 : (x0 ≤ (9000 : Nat))) : (((x0 + (1 : Nat)) + ((4 : Nat) * x1)) < (9900 : Nat)) := by lia
theorem ar190 {x0 : Nat} {x1 : Nat} (h1 : (x0 < ((0 : Nat) + x1))) : (x0 < x1) := by lia
theorem ar191 {x0 : Nat} {x1 : Nat} {x2 : Nat} (h1 : (x2 ≤ (1 : Nat))) (h2 : (x0 ≤ x1)) (h3 : (x1 < x2)) : (x0 = x1) := by lia
theorem ar192 {x0 : Nat} {x1 : Nat} (h1 : (x0 < (x1 + (1 : Nat)))) (h2 : (¬ (x0 < x1))) : (x0 = x1) := (Nat.le_antisymm (Nat.le_of_lt_succ h1) (Nat.not_lt.mp h2))
theorem ar193 {x0 : Nat} {x1 : Nat} (h1 : (x0 ≤ x1)) (h2 : ((1 : Nat) ≤ x1)) (h3 : (¬ (x0 = x1))) : (x0 ≤ (x1 - (1 : Nat))) := by lia
theorem ar194 {x0 : Nat} {x1 : Nat} {x2 : Nat} (h1 : (x0 = ((x1 + (1 : Nat)) + x2))) : (x0 = (x1 + (x2 + (1 : Nat)))) := by lia
theorem ar195 {x0 : Nat} {x1 : Nat} {x2 : Nat} (h1 : (((x0 - (x1 + (1 : Nat))) ≤ x2) ∧ (x2 < x0))) : ((x0 - (x1 + (1 : Nat))) ≤ ((((x0 - (x1 + (1 : Nat))) + x0) - (1 : Nat)) - x2)) := by lia
theorem ar196 {x0 : Nat} {x1 : Nat} {x2 : Nat} (h1 : (((x0 - (x1 + (1 : Nat))) ≤ x2) ∧ (x2 < x0))) : (((((x0 - (x1 + (1 : Nat))) + x0) - (1 : Nat)) - x2) < x0) := by lia
theorem ar197 {x0 : Nat} {x1 : Nat} {x2 : Nat} (h1 : ((x0 + (x2 + (1 : Nat))) ≤ x1)) : (x0 ≤ x1) := Nat.le_trans (Nat.le_add_right _ _) h1
theorem ar198 {x0 : Nat} {x1 : Nat} (h1 : ((x0 + (1 : Nat)) ≤ x1)) : (((x0 + (1 : Nat)) + (1 : Nat)) ≤ (x1 + (1 : Nat))) := (Nat.succ_le_succ h1)
theorem ar199 {x0 : Nat} {x1 : Nat} {x2 : Nat} (h1 : (((x0 + (1 : Nat)) - ((x1 + (1 : Nat)) + (1 : Nat))) ≤ x2)) : ((x0 - (x1 + (1 : Nat))) ≤ x2) := by lia
theorem ar200 {x0 : Nat} {x1 : Nat} (h1 : (x0 ≤ x1)) : ((x0 + (x1 - x0)) ≤ x1) := by lia
theorem ar201 {x0 : Nat} {x1 : Nat} (h1 : ((1 : Nat) ≤ x1)) (h2 : (x1 ≤ x0)) : ((1 : Nat) ≤ x0) := Nat.le_trans h1 h2
theorem ar202 {x0 : Nat} {x1 : Nat} {x2 : Nat} (h1 : (x2 ≤ x1)) (h2 : (x0 ≤ (x2 + (x1 - x2)))) : (x0 ≤ x1) := by lia
theorem ar203 {x0 : Nat} {x1 : Nat} {x2 : Nat} (h1 : (x0 ≤ x2)) (h2 : (x2 < x1)) : (((0 : Nat) ≤ x0) ∧ (x0 < x1)) := ⟨(Nat.zero_le _), (Nat.lt_of_le_of_lt h1 h2)⟩
theorem ar204 {x0 : Nat} {x1 : Nat} (h1 : (x0 < x1)) : (((0 : Nat) ≤ x0) ∧ (x0 < x1)) := ⟨(Nat.zero_le _), h1⟩
theorem ar205 {x0 : Nat} {x1 : Nat} {x2 : Nat} (h1 : (x2 ≤ x1)) (h2 : (x1 < x0)) : (((((0 : Nat) + x0) - (1 : Nat)) - x1) ≤ ((((0 : Nat) + x0) - (1 : Nat)) - x2)) := by lia
theorem ar206 {x0 : Nat} {x1 : Nat} (h1 : ((x0 + (1 : Nat)) ≤ x1)) : (((x0 + (1 : Nat)) + (x1 - (x0 + (1 : Nat)))) ≤ x1) := by lia
theorem ar207 {x0 : Nat} (h1 : ((1 : Nat) ≤ x0)) : (((1 : Nat) + (x0 - (1 : Nat))) ≤ x0) := by lia
theorem ar208 {x0 : Nat} {x1 : Nat} (h1 : ((1 : Nat) ≤ x1)) (h2 : (¬ (x0 = x1))) : (¬ (x0 = ((1 : Nat) + (x1 - (1 : Nat))))) := by lia
theorem ar209 {x0 : Nat} (h1 : ((1 : Nat) ≤ x0)) : ((0 : Nat) < x0) := Nat.lt_of_lt_of_le (Nat.lt_succ_self _) h1
theorem ar210 {x0 : Nat} {x1 : Nat} (h1 : ((1 : Nat) ≤ x1)) (h2 : ((1 : Nat) ≤ x0)) (h3 : (x0 ≤ ((1 : Nat) + (x1 - (1 : Nat))))) (h4 : (¬ (x0 = x1))) : ((x0 - (1 : Nat)) < x1) := by lia
theorem ar211 {x0 : Nat} {x1 : Nat} (h1 : ((1 : Nat) ≤ x1)) (h2 : (x0 < x1)) : (x0 ≤ (x1 - (1 : Nat))) := by lia
theorem ar212 {x0 : Nat} {x1 : Nat} (h1 : ((1 : Nat) ≤ x1)) (h2 : (x0 ≤ ((1 : Nat) + (x1 - (1 : Nat))))) (h3 : (¬ (x0 = x1))) : ((x0 + (1 : Nat)) ≤ x1) := by lia
theorem ar213 {x0 : Nat} (h1 : ((1 : Nat) ≤ x0)) (h2 : (¬ (x0 > (1 : Nat)))) : (x0 = (1 : Nat)) := (Nat.le_antisymm (Nat.not_lt.mp h2) h1)
theorem ar214 {x0 : Nat} (h1 : ((1 : Nat) ≤ x0)) (h2 : (¬ ((1 : Nat) = x0))) : (((1 : Nat) + (1 : Nat)) ≤ x0) := by lia
theorem ar215 {x0 : Nat} {x1 : Nat} (h1 : (x0 ≤ x1)) (h2 : (x1 ≤ (x0 + (0 : Nat)))) : (x0 = x1) := by lia
theorem ar216 {x0 : Nat} {x1 : Nat} (h1 : (x0 ≤ x1)) (h2 : (x0 ≥ x1)) : (x0 = x1) := Nat.le_antisymm h1 h2
theorem ar217 {x0 : Nat} {x1 : Nat} {x2 : Nat} {x3 : Nat} (h1 : (x3 < x2)) (h2 : (x1 ≤ x3)) (h3 : (¬ (x0 ≥ x1))) : (((x0 + x1) / (2 : Nat)) < x2) := by lia
theorem ar218 {x0 : Nat} {x1 : Nat} (h1 : (¬ (x0 ≥ x1))) : (x0 ≤ ((x0 + x1) / (2 : Nat))) := by lia
theorem ar219 {x0 : Nat} {x1 : Nat} {x2 : Nat} (h1 : (x1 ≤ x2)) (h2 : (¬ (x0 ≥ x1))) : (((x0 + x1) / (2 : Nat)) ≤ x2) := by lia
theorem ar220 {x0 : Nat} {x1 : Nat} {x2 : Nat} (h1 : (x0 ≤ x1)) (h2 : (x1 ≤ (x0 + (x2 + (1 : Nat))))) (h3 : (¬ (x0 ≥ x1))) : (((x0 + x1) / (2 : Nat)) ≤ (x0 + x2)) := by lia
theorem ar221 {x0 : Nat} {x1 : Nat} (h1 : (x0 ≤ x1)) (h2 : (¬ (x0 ≥ x1))) : ((((x0 + x1) / (2 : Nat)) + (1 : Nat)) ≤ x1) := by lia
theorem ar222 {x0 : Nat} {x1 : Nat} {x2 : Nat} (h1 : (x0 ≤ (x1 + (x2 + (1 : Nat))))) : (x0 ≤ ((((x1 + x0) / (2 : Nat)) + (1 : Nat)) + x2)) := by lia
theorem ar223 {x0 : Nat} {x1 : Nat} {x2 : Nat} (h1 : (x0 < (((x1 + x2) / (2 : Nat)) + (1 : Nat)))) : (x0 ≤ ((x1 + x2) / (2 : Nat))) := Nat.le_of_lt_succ h1
theorem ar224 {x0 : Nat} {x1 : Nat} {x2 : Nat} (h1 : (x1 ≤ x2)) (h2 : (¬ (x0 ≥ x1))) : (((x0 + x1) / (2 : Nat)) < x2) := by lia
theorem ar225 {x0 : Nat} {x1 : Nat} (h1 : ((x0 + (0 : Nat)) = x1)) : (x0 = x1) := by lia
theorem ar226 {x0 : Nat} {x1 : Nat} (h1 : (x0 ≤ x1)) (h2 : (x1 < x0)) : (¬ (x0 ≤ x1)) := (Nat.not_le.mpr h2)
theorem ar227 {x0 : Nat} {x1 : Nat} {x2 : Nat} (h1 : ((x0 + (x1 + (1 : Nat))) = x2)) : (((x0 + (1 : Nat)) + x1) = x2) := by lia
theorem ar228 {x0 : Nat} {x1 : Nat} (h1 : (x1 ≤ x0)) : ((x0 - (x0 - x1)) = x1) := by lia
theorem ar229 {x0 : Nat} {x1 : Nat} {x2 : Nat} {x3 : Nat} (h1 : (x3 ≤ x1)) (h2 : (x1 < (x2 + (1 : Nat)))) (h3 : (x3 = x0)) (h4 : (¬ (x1 = x0))) : ((x0 < x1) ∧ (x1 ≤ x2)) := by lia
theorem ar230 {x0 : Nat} {x1 : Nat} {x2 : Nat} (h1 : (x2 ≤ x1)) (h2 : (x2 = x0)) (h3 : (¬ (x1 = x0))) : (x0 ≤ (x1 - (1 : Nat))) := by lia
theorem ar231 {x0 : Nat} {x1 : Nat} {x2 : Nat} {x3 : Nat} (h1 : (x1 ≤ x3)) (h2 : (¬ (x1 = x0))) (h3 : (x3 = x0)) : (¬ ((x0 < x1) ∧ (x1 ≤ x2))) := by lia
theorem ar232 {x0 : Nat} {x1 : Nat} {x2 : Nat} (h1 : (x0 ≤ x2)) (h2 : (¬ (x0 = x1))) (h3 : (x2 = x1)) : (x0 < x1) := by lia
theorem ar233 {x0 : Nat} {x1 : Nat} {x2 : Nat} {x3 : Nat} (h1 : (x3 ≤ x1)) (h2 : (x1 < (x2 + (1 : Nat)))) (h3 : (¬ (x1 = x0))) (h4 : ((x0 < x3) ∧ (x3 ≤ x2))) : ((x0 < x1) ∧ (x1 ≤ x2)) := ⟨(Nat.lt_of_lt_of_le h4.1 h1), (Nat.le_of_lt_succ h2)⟩
theorem ar234 {x0 : Nat} {x1 : Nat} {x2 : Nat} {x3 : Nat} (h1 : (x0 ≤ x1)) (h2 : (¬ (x0 = x2))) (h3 : ((x2 < x0) ∧ (x0 ≤ x3))) : ((x0 - (1 : Nat)) ≤ (x1 - (1 : Nat))) := by lia
theorem ar235 {x0 : Nat} {x1 : Nat} {x2 : Nat} {x3 : Nat} (h1 : (x0 ≤ x1)) (h2 : (x1 < (x2 + (1 : Nat)))) (h3 : (¬ (x0 = x3))) (h4 : (¬ ((x3 < x0) ∧ (x0 ≤ x2)))) (h5 : ((x3 < x1) ∧ (x1 ≤ x2))) : (x0 ≤ (x1 - (1 : Nat))) := by lia
theorem ar236 {x0 : Nat} {x1 : Nat} {x2 : Nat} (h1 : (x2 ≤ x1)) (h2 : (x0 < (x1 + (1 : Nat)))) (h3 : (¬ (x0 = x2))) (h4 : (¬ ((x2 < x0) ∧ (x0 ≤ x1)))) : (x0 < x1) := by lia
theorem ar237 {x0 : Nat} (h1 : ((1 : Nat) ≤ x0)) : ((max x0 (1 : Nat)) = x0) := by lia
theorem ar238 {x0 : Nat} {x1 : Nat} (h1 : (x0 < x1)) : ((x0 + (x1 - x0)) = x1) := by lia
theorem ar239 {x0 : Int} {x1 : Int} (h1 : ((0 : Int) ≤ x0)) (h2 : ((0 : Int) ≤ x1)) (h3 : (x0 < x1)) : ((Int.toNat x0) < (Int.toNat x1)) := by lia
theorem ar240 {x0 : Int} {x1 : Int} (h1 : ((0 : Int) ≤ x0)) (h2 : ((0 : Int) ≤ x1)) (h3 : ((Int.toNat x0) < (Int.toNat x1))) : (x0 < x1) := by lia
theorem ar241 {x0 : Nat} {x1 : Nat} (h1 : (x0 = x1)) : (¬ (x0 < x1)) := (Nat.not_lt.mpr (Nat.le_of_eq h1.symm))
theorem ar242 {x0 : Nat} {x1 : Nat} (h1 : ((0 : Nat) = (x0 - x1))) : (x0 ≤ x1) := by lia
theorem ar243 {x0 : Nat} {x1 : Nat} {x2 : Nat} (h1 : (x2 = x0)) (h2 : (x2 ≤ x1)) : (x0 ≤ x1) := (Nat.le_trans (Nat.le_of_eq h1.symm) h2)
theorem ar244 {x0 : Nat} {x1 : Nat} {x2 : Nat} (h1 : ((x2 + (1 : Nat)) = (x1 - x0))) : (x0 < x1) := by lia
theorem ar245 {x0 : Nat} (h1 : (x0 < (64 : Nat))) : (x0 ≤ ((16777216 : Nat) + (1 : Nat))) := Nat.le_of_lt (Nat.lt_trans h1 (by decide))
theorem ar246 {x0 : Nat} {x1 : Nat} (h1 : ((1 : Nat) ≤ x0)) (h2 : (x1 = x0)) (h3 : (x1 < (2 : Nat))) : (x0 ≤ (1 : Nat)) := by lia
theorem ar247 {x0 : Nat} : (x0 ≤ ((((x0 + (1 : Nat)) + (1 : Nat)) + (1 : Nat)) + (1 : Nat))) := by lia
theorem ar248 {x0 : Nat} {x1 : Nat} (h1 : ((1 : Nat) ≤ x1)) (h2 : (x1 = x0)) : ((1 : Nat) ≤ x0) := (Nat.le_trans h1 (Nat.le_of_eq h2))
theorem ar249 {x0 : Nat} {x1 : Nat} (h1 : (x1 < (64 : Nat))) (h2 : (x1 = x0)) : (x0 < (64 : Nat)) := (Nat.lt_of_le_of_lt (Nat.le_of_eq h2.symm) h1)
theorem ar250 {x0 : Nat} (h1 : (x0 ≤ (9000 : Nat))) : (((x0 + (1 : Nat)) + (1 : Nat)) < (9900 : Nat)) := by lia
theorem ar251 {x0 : Nat} (h1 : ((x0 + (1 : Nat)) < x0)) : False := by lia
theorem ar252 {x0 : Nat} {x1 : Nat} {x2 : Nat} {x3 : Nat} (h1 : (x2 = x1)) (h2 : (x0 < x3)) (h3 : (x3 = x1)) : (x0 < x1) := (Nat.lt_of_lt_of_le h2 (Nat.le_of_eq h3))
theorem ar253 {x0 : Nat} {x1 : Nat} (h1 : ((1 : Nat) ≤ x1)) (h2 : (x1 = x0)) : ((0 : Nat) < x0) := (Nat.lt_of_lt_of_le (Nat.lt_of_lt_of_le (by decide) h1) (Nat.le_of_eq h2))
theorem ar254 {x0 : Nat} {x1 : Nat} : ((Int.toNat (((x0 : Nat) : Int) + ((1 : Int) * ((x1 : Nat) : Int)))) = (x0 + x1)) := by lia
theorem ar255 {x0 : Nat} : (¬ (((x0 : Nat) : Int) < (0 : Int))) := by lia
theorem ar256 {x0 : Nat} {x1 : Nat} {x2 : Nat} (h1 : ((x1 - x0) = x2)) (h2 : (x1 ≤ x2)) (h3 : (¬ (x2 = (0 : Nat)))) : (x0 = (0 : Nat)) := by lia
theorem ar257 {x0 : Nat} (h1 : (x0 ≤ (0 : Nat))) : (x0 = (0 : Nat)) := (Nat.le_antisymm h1 (Nat.zero_le _))
theorem ar258 {x0 : Nat} (h1 : ((0 : Nat) < x0)) : (x0 ≠ (0 : Nat)) := Nat.ne_of_gt h1
theorem ar259 {x0 : Nat} {x1 : Nat} (h1 : (¬ ((0 : Nat) < x1))) (h2 : ((0 : Nat) < x0)) : (x0 ≠ x1) := (Nat.ne_of_gt (Nat.lt_of_le_of_lt (Nat.not_lt.mp h1) h2))
theorem ar260 {x0 : Nat} {x1 : Nat} (h1 : (x0 < x1)) (h2 : ((0 : Nat) < x0)) : (((x0 - (1 : Nat)) / (2 : Nat)) < x1) := by lia
theorem ar261 {x0 : Nat} (h1 : ((0 : Nat) < x0)) : (((x0 - (1 : Nat)) / (2 : Nat)) ≠ x0) := by lia
theorem ar262 {x0 : Nat} {x1 : Nat} (h1 : (x0 ≤ (x1 + (1 : Nat)))) (h2 : ((0 : Nat) < x0)) (h3 : (((x0 - (1 : Nat)) / (2 : Nat)) ≠ x0)) : (((x0 - (1 : Nat)) / (2 : Nat)) ≤ x1) := by lia
theorem ar263 {x0 : Nat} (h1 : ((0 : Nat) < ((x0 - (1 : Nat)) / (2 : Nat)))) : (¬ (((x0 - (1 : Nat)) / (2 : Nat)) = ((((x0 - (1 : Nat)) / (2 : Nat)) - (1 : Nat)) / (2 : Nat)))) := by lia
theorem ar264 {x0 : Nat} {x1 : Nat} (h1 : (((x1 - (1 : Nat)) / (2 : Nat)) = ((x0 - (1 : Nat)) / (2 : Nat)))) (h2 : ((0 : Nat) < ((x0 - (1 : Nat)) / (2 : Nat)))) : (¬ (((x0 - (1 : Nat)) / (2 : Nat)) = x1)) := by lia
theorem ar265 {x0 : Nat} {x1 : Nat} (h1 : (x0 ≠ x1)) (h2 : (x0 < (x1 + (1 : Nat)))) : (x0 < x1) := by lia
theorem ar266 {x0 : Nat} {x1 : Nat} (h1 : ((0 : Nat) < x0)) (h2 : (x0 < x1)) : (((x0 - (1 : Nat)) / (2 : Nat)) < x1) := by lia
theorem ar267 {x0 : Nat} : ((((2 : Nat) * x0) + (1 : Nat)) ≠ x0) := by lia
theorem ar268 {x0 : Nat} : ((((2 : Nat) * x0) + (2 : Nat)) ≠ x0) := by lia
theorem ar269 {x0 : Nat} : ((((((2 : Nat) * x0) + (2 : Nat)) - (1 : Nat)) / (2 : Nat)) = x0) := by lia
theorem ar270 {x0 : Nat} {x1 : Nat} {x2 : Nat} (h1 : ((((2 : Nat) * x1) + (1 : Nat)) < x2)) (h2 : (¬ ((((2 : Nat) * x1) + (2 : Nat)) < x2))) (h3 : (x0 < x2)) (h4 : ((0 : Nat) < x0)) (h5 : (((x0 - (1 : Nat)) / (2 : Nat)) = x1)) : (x0 = (((2 : Nat) * x1) + (1 : Nat))) := by lia
theorem ar271 {x0 : Nat} {x1 : Nat} (h1 : (x1 < x0)) : (x0 ≠ x1) := Nat.ne_of_gt h1
theorem ar272 {x0 : Nat} {x1 : Nat} (h1 : ((0 : Nat) < x1)) (h2 : (x0 = x1)) : (¬ (x0 = ((x1 - (1 : Nat)) / (2 : Nat)))) := by lia
theorem ar273 {x0 : Nat} {x1 : Nat} (h1 : (x1 < x0)) : ((0 : Nat) < x0) := Nat.zero_lt_of_lt h1
theorem ar274 {x0 : Nat} {x1 : Nat} (h1 : ((0 : Nat) < x1)) (h2 : (x0 = x1)) : ((0 : Nat) < x0) := (Nat.lt_of_lt_of_le h1 (Nat.le_of_eq h2.symm))
theorem ar275 {x0 : Nat} {x1 : Nat} {x2 : Nat} (h1 : (x0 < x2)) (h2 : ((0 : Nat) < x1)) (h3 : (((x1 - (1 : Nat)) / (2 : Nat)) = x2)) : (¬ (x0 = x1)) := by lia
theorem ar276 {x0 : Nat} {x1 : Nat} {x2 : Nat} (h1 : (x1 < x2)) (h2 : ((0 : Nat) < x0)) (h3 : (((x0 - (1 : Nat)) / (2 : Nat)) = x2)) : (x0 ≠ x1) := by lia
theorem ar277 {x0 : Nat} {x1 : Nat} {x2 : Nat} (h1 : (x1 < x2)) (h2 : (((x0 - (1 : Nat)) / (2 : Nat)) = x2)) : (((x0 - (1 : Nat)) / (2 : Nat)) ≠ x1) := (Nat.ne_of_gt (Nat.lt_of_lt_of_le h1 (Nat.le_of_eq h2.symm)))
theorem ar278 {x0 : Nat} {x1 : Nat} {x2 : Nat} (h1 : (¬ ((((2 : Nat) * x0) + (1 : Nat)) < x2))) (h2 : ((0 : Nat) < x1)) (h3 : (x1 < x2)) : (¬ (x0 = ((x1 - (1 : Nat)) / (2 : Nat)))) := by lia
theorem ar279 {x0 : Nat} {x1 : Nat} {x2 : Nat} (h1 : (¬ ((((2 : Nat) * x1) + (1 : Nat)) < x2))) (h2 : ((0 : Nat) < x0)) (h3 : (x0 < x2)) : (((x0 - (1 : Nat)) / (2 : Nat)) ≠ x1) := by lia
theorem ar280 {x0 : Nat} (h1 : (¬ (x0 = (0 : Nat)))) : (((x0 - (1 : Nat)) / (2 : Nat)) < x0) := by lia
theorem ar281 {x0 : Nat} {x1 : Nat} (h1 : (x0 < x1)) (h2 : (¬ (x0 = (0 : Nat)))) : (((x0 - (1 : Nat)) / (2 : Nat)) < x1) := by lia
theorem ar282 {x0 : Nat} (h1 : (¬ (x0 = (0 : Nat)))) : ((0 : Nat) < x0) := by lia
theorem ar283 {x0 : Nat} {x1 : Nat} (h1 : (x0 < (x1 + (1 : Nat)))) : (x0 < ((x1 + (1 : Nat)) + (1 : Nat))) := Nat.lt_succ_of_lt h1
theorem ar284 {x0 : Nat} (h1 : (((x0 - (1 : Nat)) / (2 : Nat)) ≠ (0 : Nat))) : ((0 : Nat) < ((x0 - (1 : Nat)) / (2 : Nat))) := by lia
theorem ar285 {x0 : Nat} {x1 : Nat} (h1 : ((0 : Nat) < x0)) (h2 : (((x0 - (1 : Nat)) / (2 : Nat)) ≠ (0 : Nat))) (h3 : (x0 < x1)) : (((x0 - (1 : Nat)) / (2 : Nat)) < x1) := by lia
theorem ar286 {x0 : Nat} {x1 : Nat} (h1 : (x0 < x1)) (h2 : (x1 < ((2 : Nat) ^ (20 : Nat)))) : (((x0 : Nat) : Int) < ((2 : Int) ^ (60 : Nat))) := (Int.lt_of_lt_of_le (Int.ofNat_lt.mpr (Nat.lt_trans h1 h2)) (by decide))
theorem ar287 : ((0 : Int) ≤ (2 : Int)) := by lia
theorem ar288 {x0 : Nat} {x1 : Int} (h1 : (x1 = ((((x0 - (1 : Nat)) / (2 : Nat)) : Nat) : Int))) : ((0 : Int) ≤ ((((x0 - (1 : Nat)) / (2 : Nat)) : Nat) : Int)) := Int.natCast_nonneg _
theorem ar289 {x0 : Nat} {x1 : Nat} {x2 : Int} (h1 : (x1 < ((2 : Nat) ^ (20 : Nat)))) (h2 : (x0 < x1)) (h3 : (x2 = ((((x0 - (1 : Nat)) / (2 : Nat)) : Nat) : Int))) : (((((x0 - (1 : Nat)) / (2 : Nat)) : Nat) : Int) < ((2 : Int) ^ (60 : Nat))) := by lia
theorem ar290 {x0 : Nat} {x1 : Nat} {x2 : Int} (h1 : (x2 = ((((x0 - (1 : Nat)) / (2 : Nat)) : Nat) : Int))) (h2 : (x0 ≤ (x1 + (1 : Nat)))) : (((x0 - (1 : Nat)) / (2 : Nat)) ≤ x1) := by lia
theorem ar291 {x0 : Nat} (h1 : (x0 < ((2 : Nat) ^ (19 : Nat)))) : ((x0 + (1 : Nat)) < ((2 : Nat) ^ (40 : Nat))) := Nat.lt_of_le_of_lt h1 (by decide)
theorem ar292 {x0 : Nat} : (((((x0 + (1 : Nat)) : Nat) : Int) - (1 : Int)) = ((x0 : Nat) : Int)) := by lia
theorem ar293 {x0 : Nat} (h1 : (x0 < ((2 : Nat) ^ (19 : Nat)))) : ((x0 + (1 : Nat)) < ((2 : Nat) ^ (20 : Nat))) := Nat.lt_of_le_of_lt h1 (by decide)
theorem ar294 : ((0 : Int) ≤ (0 : Int)) := by lia
theorem ar295 : ((0 : Int) < ((2 : Int) ^ (60 : Nat))) := by lia
theorem ar296 {x0 : Nat} {x1 : Nat} (h1 : (x1 < x0)) : ((0 : Int) ≤ ((x0 : Nat) : Int)) := Int.natCast_nonneg _
theorem ar297 {x0 : Nat} {x1 : Nat} {x2 : Nat} (h1 : (x1 < ((2 : Nat) ^ (19 : Nat)))) (h2 : (x2 = x1)) (h3 : (x0 < x2)) : (((x0 : Nat) : Int) < ((2 : Int) ^ (60 : Nat))) := (Int.lt_of_lt_of_le (Int.ofNat_lt.mpr (Nat.lt_trans (Nat.lt_of_lt_of_le h3 (Nat.le_of_eq h2)) h1)) (by decide))
theorem ar298 {x0 : Nat} : ((((2 : Int) * ((x0 : Nat) : Int)) + (1 : Int)) = (((((2 : Nat) * x0) + (1 : Nat)) : Nat) : Int)) := by lia
theorem ar299 {x0 : Nat} : ((0 : Int) ≤ (((((2 : Nat) * x0) + (1 : Nat)) : Nat) : Int)) := Int.natCast_nonneg _
theorem ar300 {x0 : Nat} : ((0 : Int) ≤ ((((((2 : Nat) * x0) + (1 : Nat)) : Nat) : Int) + (1 : Int))) := by lia
theorem ar301 {x0 : Nat} : ((Int.toNat ((((((2 : Nat) * x0) + (1 : Nat)) : Nat) : Int) + (1 : Int))) = (((2 : Nat) * x0) + (2 : Nat))) := by lia
theorem ar302 {x0 : Nat} : (((((((2 : Nat) * x0) + (1 : Nat)) : Nat) : Int) + (1 : Int)) = (((((2 : Nat) * x0) + (2 : Nat)) : Nat) : Int)) := by lia
theorem ar303 {x0 : Nat} {x1 : Nat} (h1 : (x1 < ((2 : Nat) ^ (19 : Nat)))) (h2 : (x0 = x1)) : (x0 < (1048576 : Nat)) := (Nat.lt_trans (Nat.lt_of_le_of_lt (Nat.le_of_eq h2) h1) (by decide))
theorem ar304 {x0 : Nat} (h1 : ((0 : Nat) < x0)) (h2 : (x0 < ((2 : Nat) ^ (19 : Nat)))) : ((x0 - (1 : Nat)) < ((2 : Nat) ^ (19 : Nat))) := (Nat.lt_of_le_of_lt (Nat.sub_le _ _) h2)
theorem ar305 {x0 : Nat} : ((0 : Int) < (((x0 + (1 : Nat)) : Nat) : Int)) := by lia
theorem ar306 {x0 : Nat} {x1 : Nat} (h1 : (x1 ≤ (1000 : Nat))) (h2 : (x0 < x1)) : ((min x0 x1) < (1048576 : Nat)) := (Nat.lt_of_le_of_lt (Nat.le_trans (Nat.min_le_right _ _) h1) (by decide))
theorem ar307 {x0 : Nat} (h1 : (x0 ≤ (1000 : Nat))) : ((x0 * (2 : Nat)) ≤ (16777216 : Nat)) := by lia
theorem ar308 {x0 : Nat} {x1 : Nat} {x2 : Nat} (h1 : (x1 ≤ (1000 : Nat))) (h2 : (x2 < x1)) (h3 : (x0 ≤ ((2 : Nat) * (min x2 x1)))) : (x0 ≤ (2000 : Nat)) := by lia
theorem ar309 {x0 : Nat} {x1 : Nat} (h1 : (x1 ≤ (1000 : Nat))) (h2 : (x0 ≤ ((2 : Nat) * x1))) : (x0 ≤ (2000 : Nat)) := by lia
theorem ar310 {x0 : Nat} (h1 : (x0 ≤ (2000 : Nat))) : (((1 : Nat) + x0) ≤ (16777216 : Nat)) := by lia
theorem ar311 {x0 : Nat} {x1 : Nat} (h1 : (x1 < (7 : Nat))) (h2 : (x0 = x1)) : (x0 < (1048576 : Nat)) := (Nat.lt_trans (Nat.lt_of_le_of_lt (Nat.le_of_eq h2) h1) (by decide))
theorem ar312 {x0 : Nat} (h1 : ((1 : Nat) ≤ x0)) : ((((x0 : Nat) : Int) - (1 : Int)) = (((x0 - (1 : Nat)) : Nat) : Int)) := by lia
theorem ar313 {x0 : Nat} (h1 : ((1 : Nat) ≤ x0)) (h2 : (x0 < (1000 : Nat))) : ((((x0 - (1 : Nat)) : Nat) : Int) < ((2 : Int) ^ (60 : Nat))) := (Int.lt_of_lt_of_le (Int.ofNat_lt.mpr (Nat.lt_of_le_of_lt (Nat.sub_le _ _) h2)) (by decide))
theorem ar314 {x0 : Nat} {x1 : Nat} (h1 : ((1 : Nat) ≤ x1)) (h2 : (x1 < (1000 : Nat))) (h3 : (x0 < (x1 - (1 : Nat)))) : (((x0 : Nat) : Int) < ((2 : Int) ^ (60 : Nat))) := (Int.lt_of_lt_of_le (Int.ofNat_lt.mpr (Nat.lt_trans (Nat.lt_of_lt_of_le h3 (Nat.sub_le _ _)) h2)) (by decide))
theorem ar315 {x0 : Nat} {x1 : Nat} (h1 : ((1 : Nat) ≤ x1)) (h2 : (x0 < (x1 - (1 : Nat)))) : (x0 < x1) := (Nat.lt_of_lt_of_le h2 (Nat.sub_le _ _))
theorem ar316 {x0 : Nat} : ((0 : Int) ≤ (((x0 : Nat) : Int) + (1 : Int))) := by lia
theorem ar317 {x0 : Nat} {x1 : Nat} (h1 : ((1 : Nat) ≤ x1)) (h2 : (x1 < (1000 : Nat))) (h3 : (x0 < (x1 - (1 : Nat)))) : ((((x0 : Nat) : Int) + (1 : Int)) < ((2 : Int) ^ (60 : Nat))) := by lia
theorem ar318 {x0 : Nat} {x1 : Nat} (h1 : ((1 : Nat) ≤ x1)) (h2 : (x0 < (x1 - (1 : Nat)))) : ((x0 + (1 : Nat)) < x1) := by lia
theorem ar319 {x0 : Nat} {x1 : Nat} {x2 : Nat} (h1 : ((1 : Nat) ≤ x1)) (h2 : (x1 < (1000 : Nat))) (h3 : (x2 < (x1 - (1 : Nat)))) (h4 : (x0 ≤ x2)) : (x0 < (1048576 : Nat)) := (Nat.lt_trans (Nat.lt_trans (Nat.lt_of_lt_of_le (Nat.lt_of_le_of_lt h4 h3) (Nat.sub_le _ _)) h2) (by decide))
theorem ar320 {x0 : Nat} (h1 : (x0 < (1000 : Nat))) : (((x0 : Nat) : Int) < ((2 : Int) ^ (60 : Nat))) := (Int.lt_of_lt_of_le (Int.ofNat_lt.mpr h1) (by decide))
theorem ar321 {x0 : Nat} (h1 : (x0 < (1000 : Nat))) : (x0 ≤ (16777216 : Nat)) := Nat.le_of_lt (Nat.lt_trans h1 (by decide))
theorem ar322 {x0 : Nat} {x1 : Nat} (h1 : (x1 < (1000 : Nat))) (h2 : (x0 < x1)) : (((x0 : Nat) : Int) < ((2 : Int) ^ (60 : Nat))) := (Int.lt_of_lt_of_le (Int.ofNat_lt.mpr (Nat.lt_trans h2 h1)) (by decide))
theorem ar323 {x0 : Nat} {x1 : Nat} {x2 : Nat} (h1 : (x1 < (1000 : Nat))) (h2 : (x0 ≤ x2)) (h3 : (x2 ≤ x1)) : (x0 < ((2 : Nat) ^ (20 : Nat))) := (Nat.lt_trans (Nat.lt_of_le_of_lt (Nat.le_trans h2 h3) h1) (by decide))
theorem ar324 {x0 : Nat} {x1 : Nat} {x2 : Nat} (h1 : (x1 < (1000 : Nat))) (h2 : (x0 ≤ x2)) (h3 : (x2 ≤ x1)) : (x0 < ((2 : Nat) ^ (40 : Nat))) := (Nat.lt_trans (Nat.lt_of_le_of_lt (Nat.le_trans h2 h3) h1) (by decide))
theorem ar325 {x0 : Nat} {x1 : Nat} {x2 : Nat} {x3 : Nat} (h1 : (x0 ≤ x2)) (h2 : ((x2 + (2 : Nat)) < x3)) (h3 : (x3 ≤ x1)) : (x0 ≤ x1) := (Nat.le_of_lt (Nat.lt_of_lt_of_le (Nat.lt_trans (Nat.lt_of_le_of_lt h1 (Nat.lt_add_of_pos_right (by decide))) h2) h3))
theorem ar326 {x0 : Nat} {x1 : Nat} (h1 : (x1 < (64 : Nat))) (h2 : (x0 < x1)) : (x0 < (1048576 : Nat)) := (Nat.lt_trans (Nat.lt_trans h2 h1) (by decide))
theorem ar327 {x0 : Nat} (h1 : (x0 < (64 : Nat))) : (x0 < (64 : Nat)) := h1
theorem ar328 {x0 : Nat} {x1 : Nat} {x2 : Nat} {x3 : Nat} (h1 : (x2 < (64 : Nat))) (h2 : (x3 = x2)) (h3 : (x0 < x1)) (h4 : (x1 = x3)) : ((min x0 x1) < ((2 : Nat) ^ (20 : Nat))) := (Nat.lt_trans (Nat.lt_of_le_of_lt (Nat.le_trans (Nat.le_trans (Nat.min_le_right _ _) (Nat.le_of_eq h4)) (Nat.le_of_eq h2)) h1) (by decide))
theorem ar329 {x0 : Nat} {x1 : Nat} {x2 : Nat} {x3 : Nat} {x4 : Nat} (h1 : (x0 ≤ x2)) (h2 : ((x2 + (1 : Nat)) < x3)) (h3 : (x3 ≤ x4)) (h4 : (x4 ≤ x1)) : (x0 ≤ x1) := (Nat.le_of_lt (Nat.lt_of_lt_of_le (Nat.lt_of_lt_of_le (Nat.lt_trans (Nat.lt_of_le_of_lt h1 (Nat.lt_succ_self _)) h2) h3) h4))
theorem ar330 {x0 : Nat} {x1 : Nat} {x2 : Nat} (h1 : (x1 < x2)) (h2 : ((x1 + (1 : Nat)) < x2)) (h3 : (x2 ≤ x0)) : (x0 ≠ (x1 + (1 : Nat))) := (Nat.ne_of_gt (Nat.lt_of_lt_of_le h2 h3))
theorem ar331 {x0 : Nat} {x1 : Nat} (h1 : (x1 < (64 : Nat))) (h2 : (x0 < x1)) : (x0 < ((2 : Nat) ^ (19 : Nat))) := (Nat.lt_trans (Nat.lt_trans h2 h1) (by decide))
theorem ar332 {x0 : Nat} {x1 : Nat} {x2 : Nat} (h1 : (x1 < x2)) (h2 : ((x1 + x0) = x2)) : ((0 : Nat) < x0) := by lia
theorem ar333 {x0 : Nat} {x1 : Nat} {x2 : Nat} (h1 : (x1 < (64 : Nat))) (h2 : (x0 = x2)) (h3 : (x2 < x1)) : (x0 < (1048576 : Nat)) := (Nat.lt_trans (Nat.lt_trans (Nat.lt_of_le_of_lt (Nat.le_of_eq h2) h3) h1) (by decide))
theorem ar334 {x0 : Nat} {x1 : Nat} {x2 : Nat} (h1 : (x1 < (64 : Nat))) (h2 : ((x2 + x0) = x1)) : (x0 < ((2 : Nat) ^ (19 : Nat))) := (Nat.lt_trans (Nat.lt_of_le_of_lt (Nat.le_trans (Nat.le_add_left _ _) (Nat.le_of_eq h2)) h1) (by decide))
theorem ar335 {x0 : Nat} {x1 : Nat} (h1 : ((x1 + x0) = x1)) : (x0 = (0 : Nat)) := by lia
theorem ar336 {x0 : Nat} (h1 : (x0 < (1000 : Nat))) : ((Int.natAbs ((x0 : Nat) : Int)) < ((2 : Nat) ^ (30 : Nat))) := Nat.lt_trans h1 (by decide)
theorem ar337 {x0 : Nat} {x1 : Nat} {x2 : Nat} (h1 : (x0 ≤ ((0 : Nat) + (min x2 x1)))) : (x0 ≤ x1) := by lia
theorem ar338 {x0 : Nat} {x1 : Nat} {x2 : Nat} {x3 : Nat} {x4 : Nat} (h1 : (x0 ≤ (x3 + (min x4 x2)))) (h2 : (x3 ≤ x1)) : (x0 ≤ (x1 + x2)) := by lia
theorem ar339 {x0 : Nat} {x1 : Nat} {x2 : Nat} (h1 : ((x1 + x2) < ((2 : Nat) ^ (19 : Nat)))) (h2 : (x0 ≤ x1)) : (x0 < ((2 : Nat) ^ (20 : Nat))) := (Nat.lt_trans (Nat.lt_of_le_of_lt (Nat.le_trans h2 (Nat.le_add_right _ _)) h1) (by decide))
theorem ar340 {x0 : Nat} {x1 : Nat} {x2 : Nat} {x3 : Nat} (h1 : (x0 ≤ x2)) (h2 : ((x2 + (1 : Nat)) ≤ x3)) (h3 : (x3 ≤ x1)) : (x0 ≤ x1) := (Nat.le_of_lt (Nat.lt_of_lt_of_le (Nat.lt_of_le_of_lt h1 h2) h3))
theorem ar341 {x0 : Nat} (h1 : (¬ ((8 : Nat) < (x0 + (1 : Nat))))) : (¬ ((8 : Nat) < x0)) := (Nat.not_lt.mpr (Nat.le_of_lt (Nat.not_lt.mp h1)))
theorem ar342 {x0 : Nat} (h1 : (¬ ((8 : Nat) < (x0 + (1 : Nat))))) : ((x0 + (1 : Nat)) ≤ (8 : Nat)) := Nat.not_lt.mp h1
theorem ar343 {x0 : Nat} {x1 : Nat} {x2 : Nat} (h1 : (x0 ≤ x2)) (h2 : (x2 ≤ ((8 : Nat) * x1))) : (x0 ≤ ((8 : Nat) * x1)) := Nat.le_trans h1 h2
theorem ar344 {x0 : Nat} {x1 : Nat} {x2 : Nat} {x3 : Nat} {x4 : Nat} {x5 : Nat} (h1 : (x0 ≤ x2)) (h2 : (x2 < x3)) (h3 : (x3 ≤ x4)) (h4 : (x4 ≤ x5)) (h5 : (x5 ≤ x1)) : (x0 ≤ x1) := (Nat.le_of_lt (Nat.lt_of_lt_of_le (Nat.lt_of_lt_of_le (Nat.lt_of_lt_of_le (Nat.lt_of_le_of_lt h1 h2) h3) h4) h5))
theorem ar345 {x0 : Nat} {x1 : Nat} (h1 : (x0 = (x1 + (1 : Nat)))) (h2 : ((x1 + (1 : Nat)) ≤ (4 : Nat))) : (x0 < (1099511627776 : Nat)) := (Nat.lt_of_le_of_lt (Nat.le_trans (Nat.le_of_eq h1) h2) (by decide))
theorem ar346 {x0 : Nat} (h1 : ((x0 + (1 : Nat)) ≤ (4 : Nat))) : ((((x0 + (1 : Nat)) : Nat) : Int) < ((2 : Int) ^ (60 : Nat))) := by lia
theorem ar347 {x0 : Nat} {x1 : Nat} {x2 : Nat} {x3 : Nat} (h1 : ((x0 + (2 : Nat)) < x2)) (h2 : (x2 ≤ x3)) (h3 : (x3 ≤ x1)) : (((x0 + (1 : Nat)) + (1 : Nat)) ≠ x1) := Nat.ne_of_lt (Nat.lt_of_lt_of_le (Nat.lt_of_lt_of_le h1 h2) h3)
theorem ar348 {x0 : Nat} {x1 : Nat} {x2 : Nat} {x3 : Nat} (h1 : ((x1 + (2 : Nat)) < x2)) (h2 : (x2 ≤ x3)) (h3 : (x3 ≤ x0)) : (x0 ≠ (x1 + (2 : Nat))) := (Nat.ne_of_gt (Nat.lt_of_lt_of_le (Nat.lt_of_lt_of_le h1 h2) h3))
theorem ar349 {x0 : Nat} {x1 : Nat} {x2 : Nat} (h1 : (x0 ≤ x2)) (h2 : (x1 ≤ ((8 : Nat) ^ (4 : Nat)))) : ((x0 + x1) ≤ (x2 + ((8 : Nat) ^ (4 : Nat)))) := by lia
theorem ar350 {x0 : Nat} {x1 : Nat} (h1 : ((x1 + (1 : Nat)) ≤ (4 : Nat))) (h2 : (x0 < (x1 + (1 : Nat)))) : (x0 ≤ (5 : Nat)) := (Nat.le_of_lt (Nat.lt_trans (Nat.lt_of_lt_of_le h2 h1) (by decide)))
theorem ar352 {x0 : Nat} {x1 : Nat} {x2 : Nat} {x3 : Nat} (h1 : ((x0 + (2 : Nat)) < x2)) (h2 : (x2 ≤ x3)) (h3 : (x3 ≤ x1)) : ((x0 + (2 : Nat)) ≠ x1) := Nat.ne_of_lt (Nat.lt_of_lt_of_le (Nat.lt_of_lt_of_le h1 h2) h3)
theorem ar353 {x0 : Nat} {x1 : Nat} (h1 : (x0 = (x1 + (1 : Nat)))) (h2 : ((x1 + (1 : Nat)) ≤ (4 : Nat))) : (x0 ≤ (16777216 : Nat)) := (Nat.le_of_lt (Nat.lt_of_le_of_lt (Nat.le_trans (Nat.le_of_eq h1) h2) (by decide)))
theorem ar354 {x0 : Nat} {x1 : Nat} {x2 : Nat} (h1 : (x1 = (x2 + (1 : Nat)))) (h2 : ((x2 + (1 : Nat)) ≤ (4 : Nat))) (h3 : (x0 < (x2 + (1 : Nat)))) : (((min x0 x1) + (x1 - (x0 + (1 : Nat)))) ≤ (16777216 : Nat)) := by lia
theorem ar355 {x0 : Nat} {x1 : Nat} {x2 : Nat} (h1 : (x1 = (x2 + (1 : Nat)))) (h2 : (x0 < (x2 + (1 : Nat)))) : (((min x0 x1) + (x1 - (x0 + (1 : Nat)))) = x2) := by lia
theorem ar356 {x0 : Nat} {x1 : Nat} (h1 : (x1 ≤ ((8 : Nat) ^ (4 : Nat)))) (h2 : (x0 < x1)) : ((min x0 x1) < (1048576 : Nat)) := (Nat.lt_of_le_of_lt (Nat.le_trans (Nat.min_le_right _ _) h1) (by decide))
theorem ar357 {x0 : Nat} (h1 : ((x0 + (1 : Nat)) ≤ (4 : Nat))) : (((1 : Nat) + x0) ≤ (16777216 : Nat)) := by lia
theorem ar358 {x0 : Nat} {x1 : Nat} (h1 : (x0 ≤ ((5 : Nat) * ((8 : Nat) ^ (4 : Nat))))) (h2 : (x1 ≤ ((8 : Nat) ^ (4 : Nat)))) : ((x0 + x1) < (1048576 : Nat)) := by lia
theorem ar359 {x0 : Nat} {x1 : Nat} {x2 : Nat} {x3 : Nat} {x4 : Nat} {x5 : Nat} (h1 : (x0 ≤ x2)) (h2 : ((x2 + (2 : Nat)) < x3)) (h3 : (x3 ≤ x4)) (h4 : (x4 ≤ x5)) (h5 : ((x5 + (1 : Nat)) ≤ x1)) : (x0 ≤ x1) := (Nat.le_of_lt (Nat.lt_trans (Nat.lt_of_lt_of_le (Nat.lt_of_lt_of_le (Nat.lt_trans (Nat.lt_of_le_of_lt h1 (Nat.lt_add_of_pos_right (by decide))) h2) h3) h4) h5))
theorem ar360 {x0 : Nat} {x1 : Nat} {x2 : Nat} {x3 : Nat} (h1 : (x3 ≤ ((0 : Nat) + x1))) (h2 : (x0 ≤ (x3 + x2))) : (x0 ≤ (x1 + x2)) := by lia
theorem ar361 {x0 : Nat} {x1 : Nat} (h1 : (x0 ≤ ((0 : Nat) + x1))) : (x0 ≤ x1) := by lia
theorem ar362 {x0 : Nat} {x1 : Nat} (h1 : (x1 ≤ (24 : Nat))) : ((min x0 x1) ≤ (24 : Nat)) := (Nat.le_trans (Nat.min_le_right _ _) h1)
theorem ar363 {x0 : Nat} {x1 : Nat} (h1 : ((x0 + (1 : Nat)) ≤ (4 : Nat))) : ((min (x0 + (1 : Nat)) x1) ≤ (4 : Nat)) := (Nat.le_trans (Nat.min_le_left _ _) h1)
theorem ar364 {x0 : Nat} {x1 : Nat} (h1 : (x1 ≤ (24 : Nat))) (h2 : (x0 ≤ ((24 : Nat) * (24 : Nat)))) : ((x0 + x1) < ((2 : Nat) ^ (19 : Nat))) := by lia
theorem ar365 {x0 : Nat} (h1 : (x0 ≤ (4 : Nat))) : (x0 < (1099511627776 : Nat)) := Nat.lt_of_le_of_lt h1 (by decide)
theorem ar366 {x0 : Nat} {x1 : Nat} (h1 : (x1 ≤ (4 : Nat))) (h2 : (x0 < x1)) : (x0 ≤ (4 : Nat)) := (Nat.le_of_lt (Nat.lt_of_lt_of_le h2 h1))
theorem ar367 {x0 : Nat} {x1 : Nat} (h1 : (x1 ≤ (4 : Nat))) (h2 : (x0 < x1)) : (x0 ≤ (3 : Nat)) := by lia
theorem ar368 {x0 : Nat} (h1 : (x0 ≤ (4 : Nat))) : (x0 ≤ (16777216 : Nat)) := Nat.le_trans h1 (by decide)
theorem ar369 {x0 : Nat} {x1 : Nat} (h1 : (x1 ≤ (4 : Nat))) (h2 : (x0 < x1)) : (((x0 : Nat) : Int) < ((2 : Int) ^ (60 : Nat))) := (Int.lt_of_lt_of_le (Int.ofNat_lt.mpr (Nat.lt_of_lt_of_le h2 h1)) (by decide))
theorem ar370 {x0 : Nat} {x1 : Nat} (h1 : (x1 ≤ (4 : Nat))) (h2 : (x0 < x1)) : ((min (x0 + (1 : Nat)) x1) ≤ (4 : Nat)) := (Nat.le_trans (Nat.min_le_right _ _) h1)
theorem ar372 {x0 : Nat} (h1 : (x0 ≤ (40000 : Nat))) : (x0 < ((2 : Nat) ^ (20 : Nat))) := Nat.lt_of_le_of_lt h1 (by decide)
theorem ar373 {x0 : Nat} {x1 : Nat} {x2 : Nat} {x3 : Nat} {x4 : Nat} {x5 : Nat} (h1 : (x0 ≤ x2)) (h2 : ((x2 + (2 : Nat)) < x3)) (h3 : (x3 ≤ x4)) (h4 : ((x4 + (1 : Nat)) ≤ x5)) (h5 : (x5 ≤ x1)) : (x0 ≤ x1) := (Nat.le_of_lt (Nat.lt_of_lt_of_le (Nat.lt_trans (Nat.lt_of_lt_of_le (Nat.lt_trans (Nat.lt_of_le_of_lt h1 (Nat.lt_add_of_pos_right (by decide))) h2) h3) h4) h5))
theorem ar374 {x0 : Nat} {x1 : Nat} : ((x0 - (x1 + (1 : Nat))) ≤ x0) := (Nat.sub_le _ _)
theorem ar375 {x0 : Nat} (h1 : (x0 < ((2 : Nat) ^ (30 : Nat)))) : ((Int.natAbs ((x0 : Nat) : Int)) < ((2 : Nat) ^ (64 : Nat))) := Nat.lt_trans h1 (by decide)
theorem ar376 {x0 : Nat} (h1 : (x0 ≤ (16 : Nat))) : (x0 < ((2 : Nat) ^ (30 : Nat))) := Nat.lt_of_le_of_lt h1 (by decide)
theorem ar377 {x0 : Nat} (h1 : (x0 < (1000 : Nat))) : (((x0 : Nat) : Int) < ((10 : Int) ^ (10 : Nat))) := (Int.lt_of_lt_of_le (Int.ofNat_lt.mpr h1) (by decide))
theorem ar378 {x0 : Nat} (h1 : (x0 = (4 : Nat))) : (x0 < (1000 : Nat)) := (Nat.lt_of_le_of_lt (Nat.le_of_eq h1) (by decide))
theorem ar379 {x0 : Nat} {x1 : Nat} (h1 : ((x1 + (10 : Nat)) ≤ (1000 : Nat))) (h2 : (x1 = (x0 + (1 : Nat)))) : ((x0 + (1 : Nat)) ≤ (16777216 : Nat)) := (Nat.le_of_lt (Nat.lt_trans (Nat.lt_of_lt_of_le (Nat.lt_of_le_of_lt (Nat.le_of_eq h2.symm) (Nat.lt_add_of_pos_right (by decide))) h1) (by decide)))
theorem ar380 {x0 : Nat} (h1 : (x0 < (10 : Nat))) : (x0 < (1920 : Nat)) := Nat.lt_trans h1 (by decide)
theorem ar381 {x0 : Nat} {x1 : Nat} {x2 : Nat} (h1 : ((x2 + (10 : Nat)) ≤ (1000 : Nat))) (h2 : (x1 ≤ (10 : Nat))) (h3 : (x2 = (x0 + (1 : Nat)))) : (((x0 + (1 : Nat)) + x1) ≤ (16777216 : Nat)) := by lia
theorem ar382 {x0 : Nat} {x1 : Nat} {x2 : Nat} (h1 : ((x2 + (10 : Nat)) ≤ (1000 : Nat))) (h2 : (x1 ≤ (10 : Nat))) (h3 : (x2 = (x0 + (1 : Nat)))) : ((((x0 + (1 : Nat)) + x1) + (5 : Nat)) ≤ (16777216 : Nat)) := by lia
theorem ar383 {x0 : Nat} {x1 : Nat} {x2 : Nat} {x3 : Nat} {x4 : Nat} {x5 : Nat} {x6 : Nat} {x7 : Nat} (h1 : ((x1 + (1 : Nat)) ≤ x2)) (h2 : (x2 ≤ x3)) (h3 : (x3 ≤ x4)) (h4 : (x4 ≤ x5)) (h5 : (x5 ≤ x6)) (h6 : (x6 ≤ x7)) (h7 : ((x7 + (1 : Nat)) ≤ x0)) : (x0 ≠ x1) := (Nat.ne_of_gt (Nat.lt_trans (Nat.lt_of_lt_of_le (Nat.lt_of_lt_of_le (Nat.lt_of_lt_of_le (Nat.lt_of_lt_of_le (Nat.lt_of_lt_of_le h1 h2) h3) h4) h5) h6) h7))
theorem ar384 {x0 : Nat} {x1 : Nat} (h1 : (x1 ≠ x0)) : (x0 ≠ x1) := by lia
theorem ar385 {x0 : Nat} (h1 : (x0 < (10 : Nat))) : (x0 < ((2 : Nat) ^ (30 : Nat))) := Nat.lt_trans h1 (by decide)
theorem ar386 {x0 : Nat} (h1 : (x0 < (1000 : Nat))) : ((x0 + (1 : Nat)) < (1099511627776 : Nat)) := Nat.lt_of_le_of_lt h1 (by decide)
theorem ar387 {x0 : Nat} {x1 : Nat} (h1 : ((x0 + x1) ≤ (10000 : Nat))) : (x0 ≤ (10000 : Nat)) := Nat.le_trans (Nat.le_add_right _ _) h1
theorem ar388 {x0 : Nat} (h1 : (x0 ≤ (10000 : Nat))) : (x0 ≤ (16777216 : Nat)) := Nat.le_trans h1 (by decide)
theorem ar389 {x0 : Nat} : ((min (1 : Nat) x0) < ((2 : Nat) ^ (40 : Nat))) := by lia
theorem ar390 {x0 : Nat} {x1 : Nat} : ((((x0 : Nat) : Int) + ((x1 : Nat) : Int)) = (((x0 + x1) : Nat) : Int)) := by lia
theorem ar391 {x0 : Nat} {x1 : Nat} : (((1 : Int) + (((x0 + x1) : Nat) : Int)) = (((1 : Int) + ((x0 : Nat) : Int)) + ((x1 : Nat) : Int))) := by lia
theorem ar392 {x0 : Nat} {x1 : Nat} {x2 : Nat} {x3 : Nat} {x4 : Nat} (h1 : (x0 ≤ x2)) (h2 : ((x2 + (1 : Nat)) ≤ x3)) (h3 : ((x3 + (1 : Nat)) ≤ x4)) (h4 : (x4 ≤ x1)) : (x0 ≤ x1) := (Nat.le_of_lt (Nat.lt_of_lt_of_le (Nat.lt_trans (Nat.lt_of_le_of_lt h1 h2) h3) h4))
theorem ar393 {x0 : Nat} {x1 : Nat} {x2 : Nat} {x3 : Nat} (h1 : ((x1 + x2) ≤ (10000 : Nat))) (h2 : (x0 = (x2 - x3))) : (x0 ≤ (10000 : Nat)) := by lia
theorem ar394 {x0 : Nat} (h1 : (x0 ≤ (9999 : Nat))) : (x0 ≤ (10000 : Nat)) := Nat.le_succ_of_le h1
theorem ar395 : (((0 : Nat) + (1 : Nat)) ≤ (16777216 : Nat)) := Nat.succ_le_succ (Nat.zero_le _)
theorem ar396 {x0 : Nat} (h1 : (((1 : Nat) + x0) ≤ (10000 : Nat))) : (((1 : Nat) + x0) ≤ (10000 : Nat)) := h1
theorem ar397 {x0 : Nat} (h1 : (((x0 + (1 : Nat)) + (1 : Nat)) ≤ (10000 : Nat))) : (((1 : Nat) + x0) ≤ (10000 : Nat)) := by lia
theorem ar398 {x0 : Nat} (h1 : ((x0 + (1 : Nat)) ≤ (10000 : Nat))) : (((1 : Nat) + x0) ≤ (10000 : Nat)) := by lia
theorem ar399 {x0 : Nat} {x1 : Nat} {x2 : Nat} {x3 : Nat} (h1 : (x2 ≤ x3)) (h2 : ((x3 + (1 : Nat)) ≤ x1)) (h3 : (x0 < x2)) : (x0 ≠ (x1 + (1 : Nat))) := (Nat.ne_of_lt (Nat.lt_trans (Nat.lt_trans (Nat.lt_of_lt_of_le h3 h1) h2) (Nat.lt_succ_self _)))
theorem ar400 {x0 : Nat} {x1 : Nat} (h1 : ((x1 + (2 : Nat)) ≤ x0)) : (x0 ≠ (x1 + (1 : Nat))) := (Nat.ne_of_gt (Nat.lt_of_lt_of_le (Nat.add_lt_add_left (by decide) _) h1))
theorem ar401 {x0 : Nat} {x1 : Nat} {x2 : Nat} (h1 : ((x1 + (1 : Nat)) ≤ x2)) (h2 : ((x2 + (2 : Nat)) ≤ x0)) : (x0 ≠ x1) := (Nat.ne_of_gt (Nat.lt_of_lt_of_le (Nat.lt_trans h1 (Nat.lt_add_of_pos_right (by decide))) h2))
theorem ar402 {x0 : Nat} {x1 : Nat} {x2 : Nat} {x3 : Nat} {x4 : Nat} (h1 : (x1 < x2)) (h2 : (x2 ≤ x3)) (h3 : ((x3 + (1 : Nat)) ≤ x4)) (h4 : ((x4 + (2 : Nat)) ≤ x0)) : (x0 ≠ x1) := (Nat.ne_of_gt (Nat.lt_of_lt_of_le (Nat.lt_trans (Nat.lt_trans (Nat.lt_of_lt_of_le h1 h2) h3) (Nat.lt_add_of_pos_right (by decide))) h4))
theorem ar403 {x0 : Nat} {x1 : Nat} {x2 : Nat} {x3 : Nat} (h1 : (x0 ≤ x2)) (h2 : ((x2 + (1 : Nat)) ≤ x3)) (h3 : ((x3 + (2 : Nat)) ≤ x1)) : (x0 ≤ x1) := (Nat.le_of_lt (Nat.lt_of_lt_of_le (Nat.lt_trans (Nat.lt_of_le_of_lt h1 h2) (Nat.lt_add_of_pos_right (by decide))) h3))
theorem ar404 {x0 : Nat} : (x0 ≠ (x0 + (1 : Nat))) := Nat.ne_of_lt (Nat.lt_succ_self _)
theorem ar405 {x0 : Nat} {x1 : Nat} (h1 : ((x0 + (1 : Nat)) ≤ x1)) : (x0 ≠ (x1 + (1 : Nat))) := (Nat.ne_of_lt (Nat.lt_trans h1 (Nat.lt_succ_self _)))
theorem ar406 {x0 : Nat} {x1 : Nat} {x2 : Nat} {x3 : Nat} (h1 : (x0 < x2)) (h2 : (x2 ≤ x3)) (h3 : ((x3 + (1 : Nat)) ≤ x1)) : (x0 ≠ (x1 + (1 : Nat))) := (Nat.ne_of_lt (Nat.lt_trans (Nat.lt_trans (Nat.lt_of_lt_of_le h1 h2) h3) (Nat.lt_succ_self _)))
theorem ar407 {x0 : Nat} {x1 : Nat} {x2 : Nat} (h1 : (x0 < x2)) (h2 : (x2 ≤ x1)) : (x0 ≠ x1) := Nat.ne_of_lt (Nat.lt_of_lt_of_le h1 h2)
theorem ar408 {x0 : Nat} {x1 : Nat} {x2 : Nat} {x3 : Nat} (h1 : (x0 ≤ x2)) (h2 : ((x2 + (1 : Nat)) ≤ x3)) (h3 : ((x3 + (2 : Nat)) ≤ x1)) : (x0 ≤ (x1 + (1 : Nat))) := (Nat.le_of_lt (Nat.lt_trans (Nat.lt_of_lt_of_le (Nat.lt_trans (Nat.lt_of_le_of_lt h1 h2) (Nat.lt_add_of_pos_right (by decide))) h3) (Nat.lt_succ_self _)))
theorem ar409 {x0 : Nat} {x1 : Nat} {x2 : Nat} {x3 : Nat} (h1 : (x0 ≤ x1)) (h2 : ((x1 + (1 : Nat)) ≤ x3)) (h3 : ((x3 + (2 : Nat)) ≤ x2)) : ((x0 ≤ x1) ∧ (x1 < (x2 + (1 : Nat)))) := ⟨h1, (Nat.lt_trans (Nat.lt_of_lt_of_le (Nat.lt_trans h2 (Nat.lt_add_of_pos_right (by decide))) h3) (Nat.lt_succ_self _))⟩
theorem ar410 {x0 : Nat} {x1 : Nat} {x2 : Nat} {x3 : Nat} (h1 : (x0 ≤ x3)) (h2 : ((x3 + (1 : Nat)) ≤ x1)) (h3 : ((x1 + (2 : Nat)) ≤ x2)) : ((x0 ≤ x1) ∧ (x1 < (x2 + (1 : Nat)))) := ⟨(Nat.le_of_lt (Nat.lt_of_le_of_lt h1 h2)), (Nat.lt_trans (Nat.lt_of_lt_of_le (Nat.lt_add_of_pos_right (by decide)) h3) (Nat.lt_succ_self _))⟩
theorem ar411 {x0 : Nat} {x1 : Nat} {x2 : Nat} {x3 : Nat} (h1 : (x0 ≤ x2)) (h2 : ((x2 + (1 : Nat)) ≤ x3)) (h3 : ((x3 + (2 : Nat)) ≤ x1)) : ((x0 ≤ x1) ∧ (x1 < (x1 + (1 : Nat)))) := ⟨(Nat.le_of_lt (Nat.lt_of_lt_of_le (Nat.lt_trans (Nat.lt_of_le_of_lt h1 h2) (Nat.lt_add_of_pos_right (by decide))) h3)), (Nat.lt_succ_self _)⟩
theorem ar412 {x0 : Nat} {x1 : Nat} {x2 : Nat} {x3 : Nat} {x4 : Nat} (h1 : (x2 ≤ x3)) (h2 : ((x3 + (1 : Nat)) ≤ x4)) (h3 : ((x4 + (2 : Nat)) ≤ x1)) (h4 : (x0 < x2)) : (x0 ≠ x1) := (Nat.ne_of_lt (Nat.lt_of_lt_of_le (Nat.lt_trans (Nat.lt_trans (Nat.lt_of_lt_of_le h4 h1) h2) (Nat.lt_add_of_pos_right (by decide))) h3))
theorem ar413 {x0 : Nat} {x1 : Nat} {x2 : Nat} (h1 : ((x1 + (2 : Nat)) ≤ x2)) (h2 : ((x2 + (1 : Nat)) ≤ x0)) : (x0 ≠ x1) := (Nat.ne_of_gt (Nat.lt_trans (Nat.lt_of_lt_of_le (Nat.lt_add_of_pos_right (by decide)) h1) h2))
theorem ar414 {x0 : Nat} {x1 : Nat} {x2 : Nat} (h1 : ((x0 + (2 : Nat)) ≤ x2)) (h2 : ((x2 + (1 : Nat)) ≤ x1)) : ((x0 + (2 : Nat)) ≤ x1) := Nat.le_trans h1 (Nat.le_trans (Nat.le_succ _) h2)
theorem ar415 {x0 : Nat} : ((x0 + (1 : Nat)) ≠ x0) := Nat.ne_of_gt (Nat.lt_succ_self _)
theorem ar416 {x0 : Nat} {x1 : Nat} (h1 : ((x0 + (2 : Nat)) ≤ x1)) : ((x0 + (1 : Nat)) ≠ x1) := Nat.ne_of_lt (Nat.lt_of_lt_of_le (Nat.lt_succ_self _) h1)
theorem ar417 {x0 : Nat} {x1 : Nat} {x2 : Nat} (h1 : ((x0 + (1 : Nat)) ≤ x2)) (h2 : ((x2 + (2 : Nat)) ≤ x1)) : (x0 ≠ x1) := (Nat.ne_of_lt (Nat.lt_of_lt_of_le (Nat.lt_trans h1 (Nat.lt_add_of_pos_right (by decide))) h2))
theorem ar418 {x0 : Nat} {x1 : Nat} {x2 : Nat} (h1 : ((x0 + (2 : Nat)) < x2)) (h2 : (x2 ≤ x1)) : (((x0 + (1 : Nat)) + (1 : Nat)) ≠ x1) := Nat.ne_of_lt (Nat.lt_of_lt_of_le h1 h2)
theorem ar419 {x0 : Nat} {x1 : Nat} {x2 : Nat} (h1 : (x0 < x2)) (h2 : ((x0 + (2 : Nat)) < x2)) (h3 : (x2 ≤ x1)) : ((x0 + (1 : Nat)) ≠ x1) := (Nat.ne_of_lt (Nat.lt_of_lt_of_le (Nat.lt_trans (Nat.add_lt_add_left (by decide) _) h2) h3))
theorem ar420 {x0 : Nat} {x1 : Nat} {x2 : Nat} (h1 : ((x1 + (2 : Nat)) < x2)) (h2 : (x2 ≤ x0)) : (x0 ≠ (x1 + (2 : Nat))) := Nat.ne_of_gt (Nat.lt_of_lt_of_le h1 h2)
theorem ar421 {x0 : Nat} {x1 : Nat} {x2 : Nat} {x3 : Nat} {x4 : Nat} (h1 : (x2 ≤ x3)) (h2 : ((x3 + (2 : Nat)) < x4)) (h3 : (x4 ≤ x1)) (h4 : (x0 < x2)) : (x0 ≠ x1) := (Nat.ne_of_lt (Nat.lt_of_lt_of_le (Nat.lt_trans (Nat.lt_trans (Nat.lt_of_lt_of_le h4 h1) (Nat.lt_add_of_pos_right (by decide))) h2) h3))
theorem ar422 {x0 : Nat} {x1 : Nat} {x2 : Nat} {x3 : Nat} (h1 : ((x1 + (2 : Nat)) < x2)) (h2 : (x2 ≤ x3)) (h3 : ((x3 + (1 : Nat)) ≤ x0)) : (x0 ≠ (x1 + (1 : Nat))) := (Nat.ne_of_gt (Nat.lt_trans (Nat.lt_of_lt_of_le (Nat.lt_trans (Nat.add_lt_add_left (by decide) _) h1) h2) h3))
theorem ar423 {x0 : Nat} {x1 : Nat} {x2 : Nat} {x3 : Nat} {x4 : Nat} (h1 : (x0 ≤ x2)) (h2 : ((x2 + (2 : Nat)) < x3)) (h3 : (x3 ≤ x4)) (h4 : ((x4 + (1 : Nat)) ≤ x1)) : (x0 ≤ x1) := (Nat.le_of_lt (Nat.lt_trans (Nat.lt_of_lt_of_le (Nat.lt_trans (Nat.lt_of_le_of_lt h1 (Nat.lt_add_of_pos_right (by decide))) h2) h3) h4))
theorem ar424 {x0 : Nat} {x1 : Nat} {x2 : Nat} {x3 : Nat} {x4 : Nat} {x5 : Nat} (h1 : (x1 ≤ x2)) (h2 : ((x2 + (2 : Nat)) < x3)) (h3 : (x3 ≤ x4)) (h4 : ((114 : Nat) < x1)) (h5 : ((x4 + (1 : Nat)) ≤ x5)) (h6 : (x5 < x0)) : ((114 : Nat) ≠ x0) := (Nat.ne_of_lt (Nat.lt_trans (Nat.lt_trans (Nat.lt_of_lt_of_le (Nat.lt_trans (Nat.lt_trans (Nat.lt_of_lt_of_le h4 h1) (Nat.lt_add_of_pos_right (by decide))) h2) h3) h5) h6))
theorem ar425 {x0 : Nat} {x1 : Nat} {x2 : Nat} {x3 : Nat} {x4 : Nat} {x5 : Nat} (h1 : ((x0 + (2 : Nat)) < x2)) (h2 : (x2 ≤ x3)) (h3 : ((x3 + (1 : Nat)) ≤ x4)) (h4 : (x4 < x5)) (h5 : ((x5 + (1 : Nat)) ≤ x1)) : ((x0 + (1 : Nat)) ≠ x1) := (Nat.ne_of_lt (Nat.lt_trans (Nat.lt_trans (Nat.lt_trans (Nat.lt_of_lt_of_le (Nat.lt_trans (Nat.add_lt_add_left (by decide) _) h1) h2) h3) h4) h5))
theorem ar426 {x0 : Nat} {x1 : Nat} {x2 : Nat} {x3 : Nat} {x4 : Nat} (h1 : ((x0 + (2 : Nat)) < x2)) (h2 : (x2 ≤ x3)) (h3 : ((x3 + (1 : Nat)) ≤ x4)) (h4 : (x4 < x1)) : ((x0 + (1 : Nat)) ≠ x1) := (Nat.ne_of_lt (Nat.lt_trans (Nat.lt_trans (Nat.lt_of_lt_of_le (Nat.lt_trans (Nat.add_lt_add_left (by decide) _) h1) h2) h3) h4))
theorem ar427 {x0 : Nat} {x1 : Nat} {x2 : Nat} {x3 : Nat} {x4 : Nat} {x5 : Nat} (h1 : ((x0 + (2 : Nat)) < x2)) (h2 : (x2 ≤ x3)) (h3 : ((x3 + (1 : Nat)) ≤ x4)) (h4 : (x4 < x5)) (h5 : ((x5 + (1 : Nat)) ≤ x1)) : ((x0 + (2 : Nat)) ≠ x1) := (Nat.ne_of_lt (Nat.lt_trans (Nat.lt_trans (Nat.lt_trans (Nat.lt_of_lt_of_le h1 h2) h3) h4) h5))
theorem ar428 {x0 : Nat} {x1 : Nat} {x2 : Nat} {x3 : Nat} {x4 : Nat} (h1 : ((x0 + (2 : Nat)) < x2)) (h2 : (x2 ≤ x3)) (h3 : ((x3 + (1 : Nat)) ≤ x4)) (h4 : (x4 < x1)) : ((x0 + (2 : Nat)) ≠ x1) := (Nat.ne_of_lt (Nat.lt_trans (Nat.lt_trans (Nat.lt_of_lt_of_le h1 h2) h3) h4))
theorem ar429 {x0 : Nat} {x1 : Nat} {x2 : Nat} {x3 : Nat} (h1 : ((x0 + (1 : Nat)) ≤ x2)) (h2 : (x2 < x3)) (h3 : ((x3 + (1 : Nat)) ≤ x1)) : (x0 ≠ x1) := (Nat.ne_of_lt (Nat.lt_trans (Nat.lt_trans h1 h2) h3))
theorem ar430 {x0 : Nat} {x1 : Nat} {x2 : Nat} {x3 : Nat} {x4 : Nat} {x5 : Nat} (h1 : (x1 ≤ x2)) (h2 : ((x2 + (2 : Nat)) < x3)) (h3 : (x3 ≤ x4)) (h4 : ((114 : Nat) < x1)) (h5 : ((x4 + (1 : Nat)) ≤ x5)) (h6 : (x5 < x0)) : (x0 ≠ (114 : Nat)) := (Nat.ne_of_gt (Nat.lt_trans (Nat.lt_trans (Nat.lt_of_lt_of_le (Nat.lt_trans (Nat.lt_trans (Nat.lt_of_lt_of_le h4 h1) (Nat.lt_add_of_pos_right (by decide))) h2) h3) h5) h6))
theorem ar431 {x0 : Nat} {x1 : Nat} {x2 : Nat} {x3 : Nat} {x4 : Nat} (h1 : (x1 ≤ x2)) (h2 : ((x2 + (2 : Nat)) < x3)) (h3 : (x3 ≤ x4)) (h4 : ((114 : Nat) < x1)) (h5 : ((x4 + (1 : Nat)) ≤ x0)) : (x0 ≠ (114 : Nat)) := (Nat.ne_of_gt (Nat.lt_trans (Nat.lt_of_lt_of_le (Nat.lt_trans (Nat.lt_trans (Nat.lt_of_lt_of_le h4 h1) (Nat.lt_add_of_pos_right (by decide))) h2) h3) h5))
theorem ar432 {x0 : Nat} {x1 : Nat} {x2 : Nat} (h1 : (x1 < x2)) (h2 : ((x2 + (1 : Nat)) ≤ x0)) : (x0 ≠ x1) := (Nat.ne_of_gt (Nat.lt_trans h1 h2))
theorem ar433 {x0 : Nat} {x1 : Nat} {x2 : Nat} {x3 : Nat} (h1 : ((x1 + (1 : Nat)) ≤ x2)) (h2 : (x2 < x3)) (h3 : ((x3 + (1 : Nat)) ≤ x0)) : (x0 ≠ x1) := (Nat.ne_of_gt (Nat.lt_trans (Nat.lt_trans h1 h2) h3))
theorem ar434 {x0 : Nat} {x1 : Nat} {x2 : Nat} {x3 : Nat} {x4 : Nat} (h1 : (x1 < x2)) (h2 : ((x2 + (1 : Nat)) ≤ x3)) (h3 : (x3 < x4)) (h4 : ((x4 + (1 : Nat)) ≤ x0)) : (x0 ≠ x1) := (Nat.ne_of_gt (Nat.lt_trans (Nat.lt_trans (Nat.lt_trans h1 h2) h3) h4))
theorem ar435 {x0 : Nat} {x1 : Nat} {x2 : Nat} {x3 : Nat} {x4 : Nat} {x5 : Nat} (h1 : ((x0 + (1 : Nat)) ≤ x2)) (h2 : (x2 < x3)) (h3 : ((x3 + (1 : Nat)) ≤ x4)) (h4 : (x4 < x5)) (h5 : ((x5 + (1 : Nat)) ≤ x1)) : ((x0 + (1 : Nat)) ≤ x1) := (Nat.le_of_lt (Nat.lt_trans (Nat.lt_trans (Nat.lt_trans (Nat.lt_of_le_of_lt h1 h2) h3) h4) h5))
theorem ar436 {x0 : Nat} {x1 : Nat} {x2 : Nat} {x3 : Nat} {x4 : Nat} {x5 : Nat} {x6 : Nat} (h1 : ((x2 + (1 : Nat)) ≤ x3)) (h2 : (x3 < x4)) (h3 : ((x4 + (1 : Nat)) ≤ x5)) (h4 : (x5 < x6)) (h5 : ((x6 + (1 : Nat)) ≤ x1)) (h6 : (x0 = x2)) : (x0 < x1) := (Nat.lt_trans (Nat.lt_trans (Nat.lt_trans (Nat.lt_trans (Nat.lt_of_le_of_lt (Nat.le_of_eq h6) h1) h2) h3) h4) h5)
theorem ar437 {x0 : Nat} {x1 : Nat} {x2 : Nat} {x3 : Nat} {x4 : Nat} {x5 : Nat} (h1 : (x2 ≤ x3)) (h2 : ((x3 + (2 : Nat)) < x4)) (h3 : (x4 ≤ x5)) (h4 : (x0 < x2)) (h5 : ((x5 + (1 : Nat)) ≤ x1)) : (x0 ≠ x1) := (Nat.ne_of_lt (Nat.lt_trans (Nat.lt_of_lt_of_le (Nat.lt_trans (Nat.lt_trans (Nat.lt_of_lt_of_le h4 h1) (Nat.lt_add_of_pos_right (by decide))) h2) h3) h5))
theorem ar438 {x0 : Nat} {x1 : Nat} {x2 : Nat} (h1 : ((x1 + (1 : Nat)) ≤ x2)) (h2 : ((x2 + (1 : Nat)) ≤ x0)) : (x0 ≠ x1) := (Nat.ne_of_gt (Nat.lt_trans h1 h2))
theorem ar439 {x0 : Nat} {x1 : Nat} {x2 : Nat} {x3 : Nat} (h1 : ((x0 + (1 : Nat)) ≤ x2)) (h2 : ((x2 + (1 : Nat)) ≤ x3)) (h3 : ((x3 + (1 : Nat)) ≤ x1)) : ((x0 + (1 : Nat)) ≤ x1) := (Nat.le_of_lt (Nat.lt_trans (Nat.lt_of_le_of_lt h1 h2) h3))
theorem ar440 {x0 : Nat} {x1 : Nat} {x2 : Nat} {x3 : Nat} {x4 : Nat} (h1 : ((x2 + (1 : Nat)) ≤ x3)) (h2 : ((x3 + (1 : Nat)) ≤ x4)) (h3 : ((x4 + (1 : Nat)) ≤ x1)) (h4 : (x0 = x2)) : (x0 < x1) := (Nat.lt_trans (Nat.lt_trans (Nat.lt_of_le_of_lt (Nat.le_of_eq h4) h1) h2) h3)
theorem ar441 {x0 : Nat} {x1 : Nat} {x2 : Nat} : (((x0 + (x1 + (1 : Nat))) + x2) = ((x0 + x1) + (x2 + (1 : Nat)))) := by lia
theorem ar442 {x0 : Nat} {x1 : Nat} {x2 : Nat} {x3 : Nat} (h1 : (x2 < (64 : Nat))) (h2 : (x3 < x2)) (h3 : (x0 = x3)) : ((x0 - (x1 + (1 : Nat))) < (64 : Nat)) := (Nat.lt_trans (Nat.lt_of_le_of_lt (Nat.le_trans (Nat.sub_le _ _) (Nat.le_of_eq h3)) h2) h1)
theorem ar443 {x0 : Nat} {x1 : Nat} (h1 : (x1 < (64 : Nat))) (h2 : (x0 < x1)) : ((((x0 : Nat) : Int) - (1 : Int)) < ((2 : Int) ^ (60 : Nat))) := by lia
theorem ar444 {x0 : Nat} (h1 : (x0 < (64 : Nat))) : (x0 < (1000 : Nat)) := Nat.lt_trans h1 (by decide)
theorem ar445 {x0 : Nat} {x1 : Nat} {x2 : Nat} (h1 : (x1 < (64 : Nat))) (h2 : (x2 < x1)) (h3 : (x0 = x2)) : (x0 < (1000 : Nat)) := (Nat.lt_trans (Nat.lt_trans (Nat.lt_of_le_of_lt (Nat.le_of_eq h3) h2) h1) (by decide))
theorem ar446 {x0 : Nat} {x1 : Nat} {x2 : Nat} (h1 : (x2 < (64 : Nat))) (h2 : (x1 = x2)) (h3 : (x0 < x1)) : ((min x0 x1) < (1048576 : Nat)) := (Nat.lt_trans (Nat.lt_of_le_of_lt (Nat.le_trans (Nat.min_le_right _ _) (Nat.le_of_eq h2)) h1) (by decide))
theorem ar447 {x0 : Nat} {x1 : Nat} {x2 : Nat} (h1 : (x2 < (64 : Nat))) (h2 : (x0 = x2)) : ((x0 - (x1 + (1 : Nat))) < (1000 : Nat)) := (Nat.lt_trans (Nat.lt_of_le_of_lt (Nat.le_trans (Nat.sub_le _ _) (Nat.le_of_eq h2)) h1) (by decide))
theorem ar448 {x0 : Nat} {x1 : Nat} {x2 : Nat} {x3 : Nat} {x4 : Nat} {x5 : Nat} {x6 : Nat} (h1 : (x0 ≤ x2)) (h2 : ((x2 + (1 : Nat)) < x3)) (h3 : (x3 ≤ x4)) (h4 : (x4 ≤ x5)) (h5 : (x5 ≤ x6)) (h6 : (x6 ≤ x1)) : (x0 ≤ x1) := (Nat.le_of_lt (Nat.lt_of_lt_of_le (Nat.lt_of_lt_of_le (Nat.lt_of_lt_of_le (Nat.lt_of_lt_of_le (Nat.lt_trans (Nat.lt_of_le_of_lt h1 (Nat.lt_succ_self _)) h2) h3) h4) h5) h6))
theorem ar449 {x0 : Nat} : ((x0 + (1 : Nat)) ≠ (x0 + (4 : Nat))) := (Nat.ne_of_lt (Nat.add_lt_add_left (by decide) _))
theorem ar450 {x0 : Nat} : ((x0 + (1 : Nat)) ≠ (x0 + (3 : Nat))) := (Nat.ne_of_lt (Nat.add_lt_add_left (by decide) _))
theorem ar451 {x0 : Nat} : ((x0 + (2 : Nat)) ≠ (x0 + (4 : Nat))) := (Nat.ne_of_lt (Nat.add_lt_add_left (by decide) _))
theorem ar452 {x0 : Nat} : ((x0 + (2 : Nat)) ≠ (x0 + (3 : Nat))) := Nat.ne_of_lt (Nat.lt_succ_self _)
theorem ar453 {x0 : Nat} : ((x0 + (3 : Nat)) ≠ (x0 + (4 : Nat))) := Nat.ne_of_lt (Nat.lt_succ_self _)
theorem ar454 {x0 : Nat} {x1 : Nat} (h1 : (x0 < x1)) : (x0 ≠ (x1 + (4 : Nat))) := (Nat.ne_of_lt (Nat.lt_trans h1 (Nat.lt_add_of_pos_right (by decide))))
theorem ar455 {x0 : Nat} {x1 : Nat} (h1 : (x0 < x1)) : (x0 ≠ (x1 + (3 : Nat))) := (Nat.ne_of_lt (Nat.lt_trans h1 (Nat.lt_add_of_pos_right (by decide))))
theorem ar456 {x0 : Nat} {x1 : Nat} (h1 : (x0 < x1)) : (x0 ≠ (x1 + (2 : Nat))) := (Nat.ne_of_lt (Nat.lt_trans h1 (Nat.lt_add_of_pos_right (by decide))))
theorem ar457 {x0 : Nat} {x1 : Nat} (h1 : (x0 < x1)) : (x0 ≠ (x1 + (1 : Nat))) := (Nat.ne_of_lt (Nat.lt_trans h1 (Nat.lt_succ_self _)))
theorem ar458 {x0 : Nat} : ((x0 + (4 : Nat)) ≠ (x0 + (3 : Nat))) := Nat.ne_of_gt (Nat.lt_succ_self _)
theorem ar459 {x0 : Nat} : ((x0 + (4 : Nat)) ≠ (x0 + (2 : Nat))) := (Nat.ne_of_gt (Nat.add_lt_add_left (by decide) _))
theorem ar460 {x0 : Nat} : ((x0 + (3 : Nat)) ≠ (x0 + (2 : Nat))) := Nat.ne_of_gt (Nat.lt_succ_self _)
theorem ar461 {x0 : Nat} : ((x0 + (4 : Nat)) ≠ (x0 + (1 : Nat))) := (Nat.ne_of_gt (Nat.add_lt_add_left (by decide) _))
theorem ar462 {x0 : Nat} : ((x0 + (3 : Nat)) ≠ (x0 + (1 : Nat))) := (Nat.ne_of_gt (Nat.add_lt_add_left (by decide) _))
theorem ar463 {x0 : Int} {x1 : Nat} {x2 : Nat} (h1 : ((0 : Int) ≤ x0)) (h2 : (x0 < ((x2 : Nat) : Int))) (h3 : (x2 ≤ x1)) : ((Int.toNat x0) < x1) := by lia
theorem ar464 {x0 : Nat} (h1 : (x0 = (7 : Nat))) : ((min (4 : Nat) x0) ≤ (4 : Nat)) := (Nat.min_le_left _ _)
theorem ar466 {x0 : Nat} {x1 : Nat} (h1 : (x1 = (7 : Nat))) (h2 : (x0 < (7 : Nat))) : (x0 < x1) := (Nat.lt_of_lt_of_le h2 (Nat.le_of_eq h1.symm))
theorem ar468 {x0 : Nat} (h1 : (x0 < (7 : Nat))) : ((x0 = (0 : Nat)) ∨ ((x0 = (1 : Nat)) ∨ ((x0 = (2 : Nat)) ∨ ((x0 = (3 : Nat)) ∨ ((x0 = (4 : Nat)) ∨ ((x0 = (5 : Nat)) ∨ (x0 = (6 : Nat)))))))) := by lia
theorem ar470 {x0 : Nat} (h1 : ((x0 + (1 : Nat)) ≤ (20 : Nat))) : ((x0 + (1 : Nat)) ≤ (16777216 : Nat)) := Nat.le_trans h1 (by decide)
theorem ar471 {x0 : Nat} (h1 : (x0 < (3 : Nat))) : ((x0 = (0 : Nat)) ∨ ((x0 = (1 : Nat)) ∨ (x0 = (2 : Nat)))) := by lia
theorem ar472 {x0 : Nat} {x1 : Nat} {x2 : Nat} {x3 : Nat} : (((x0 + ((0 : Nat) + x1)) + (x2 + x3)) = ((x0 + x2) + (x3 + x1))) := by lia
theorem ar473 {x0 : Nat} {x1 : Nat} : ((x0 + x1) = (x1 + x0)) := by lia
theorem ar474 {x0 : Nat} {x1 : Nat} {x2 : Nat} {x3 : Nat} {x4 : Nat} (h1 : ((x1 + x2) = (x3 + x4))) : (((x0 + x1) + x2) = ((x0 + x3) + x4)) := by lia
theorem ar475 {x0 : Nat} {x1 : Nat} {x2 : Nat} : (((x0 + x1) + x2) = ((x1 + x2) + x0)) := by lia
theorem ar476 {x0 : Nat} {x1 : Nat} {x2 : Nat} {x3 : Nat} : (((x0 + x1) + (x2 + x3)) = ((x2 + x1) + (x0 + x3))) := by lia
theorem ar477 {x0 : Nat} {x1 : Nat} {x2 : Nat} {x3 : Nat} (h1 : (x2 = x3)) : (((x0 + x1) + x2) = (x0 + (x1 + x3))) := by lia
theorem ar478 {x0 : Nat} {x1 : Nat} (h1 : (((x0 : Nat) : Int) < ((x1 : Nat) : Int))) : (x0 < x1) := (Int.ofNat_lt.mp h1)
theorem ar479 {x0 : Nat} {x1 : Nat} (h1 : (x0 < x1)) : (x0 < (x1 + (1 : Nat))) := Nat.lt_succ_of_lt h1
theorem ar480 {x0 : Nat} {x1 : Nat} {x2 : Nat} (h1 : (x0 = x2)) (h2 : (x1 = x2)) : (x0 = x1) := (Nat.le_antisymm (Nat.le_trans (Nat.le_of_eq h1) (Nat.le_of_eq h2.symm)) (Nat.le_trans (Nat.le_of_eq h2) (Nat.le_of_eq h1.symm)))
theorem ar481 {x0 : Nat} {x1 : Nat} {x2 : Nat} (h1 : (x0 < x2)) (h2 : (x2 < x1)) : (x0 < x1) := Nat.lt_trans h1 h2
theorem ar482 {x0 : Nat} {x1 : Nat} (h1 : (x0 < x1)) (h2 : (x1 < x0)) : False := by lia
theorem ar483 {x0 : Nat} {x1 : Nat} {x2 : Nat} (h1 : (x2 > x0)) (h2 : (x2 < x1)) : (x0 < x1) := Nat.lt_trans h1 h2
theorem ar484 {x0 : Nat} {x1 : Nat} (h1 : (x0 > x1)) (h2 : (x0 < x1)) : False := by lia
theorem ar485 {x0 : Nat} {x1 : Nat} (h1 : (x0 < (x1 - (1 : Nat)))) : (x0 < x1) := (Nat.lt_of_lt_of_le h1 (Nat.sub_le _ _))
theorem ar486 {x0 : Nat} (h1 : ((x0 + (1 : Nat)) = (7 : Nat))) : (x0 ≤ (6 : Nat)) := by lia
theorem ar487 {x0 : Nat} (h1 : ((x0 + (1 : Nat)) = (7 : Nat))) : (((6 : Nat) - x0) = (0 : Nat)) := by lia
theorem ar488 {x0 : Nat} (h1 : (¬ ((((63 : Nat) : Nat) : Int) < ((x0 : Nat) : Int)))) : (x0 ≤ (63 : Nat)) := by lia
theorem arb0 {x0 : Nat} {x1 : Nat} {x2 : Nat} (h1 : (x1 = x2)) (h2 : ((((2 : Nat) * x0) + (1 : Nat)) < x2)) (h3 : ((((2 : Nat) * x0) + (2 : Nat)) < x2)) : ((((2 : Nat) * x0) + (2 : Nat)) < x1) := (Nat.lt_of_lt_of_le h3 (Nat.le_of_eq h1.symm))
theorem arb1 {x0 : Nat} {x1 : Nat} {x2 : Nat} (h1 : (x1 ≤ x0)) (h2 : (x2 = (x0 - x1))) (h3 : (x1 < x0)) : ((x0 - (x1 + (1 : Nat))) < x2) := by lia
theorem arb2 {x0 : Nat} {x1 : Nat} {x2 : Nat} {x3 : Nat} {x4 : Nat} {x5 : Nat} {x6 : Nat} {x7 : Nat} {x8 : Nat} {x9 : Nat} (h1 : (x0 ≤ x2)) (h2 : ((x2 + (2 : Nat)) < x3)) (h3 : (x3 ≤ x4)) (h4 : ((x4 + (1 : Nat)) ≤ x5)) (h5 : (x5 < x6)) (h6 : ((x6 + (1 : Nat)) ≤ x7)) (h7 : (x7 < x8)) (h8 : (((x8 + (1 : Nat)) ≤ x1) ∧ (x1 < x9))) : (x0 ≤ x1) := by lia
theorem arb3 {x0 : Nat} {x1 : Nat} {x2 : Nat} {x3 : Nat} {x4 : Nat} {x5 : Nat} {x6 : Nat} {x7 : Nat} (h1 : (x0 ≤ x2)) (h2 : ((x2 + (2 : Nat)) < x3)) (h3 : (x3 ≤ x4)) (h4 : ((x4 + (1 : Nat)) ≤ x5)) (h5 : ((x5 + (1 : Nat)) ≤ x6)) (h6 : (((x6 + (1 : Nat)) ≤ x1) ∧ (x1 < x7))) : (x0 ≤ x1) := (Nat.le_of_lt (Nat.lt_trans (Nat.lt_trans (Nat.lt_trans (Nat.lt_of_lt_of_le (Nat.lt_trans (Nat.lt_of_le_of_lt h1 (Nat.lt_add_of_pos_right (by decide))) h2) h3) h4) h5) h6.1))
theorem arb6 {x0 : Nat} {x1 : Nat} {x2 : Nat} (h1 : (x1 = x2)) (h2 : ((((2 : Nat) * x0) + (1 : Nat)) < x2)) : ((((2 : Nat) * x0) + (1 : Nat)) < x1) := (Nat.lt_of_lt_of_le h2 (Nat.le_of_eq h1.symm))
theorem arb7 {x0 : Nat} {x1 : Nat} {x2 : Nat} (h1 : (x1 = x2)) (h2 : ((((2 : Nat) * x0) + (2 : Nat)) < x2)) : ((((2 : Nat) * x0) + (1 : Nat)) < x1) := (Nat.lt_of_lt_of_le (Nat.lt_trans (Nat.add_lt_add_left (by decide) _) h2) (Nat.le_of_eq h1.symm))
theorem arb8 {x0 : Nat} {x1 : Nat} {x2 : Nat} {x3 : Nat} {x4 : Nat} {x5 : Nat} {x6 : Nat} {x7 : Nat} {x8 : Nat} (h1 : (x2 ≤ x3)) (h2 : ((x3 + (2 : Nat)) < x4)) (h3 : (x4 ≤ x5)) (h4 : ((x5 + (1 : Nat)) ≤ x6)) (h5 : (x6 < x7)) (h6 : ((x7 + (1 : Nat)) ≤ x8)) (h7 : (x8 < x1)) (h8 : (x0 < x2)) : (x0 ≠ x1) := (Nat.ne_of_lt (Nat.lt_trans (Nat.lt_trans (Nat.lt_trans (Nat.lt_trans (Nat.lt_of_lt_of_le (Nat.lt_trans (Nat.lt_trans (Nat.lt_of_lt_of_le h8 h1) (Nat.lt_add_of_pos_right (by decide))) h2) h3) h4) h5) h6) h7))
theorem arb9 {x0 : Nat} {x1 : Nat} {x2 : Nat} {x3 : Nat} {x4 : Nat} {x5 : Nat} (h1 : (x2 ≤ x3)) (h2 : ((x3 + (2 : Nat)) < x4)) (h3 : (x4 ≤ x5)) (h4 : ((x5 + (1 : Nat)) ≤ x1)) (h5 : (x0 < x2)) : (x0 ≠ x1) := by lia
theorem arb10 {x0 : Nat} {x1 : Nat} {x2 : Nat} {x3 : Nat} {x4 : Nat} (h1 : (x0 ≤ x2)) (h2 : ((x2 + (2 : Nat)) < x3)) (h3 : (x3 ≤ x4)) (h4 : (x1 = x4)) : (x0 ≤ x1) := (Nat.le_of_lt (Nat.lt_of_lt_of_le (Nat.lt_of_lt_of_le (Nat.lt_trans (Nat.lt_of_le_of_lt h1 (Nat.lt_add_of_pos_right (by decide))) h2) h3) (Nat.le_of_eq h4.symm)))
theorem arb11 {x0 : Nat} {x1 : Nat} {x2 : Nat} {x3 : Nat} {x4 : Nat} {x5 : Nat} {x6 : Nat} {x7 : Nat} (h1 : (x1 ≤ x2)) (h2 : ((x2 + (2 : Nat)) < x3)) (h3 : (x3 ≤ x4)) (h4 : ((114 : Nat) < x1)) (h5 : ((x4 + (1 : Nat)) ≤ x5)) (h6 : (x5 < x6)) (h7 : ((x6 + (1 : Nat)) ≤ x7)) (h8 : (x7 < x0)) : ((114 : Nat) ≠ x0) := (Nat.ne_of_lt (Nat.lt_trans (Nat.lt_trans (Nat.lt_trans (Nat.lt_trans (Nat.lt_of_lt_of_le (Nat.lt_trans (Nat.lt_trans (Nat.lt_of_lt_of_le h4 h1) (Nat.lt_add_of_pos_right (by decide))) h2) h3) h5) h6) h7) h8))
theorem arb12 {x0 : Nat} {x1 : Nat} {x2 : Nat} {x3 : Nat} {x4 : Nat} {x5 : Nat} {x6 : Nat} (h1 : (x2 ≤ x3)) (h2 : ((x3 + (2 : Nat)) < x4)) (h3 : (x4 ≤ x5)) (h4 : ((x5 + (1 : Nat)) ≤ x6)) (h5 : ((x6 + (1 : Nat)) ≤ x1)) (h6 : (x0 < x2)) : (x0 ≠ x1) := (Nat.ne_of_lt (Nat.lt_trans (Nat.lt_trans (Nat.lt_of_lt_of_le (Nat.lt_trans (Nat.lt_trans (Nat.lt_of_lt_of_le h6 h1) (Nat.lt_add_of_pos_right (by decide))) h2) h3) h4) h5))
theorem arb13 {x0 : Nat} {x1 : Nat} {x2 : Nat} {x3 : Nat} {x4 : Nat} {x5 : Nat} {x6 : Nat} (h1 : (x2 < (64 : Nat))) (h2 : (x3 < x2)) (h3 : (x4 = x3)) (h4 : (x5 < x4)) (h5 : ((x1 + x6) = x5)) (h6 : (x0 < (64 : Nat))) : ((x0 + x1) < (1000 : Nat)) := by lia
theorem arb15 {x0 : Nat} (h1 : (x0 ≤ (24 : Nat))) : (((0 : Nat) + x0) ≤ (24 : Nat)) := by lia
theorem arb16 {x0 : Nat} {x1 : Nat} {x2 : Nat} {x3 : Nat} {x4 : Nat} {x5 : Nat} {x6 : Nat} {x7 : Nat} (h1 : (x4 = x5)) (h2 : (x0 = (x6 + x4))) (h3 : (x2 = (x7 + x5))) (h4 : ((x6 + x1) = (x7 + x3))) : ((x0 + (x1 + (1 : Nat))) = (x2 + (x3 + (1 : Nat)))) := by lia
theorem arb17 {x0 : Nat} {x1 : Nat} (h1 : (x1 < x0)) : (((((x0 : Nat) : Int) - (1 : Int)) / (2 : Int)) = ((((x0 - (1 : Nat)) / (2 : Nat)) : Nat) : Int)) := by lia
theorem arb18 {x0 : Nat} {x1 : Nat} {x2 : Nat} {x3 : Nat} {x4 : Int} (h1 : (x1 = x2)) (h2 : (x0 < x2)) (h3 : (x3 < x0)) (h4 : (x4 = ((((x0 - (1 : Nat)) / (2 : Nat)) : Nat) : Int))) : (((x0 - (1 : Nat)) / (2 : Nat)) < x1) := by lia
theorem arb19 {x0 : Nat} {x1 : Nat} {x2 : Nat} (h1 : (x1 ≤ x0)) (h2 : (x2 < x1)) : (x0 = ((x0 - (1 : Nat)) + (1 : Nat))) := by lia
theorem arb20 {x0 : Nat} {x1 : Nat} {x2 : Nat} {x3 : Int} (h1 : (x0 < x1)) (h2 : (x2 < x0)) (h3 : (x3 = ((((x0 - (1 : Nat)) / (2 : Nat)) : Nat) : Int))) : (((x0 - (1 : Nat)) / (2 : Nat)) < x1) := by lia
theorem arb21 {x0 : Nat} {x1 : Nat} (h1 : (¬ (((x0 : Nat) : Int) < ((x1 : Nat) : Int)))) : (¬ (x0 < x1)) := by lia
theorem arb22 {x0 : Nat} {x1 : Nat} (h1 : ((((((2 : Nat) * x0) + (1 : Nat)) : Nat) : Int) < ((x1 : Nat) : Int))) : ((((2 : Nat) * x0) + (1 : Nat)) < x1) := (Int.ofNat_lt.mp h1)
theorem arb23 {x0 : Nat} {x1 : Nat} {x2 : Nat} (h1 : (x1 ≤ (x2 + x0))) (h2 : ((((2 : Nat) * x2) + (1 : Nat)) < x1)) : (x0 = ((x0 - (1 : Nat)) + (1 : Nat))) := by lia
theorem arb24 {x0 : Nat} {x1 : Nat} {x2 : Nat} (h1 : ((0 : Nat) < x2)) (h2 : (x1 = x2)) (h3 : ((((2 : Nat) * x0) + (1 : Nat)) < x2)) : (((x0 : Nat) : Int) < ((x1 : Nat) : Int)) := by lia
theorem arb25 {x0 : Nat} {x1 : Nat} (h1 : ((((2 : Nat) * x0) + (1 : Nat)) < x1)) (h2 : (((((((2 : Nat) * x0) + (1 : Nat)) : Nat) : Int) + (1 : Int)) < ((x1 : Nat) : Int))) : ((((2 : Nat) * x0) + (2 : Nat)) < x1) := by lia
theorem arb26 {x0 : Nat} {x1 : Nat} (h1 : (x1 < ((2 : Nat) ^ (19 : Nat)))) (h2 : ((((2 : Nat) * x0) + (2 : Nat)) < x1)) : ((((((2 : Nat) * x0) + (1 : Nat)) : Nat) : Int) < ((2 : Int) ^ (60 : Nat))) := (Int.lt_of_lt_of_le (Int.ofNat_lt.mpr (Nat.lt_trans (Nat.lt_trans (Nat.add_lt_add_left (by decide) _) h2) h1)) (by decide))
theorem arb27 {x0 : Nat} {x1 : Nat} (h1 : (x1 < ((2 : Nat) ^ (19 : Nat)))) (h2 : ((((2 : Nat) * x0) + (2 : Nat)) < x1)) : (((((((2 : Nat) * x0) + (1 : Nat)) : Nat) : Int) + (1 : Int)) < ((2 : Int) ^ (60 : Nat))) := by lia
theorem arb28 {x0 : Nat} {x1 : Nat} (h1 : ((((2 : Nat) * x0) + (1 : Nat)) < x1)) (h2 : (¬ (((((((2 : Nat) * x0) + (1 : Nat)) : Nat) : Int) + (1 : Int)) < ((x1 : Nat) : Int)))) : (¬ ((((2 : Nat) * x0) + (2 : Nat)) < x1)) := by lia
theorem arb29 {x0 : Nat} {x1 : Nat} (h1 : (¬ ((((((2 : Nat) * x0) + (1 : Nat)) : Nat) : Int) < ((x1 : Nat) : Int)))) : (¬ ((((2 : Nat) * x0) + (1 : Nat)) < x1)) := by lia
theorem arb30 {x0 : Nat} {x1 : Nat} {x2 : Nat} (h1 : (x1 = x2)) (h2 : (¬ ((((2 : Nat) * x0) + (1 : Nat)) < x2))) : (¬ ((((2 : Nat) * x0) + (1 : Nat)) < x1)) := (Nat.not_lt.mpr (Nat.le_trans (Nat.le_of_eq h1) (Nat.not_lt.mp h2)))
theorem arb31 {x0 : Nat} (h1 : (((x0 : Nat) : Int) = (0 : Int))) : (x0 = (0 : Nat)) := by lia
theorem arb34 {x0 : Nat} {x1 : Nat} {x2 : Nat} {x3 : Nat} {x4 : Nat} {x5 : Nat} {x6 : Nat} {x7 : Nat} (h1 : (x2 ≤ x3)) (h2 : ((x3 + (2 : Nat)) < x4)) (h3 : (x4 ≤ x5)) (h4 : ((x5 + (1 : Nat)) ≤ x6)) (h5 : (x6 < x7)) (h6 : ((x7 + (1 : Nat)) ≤ x1)) (h7 : (x0 < x2)) : (x0 ≠ x1) := by lia
theorem arb35 {x0 : Nat} {x1 : Nat} {x2 : Nat} {x3 : Nat} {x4 : Nat} {x5 : Nat} {x6 : Nat} (h1 : (x2 ≤ x3)) (h2 : ((x3 + (2 : Nat)) < x4)) (h3 : (x4 ≤ x5)) (h4 : ((x5 + (1 : Nat)) ≤ x6)) (h5 : (x6 < x1)) (h6 : (x0 < x2)) : (x0 ≠ x1) := (Nat.ne_of_lt (Nat.lt_trans (Nat.lt_trans (Nat.lt_of_lt_of_le (Nat.lt_trans (Nat.lt_trans (Nat.lt_of_lt_of_le h6 h1) (Nat.lt_add_of_pos_right (by decide))) h2) h3) h4) h5))
theorem arb36 {x0 : Nat} {x1 : Nat} {x2 : Nat} {x3 : Nat} {x4 : Nat} {x5 : Nat} {x6 : Nat} {x7 : Nat} {x8 : Nat} (h1 : (x0 ≤ x2)) (h2 : ((x2 + (2 : Nat)) < x3)) (h3 : (x3 ≤ x4)) (h4 : ((x4 + (1 : Nat)) ≤ x5)) (h5 : (x5 < x6)) (h6 : ((x6 + (1 : Nat)) ≤ x7)) (h7 : (x7 < x8)) (h8 : ((x8 + (1 : Nat)) ≤ x1)) : (x0 ≤ x1) := by lia
theorem arb37 {x0 : Nat} {x1 : Nat} {x2 : Nat} {x3 : Nat} {x4 : Nat} {x5 : Nat} {x6 : Nat} (h1 : (x1 ≤ x2)) (h2 : ((x2 + (2 : Nat)) < x3)) (h3 : (x3 ≤ x4)) (h4 : ((114 : Nat) < x1)) (h5 : ((x4 + (1 : Nat)) ≤ x5)) (h6 : (x5 < x6)) (h7 : ((x6 + (1 : Nat)) ≤ x0)) : ((114 : Nat) ≠ x0) := by lia
theorem arb38 {x0 : Nat} {x1 : Nat} {x2 : Nat} {x3 : Nat} {x4 : Nat} {x5 : Nat} {x6 : Nat} (h1 : (x0 ≤ x2)) (h2 : ((x2 + (2 : Nat)) < x3)) (h3 : (x3 ≤ x4)) (h4 : ((x4 + (1 : Nat)) ≤ x5)) (h5 : ((x5 + (1 : Nat)) ≤ x6)) (h6 : ((x6 + (1 : Nat)) ≤ x1)) : (x0 ≤ x1) := (Nat.le_of_lt (Nat.lt_trans (Nat.lt_trans (Nat.lt_trans (Nat.lt_of_lt_of_le (Nat.lt_trans (Nat.lt_of_le_of_lt h1 (Nat.lt_add_of_pos_right (by decide))) h2) h3) h4) h5) h6))
theorem arb39 {x0 : Nat} {x1 : Nat} {x2 : Nat} (h1 : (x1 = x0)) (h2 : (x2 < x1)) : ((0 : Int) ≤ (((x0 : Nat) : Int) - (1 : Int))) := by lia
theorem arb40 {x0 : Nat} {x1 : Nat} {x2 : Nat} (h1 : (x1 = x0)) (h2 : (x2 < x1)) : ((Int.toNat (((x0 : Nat) : Int) - (1 : Int))) = (x0 - (1 : Nat))) := by lia
theorem arb41 {x0 : Nat} {x1 : Nat} {x2 : Nat} {x3 : Nat} (h1 : (x0 < x1)) (h2 : (x2 = x0)) (h3 : (x3 < x2)) : ((x0 - (1 : Nat)) < x1) := (Nat.lt_of_le_of_lt (Nat.sub_le _ _) h1)
theorem arb42 {x0 : Nat} {x1 : Nat} {x2 : Nat} {x3 : Nat} {x4 : Nat} {x5 : Nat} (h1 : (x1 < (64 : Nat))) (h2 : (x2 < x1)) (h3 : (x3 = x2)) (h4 : (x4 < x3)) (h5 : ((x5 + x0) = x4)) : (((x0 : Nat) : Int) < ((2 : Int) ^ (60 : Nat))) := (Int.lt_of_lt_of_le (Int.ofNat_lt.mpr (Nat.lt_trans (Nat.lt_trans (Nat.lt_of_lt_of_le (Nat.lt_of_le_of_lt (Nat.le_trans (Nat.le_add_left _ _) (Nat.le_of_eq h5)) h4) (Nat.le_of_eq h3)) h2) h1)) (by decide))
theorem arb43 {x0 : Nat} {x1 : Nat} {x2 : Nat} {x3 : Nat} {x4 : Nat} {x5 : Nat} {x6 : Nat} (h1 : (x2 < (64 : Nat))) (h2 : (x3 < x2)) (h3 : (x4 = x3)) (h4 : (x5 < x4)) (h5 : ((x6 + x0) = x5)) : ((x0 - (x1 + (1 : Nat))) < (64 : Nat)) := by lia
theorem arb44 {x0 : Nat} {x1 : Nat} {x2 : Nat} {x3 : Nat} (h1 : ((x2 + x1) = x3)) (h2 : (x0 < x1)) : ((min x0 x1) ≤ x1) := (Nat.min_le_right _ _)
theorem arb45 {x0 : Nat} {x1 : Nat} {x2 : Nat} {x3 : Nat} {x4 : Nat} {x5 : Nat} {x6 : Nat} {x7 : Nat} (h1 : (x3 < (64 : Nat))) (h2 : (x4 < x3)) (h3 : (x5 = x4)) (h4 : (x6 < x5)) (h5 : ((x1 + x7) = x6)) (h6 : (x0 < (64 : Nat))) (h7 : (x2 ≤ x7)) : ((((x0 + x1) + (1 : Nat)) + x2) < (1000 : Nat)) := by lia
theorem arb46 {x0 : Nat} {x1 : Nat} {x2 : Nat} {x3 : Nat} {x4 : Nat} {x5 : Nat} (h1 : (x1 < (64 : Nat))) (h2 : (x2 < x1)) (h3 : (x3 = x2)) (h4 : (x4 < x3)) (h5 : ((x5 + x0) = x4)) : (x0 < (1000 : Nat)) := (Nat.lt_trans (Nat.lt_trans (Nat.lt_trans (Nat.lt_of_lt_of_le (Nat.lt_of_le_of_lt (Nat.le_trans (Nat.le_add_left _ _) (Nat.le_of_eq h5)) h4) (Nat.le_of_eq h3)) h2) h1) (by decide))
theorem arb50 {x0 : Nat} {x1 : Nat} {x2 : Nat} {x3 : Nat} {x4 : Nat} {x5 : Nat} {x6 : Nat} {x7 : Nat} {x8 : Nat} {x9 : Nat} {x10 : Nat} {x11 : Nat} {x12 : Nat} (h1 : (x3 = x4)) (h2 : (x5 = (x6 + x3))) (h3 : (x2 = (x7 + x4))) (h4 : ((x0 + x8) = (x5 + x9))) (h5 : ((x9 + x10) = (x8 + x11))) (h6 : ((x6 + x1) = (x7 + x12))) (h7 : (x10 = x12)) (h8 : (x11 = (0 : Nat))) : ((x0 + (x1 + (0 : Nat))) = (x2 + (0 : Nat))) := by lia
theorem arb51 {x0 : Nat} {x1 : Nat} {x2 : Nat} {x3 : Nat} {x4 : Nat} {x5 : Nat} {x6 : Nat} {x7 : Nat} {x8 : Nat} {x9 : Nat} {x10 : Nat} {x11 : Nat} {x12 : Nat} (h1 : (x3 = x4)) (h2 : (x5 = (x6 + x3))) (h3 : (x1 = (x7 + x4))) (h4 : ((x0 + x8) = (x5 + x9))) (h5 : ((x9 + x10) = (x8 + x11))) (h6 : ((x6 + x12) = (x7 + x2))) (h7 : (x10 = (0 : Nat))) (h8 : (x11 = x12)) : ((x0 + (0 : Nat)) = (x1 + (x2 + (0 : Nat)))) := by lia
theorem arb52 {x0 : Nat} {x1 : Nat} {x2 : Nat} {x3 : Nat} {x4 : Nat} {x5 : Nat} {x6 : Nat} {x7 : Nat} (h1 : (x3 = x2)) (h2 : (x4 = x5)) (h3 : (x1 = x6)) (h4 : (x4 = (x6 + x7))) (h5 : ((x0 + x6) = (x3 + (0 : Nat)))) : ((x0 + x1) = (x2 + (0 : Nat))) := by lia
theorem arb53 {x0 : Nat} {x1 : Nat} {x2 : Nat} {x3 : Nat} {x4 : Nat} {x5 : Nat} {x6 : Nat} {x7 : Nat} (h1 : (x4 = x2)) (h2 : (x5 = x3)) (h3 : (x1 = x6)) (h4 : (x5 = (x6 + x7))) (h5 : ((x0 + (0 : Nat)) = (x4 + x7))) : ((x0 + x1) = (x2 + x3)) := by lia
theorem arb54 {x0 : Int} {x1 : Int} (h1 : ((0 : Int) ≤ x0)) (h2 : ((0 : Int) ≤ x1)) (h3 : ((Int.toNat x0) = (Int.toNat x1))) : (x0 = x1) := by lia
end
noncomputable section
/-- keys of a dict -/
inductive Kx where
  | s (x : Str)
  | i (k : Int)
  deriving DecidableEq
/-- Values, seen without tokens; tuples by what they hold; lists and dicts that nobody changes any more, too. -/
inductive V where
  | none
  | bool (b : Bool)
  | int (i : Int)
  | str (s : Str)
  | tup (l : List V)
  | ref (a : Nat)
  | lit (v : Value)
  | imm (o : Obj)
  | lst (l : List V)
  | dct (es : List (Kx × V))
  | view (T : String) (es : List (Kx × V))

noncomputable def Kx.v : Kx → V
  | .s x => .str x
  | .i k => .int k

/-- Things that may change. -/
inductive AObj where
  | list (xs : List V)
  | dict (es : List (Kx × V)) (ep : Nat)
  | cell (v : Option V)
  | obj (o : Obj)
  | ns (l : List (Str × V))

/-- what is ours to change; what is marked as changing (frames, lists under way) -/
structure Store where
  get : Nat → Option AObj
  fr : Nat → Prop
instance : CoeFun Store (fun _ => Nat → Option AObj) := ⟨Store.get⟩
noncomputable def Store.add (σ : Store) (L : Nat) : Store := ⟨σ.get, fun a => a = L ∨ σ.fr a⟩
noncomputable def Store.reset (σ : Store) (f : Nat → Prop) : Store := ⟨σ.get, f⟩
noncomputable abbrev Free (σ : Store) (a : Nat) : Prop := σ a = none ∧ ¬ σ.fr a

/-- what is fixed -/
structure Cx where
  prog : Program
  w : World
  h₀ : Heap
  os : OsState
  sys : ∃ o, h₀.get? sysModules = some o
/-- the kind of our keys -/
noncomputable def Kx.is : Kx → Value → Bool
  | .s x, v => Value.isStrOf x v
  | .i k, v => Value.isInt k v
noncomputable def Kx.hash (w : World) : Kx → Int
  | .s x => hashStr w x
  | .i k => hashInt k

section
variable {prog : Program} {w : World} {A : Around} {E : Value → Shared → Prop} {s : Shared}
theorem eqBool_int_str {a : Int} {x : Str} {t u : Tok} {Q : Bool → Shared → Prop} (h : Q false s) : wpAny (model prog w) A (eqBool (.int a t) (.str x u)) Q E s := by
  unfold eqBool
  refine wpAny_holding ?_
  rw [if_neg (by simp)]
  exact wpAny_bind (EqMixed.eq_int_str (wpAny_truthy_bool h))
theorem eqBool_str_int {a : Int} {x : Str} {t u : Tok} {Q : Bool → Shared → Prop} (h : Q false s) : wpAny (model prog w) A (eqBool (.str x u) (.int a t)) Q E s := by
  unfold eqBool
  refine wpAny_holding ?_
  rw [if_neg (by simp)]
  exact wpAny_bind (EqMixed.eq_str_int (wpAny_truthy_bool h))
end

noncomputable def kxKind (prog : Program) (w : World) : KeyKind prog w Kx where
  is := Kx.is
  hash := Kx.hash w
  inj := fun v a b ha hb => by
    cases a <;> cases b <;> cases v <;> simp_all [Kx.is, Value.isStrOf, Value.isInt]
  byValue := fun k v h => by
    cases k with
    | s x => obtain ⟨t, rfl⟩ := Value.isStrOf_shape h; rfl
    | i k => obtain ⟨t, rfl⟩ := Value.isInt_shape h; rfl
  pyHash := fun {A E s k v Q} hv h => by
    cases k with
    | s x => exact (strKind prog w).pyHash hv h
    | i k => exact (intKind prog w).pyHash hv h
  eqBool := fun {A E s a b u v Q} hu hv h => by
    cases a with
    | s x =>
      cases b with
      | s y => exact (strKind prog w).eqBool hu hv (by simpa using h)
      | i y => obtain ⟨t, rfl⟩ := Value.isStrOf_shape hu; obtain ⟨t', rfl⟩ := Value.isInt_shape hv; exact eqBool_str_int (by simpa using h)
    | i x =>
      cases b with
      | s y => obtain ⟨t, rfl⟩ := Value.isInt_shape hu; obtain ⟨t', rfl⟩ := Value.isStrOf_shape hv; exact eqBool_int_str (by simpa using h)
      | i y => exact (intKind prog w).eqBool hu hv (by simpa using h)
  «strs» := fun k x t v h => by
    cases k with
    | s y => exact (strKind prog w).«strs» y x t v h
    | i y => simp [Kx.is, Value.isInt] at h


/-- kinds that never change -/
noncomputable def Frozen (o : Obj) : Prop := o.cls ∈ [Value.type "tuple", .type "range", .type "slice", .type "dict_items", .type "dict_values", .type "list", .type "dict"]
noncomputable abbrev listObj (items : Array Value) (n : Nat) : Obj := ⟨.type "list", none, .seq items n, #[]⟩
noncomputable abbrev viewObj (T : String) (a : Nat) : Obj := { cls := .type T, data := .fields #[.ref a] }
noncomputable def viewTypes : List String := ["dict_items", "dict_values"]
mutual
inductive VRel (B : Cx) (σ : Store) (h : Heap) : V → Value → Prop
  | none : VRel B σ h .none .none
  | bool (b : Bool) : VRel B σ h (.bool b) (.bool b)
  | int (i : Int) (t : Tok) : VRel B σ h (.int i) (.int i t)
  | str (s : Str) (t : Tok) : VRel B σ h (.str s) (.str s t)
  | ref (a : Nat) : VRel B σ h (.ref a) (.ref a)
  | lit (v : Value) : VRel B σ h (.lit v) v
  | imm {o : Obj} {a : Nat} (ho : h.get? a = some o) (hs : Free σ a) (hf : Frozen o) : VRel B σ h (.imm o) (.ref a)
  | tup {l : List V} {a : Nat} {n : Nat} {items : Array Value} (ho : h.get? a = some ⟨.type "tuple", Option.none, .seq items n, #[]⟩) (hs : Free σ a) (hl : VRelL B σ h l items.toList) : VRel B σ h (.tup l) (.ref a)
  | lst {l : List V} {a : Nat} {n : Nat} {items : Array Value} (ho : h.get? a = some (listObj items n)) (hs : Free σ a) (hl : VRelL B σ h l items.toList) : VRel B σ h (.lst l) (.ref a)
  | dct {es : List (Kx × V)} {a : Nat} {ep : Nat} {kvs : List (Kx × Value)} (hn : (a == sysModules) = false) (ho : h.DictAt (kxKind B.prog B.w) a kvs ep) (hs : Free σ a) (hl : DRel B σ h es kvs) : VRel B σ h (.dct es) (.ref a)
  | view {T : String} {es : List (Kx × V)} {a b : Nat} {ep : Nat} {kvs : List (Kx × Value)} (hT : T ∈ viewTypes) (hb : h.get? b = some (viewObj T a)) (hb' : Free σ b) (hn : (a == sysModules) = false) (ho : h.DictAt (kxKind B.prog B.w) a kvs ep) (hs : Free σ a) (hl : DRel B σ h es kvs) : VRel B σ h (.view T es) (.ref b)
inductive VRelL (B : Cx) (σ : Store) (h : Heap) : List V → List Value → Prop
  | nil : VRelL B σ h [] []
  | cons {x : V} {y : Value} {xs : List V} {ys : List Value} (hd : VRel B σ h x y) (tl : VRelL B σ h xs ys) : VRelL B σ h (x :: xs) (y :: ys)
inductive DRel (B : Cx) (σ : Store) (h : Heap) : List (Kx × V) → List (Kx × Value) → Prop
  | nil : DRel B σ h [] []
  | cons {k : Kx} {x : V} {y : Value} {xs : List (Kx × V)} {ys : List (Kx × Value)} (hd : VRel B σ h x y) (tl : DRel B σ h xs ys) : DRel B σ h ((k, x) :: xs) ((k, y) :: ys)
end
/-! what a relation says, by the value's kind -/
section
variable {B : Cx} {σ : Store} {h : Heap}
noncomputable def VInv (B : Cx) (σ : Store) (h : Heap) : V → Value → Prop
  | .none, y => y = .none
  | .bool b, y => y = .bool b
  | .int i, y => ∃ t, y = .int i t
  | .str s, y => ∃ t, y = .str s t
  | .ref a, y => y = .ref a
  | .lit v, y => y = v
  | .imm o, y => ∃ a, y = .ref a ∧ h.get? a = some o ∧ Free σ a ∧ Frozen o
  | .tup l, y => ∃ a n items, y = .ref a ∧ h.get? a = some ⟨.type "tuple", Option.none, .seq items n, #[]⟩ ∧ Free σ a ∧ VRelL B σ h l items.toList
  | .lst l, y => ∃ a n items, y = .ref a ∧ h.get? a = some (listObj items n) ∧ Free σ a ∧ VRelL B σ h l items.toList
  | .dct es, y => ∃ a ep kvs, y = .ref a ∧ (a == sysModules) = false ∧ h.DictAt (kxKind B.prog B.w) a kvs ep ∧ Free σ a ∧ DRel B σ h es kvs
  | .view T es, y => ∃ b a ep kvs, y = .ref b ∧ T ∈ viewTypes ∧ h.get? b = some (viewObj T a) ∧ Free σ b ∧ (a == sysModules) = false ∧ h.DictAt (kxKind B.prog B.w) a kvs ep ∧ Free σ a ∧ DRel B σ h es kvs
theorem VRel.inv {x : V} {y : Value} (r : VRel B σ h x y) : VInv B σ h x y := by
  cases r with
  | none => rfl
  | bool => rfl
  | int i t => exact ⟨t, rfl⟩
  | str s t => exact ⟨t, rfl⟩
  | ref => rfl
  | lit => rfl
  | imm h1 h2 h3 => exact ⟨_, rfl, h1, h2, h3⟩
  | tup h1 h2 h3 => exact ⟨_, _, _, rfl, h1, h2, h3⟩
  | lst h1 h2 h3 => exact ⟨_, _, _, rfl, h1, h2, h3⟩
  | dct h1 h2 h3 h4 => exact ⟨_, _, _, rfl, h1, h2, h3, h4⟩
  | view h1 h2 h3 h4 h5 h6 h7 => exact ⟨_, _, _, _, rfl, h1, h2, h3, h4, h5, h6, h7⟩
theorem VRelL.nil' {as : List Value} (r : VRelL B σ h [] as) : as = [] := by cases r; rfl
theorem VRelL.cons' {x : V} {xs : List V} {as : List Value} (r : VRelL B σ h (x :: xs) as) : ∃ a as', as = a :: as' ∧ VRel B σ h x a ∧ VRelL B σ h xs as' := by
  cases r with | cons a b => exact ⟨_, _, rfl, a, b⟩
theorem VRelL.one {x : V} {as : List Value} (r : VRelL B σ h [x] as) : ∃ a, as = [a] ∧ VRel B σ h x a := by
  obtain ⟨a, as, rfl, r1, r⟩ := r.cons'
  obtain rfl := r.nil'
  exact ⟨a, rfl, r1⟩
theorem VRelL.two {x y : V} {as : List Value} (r : VRelL B σ h [x, y] as) : ∃ a b, as = [a, b] ∧ VRel B σ h x a ∧ VRel B σ h y b := by
  obtain ⟨a, as, rfl, r1, r⟩ := r.cons'
  obtain ⟨b, rfl, r2⟩ := r.one
  exact ⟨a, b, rfl, r1, r2⟩
theorem VRelL.three {x y z : V} {as : List Value} (r : VRelL B σ h [x, y, z] as) : ∃ a b c, as = [a, b, c] ∧ VRel B σ h x a ∧ VRel B σ h y b ∧ VRel B σ h z c := by
  obtain ⟨a, as, rfl, r1, r⟩ := r.cons'
  obtain ⟨b, c, rfl, r2, r3⟩ := r.two
  exact ⟨a, b, c, rfl, r1, r2, r3⟩
end
section
variable {B : Cx}
/-- how frozen things pass from one state to another -/
structure Pass (σ : Store) (h : Heap) (σ' : Store) (h' : Heap) : Prop where
  free : ∀ b o, h.get? b = some o → Frozen o → Free σ b → h'.get? b = some o ∧ Free σ' b
theorem frozen_tup {items : Array Value} {n : Nat} : Frozen ⟨.type "tuple", none, .seq items n, #[]⟩ := .head _
theorem frozen_list {items : Array Value} {n : Nat} : Frozen (listObj items n) := .tail _ (.tail _ (.tail _ (.tail _ (.tail _ (.head _)))))
theorem frozen_dict {o : Obj} (h : o.ExactDict) : Frozen o := by unfold Frozen; rw [h.1]; decide
theorem frozen_view {T : String} {a : Nat} (h : T ∈ viewTypes) : Frozen (viewObj T a) := by
  unfold viewTypes at h
  simp only [List.mem_cons, List.not_mem_nil, or_false] at h
  rcases h with rfl | rfl
  · exact .tail _ (.tail _ (.tail _ (.head _)))
  · exact .tail _ (.tail _ (.tail _ (.tail _ (.head _))))
theorem Pass.dict {σ σ' : Store} {h h' : Heap} (S : Pass σ h σ' h') {a ep : Nat} {kvs : List (Kx × Value)} (ho : h.DictAt (kxKind B.prog B.w) a kvs ep) (hs : Free σ a) : h'.DictAt (kxKind B.prog B.w) a kvs ep ∧ Free σ' a := by
  obtain ⟨o, es, e, hx, r⟩ := ho
  have := S.free a o e (frozen_dict hx) hs
  exact ⟨⟨o, es, this.1, hx, r⟩, this.2⟩
theorem VRel.pass {σ σ' : Store} {h h' : Heap} (S : Pass σ h σ' h') {x : V} {y : Value} (r : VRel B σ h x y) : VRel B σ' h' x y :=
  VRel.rec (motive_1 := fun x y _ => VRel B σ' h' x y) (motive_2 := fun x y _ => VRelL B σ' h' x y) (motive_3 := fun x y _ => DRel B σ' h' x y)
    .none .bool .int .str .ref .lit (fun ho hs hf => .imm (S.free _ _ ho hf hs).1 (S.free _ _ ho hf hs).2 hf)
    (fun ho hs _ ih => .tup (S.free _ _ ho frozen_tup hs).1 (S.free _ _ ho frozen_tup hs).2 ih) (fun ho hs _ ih => .lst (S.free _ _ ho frozen_list hs).1 (S.free _ _ ho frozen_list hs).2 ih)
    (fun hn ho hs _ ih => .dct hn (S.dict ho hs).1 (S.dict ho hs).2 ih)
    (fun hT hb hb' hn ho hs _ ih => .view hT (S.free _ _ hb (frozen_view hT) hb').1 (S.free _ _ hb (frozen_view hT) hb').2 hn (S.dict ho hs).1 (S.dict ho hs).2 ih)
    .nil (fun _ _ a b => .cons a b) .nil (fun _ _ a b => .cons a b) r
theorem VRelL.pass {σ σ' : Store} {h h' : Heap} (S : Pass σ h σ' h') : ∀ {x : List V} {y : List Value}, VRelL B σ h x y → VRelL B σ' h' x y := by
  intro x
  induction x with
  | nil => intro y r; rw [r.nil']; exact .nil
  | cons a x ih => intro y r; obtain ⟨b, y, rfl, p, q⟩ := r.cons'; exact .cons (p.pass S) (ih q)
theorem DRel.nil' {σ : Store} {h : Heap} {y : List (Kx × Value)} (r : DRel B σ h [] y) : y = [] := by cases r; rfl
theorem DRel.cons' {σ : Store} {h : Heap} {p : Kx × V} {x : List (Kx × V)} {y : List (Kx × Value)} (r : DRel B σ h (p :: x) y) : ∃ u y', y = (p.1, u) :: y' ∧ VRel B σ h p.2 u ∧ DRel B σ h x y' := by
  cases r with | cons a b => exact ⟨_, _, rfl, a, b⟩
theorem DRel.pass {σ σ' : Store} {h h' : Heap} (S : Pass σ h σ' h') : ∀ {x : List (Kx × V)} {y : List (Kx × Value)}, DRel B σ h x y → DRel B σ' h' x y := by
  intro x
  induction x with
  | nil => intro y r; rw [r.nil']; exact .nil
  | cons a x ih => intro y r; obtain ⟨b, y, rfl, p, q⟩ := r.cons'; exact .cons (p.pass S) (ih q)

/-- what is outside the store stays, and stays outside -/
structure Step (σ : Store) (h : Heap) (σ' : Store) (h' : Heap) : Prop where
  keep : ∀ b o, h.get? b = some o → σ b = none → h'.get? b = some o ∧ σ' b = none
  fr : σ'.fr = σ.fr
theorem Step.pass {σ σ' : Store} {h h' : Heap} (S : Step σ h σ' h') : Pass σ h σ' h' := ⟨fun b o e _ n => ⟨(S.keep b o e n.1).1, (S.keep b o e n.1).2, by rw [S.fr]; exact n.2⟩⟩
theorem VRel.mono {σ σ' : Store} {h h' : Heap} (S : Step σ h σ' h') {x : V} {y : Value} (r : VRel B σ h x y) : VRel B σ' h' x y := r.pass S.pass
theorem VRelL.mono {σ σ' : Store} {h h' : Heap} (S : Step σ h σ' h') {x : List V} {y : List Value} (r : VRelL B σ h x y) : VRelL B σ' h' x y := r.pass S.pass
theorem DRel.mono {σ σ' : Store} {h h' : Heap} (S : Step σ h σ' h') {x : List (Kx × V)} {y : List (Kx × Value)} (r : DRel B σ h x y) : DRel B σ' h' x y := r.pass S.pass

theorem Step.refl (σ : Store) (h : Heap) : Step σ h σ h := ⟨fun _ _ e n => ⟨e, n⟩, rfl⟩
theorem Step.trans {σ₁ σ₂ σ₃ : Store} {h₁ h₂ h₃ : Heap} (x : Step σ₁ h₁ σ₂ h₂) (y : Step σ₂ h₂ σ₃ h₃) : Step σ₁ h₁ σ₃ h₃ :=
  ⟨fun b o e n => let ⟨a, c⟩ := x.keep b o e n; y.keep b o a c, y.fr.trans x.fr⟩

/-- one store within another -/
structure Sub (σ' σ : Store) : Prop where
  sub : ∀ a o, σ' a = some o → σ a = some o
  fr : σ'.fr = σ.fr
theorem Sub.refl (σ : Store) : Sub σ σ := ⟨fun _ _ e => e, rfl⟩
theorem Sub.none {σ' σ : Store} (s : Sub σ' σ) {a : Nat} (e : σ a = none) : σ' a = none := by
  cases q : σ' a with
  | none => rfl
  | some o => rw [s.sub a o q] at e; cases e
theorem Sub.pass {σ σ' : Store} {h : Heap} (S : Sub σ' σ) : Pass σ h σ' h := ⟨fun b o e _ n => ⟨e, S.none n.1, by rw [S.fr]; exact n.2⟩⟩
theorem VRel.sub {σ σ' : Store} {h : Heap} (S : Sub σ' σ) {x : V} {y : Value} (r : VRel B σ h x y) : VRel B σ' h x y := r.pass S.pass
theorem VRelL.sub {σ σ' : Store} {h : Heap} (S : Sub σ' σ) {x : List V} {y : List Value} (r : VRelL B σ h x y) : VRelL B σ' h x y := r.pass S.pass
theorem DRel.sub {σ σ' : Store} {h : Heap} (S : Sub σ' σ) {x : List (Kx × V)} {y : List (Kx × Value)} (r : DRel B σ h x y) : DRel B σ' h x y := r.pass S.pass
/-- a mark more, a mark less -/
theorem Pass.add {σ : Store} {h : Heap} {L : Nat} (hL : h.get? L = none) : Pass σ h (σ.add L) h := ⟨fun b o e _ n => ⟨e, n.1, fun q => q.elim (fun q => by rw [q, hL] at e; cases e) n.2⟩⟩
theorem Pass.reset {σ : Store} {h : Heap} {f : Nat → Prop} (k : ∀ a, f a → σ.fr a) : Pass σ h (σ.reset f) h := ⟨fun b o e _ n => ⟨e, n.1, fun q => n.2 (k b q)⟩⟩
theorem VRelL.length {σ : Store} {h : Heap} : ∀ {x : List V} {y : List Value}, VRelL B σ h x y → x.length = y.length := by
  intro x
  induction x with
  | nil => intro y r; rw [r.nil']; rfl
  | cons a x ih => intro y r; obtain ⟨b, y, rfl, _, q⟩ := r.cons'; exact congrArg (· + 1) (ih q)
theorem VRelL.get {σ : Store} {h : Heap} : ∀ {x : List V} {y : List Value}, VRelL B σ h x y → ∀ {i : Nat} {a : V}, x[i]? = some a → ∃ b, y[i]? = some b ∧ VRel B σ h a b := by
  intro x
  induction x with
  | nil => intro y r i a e; cases e
  | cons a x ih =>
    intro y r i c e
    obtain ⟨b, y, rfl, p, q⟩ := r.cons'
    cases i with
    | zero => cases e; exact ⟨_, rfl, p⟩
    | succ i => exact ih q (by simpa using e)
theorem VRelL.get' {σ : Store} {h : Heap} : ∀ {x : List V} {y : List Value}, VRelL B σ h x y → ∀ {i : Nat} {b : Value}, y[i]? = some b → ∃ a, x[i]? = some a ∧ VRel B σ h a b := by
  intro x
  induction x with
  | nil => intro y r i b e; rw [r.nil'] at e; cases e
  | cons a x ih =>
    intro y r i c e
    obtain ⟨b, y, rfl, p, q⟩ := r.cons'
    cases i with
    | zero => cases e; exact ⟨_, rfl, p⟩
    | succ i => exact ih q (by simpa using e)
theorem VRelL.app {σ : Store} {h : Heap} : ∀ {x x' : List V} {y y' : List Value}, VRelL B σ h x y → VRelL B σ h x' y' → VRelL B σ h (x ++ x') (y ++ y') := by
  intro x
  induction x with
  | nil => intro x' y y' r q; rw [r.nil']; exact q
  | cons a x ih => intro x' y y' r q; obtain ⟨b, y, rfl, p, r⟩ := r.cons'; exact .cons p (ih r q)
theorem VRelL.set {σ : Store} {h : Heap} {a : V} {b : Value} (r : VRel B σ h a b) : ∀ {x : List V} {y : List Value}, VRelL B σ h x y → ∀ (i : Nat), VRelL B σ h (x.set i a) (y.set i b) := by
  intro x
  induction x with
  | nil => intro y q i; rw [q.nil']; exact .nil
  | cons c x ih =>
    intro y q i
    obtain ⟨e, y, rfl, p, q⟩ := q.cons'
    cases i with
    | zero => exact .cons r q
    | succ i => exact .cons p (ih q i)
theorem VRelL.take {σ : Store} {h : Heap} : ∀ {x : List V} {y : List Value}, VRelL B σ h x y → ∀ (i : Nat), VRelL B σ h (x.take i) (y.take i) := by
  intro x
  induction x with
  | nil => intro y q i; rw [q.nil', List.take_nil, List.take_nil]; exact .nil
  | cons c x ih =>
    intro y q i
    obtain ⟨e, y, rfl, p, q⟩ := q.cons'
    cases i with
    | zero => exact .nil
    | succ i => exact .cons p (ih q i)
theorem VRelL.drop {σ : Store} {h : Heap} : ∀ {x : List V} {y : List Value}, VRelL B σ h x y → ∀ (i : Nat), VRelL B σ h (x.drop i) (y.drop i) := by
  intro x
  induction x with
  | nil => intro y q i; rw [q.nil', List.drop_nil, List.drop_nil]; exact .nil
  | cons c x ih =>
    intro y q i
    obtain ⟨e, y, rfl, p, q⟩ := q.cons'
    cases i with
    | zero => exact .cons p q
    | succ i => exact ih q i
theorem DRel.length {σ : Store} {h : Heap} : ∀ {x : List (Kx × V)} {y : List (Kx × Value)}, DRel B σ h x y → x.length = y.length := by
  intro x
  induction x with
  | nil => intro y r; rw [r.nil']; rfl
  | cons a x ih => intro y r; obtain ⟨b, y, rfl, _, q⟩ := r.cons'; exact congrArg (· + 1) (ih q)

noncomputable def MapRel (B : Cx) (σ : Store) (h : Heap) (l : List (Str × V)) (m : Str → Option Value) : Prop := ∀ y, match l.lookup y, m y with | none, none => True | some v, some u => VRel B σ h v u | _, _ => False
theorem MapRel.pass {σ σ' : Store} {h h' : Heap} {l : List (Str × V)} {m : Str → Option Value} (x : MapRel B σ h l m) (k : Pass σ h σ' h') : MapRel B σ' h' l m := fun y => by
  have := x y
  cases hl : l.lookup y <;> cases hm : m y <;> rw [hl, hm] at this <;> simp only at this ⊢
  exact this.pass k
theorem MapRel.mono {σ σ' : Store} {h h' : Heap} {l : List (Str × V)} {m : Str → Option Value} (x : MapRel B σ h l m) (S : Step σ h σ' h') : MapRel B σ' h' l m := x.pass S.pass

noncomputable def ORel (B : Cx) (σ : Store) (h : Heap) (a : Nat) : AObj → Prop
  | .list xs => ∃ items n, h.get? a = some (listObj items n) ∧ VRelL B σ h xs items.toList
  | .dict es ep => ∃ kvs, h.DictAt (kxKind B.prog B.w) a kvs ep ∧ DRel B σ h es kvs
  | .cell v => ∃ v', h.IsCell a v' ∧ (match v, v' with | none, none => True | some x, some y => VRel B σ h x y | _, _ => False)
  | .obj o => h.get? a = some o
  | .ns l => ∃ m, h.Ns1 a m ∧ MapRel B σ h l m
theorem ORel.pass {σ σ' : Store} {h h' : Heap} {a : Nat} {o : AObj} (S : Pass σ h σ' h') (hb : ∀ x, h.get? a = some x → h'.get? a = some x) (r : ORel B σ h a o) : ORel B σ' h' a o := by
  cases o with
  | list xs => obtain ⟨items, n, e, q⟩ := r; exact ⟨items, n, hb _ e, q.pass S⟩
  | dict es ep => obtain ⟨kvs, ⟨ob, ens, e, r⟩, q⟩ := r; exact ⟨kvs, ⟨ob, ens, hb _ e, r⟩, q.pass S⟩
  | cell v =>
    obtain ⟨v', ⟨ob, e, r⟩, q⟩ := r
    refine ⟨v', ⟨ob, hb _ e, r⟩, ?_⟩
    cases v <;> cases v' <;> first | exact q | exact q.pass S
  | obj x => exact hb _ r
  | ns l => obtain ⟨m, ⟨ob, ens, ep, e, r⟩, q⟩ := r; exact ⟨m, ⟨ob, ens, ep, hb _ e, r⟩, q.pass S⟩

structure Inv (B : Cx) (σ : Store) (N : Nat) (s : Shared) : Prop where
  store : ∀ a o, σ a = some o → ORel B σ s.heap a o
  base : ∀ b o, B.h₀.get? b = some o → s.heap.get? b = some o ∧ σ b = none
  gens : s.gens = #[]
  os : s.os = B.os
  top : ∀ a o, σ a = some o → a < N
  size : N ≤ s.heap.objs.size
  marks : ∀ a, σ.fr a → a < s.heap.objs.size ∧ σ a = none ∧ B.h₀.get? a = none

end
/-- room -/
structure Ok (d : Nat) (A : Around) : Prop where
  handled : A.handled = none
  depth : A.depth + d ≤ 900
  units : A.units + 50 * d ≤ 9000

theorem Ok.in1 {d : Nat} {A : Around} (k : Ok (d + 1) A) : Ok d A.in1 := ⟨k.handled, by have := k.depth; show A.depth + d ≤ 900; exact ar137 this, by have := k.units; show A.units + 1 + 50 * d ≤ 9000; exact ar138 this⟩
theorem Ok.deeper {d : Nat} {A : Around} {env : Env} (k : Ok (d + 1) A) : Ok d (A.deeper env) := ⟨k.handled, by have := k.depth; show A.depth + 1 + d ≤ 900; exact ar139 this, by have := k.units; show A.units + 3 + 50 * d ≤ 9000; exact ar140 this⟩
theorem Ok.less {d e : Nat} {A : Around} (k : Ok d A) (h : e ≤ d) : Ok e A := ⟨k.handled, by have := k.depth; exact ar141 h this, by have := k.units; exact ar142 h this⟩

/-- what a tree hands back, by a relation `ρ` -/
inductive Ends {α β : Type} (B : Cx) (ρ : Store → Heap → β → α → Prop) (σ : Store) (N : Nat) (h : Heap) (Q : β → Store → Nat → Prop) (a : α) (s' : Shared) : Prop
  | mk (b : β) (σ' : Store) (N' : Nat) (r : ρ σ' s'.heap b a) (I : Inv B σ' N' s') (S : Step σ h σ' s'.heap) (n : N ≤ N') (q : Q b σ' N')
end
noncomputable section
noncomputable abbrev Loc := List (Str × V)
noncomputable abbrev upd (l : Loc) (x : Str) (v : V) : Loc := (x, v) :: l
theorem upd_look (l : Loc) (x : Str) (v : V) (y : Str) : (upd l x v).lookup y = if y = x then some v else l.lookup y := by
  show (match y == x with | true => some v | false => l.lookup y) = _
  by_cases h : y = x
  · simp [h]
  · rw [if_neg h, beq_eq_false_iff_ne.mpr h]
/-- fewer names -/
noncomputable def LSub (l' l : Loc) : Prop := ∀ x v, l'.lookup x = some v → l.lookup x = some v
theorem LSub.refl (l : Loc) : LSub l l := fun _ _ e => e
theorem LSub.nil (l : Loc) : LSub [] l := fun _ _ e => nomatch e
theorem LSub.cons {l' l : Loc} {x : Str} {v : V} (h : l.lookup x = some v) (r : LSub l' l) : LSub ((x, v) :: l') l := fun y u e => by
  have := upd_look l' x v y
  rw [this] at e
  by_cases z : y = x
  · rw [if_pos z] at e; cases e; rw [z]; exact h
  · rw [if_neg z] at e; exact r y u e
noncomputable def pt (σ : Store) (a : Nat) (o : AObj) : Store := ⟨fun b => if b = a then some o else σ b, σ.fr⟩
theorem pt_same (σ : Store) (a : Nat) (o : AObj) : pt σ a o a = some o := if_pos rfl
theorem pt_ne {σ : Store} {a b : Nat} {o : AObj} (h : b ≠ a) : pt σ a o b = σ b := if_neg h
theorem Store.ext {σ σ' : Store} (h : ∀ a, σ a = σ' a) (k : σ.fr = σ'.fr) : σ = σ' := by
  cases σ; cases σ'; simp only [Store.mk.injEq]; exact ⟨funext h, k⟩
theorem pt_id {σ : Store} {a : Nat} {o : AObj} (h : σ a = some o) : pt σ a o = σ := Store.ext (fun b => by
  by_cases z : b = a
  · subst z; rw [pt_same, h]
  · exact pt_ne z) rfl
theorem pt_pt (σ : Store) (a : Nat) (o o' : AObj) : pt (pt σ a o) a o' = pt σ a o' := Store.ext (fun b => by
  by_cases z : b = a
  · subst z; rw [pt_same, pt_same]
  · rw [pt_ne z, pt_ne z, pt_ne z]) rfl
theorem pt_comm {σ : Store} {a b : Nat} {o o' : AObj} (h : a ≠ b) : pt (pt σ a o) b o' = pt (pt σ b o') a o := Store.ext (fun c => by
  by_cases z : c = b
  · subst z; rw [pt_same, pt_ne (Ne.symm h), pt_same]
  · by_cases y : c = a
    · subst y; rw [pt_ne h, pt_same, pt_same]
    · rw [pt_ne z, pt_ne y, pt_ne y, pt_ne z]) rfl
/-- a thing of the store given up -/
noncomputable def rm (σ : Store) (a : Nat) : Store := ⟨fun b => if b = a then none else σ b, σ.fr⟩
theorem rm_same (σ : Store) (a : Nat) : rm σ a a = none := if_pos rfl
theorem rm_ne {σ : Store} {a b : Nat} (h : b ≠ a) : rm σ a b = σ b := if_neg h
theorem rm_sub (σ : Store) (a : Nat) : Sub (rm σ a) σ := ⟨fun b o e => by
  by_cases z : b = a
  · subst z; rw [rm_same] at e; cases e
  · rwa [rm_ne z] at e, rfl⟩
theorem rm_pt {σ : Store} {a : Nat} {o : AObj} (h : σ a = none) : rm (pt σ a o) a = σ := Store.ext (fun b => by
  by_cases z : b = a
  · subst z; rw [rm_same, h]
  · rw [rm_ne z, pt_ne z]) rfl
theorem ne_of_in {σ : Store} {a b : Nat} {o : AObj} (h : σ b = some o) (e : σ a = none) : b ≠ a := fun q => by rw [q, e] at h; cases h

structure FRel (B : Cx) (env : Env) (l : Loc) (σ : Store) (h : Heap) : Prop where
  out : σ env.locals = none
  new : B.h₀.get? env.locals = none
  mark : σ.fr env.locals
  ns : ∃ m, h.Ns env.locals m ∧ ∀ x v, l.lookup x = some v → ∃ y, m x = some y ∧ VRel B σ h v y

theorem FRel.mono {B : Cx} {env : Env} {l : Loc} {σ σ' : Store} {h h' : Heap} (F : FRel B env l σ h) (S : Step σ h σ' h') : FRel B env l σ' h' := by
  obtain ⟨m, ⟨o, es, ep, ho, r⟩, k⟩ := F.ns
  have z := S.keep _ _ ho F.out
  exact ⟨z.2, F.new, by rw [S.fr]; exact F.mark, m, ⟨o, es, ep, z.1, r⟩, fun x v e => let ⟨y, a, b⟩ := k x v e; ⟨y, a, b.mono S⟩⟩

theorem FRel.less {B : Cx} {env : Env} {l l' : Loc} {σ : Store} {h : Heap} (F : FRel B env l σ h) (s : LSub l' l) : FRel B env l' σ h :=
  ⟨F.out, F.new, F.mark, let ⟨m, a, b⟩ := F.ns; ⟨m, a, fun x v e => b x v (s x v e)⟩⟩

theorem Ends.after {α β : Type} {B : Cx} {ρ : Store → Heap → β → α → Prop} {σ σ₁ : Store} {N N₁ : Nat} {h h₁ : Heap} {Q : β → Store → Nat → Prop} {a : α} {s' : Shared} (S : Step σ h σ₁ h₁) (hN : N ≤ N₁) (x : Ends B ρ σ₁ N₁ h₁ Q a s') : Ends B ρ σ N h Q a s' :=
  let ⟨b, σ', N', r, I, S', n, q⟩ := x; ⟨b, σ', N', r, I, S.trans S', Nat.le_trans hN n, q⟩

noncomputable abbrev Post (β : Type) := β → Store → Nat → Prop
/-- a tree within a frame -/
noncomputable def WF {α β : Type} (B : Cx) (d : Nat) (env : Env) (l : Loc) (ρ : Store → Heap → β → α → Prop) (t : Sem α) (σ : Store) (N : Nat) (Q : Post β) : Prop :=
  ∀ A s, Ok d A → Inv B σ N s → FRel B env l σ s.heap → wpAny (model B.prog B.w) A t (Ends B ρ σ N s.heap Q) (fun _ _ => False) s
noncomputable def W0 {α β : Type} (B : Cx) (d : Nat) (ρ : Store → Heap → β → α → Prop) (t : Sem α) (σ : Store) (N : Nat) (Q : Post β) : Prop :=
  ∀ A s, Ok d A → Inv B σ N s → wpAny (model B.prog B.w) A t (Ends B ρ σ N s.heap Q) (fun _ _ => False) s
noncomputable def W1 {α β : Type} (B : Cx) (d : Nat) (ρ : Store → Heap → β → α → Prop) (f : Value → Sem α) (x : V) (σ : Store) (N : Nat) (Q : Post β) : Prop :=
  ∀ A s a, Ok d A → Inv B σ N s → VRel B σ s.heap x a → wpAny (model B.prog B.w) A (f a) (Ends B ρ σ N s.heap Q) (fun _ _ => False) s
noncomputable def W2 {α β : Type} (B : Cx) (d : Nat) (ρ : Store → Heap → β → α → Prop) (f : Value → Value → Sem α) (x y : V) (σ : Store) (N : Nat) (Q : Post β) : Prop :=
  ∀ A s a b, Ok d A → Inv B σ N s → VRel B σ s.heap x a → VRel B σ s.heap y b → wpAny (model B.prog B.w) A (f a b) (Ends B ρ σ N s.heap Q) (fun _ _ => False) s
noncomputable def W3 {α β : Type} (B : Cx) (d : Nat) (ρ : Store → Heap → β → α → Prop) (f : Value → Value → Value → Sem α) (x y z : V) (σ : Store) (N : Nat) (Q : Post β) : Prop :=
  ∀ A s a b c, Ok d A → Inv B σ N s → VRel B σ s.heap x a → VRel B σ s.heap y b → VRel B σ s.heap z c → wpAny (model B.prog B.w) A (f a b c) (Ends B ρ σ N s.heap Q) (fun _ _ => False) s
noncomputable def WN {α β : Type} (B : Cx) (d : Nat) (ρ : Store → Heap → β → α → Prop) (f : List Value → Sem α) (xs : List V) (σ : Store) (N : Nat) (Q : Post β) : Prop :=
  ∀ A s as, Ok d A → Inv B σ N s → VRelL B σ s.heap xs as → wpAny (model B.prog B.w) A (f as) (Ends B ρ σ N s.heap Q) (fun _ _ => False) s
noncomputable abbrev BRel : Store → Heap → Bool → Bool → Prop := fun _ _ b a => b = a
noncomputable abbrev URel : Store → Heap → Unit → Unit → Prop := fun _ _ _ _ => True

noncomputable abbrev WE (B : Cx) (d : Nat) (env : Env) (l : Loc) (e : Expr) (σ : Store) (N : Nat) (Q : Post V) : Prop := WF B d env l (VRel B) (eval e env) σ N Q
noncomputable abbrev WB (B : Cx) (d : Nat) (env : Env) (l : Loc) (e : Expr) (σ : Store) (N : Nat) (Q : Post Bool) : Prop := WF B d env l BRel (isTrue e env (eval e env)) σ N Q
noncomputable abbrev WA (B : Cx) (d : Nat) (env : Env) (l : Loc) (pos : Pos) (es : List Expr) (σ : Store) (N : Nat) (Q : Post (List V)) : Prop := WF B d env l (VRelL B) (spliced (backTo pos (starEach es env))) σ N Q
/-- a call with the arguments at hand -/
noncomputable abbrev WC (B : Cx) (d : Nat) (f : Value) (xs : List V) (σ : Store) (N : Nat) (Q : Post V) : Prop := WN B d (VRel B) (fun as => call f as) xs σ N Q

inductive Fl where
  | next | brk | cont
  | ret (v : V)
inductive FlRel (B : Cx) (σ : Store) (h : Heap) : Fl → Flow → Prop
  | next : FlRel B σ h .next .next
  | brk : FlRel B σ h .brk .brk
  | cont : FlRel B σ h .cont .cont
  | ret {v : V} {x : Value} (r : VRel B σ h v x) : FlRel B σ h (.ret v) (.ret x)
structure StepL (L : Nat) (σ : Store) (h : Heap) (σ' : Store) (h' : Heap) : Prop where
  keep : ∀ b o, b ≠ L → h.get? b = some o → σ b = none → h'.get? b = some o ∧ σ' b = none
  fr : σ'.fr = σ.fr
theorem Step.toL {σ σ' : Store} {h h' : Heap} (S : Step σ h σ' h') (L : Nat) : StepL L σ h σ' h' := ⟨fun b o _ e n => S.keep b o e n, S.fr⟩
theorem StepL.trans {L : Nat} {σ₁ σ₂ σ₃ : Store} {h₁ h₂ h₃ : Heap} (x : StepL L σ₁ h₁ σ₂ h₂) (y : StepL L σ₂ h₂ σ₃ h₃) : StepL L σ₁ h₁ σ₃ h₃ :=
  ⟨fun b o q e n => let ⟨a, c⟩ := x.keep b o q e n; y.keep b o q a c, y.fr.trans x.fr⟩
/-- what changes at `L` is no frozen thing -/
noncomputable def NoFz (L : Nat) (h : Heap) : Prop := ∀ o, h.get? L = some o → ¬ Frozen o
noncomputable def NoTup (σ : Store) (L : Nat) (h : Heap) : Prop := σ.fr L ∨ NoFz L h
theorem StepL.pass {L : Nat} {σ σ' : Store} {h h' : Heap} (S : StepL L σ h σ' h') (hL : NoTup σ L h) : Pass σ h σ' h' := ⟨fun b o e hf n => by
  have ne : b ≠ L := fun q => by
    subst q
    exact hL.elim n.2 fun k => k o e hf
  exact ⟨(S.keep b o ne e n.1).1, (S.keep b o ne e n.1).2, by rw [S.fr]; exact n.2⟩⟩
theorem FRel.noTup {B : Cx} {env : Env} {l : Loc} {σ : Store} {h h' : Heap} (F : FRel B env l σ h) : NoTup σ env.locals h' := .inl F.mark

section
variable {B : Cx} {N N' : Nat} {σ σ' : Store} {h h' : Heap} {s s' : Shared} {a L : Nat} {o : AObj}
theorem StepL.of_ext (hx : Heap.ExtBut L h h') (hL : σ L = none) : StepL L σ h σ h' := ⟨fun b o q e n => ⟨hx b o q e, n⟩, rfl⟩

theorem Inv.frame (I : Inv B σ N s) (hx : Heap.ExtBut L s.heap s'.heap) (hL : σ L = none) (h0 : B.h₀.get? L = none) (hN : NoTup σ L s.heap) (hz : s.heap.objs.size ≤ s'.heap.objs.size) (hg : s'.gens = s.gens) (ho : s'.os = s.os) : Inv B σ N s' where
  store := fun a o e => (I.store a o e).pass ((StepL.of_ext hx hL).pass hN) fun x q => hx a x (fun z => by rw [z, hL] at e; cases e) q
  base := fun b o e => ⟨hx b o (fun z => by rw [z, h0] at e; cases e) (I.base b o e).1, (I.base b o e).2⟩
  gens := hg.trans I.gens
  os := ho.trans I.os
  top := I.top
  size := Nat.le_trans I.size hz
  marks := fun a f => let ⟨x, y⟩ := I.marks a f; ⟨Nat.lt_of_lt_of_le x hz, y⟩

theorem Step.put (hx : Heap.ExtBut a h h') (ha : σ a ≠ none ∨ (h.get? a = none ∧ h.objs.size ≤ a)) : Step σ h (pt σ a o) h' := ⟨fun b x e n => by
  have ne : b ≠ a := fun z => by
    subst z
    rcases ha with q | q
    · exact q n
    · rw [q.1] at e; cases e
  exact ⟨hx b x ne e, (pt_ne ne).trans n⟩, rfl⟩
theorem Step.grow (hx : ∀ b x, h.get? b = some x → h'.get? b = some x) : Step σ h σ h' := ⟨fun b x e n => ⟨hx b x e, n⟩, rfl⟩
theorem ORel.mono (S : Step σ h σ' h') (hb : ∀ x, h.get? a = some x → h'.get? a = some x) (r : ORel B σ h a o) : ORel B σ' h' a o := r.pass S.pass hb
/-- the size at which a new thing comes is no mark -/
theorem Inv.put (I : Inv B σ N s) (hx : Heap.ExtBut a s.heap s'.heap) (ha : σ a ≠ none ∨ (s.heap.get? a = none ∧ s.heap.objs.size ≤ a)) (hr : ORel B (pt σ a o) s'.heap a o) (hN : N ≤ N') (ha' : a < N') (hz : N' ≤ s'.heap.objs.size) (hy : s.heap.objs.size ≤ s'.heap.objs.size) (hg : s'.gens = s.gens) (ho : s'.os = s.os) : Inv B (pt σ a o) N' s' where
  store := fun b x e => by
    by_cases z : b = a
    · subst z; rw [pt_same] at e; cases e; exact hr
    · rw [pt_ne z] at e
      exact (I.store b x e).mono (.put hx ha) fun y q => hx b y z q
  base := fun b x e => by
    obtain ⟨e1, e2⟩ := I.base b x e
    have ne : b ≠ a := fun z => by
      subst z
      rcases ha with q | q
      · exact q e2
      · rw [q.1] at e1; cases e1
    exact ⟨hx b x ne e1, (pt_ne ne).trans e2⟩
  gens := hg.trans I.gens
  os := ho.trans I.os
  top := fun b x e => by
    by_cases z : b = a
    · subst z; exact ha'
    · rw [pt_ne z] at e; exact Nat.lt_of_lt_of_le (I.top b x e) hN
  size := hz
  marks := fun b f => by
    obtain ⟨x, y, z⟩ := I.marks b f
    have ne : b ≠ a := fun q => by
      subst q
      rcases ha with p | p
      · exact p y
      · exact absurd x (Nat.not_lt.mpr p.2)
    exact ⟨Nat.lt_of_lt_of_le x hy, (pt_ne ne).trans y, z⟩
theorem Inv.grow (I : Inv B σ N s) (hx : ∀ b x, s.heap.get? b = some x → s'.heap.get? b = some x) (hz : s.heap.objs.size ≤ s'.heap.objs.size) (hg : s'.gens = s.gens) (ho : s'.os = s.os) : Inv B σ N s' where
  store := fun b x e => (I.store b x e).mono (.grow hx) fun y q => hx b y q
  base := fun b x e => ⟨hx _ _ (I.base b x e).1, (I.base b x e).2⟩
  gens := hg.trans I.gens
  os := ho.trans I.os
  top := I.top
  size := Nat.le_trans I.size hz
  marks := fun a f => let ⟨x, y⟩ := I.marks a f; ⟨Nat.lt_of_lt_of_le x hz, y⟩
theorem Inv.sub (I : Inv B σ N s) (S : Sub σ' σ) : Inv B σ' N s := ⟨fun a o e => (I.store a o (S.sub a o e)).pass S.pass fun _ q => q, fun b o e => ⟨(I.base b o e).1, S.none (I.base b o e).2⟩, I.gens, I.os, fun a o e => I.top a o (S.sub a o e), I.size,
  fun a f => let ⟨x, y, z⟩ := I.marks a (by rw [← S.fr]; exact f); ⟨x, S.none y, z⟩⟩
theorem Step.sub {σ₂ : Store} (x : Step σ h σ' h') (S : Sub σ₂ σ') : Step σ h σ₂ h' := ⟨fun b o e n => ⟨(x.keep b o e n).1, S.none (x.keep b o e n).2⟩, S.fr.trans x.fr⟩
theorem Inv.toks (I : Inv B σ N s) {t : Nat} : Inv B σ N { s with toks := t } := ⟨I.store, I.base, I.gens, I.os, I.top, I.size, I.marks⟩
theorem Inv.up (I : Inv B σ N s) (h : N ≤ N') (hz : N' ≤ s.heap.objs.size) : Inv B σ N' s := ⟨I.store, I.base, I.gens, I.os, fun a o e => Nat.lt_of_lt_of_le (I.top a o e) h, hz, I.marks⟩
/-- a mark more -/
theorem Inv.add (I : Inv B σ N s) (hp : Pass σ s.heap (σ.add L) s.heap) (hl : L < s.heap.objs.size) (hs : σ L = none) (h0 : B.h₀.get? L = none) : Inv B (σ.add L) N s :=
  ⟨fun a o e => (I.store a o e).pass hp fun _ q => q, I.base, I.gens, I.os, I.top, I.size, fun a f => f.elim (fun q => by subst q; exact ⟨hl, hs, h0⟩) (I.marks a)⟩
/-- a mark less -/
theorem Inv.reset (I : Inv B σ N s) {f : Nat → Prop} (k : ∀ a, f a → σ.fr a) : Inv B (σ.reset f) N s :=
  ⟨fun a o e => (I.store a o e).pass (.reset k) fun _ q => q, I.base, I.gens, I.os, I.top, I.size, fun a q => I.marks a (k a q)⟩
/-- a new mark at a new address -/
theorem Inv.mark (I : Inv B σ N s) (hL : s.heap.get? L = none) (hs : σ L = none) (hx : ∀ b x, s.heap.get? b = some x → s'.heap.get? b = some x) (hz : s.heap.objs.size ≤ s'.heap.objs.size) (hl : L < s'.heap.objs.size) (hg : s'.gens = s.gens) (ho : s'.os = s.os) : Inv B (σ.add L) N s' where
  store := fun a o e => ((I.store a o e).pass (.add hL) fun _ q => q).pass (Step.grow hx).pass fun y q => hx a y q
  base := fun b x e => ⟨hx _ _ (I.base b x e).1, (I.base b x e).2⟩
  gens := hg.trans I.gens
  os := ho.trans I.os
  top := I.top
  size := Nat.le_trans I.size hz
  marks := fun a f => f.elim (fun q => by
    subst q
    refine ⟨hl, hs, ?_⟩
    cases q : B.h₀.get? a with
    | none => rfl
    | some o => have := (I.base _ _ q).1; rw [hL] at this; cases this) fun f => let ⟨x, y⟩ := I.marks a f; ⟨Nat.lt_of_lt_of_le x hz, y⟩
/-- an address of the store is within the heap -/
theorem Inv.there (I : Inv B σ N s) (e : σ a = some o) : ∃ x, s.heap.get? a = some x := by
  have r := I.store a o e
  cases o with
  | list xs => obtain ⟨_, _, e, _⟩ := r; exact ⟨_, e⟩
  | dict es ep => obtain ⟨_, ⟨_, _, e, _⟩, _⟩ := r; exact ⟨_, e⟩
  | cell v => obtain ⟨_, ⟨_, e, _⟩, _⟩ := r; exact ⟨_, e⟩
  | obj x => exact ⟨_, r⟩
  | ns l => obtain ⟨m, ⟨_, _, _, e, _⟩, _⟩ := r; exact ⟨_, e⟩
theorem Inv.fresh (I : Inv B σ N s) : σ s.heap.objs.size = none := by
  cases q : σ s.heap.objs.size with
  | none => rfl
  | some o => obtain ⟨x, e⟩ := I.there q; exact absurd (Heap.lt_size e) (Nat.lt_irrefl _)
theorem Inv.above (I : Inv B σ N s) : ∀ a, N ≤ a → σ a = none := fun a ha => by
  cases q : σ a with
  | none => rfl
  | some o => exact absurd (I.top a o q) (Nat.not_lt.mpr ha)
theorem Inv.free (I : Inv B σ N s) : Free σ s.heap.objs.size := ⟨I.fresh, fun q => absurd (I.marks _ q).1 (Nat.lt_irrefl _)⟩
end
theorem get_fresh (h : Heap) : h.get? h.objs.size = none := by
  cases q : h.get? h.objs.size with
  | none => rfl
  | some o => exact absurd (Heap.lt_size q) (Nat.lt_irrefl _)

theorem Inv.notSys {B : Cx} {σ : Store} {N : Nat} {s : Shared} {a : Nat} {o : AObj} (I : Inv B σ N s) (h : σ a = some o) : (a == sysModules) = false := by
  obtain ⟨o', e⟩ := B.sys
  exact beq_eq_false_iff_ne.mpr fun z => by have := (I.base _ _ e).2; rw [← z, h] at this; cases this
/-- what is handed out, read anew: things of the store given up, a list or a dict of the store as a value -/
inductive Off (σ : Store) : V → Store → V → Prop
  | refl {v : V} : Off σ v σ v
  | sub {v : V} {σ' : Store} (h : Sub σ' σ) : Off σ v σ' v
  | list {a : Nat} {xs : List V} {σ' : Store} (h : σ a = some (.list xs)) (hs : Sub σ' σ) (hn : σ' a = none) : Off σ (.ref a) σ' (.lst xs)
  | dict {a : Nat} {es : List (Kx × V)} {ep : Nat} {σ' : Store} (h : σ a = some (.dict es ep)) (hs : Sub σ' σ) (hn : σ' a = none) : Off σ (.ref a) σ' (.dct es)
theorem Off.store {σ σ' : Store} {v v' : V} (o : Off σ v σ' v') : Sub σ' σ := by
  cases o with
  | refl => exact .refl _
  | sub h => exact h
  | list h hs hn => exact hs
  | dict h hs hn => exact hs
theorem Off.rel {B : Cx} {σ σ' : Store} {N : Nat} {s : Shared} {v v' : V} {x : Value} (o : Off σ v σ' v') (I : Inv B σ N s) (r : VRel B σ s.heap v x) : VRel B σ' s.heap v' x := by
  cases o with
  | refl => exact r
  | sub h => exact r.sub h
  | list h hs hn =>
    obtain ⟨_, rfl⟩ := r.inv
    rename_i a xs
    obtain ⟨items, n, e, q⟩ := I.store a _ h
    exact .lst e ⟨hn, fun f => by rw [hs.fr] at f; rw [(I.marks a f).2.1] at h; cases h⟩ (q.sub hs)
  | dict h hs hn =>
    obtain ⟨_, rfl⟩ := r.inv
    rename_i a es ep
    obtain ⟨kvs, e, q⟩ := I.store a _ h
    exact .dct (I.notSys h) e ⟨hn, fun f => by rw [hs.fr] at f; rw [(I.marks a f).2.1] at h; cases h⟩ (q.sub hs)
/-- lists, dicts: of the store or as values -/
inductive ListV (σ : Store) : V → List V → Prop
  | ref {a : Nat} {xs : List V} (h : σ a = some (.list xs)) : ListV σ (.ref a) xs
  | lst (xs : List V) : ListV σ (.lst xs) xs
inductive DictV (σ : Store) : V → List (Kx × V) → Prop
  | ref {a : Nat} {es : List (Kx × V)} {ep : Nat} (h : σ a = some (.dict es ep)) : DictV σ (.ref a) es
  | dct (es : List (Kx × V)) : DictV σ (.dct es) es
section
variable {B : Cx} {σ : Store} {N : Nat} {s : Shared} {u : V} {x : Value}
theorem ListV.at {xs : List V} (t : ListV σ u xs) (I : Inv B σ N s) (r : VRel B σ s.heap u x) : ∃ a items n, x = .ref a ∧ s.heap.get? a = some (listObj items n) ∧ VRelL B σ s.heap xs items.toList := by
  cases t with
  | ref h => obtain ⟨_, rfl⟩ := r.inv; obtain ⟨items, n, e, q⟩ := I.store _ _ h; exact ⟨_, items, n, rfl, e, q⟩
  | lst => obtain ⟨_, _, _, rfl, e, hs, q⟩ := r.inv; exact ⟨_, _, _, rfl, e, q⟩
theorem DictV.at {es : List (Kx × V)} (t : DictV σ u es) (I : Inv B σ N s) (r : VRel B σ s.heap u x) : ∃ a kvs ep, x = .ref a ∧ (a == sysModules) = false ∧ s.heap.DictAt (kxKind B.prog B.w) a kvs ep ∧ DRel B σ s.heap es kvs := by
  cases t with
  | ref h => obtain ⟨_, rfl⟩ := r.inv; obtain ⟨kvs, e, q⟩ := I.store _ _ h; exact ⟨_, kvs, _, rfl, I.notSys h, e, q⟩
  | dct => obtain ⟨_, _, _, rfl, hn, e, hs, q⟩ := r.inv; exact ⟨_, _, _, rfl, hn, e, q⟩
end
end
noncomputable section
section
variable {B : Cx} {d : Nat} {env : Env} {l : Loc} {σ : Store} {N : Nat}

theorem Ends.here {α β : Type} {ρ : Store → Heap → β → α → Prop} {Q : Post β} {a : α} {b : β} {s s' : Shared} (I : Inv B σ N s') (S : Step σ s.heap σ s'.heap) (r : ρ σ s'.heap b a) (q : Q b σ N) : Ends B ρ σ N s.heap Q a s' :=
  ⟨b, σ, N, r, I, S, Nat.le_refl _, q⟩
theorem bot {α : Type} {M : Model} {A : Around} {t : Sem α} {P Q : α → Shared → Prop} {E : Value → Shared → Prop} {s : Shared} (h : wpAny M A t P (fun _ _ => False) s) (k : ∀ a s', P a s' → Q a s') : wpAny M A t Q E s :=
  wpAny_mono h k fun _ _ x => x.elim

/-! constants, names -/
theorem WE_int {i : Int} {k : Nat} {pos : Pos} {Q : Post V} (h : Q (.int i) σ N) : WE B d env l (.Constant (.int i) k pos) σ N Q :=
  fun A s _ I _ => wpAny_Constant_int (.here I.toks (.refl _ _) (.int _ _) h)
theorem WE_str {x : Str} {k : Nat} {pos : Pos} {Q : Post V} (h : Q (.str x) σ N) : WE B d env l (.Constant (.str x) k pos) σ N Q :=
  fun A s _ I _ => wpAny_Constant_str (.here I.toks (.refl _ _) (.str _ _) h)
theorem WE_bool {b : Bool} {k : Nat} {pos : Pos} {Q : Post V} (h : Q (.bool b) σ N) : WE B d env l (.Constant (.bool b) k pos) σ N Q :=
  fun A s _ I _ => wpAny_Constant_bool (.here I (.refl _ _) (.bool _) h)
theorem WE_none {k : Nat} {pos : Pos} {Q : Post V} (h : Q .none σ N) : WE B d env l (.Constant .none k pos) σ N Q :=
  fun A s _ I _ => wpAny_Constant_none (.here I (.refl _ _) .none h)
theorem WF_loadLocal {x : Str} {v : V} {Q : Post V} (hl : l.lookup x = some v) (h : Q v σ N) (hk : env.scope.kind = .function) (hx : env.kindOf x = some .local) : WF B d env l (VRel B) (loadName env x) σ N Q :=
  fun A s _ I F => by
    obtain ⟨m, hn, k⟩ := F.ns
    obtain ⟨y, hy, r⟩ := k x v hl
    exact wpAny_loadName_local hk hx hn hy (.here I (.refl _ _) r h)
theorem WE_local {x : Str} {pos : Pos} {v : V} {Q : Post V} (hl : l.lookup x = some v) (h : Q v σ N) (hk : env.scope.kind = .function := by rfl) (hx : env.kindOf x = some .local := by rfl) (hd : (x == ("__debug__" : Str)) = false := by decide) :
    WE B d env l (.Name x pos) σ N Q := fun A s k I F => wpAny_Name (WF_loadLocal hl h hk hx A s k I F) hd
theorem WE_cell {x : Str} {pos : Pos} {c : Nat} {v : V} {Q : Post V} (hc : env.cells.lookup x = some c) (hs : σ c = some (.cell (some v))) (h : Q v σ N) (hk : env.scope.kind = .function := by rfl) (hx : env.kindOf x = some .cell := by rfl) (hd : (x == ("__debug__" : Str)) = false := by decide) :
    WE B d env l (.Name x pos) σ N Q := fun A s _ I F => by
  obtain ⟨v', hv, r⟩ := I.store c _ hs
  cases v' with
  | none => exact r.elim
  | some y => exact wpAny_Name (wpAny_loadName_cell hk hx hc hv (.here I (.refl _ _) r h)) hd
theorem WE_free {x : Str} {pos : Pos} {c : Nat} {v : V} {Q : Post V} (hc : env.cells.lookup x = some c) (hs : σ c = some (.cell (some v))) (h : Q v σ N) (hk : env.scope.kind = .function := by rfl) (hx : env.kindOf x = some .free := by rfl) (hd : (x == ("__debug__" : Str)) = false := by decide)
    (hn : (x == ("__classdict__" : Str)) = false := by decide) : WE B d env l (.Name x pos) σ N Q := fun A s _ I F => by
  obtain ⟨v', hv, r⟩ := I.store c _ hs
  cases v' with
  | none => exact r.elim
  | some y => exact wpAny_Name (wpAny_loadName_free hk hx hc hv (.here I (.refl _ _) r h) hn) hd

/-- the names of the module, and the built-in ones -/
noncomputable def Glo (B : Cx) (x : Str) (v : Value) : Prop := ∃ mg, B.h₀.Ns mainGlobals mg ∧ mg x = some v
noncomputable def Bui (B : Cx) (x : Str) (v : Value) : Prop := ∃ mg mb, B.h₀.Ns mainGlobals mg ∧ mg x = none ∧ B.h₀.Ns builtinsNs mb ∧ mb x = some v
theorem Inv.keep {s : Shared} (I : Inv B σ N s) : ∀ b o, B.h₀.get? b = some o → s.heap.get? b = some o := fun b o e => (I.base b o e).1
theorem WE_glob {x : Str} {pos : Pos} {v : Value} {Q : Post V} (hg : Glo B x v) (h : Q (.lit v) σ N) (hk : env.scope.kind = .function := by rfl) (hx : env.kindOf x = some .globalImplicit := by rfl) (he : env.globals = mainGlobals := by rfl) (hd : (x == ("__debug__" : Str)) = false := by decide) :
    WE B d env l (.Name x pos) σ N Q := fun A s _ I F => by
  obtain ⟨mg, hn, hv⟩ := hg
  exact Name_function_global hk hx (loadGlobal_global (mg := mg) (by rw [he]; exact hn.keeps I.keep) hv (.here I (.refl _ _) (.lit _) h)) hd
theorem WE_built {x : Str} {pos : Pos} {v : Value} {Q : Post V} (hg : Bui B x v) (h : Q (.lit v) σ N) (hk : env.scope.kind = .function := by rfl) (hx : env.kindOf x = some .globalImplicit := by rfl) (he : env.globals = mainGlobals := by rfl) (hb : env.builtins = builtinsNs := by rfl) (hd : (x == ("__debug__" : Str)) = false := by decide) :
    WE B d env l (.Name x pos) σ N Q := fun A s _ I F => by
  obtain ⟨mg, mb, hn, hv, hn', hv'⟩ := hg
  exact Name_function_global hk hx (loadGlobal_builtin (mg := mg) (mb := mb) (by rw [he]; exact hn.keeps I.keep) hv (by rw [hb]; exact hn'.keeps I.keep) hv' (.here I (.refl _ _) (.lit _) h)) hd

/-! operators -/
theorem WF.seq {α α' β β' : Type} {ρ : Store → Heap → β → α → Prop} {ρ' : Store → Heap → β' → α' → Prop} {t : Sem α} {Q : Post β} {R : α → Shared → Prop} {A : Around} {s : Shared} {E : Value → Shared → Prop}
    (h : WF B d env l ρ t σ N Q) (k : Ok d A) (I : Inv B σ N s) (F : FRel B env l σ s.heap)
    (g : ∀ a b σ₁ N₁ s₁, ρ σ₁ s₁.heap b a → Inv B σ₁ N₁ s₁ → FRel B env l σ₁ s₁.heap → Step σ s.heap σ₁ s₁.heap → N ≤ N₁ → Q b σ₁ N₁ → R a s₁) : wpAny (model B.prog B.w) A t R E s :=
  bot (h A s k I F) fun a s₁ ⟨b, σ₁, N₁, r, I₁, S, n, q⟩ => g a b σ₁ N₁ s₁ r I₁ (F.mono S) S n q

theorem WE_bin {x y : Expr} {op : Operator} {pos : Pos} {Q : Post V} (h : WE B d env l x σ N fun u σ₁ N₁ => WE B d env l y σ₁ N₁ fun v σ₂ N₂ => W2 B d (VRel B) (binaryOp op) u v σ₂ N₂ Q) : WE B d env l (.BinOp x op y pos) σ N Q :=
  fun A s k I F => wpAny_BinOp (h.seq (ρ' := VRel B) k I F fun a u σ₁ N₁ s₁ r I₁ F₁ S₁ n₁ h₁ => h₁.seq (ρ' := VRel B) k I₁ F₁ fun b v σ₂ N₂ s₂ r₂ I₂ F₂ S₂ n₂ h₂ =>
    bot (h₂ A s₂ a b k I₂ (r.mono S₂) r₂) fun c s₃ e => e.after (S₁.trans S₂) (Nat.le_trans n₁ n₂))
theorem WE_cmp {x y : Expr} {op : CmpOp} {pos : Pos} {Q : Post V} (h : WE B d env l x σ N fun u σ₁ N₁ => WE B d env l y σ₁ N₁ fun v σ₂ N₂ => W2 B d (VRel B) (compareOp op) u v σ₂ N₂ Q)
    (hm : behindInMarks op y = false := by with_unfolding_all rfl) : WE B d env l (.Compare x [op] [y] pos) σ N Q :=
  fun A s k I F => wpAny_Compare1 (h.seq (ρ' := VRel B) k I F fun a u σ₁ N₁ s₁ r I₁ F₁ S₁ n₁ h₁ => h₁.seq (ρ' := VRel B) k I₁ F₁ fun b v σ₂ N₂ s₂ r₂ I₂ F₂ S₂ n₂ h₂ =>
    bot (h₂ A s₂ a b k I₂ (r.mono S₂) r₂) fun c s₃ e => e.after (S₁.trans S₂) (Nat.le_trans n₁ n₂)) hm
theorem WE_una {x : Expr} {op : UnaryOp} {pos : Pos} {Q : Post V} (h : WE B d env l x σ N fun u σ₁ N₁ => W1 B d (VRel B) (unaryOp op) u σ₁ N₁ Q) : WE B d env l (.UnaryOp op x pos) σ N Q :=
  fun A s k I F => wpAny_UnaryOp (h.seq (ρ' := VRel B) k I F fun a u σ₁ N₁ s₁ r I₁ F₁ S₁ n₁ h₁ => bot (h₁ A s₁ a k I₁ r) fun c s₃ e => e.after S₁ n₁)
theorem WE_ifexp {t x y : Expr} {pos : Pos} {Q : Post V} (h : WB B d env l t σ N fun b σ₁ N₁ => if b then WE B d env l x σ₁ N₁ Q else WE B d env l y σ₁ N₁ Q) : WE B d env l (.IfExp t x y pos) σ N Q :=
  fun A s k I F => wpAny_IfExp (h.seq (ρ' := VRel B) k I F fun a u σ₁ N₁ s₁ r I₁ F₁ S₁ n₁ h₁ => by
    cases (show u = a from r)
    cases a with
    | true => exact bot (h₁ A s₁ k I₁ F₁) fun c s₃ e => e.after S₁ n₁
    | false => exact bot (h₁ A s₁ k I₁ F₁) fun c s₃ e => e.after S₁ n₁)
theorem WE_and {x y : Expr} {pos : Pos} {Q : Post V} (h : WE B d env l x σ N fun u σ₁ N₁ => W1 B d BRel truthy u σ₁ N₁ fun b σ₂ N₂ => if b then WE B d env l y σ₂ N₂ Q else Q u σ₂ N₂) : WE B d env l (.BoolOp .And [x, y] pos) σ N Q :=
  fun A s k I F => wpAny_And2 (h.seq (ρ' := VRel B) k I F fun a u σ₁ N₁ s₁ r I₁ F₁ S₁ n₁ h₁ => bot (h₁ A s₁ a k I₁ r) fun c s₂ ⟨b, σ₂, N₂, rb, I₂, S₂, n₂, q⟩ => by
    cases (show b = c from rb)
    cases c with
    | true => exact bot (q A s₂ k I₂ (F₁.mono S₂)) fun c s₃ e => e.after (S₁.trans S₂) (Nat.le_trans n₁ n₂)
    | false => exact ⟨u, σ₂, N₂, r.mono S₂, I₂, S₁.trans S₂, Nat.le_trans n₁ n₂, q⟩)
theorem WE_or {x y : Expr} {pos : Pos} {Q : Post V} (h : WE B d env l x σ N fun u σ₁ N₁ => W1 B d BRel truthy u σ₁ N₁ fun b σ₂ N₂ => if b then Q u σ₂ N₂ else WE B d env l y σ₂ N₂ Q) : WE B d env l (.BoolOp .Or [x, y] pos) σ N Q :=
  fun A s k I F => wpAny_Or2 (h.seq (ρ' := VRel B) k I F fun a u σ₁ N₁ s₁ r I₁ F₁ S₁ n₁ h₁ => bot (h₁ A s₁ a k I₁ r) fun c s₂ ⟨b, σ₂, N₂, rb, I₂, S₂, n₂, q⟩ => by
    cases (show b = c from rb)
    cases c with
    | false => exact bot (q A s₂ k I₂ (F₁.mono S₂)) fun c s₃ e => e.after (S₁.trans S₂) (Nat.le_trans n₁ n₂)
    | true => exact ⟨u, σ₂, N₂, r.mono S₂, I₂, S₁.trans S₂, Nat.le_trans n₁ n₂, q⟩)

/-! tests -/
theorem WB_cmp {x y : Expr} {op : CmpOp} {pos : Pos} {Q : Post Bool} (h : WE B d env l x σ N fun u σ₁ N₁ => WE B d env l y σ₁ N₁ fun v σ₂ N₂ => W2 B d (VRel B) (compareOp op) u v σ₂ N₂ fun c σ₃ N₃ => W1 B d BRel truthy c σ₃ N₃ Q)
    (hm : behindInMarks op y = false := by with_unfolding_all rfl) : WB B d env l (.Compare x [op] [y] pos) σ N Q :=
  fun A s k I F => wpAny_isTrue_Compare1 (h.seq (ρ' := VRel B) k I F fun a u σ₁ N₁ s₁ r I₁ F₁ S₁ n₁ h₁ => h₁.seq (ρ' := VRel B) k I₁ F₁ fun b v σ₂ N₂ s₂ r₂ I₂ F₂ S₂ n₂ h₂ =>
    bot (h₂ A s₂ a b k I₂ (r.mono S₂) r₂) fun c s₃ ⟨c', σ₃, N₃, r₃, I₃, S₃, n₃, h₃⟩ => bot (h₃ A s₃ c k I₃ r₃) fun _ s₄ e => e.after ((S₁.trans S₂).trans S₃) (Nat.le_trans (Nat.le_trans n₁ n₂) n₃)) hm
theorem WB_not {x : Expr} {pos : Pos} {Q : Post Bool} (h : WB B d env l x σ N fun b σ₁ N₁ => Q (!b) σ₁ N₁) : WB B d env l (.UnaryOp .Not x pos) σ N Q :=
  fun A s k I F => wpAny_isTrue_Not (h.seq (ρ' := VRel B) k I F fun a u σ₁ N₁ s₁ r I₁ F₁ S₁ n₁ h₁ => ⟨!u, σ₁, N₁, by rw [show u = a from r], I₁, S₁, n₁, h₁⟩)
/-- a plain value's truth -/
theorem WB_plain {e : Expr} {Q : Post Bool} (h : WE B d env l e σ N fun u σ₁ N₁ => W1 B d BRel truthy u σ₁ N₁ Q) (he : isTrue e env (eval e env) = (do let v ← eval e env; standAt e.pos; holding [v] (truthy v)) := by rfl) : WB B d env l e σ N Q :=
  fun A s k I F => wpAny_isTrue_value (h.seq (ρ' := VRel B) k I F fun a u σ₁ N₁ s₁ r I₁ F₁ S₁ n₁ h₁ => bot (h₁ A s₁ a k I₁ r) fun _ s₄ e => e.after S₁ n₁) he
/-! lists of arguments, displays -/
theorem WA_nil {pos : Pos} {Q : Post (List V)} (h : Q [] σ N) : WA B d env l pos [] σ N Q := fun A s k I F => args_nil (.here I (.refl _ _) .nil h)
theorem WA_cons {pos : Pos} {e : Expr} {es : List Expr} {Q : Post (List V)} (h : WE B d env l e σ N fun v σ₁ N₁ => WA B d env l pos es σ₁ N₁ fun vs σ₂ N₂ => Q (v :: vs) σ₂ N₂)
    (he : starEach (e :: es) env = (false, eval e env) :: starEach es env := by rfl) : WA B d env l pos (e :: es) σ N Q :=
  fun A s k I F => args_cons (h.seq (ρ' := VRel B) k I F fun a u σ₁ N₁ s₁ r I₁ F₁ S₁ n₁ h₁ => bot (h₁ A s₁ k I₁ F₁) fun as s₂ ⟨us, σ₂, N₂, rs, I₂, S₂, n₂, q⟩ =>
    ⟨u :: us, σ₂, N₂, .cons (r.mono S₂) rs, I₂, S₁.trans S₂, Nat.le_trans n₁ n₂, q⟩) he

theorem Inv.push {s : Shared} {o : Obj} (I : Inv B σ N s) : Inv B σ N { s with heap := s.heap.push o } := I.grow (fun b x e => Heap.get?_push_of_some _ e) (by show s.heap.objs.size ≤ (s.heap.push o).objs.size; rw [Heap.size_push]; exact Nat.le_succ _) rfl rfl
theorem Step.push {h : Heap} {o : Obj} : Step σ h σ (h.push o) := .grow fun b x e => Heap.get?_push_of_some _ e
theorem ext_push {h : Heap} {o : Obj} {a : Nat} : Heap.ExtBut a h (h.push o) := fun b x _ e => Heap.get?_push_of_some _ e
/-- a new thing of the store -/
theorem Inv.new {s : Shared} {x : Obj} {o : AObj} (I : Inv B σ N s) (hr : ORel B (pt σ s.heap.objs.size o) (s.heap.push x) s.heap.objs.size o) : Inv B (pt σ s.heap.objs.size o) (s.heap.objs.size + 1) { s with heap := s.heap.push x } :=
  I.put ext_push (.inr ⟨get_fresh _, Nat.le_refl _⟩) hr (Nat.le_succ_of_le I.size) (Nat.lt_succ_self _) (by show _ ≤ (s.heap.push x).objs.size; rw [Heap.size_push]; exact Nat.le_refl _) (by show _ ≤ (s.heap.push x).objs.size; rw [Heap.size_push]; exact Nat.le_succ _) rfl rfl
theorem Step.new {h : Heap} {x : Obj} {o : AObj} : Step σ h (pt σ h.objs.size o) (h.push x) := .put ext_push (.inr ⟨get_fresh _, Nat.le_refl _⟩)

theorem WN_newList {xs : List V} {Q : Post V} (h : ∀ a, N ≤ a → Q (.ref a) (pt σ a (.list xs)) (a + 1)) (hz : xs.length ≤ sizeLine) : WN B d (VRel B) newList xs σ N Q :=
  fun A s as k I r => wpAny_newObj_type ⟨.ref s.heap.objs.size, pt σ s.heap.objs.size (.list xs), s.heap.objs.size + 1, .ref _,
    I.new ⟨as.toArray, 0, Heap.get?_push_size _ rfl, r.mono .new⟩, .new, Nat.le_succ_of_le I.size, h _ I.size⟩ (by show as.toArray.size ≤ sizeLine; rw [List.size_toArray, ← r.length]; exact hz)
theorem WN_newTuple {xs : List V} {Q : Post V} (h : Q (.tup xs) σ N) (hz : xs.length ≤ sizeLine) : WN B d (VRel B) newTuple xs σ N Q :=
  fun A s as k I r => wpAny_newObj_type (.here I.push .push (.tup (n := 0) (items := as.toArray) (Heap.get?_push_size _ rfl) I.free (r.mono .push)) h) (by show as.toArray.size ≤ sizeLine; rw [List.size_toArray, ← r.length]; exact hz)
end
end
noncomputable section
noncomputable abbrev PostS := Fl → Loc → Store → Nat → Prop
inductive EndS (B : Cx) (env : Env) (σ : Store) (N : Nat) (h : Heap) (Q : PostS) (f : Flow) (s' : Shared) : Prop
  | mk (x : Fl) (l' : Loc) (σ' : Store) (N' : Nat) (r : FlRel B σ' s'.heap x f) (I : Inv B σ' N' s') (S : StepL env.locals σ h σ' s'.heap) (F : FRel B env l' σ' s'.heap) (n : N ≤ N') (q : Q x l' σ' N')
noncomputable def WS (B : Cx) (d : Nat) (env : Env) (l : Loc) (t : Sem Flow) (σ : Store) (N : Nat) (Q : PostS) : Prop :=
  ∀ A s, Ok d A → Inv B σ N s → FRel B env l σ s.heap → wpAny (model B.prog B.w) A t (EndS B env σ N s.heap Q) (fun _ _ => False) s
noncomputable abbrev WX (B : Cx) (d : Nat) (env : Env) (l : Loc) (ss : List Stmt) (σ : Store) (N : Nat) (Q : PostS) : Prop := WS B d env l (execs ss env) σ N Q
/-- what follows a statement -/
noncomputable def Then (B : Cx) (d : Nat) (env : Env) (rest : List Stmt) (Q : PostS) : PostS
  | .next, l, σ, N => WX B d env l rest σ N Q
  | x, l, σ, N => Q x l σ N

section
variable {B : Cx} {d : Nat} {env : Env} {l : Loc} {σ : Store} {N : Nat} {rest : List Stmt} {Q : PostS}
theorem StepL.refl (L : Nat) (σ : Store) (h : Heap) : StepL L σ h σ h := (Step.refl σ h).toL L
theorem EndS.after {σ₁ : Store} {N₁ : Nat} {h h₁ : Heap} {f : Flow} {s' : Shared} (S : StepL env.locals σ h σ₁ h₁) (n : N ≤ N₁) (x : EndS B env σ₁ N₁ h₁ Q f s') : EndS B env σ N h Q f s' :=
  let ⟨x, l', σ', N', r, I, S', F, m, q⟩ := x; ⟨x, l', σ', N', r, I, S.trans S', F, Nat.le_trans n m, q⟩
theorem EndS.here {s s' : Shared} {x : Fl} {f : Flow} {l' : Loc} (I : Inv B σ N s') (S : StepL env.locals σ s.heap σ s'.heap) (F : FRel B env l' σ s'.heap) (r : FlRel B σ s'.heap x f) (q : Q x l' σ N) : EndS B env σ N s.heap Q f s' :=
  ⟨x, l', σ, N, r, I, S, F, Nat.le_refl _, q⟩
theorem X_cons {st : Stmt} (h : WS B d env l (exec st env) σ N (Then B d env rest Q)) : WX B d env l (st :: rest) σ N Q :=
  fun A s k I F => wpAny_execs_cons (bot (h A s k I F) fun f s₁ ⟨x, l₁, σ₁, N₁, r, I₁, S₁, F₁, n₁, q⟩ => by
    cases r with
    | next => exact bot (q A s₁ k I₁ F₁) fun _ s₂ e => e.after S₁ n₁
    | brk => exact ⟨_, l₁, σ₁, N₁, .brk, I₁, S₁, F₁, n₁, q⟩
    | cont => exact ⟨_, l₁, σ₁, N₁, .cont, I₁, S₁, F₁, n₁, q⟩
    | ret r => exact ⟨_, l₁, σ₁, N₁, .ret r, I₁, S₁, F₁, n₁, q⟩)
theorem X_nil (h : Q .next l σ N) : WX B d env l [] σ N Q := fun A s k I F => wpAny_execs_nil (.here I (.refl _ _ _) F .next h)
theorem WS.less {l' : Loc} {t : Sem Flow} (s : LSub l' l) (h : WS B d env l' t σ N Q) : WS B d env l t σ N Q := fun A sh k I F => h A sh k I (F.less s)
theorem Then_next (h : WX B d env l rest σ N Q) : Then B d env rest Q .next l σ N := h

/-- a store into a local name -/
theorem store_local {x : Str} {v : V} {A : Around} {s : Shared} {a : Value} {R : Unit → Shared → Prop} {E : Value → Shared → Prop} (I : Inv B σ N s) (F : FRel B env l σ s.heap) (r : VRel B σ s.heap v a) (hl : env.kindOf x = some .local) (hk : env.scope.kind = .function)
    (g : ∀ s', Inv B σ N s' → FRel B env (upd l x v) σ s'.heap → StepL env.locals σ s.heap σ s'.heap → R () s') : wpAny (model B.prog B.w) A (storeName env x a) R E s := by
  obtain ⟨m, hn, km⟩ := F.ns
  refine wpAny_storeName_local hl hn (fun h' hn' hs => ?_) (by rw [hk]; rfl)
  have hN := F.noTup (h' := s.heap)
  have S : StepL env.locals σ s.heap σ h' := .of_ext hs.extBut F.out
  refine g _ (Inv.frame (s' := { s with heap := h', toks := s.toks + 1 }) I hs.extBut F.out F.new hN (Nat.le_of_eq hs.1.symm) rfl rfl) ⟨F.out, F.new, F.mark, _, hn', fun y u e => ?_⟩ S
  rw [upd_look] at e
  by_cases z : y = x
  · rw [if_pos z] at e; cases e; exact ⟨a, if_pos z, r.pass (StepL.pass S hN)⟩
  · rw [if_neg z] at e
    obtain ⟨b, hb, rb⟩ := km y u e
    exact ⟨b, (if_neg z).trans hb, rb.pass (StepL.pass S hN)⟩
theorem store_cell {x : Str} {c : Nat} {v : V} {v₀ : Option V} {A : Around} {s : Shared} {a : Value} {R : Unit → Shared → Prop} {E : Value → Shared → Prop} (I : Inv B σ N s) (F : FRel B env l σ s.heap) (r : VRel B σ s.heap v a)
    (hl : env.kindOf x = some .cell) (hk : env.scope.kind = .function) (hc : env.cells.lookup x = some c) (hs : σ c = some (.cell v₀))
    (g : ∀ s', Inv B (pt σ c (.cell (some v))) N s' → FRel B env l (pt σ c (.cell (some v))) s'.heap → Step σ s.heap (pt σ c (.cell (some v))) s'.heap → R () s') : wpAny (model B.prog B.w) A (storeName env x a) R E s := by
  obtain ⟨v', hv, _⟩ := I.store c _ hs
  refine wpAny_storeName_cell hk hl hc hv fun h' hc' hsb => ?_
  have hi : σ c ≠ none ∨ (s.heap.get? c = none ∧ s.heap.objs.size ≤ c) := .inl (by rw [hs]; nofun)
  have S : Step σ s.heap (pt σ c (.cell (some v))) h' := .put hsb.extBut hi
  exact g _ (Inv.put (s' := { s with heap := h' }) I hsb.extBut hi ⟨some a, hc', r.mono S⟩ (Nat.le_refl _) (I.top c _ hs) (Nat.le_trans I.size (Nat.le_of_eq hsb.1.symm)) (Nat.le_of_eq hsb.1.symm) rfl rfl) (F.mono S) S

theorem X_assign {x : Str} {p pos : Pos} {e : Expr} (h : WE B d env l e σ N fun v σ₁ N₁ => WX B d env (upd l x v) rest σ₁ N₁ Q) (hl : env.kindOf x = some .local := by rfl) (hk : env.scope.kind = .function := by rfl)
    (hs : swapsWith e (some (.Name x p)) pos.line env = pure false := by rfl) : WX B d env l (.Assign [.Name x p] e pos :: rest) σ N Q :=
  X_cons fun A s k I F => wpAny_Assign_Name (h.seq (ρ' := VRel B) k I F fun a v σ₁ N₁ s₁ r I₁ F₁ S₁ n₁ h₁ => store_local I₁ F₁ r hl hk fun s₂ I₂ F₂ S₂ =>
    ⟨.next, _, σ₁, N₁, .next, I₂, (S₁.toL _).trans S₂, F₂, n₁, h₁⟩) hs
theorem X_expr {e : Expr} {pos : Pos} (h : WE B d env l e σ N fun _ σ₁ N₁ => WX B d env l rest σ₁ N₁ Q) (hi : interactive env = false := by rfl) (hs : swapsWith e none pos.line env = pure false := by rfl) : WX B d env l (.Expr e pos :: rest) σ N Q :=
  X_cons fun A s k I F => wpAny_Expr_any (h.seq (ρ' := VRel B) k I F fun a v σ₁ N₁ s₁ r I₁ F₁ S₁ n₁ h₁ => ⟨.next, l, σ₁, N₁, .next, I₁, S₁.toL _, F₁, n₁, h₁⟩) hi hs
theorem X_return {e : Expr} {pos : Pos} (h : WE B d env l e σ N fun v σ₁ N₁ => Q (.ret v) l σ₁ N₁) : WX B d env l (.Return (some e) pos :: rest) σ N Q :=
  X_cons fun A s k I F => wpAny_Return_some (h.seq (ρ' := VRel B) k I F fun a v σ₁ N₁ s₁ r I₁ F₁ S₁ n₁ h₁ => ⟨.ret v, l, σ₁, N₁, .ret r, I₁, S₁.toL _, F₁, n₁, h₁⟩)
theorem X_break {pos : Pos} (h : Q .brk l σ N) : WX B d env l (.Break pos :: rest) σ N Q := X_cons fun A s k I F => wpAny_Break (.here I (.refl _ _ _) F .brk h)
theorem X_continue {pos : Pos} (h : Q .cont l σ N) : WX B d env l (.Continue pos :: rest) σ N Q := X_cons fun A s k I F => wpAny_Continue (.here I (.refl _ _ _) F .cont h)
theorem X_if {t : Expr} {b e : List Stmt} {pos : Pos} (h : WB B d env l t σ N fun c σ₁ N₁ => if c then WX B d env l b σ₁ N₁ (Then B d env rest Q) else WX B d env l e σ₁ N₁ (Then B d env rest Q)) : WX B d env l (.If t b e pos :: rest) σ N Q :=
  X_cons fun A s k I F => wpAny_If (h.seq (ρ' := VRel B) k I F fun a c σ₁ N₁ s₁ r I₁ F₁ S₁ n₁ h₁ => by
    cases (show c = a from r)
    cases a with
    | true => exact bot (h₁ A s₁ k I₁ F₁) fun _ s₂ e => e.after (S₁.toL _) n₁
    | false => exact bot (h₁ A s₁ k I₁ F₁) fun _ s₂ e => e.after (S₁.toL _) n₁)
/-- what follows an if, said once -/
noncomputable def Joined (Q : PostS) (J : Loc → Store → Nat → Prop) : PostS
  | .next, l, σ, N => ∃ l', LSub l' l ∧ J l' σ N
  | x, l, σ, N => Q x l σ N
theorem WS.post {t : Sem Flow} {Q Q' : PostS} (h : WS B d env l t σ N Q) (k : ∀ x l σ N', N ≤ N' → Q x l σ N' → Q' x l σ N') : WS B d env l t σ N Q' :=
  fun A s a I F => bot (h A s a I F) fun f s' ⟨x, l', σ', N', r, I', S', F', n, q⟩ => ⟨x, l', σ', N', r, I', S', F', n, k _ _ _ _ n q⟩
theorem X_ifJ {t : Expr} {b e : List Stmt} {pos : Pos} (J : Loc → Store → Nat → Prop) (hrest : ∀ l σ N', N ≤ N' → J l σ N' → WX B d env l rest σ N' Q)
    (h : WB B d env l t σ N fun c σ₁ N₁ => if c then WX B d env l b σ₁ N₁ (Joined Q J) else WX B d env l e σ₁ N₁ (Joined Q J)) : WX B d env l (.If t b e pos :: rest) σ N Q :=
  X_if fun A s k I F => bot (h A s k I F) fun c s₁ ⟨c', σ₁, N₁, r, I₁, S₁, n₁, q⟩ => ⟨c', σ₁, N₁, r, I₁, S₁, n₁, by
    have z : ∀ x l σ N', N₁ ≤ N' → Joined Q J x l σ N' → Then B d env rest Q x l σ N' := fun x l σ N' n q => by
      cases x with
      | next => obtain ⟨l', hl', hj⟩ := q; exact WS.less hl' (hrest l' σ N' (Nat.le_trans n₁ n) hj)
      | brk => exact q
      | cont => exact q
      | ret v => exact q
    cases c' with
    | true => exact WS.post q z
    | false => exact WS.post q z⟩
/-- `o[i] = e` -/
theorem X_assignSub {o i e : Expr} {p pos : Pos} (h : WE B d env l e σ N fun v σ₁ N₁ => WE B d env l o σ₁ N₁ fun ov σ₂ N₂ => WE B d env l i σ₂ N₂ fun iv σ₃ N₃ => W3 B d URel setItem ov iv v σ₃ N₃ fun _ σ₄ N₄ => WX B d env l rest σ₄ N₄ Q)
    (hs : swapsWith e (some (.Subscript o i p)) pos.line env = pure false := by rfl) : WX B d env l (.Assign [.Subscript o i p] e pos :: rest) σ N Q :=
  X_cons fun A s k I F => wpAny_Assign_Subscript (h.seq (ρ' := VRel B) k I F fun a v σ₁ N₁ s₁ r I₁ F₁ S₁ n₁ h₁ => h₁.seq (ρ' := VRel B) k I₁ F₁ fun b ov σ₂ N₂ s₂ r₂ I₂ F₂ S₂ n₂ h₂ => h₂.seq (ρ' := VRel B) k I₂ F₂ fun c iv σ₃ N₃ s₃ r₃ I₃ F₃ S₃ n₃ h₃ =>
    bot (h₃ A s₃ b c a k I₃ (r₂.mono S₃) r₃ ((r.mono S₂).mono S₃)) fun _ s₄ ⟨_, σ₄, N₄, _, I₄, S₄, n₄, h₄⟩ =>
      ⟨.next, l, σ₄, N₄, .next, I₄, (((S₁.trans S₂).trans S₃).trans S₄).toL _, F₃.mono S₄, Nat.le_trans (Nat.le_trans (Nat.le_trans n₁ n₂) n₃) n₄, h₄⟩) hs
/-- ahead of a turn -/
inductive LI (B : Cx) (env : Env) (σ : Store) (N : Nat) (h : Heap) (J : Nat → Loc → Store → Nat → Prop) (n : Nat) (s' : Shared) : Prop
  | mk (l' : Loc) (σ' : Store) (N' : Nat) (hJ : J n l' σ' N') (I : Inv B σ' N' s') (S : StepL env.locals σ h σ' s'.heap) (F : FRel B env l' σ' s'.heap) (n' : N ≤ N')
/-- a while, by what holds ahead of each turn -/
theorem X_while {t : Expr} {b : List Stmt} {pos : Pos} (J : Nat → Loc → Store → Nat → Prop) (n : Nat) {l₀ : Loc} (hl₀ : LSub l₀ l) (h₀ : J n l₀ σ N)
    (turn : ∀ n l σ N', J n l σ N' → N ≤ N' → WB B d env l t σ N' fun c σ₁ N₁ => if c then WX B d env l b σ₁ N₁ (fun x l' σ' N' => match x with | .next | .cont => ∃ m l'', m < n ∧ LSub l'' l' ∧ J m l'' σ' N' | .brk => WX B d env l' rest σ' N' Q | .ret v => Q (.ret v) l' σ' N')
      else WX B d env l rest σ₁ N₁ Q) : WX B d env l (.While t b [] pos :: rest) σ N Q :=
  X_cons fun A s k I F => wpAny_While (codeAny_whileLoop (LI B env σ N s.heap J)
    (fun n s' ⟨l', σ', N', hJ, I', S', F', n'⟩ => (turn n l' σ' N' hJ n').seq (ρ' := VRel B) k I' F' fun a c σ₁ N₁ s₁ r I₁ F₁ S₁ n₁ h₁ => by
      cases (show c = a from r)
      have S₂ := S'.trans (S₁.toL env.locals)
      cases a with
      | true =>
        refine bot (h₁ A s₁ k I₁ F₁) fun f s₂ ⟨x, l₂, σ₂, N₂, rf, I₂, S₃, F₂, n₂, q⟩ => ?_
        have n₃ := Nat.le_trans (Nat.le_trans n' n₁) n₂
        cases rf with
        | next => obtain ⟨m, l₃, hm, hs, hj⟩ := q; exact ⟨m, hm, l₃, σ₂, N₂, hj, I₂, S₂.trans S₃, F₂.less hs, n₃⟩
        | cont => obtain ⟨m, l₃, hm, hs, hj⟩ := q; exact ⟨m, hm, l₃, σ₂, N₂, hj, I₂, S₂.trans S₃, F₂.less hs, n₃⟩
        | brk => exact ⟨.next, l₂, σ₂, N₂, .next, I₂, S₂.trans S₃, F₂, n₃, q⟩
        | ret rv => exact ⟨_, l₂, σ₂, N₂, .ret rv, I₂, S₂.trans S₃, F₂, n₃, q⟩
      | false => exact wpAny_execs_nil ⟨.next, l', σ₁, N₁, .next, I₁, S₂, F₁, Nat.le_trans n' n₁, h₁⟩)
    n ⟨l₀, σ, N, h₀, I, .refl _ _ _, F.less hl₀, Nat.le_refl _⟩)
end
end
noncomputable section
/-- a function's object -/
noncomputable def FnAt (B : Cx) (σ : Store) (a : Nat) (fd : FuncData) : Prop := ∃ o, (B.h₀.get? a = some o ∨ σ a = some (.obj o)) ∧ o.data = .func fd
noncomputable def CodeAt (B : Cx) (σ : Store) (fd : FuncData) : Prop := ∃ c o vs t, fd.code = .ref c ∧ (B.h₀.get? c = some o ∨ σ c = some (.obj o)) ∧ o.data = .fields vs ∧ vs[1]? = some (.str fd.qualname t)
section
variable {B : Cx} {d : Nat} {σ : Store} {N : Nat} {s : Shared}
theorem Inv.objOr (I : Inv B σ N s) {a : Nat} {o : Obj} (h : B.h₀.get? a = some o ∨ σ a = some (.obj o)) : s.heap.get? a = some o := h.elim (fun e => (I.base a o e).1) fun e => I.store a _ e
theorem FnAt.get {a : Nat} {fd : FuncData} (f : FnAt B σ a fd) (I : Inv B σ N s) : ∃ o, s.heap.get? a = some o ∧ o.data = .func fd := let ⟨o, h, e⟩ := f; ⟨o, I.objOr h, e⟩
theorem CodeAt.get {fd : FuncData} (f : CodeAt B σ fd) (I : Inv B σ N s) : s.heap.CodeRec fd.code fd.qualname := let ⟨c, o, vs, t, e, h, r⟩ := f; ⟨c, o, vs, t, e, I.objOr h, r⟩

/-- names bound to values, on both sides -/
inductive LRel (B : Cx) (σ : Store) (h : Heap) : List (Str × V) → List (Str × Value) → Prop
  | nil : LRel B σ h [] []
  | cons {n : Str} {x : V} {y : Value} {xs : List (Str × V)} {ys : List (Str × Value)} (hd : VRel B σ h x y) (tl : LRel B σ h xs ys) : LRel B σ h ((n, x) :: xs) ((n, y) :: ys)
theorem LRel.nil' {h : Heap} {b : List (Str × Value)} (r : LRel B σ h [] b) : b = [] := by cases r; rfl
theorem LRel.cons' {h : Heap} {p : Str × V} {a : List (Str × V)} {b : List (Str × Value)} (r : LRel B σ h (p :: a) b) : ∃ y b', b = (p.1, y) :: b' ∧ VRel B σ h p.2 y ∧ LRel B σ h a b' := by
  cases r with | cons x t => exact ⟨_, _, rfl, x, t⟩
theorem LRel.zip {h : Heap} : ∀ (names : List Str) {xs : List V} {ys : List Value}, VRelL B σ h xs ys → LRel B σ h (names.zip xs) (names.zip ys) := by
  intro names
  induction names with
  | nil => intro xs ys _; exact .nil
  | cons n r ih =>
    intro xs ys q
    cases xs with
    | nil => rw [q.nil']; exact .nil
    | cons x xs => obtain ⟨y, ys, rfl, a, b⟩ := q.cons'; exact .cons a (ih b)
theorem LRel.app {h : Heap} {a' : List (Str × V)} {b' : List (Str × Value)} (q : LRel B σ h a' b') : ∀ {a : List (Str × V)} {b : List (Str × Value)}, LRel B σ h a b → LRel B σ h (a ++ a') (b ++ b') := by
  intro a
  induction a with
  | nil => intro b r; rw [r.nil']; exact q
  | cons p a ih => intro b r; obtain ⟨y, b, rfl, x, t⟩ := r.cons'; exact .cons x (ih t)
theorem LRel.rev {h : Heap} : ∀ {a : List (Str × V)} {b : List (Str × Value)}, LRel B σ h a b → LRel B σ h a.reverse b.reverse := by
  intro a
  induction a with
  | nil => intro b r; rw [r.nil']; exact .nil
  | cons p a ih =>
    intro b r
    obtain ⟨y, b, rfl, x, t⟩ := r.cons'
    rw [List.reverse_cons, List.reverse_cons]
    exact LRel.app (.cons x .nil) (ih t)
theorem LRel.look {h : Heap} {y : Str} {v : V} : ∀ {a : List (Str × V)} {b : List (Str × Value)}, LRel B σ h a b → a.lookup y = some v → ∃ u, b.lookup y = some u ∧ VRel B σ h v u := by
  intro a
  induction a with
  | nil => intro b r e; cases e
  | cons p a ih =>
    intro b r e
    obtain ⟨u, b, rfl, x, t⟩ := r.cons'
    obtain ⟨n, w⟩ := p
    rw [List.lookup_cons] at e ⊢
    dsimp only at e ⊢
    cases q : y == n with
    | true => rw [q] at e; cases e; exact ⟨_, rfl, x⟩
    | false => rw [q] at e; exact ih t e

noncomputable abbrev locs (names : List Str) (xs : List V) : Loc := (names.zip xs).reverse

/-- what a call's body hands back -/
noncomputable def Back (f : Nat → Prop) (Q : Post V) : PostS := fun x _ σ N => match x with
  | .ret v => ∃ σ' v', Off σ v σ' v' ∧ Q v' (σ'.reset f) N
  | .next => ∃ σ', Sub σ' σ ∧ Q .none (σ'.reset f) N
  | _ => False

theorem back_ends {env : Env} {h₁ : Heap} {Q : Post V} {f : Flow} {s' : Shared} (hL : env.locals = s.heap.objs.size) (hk : ∀ b o, s.heap.get? b = some o → h₁.get? b = some o) {σ₁ : Store} {N₁ : Nat} (h1 : ∀ b o, s.heap.get? b = some o → σ b = none → σ₁ b = none) (hf : ∀ a, σ.fr a → σ₁.fr a) (hn : N ≤ N₁)
    (x : EndS B env σ₁ N₁ h₁ (Back σ.fr Q) f s') : match f with | .ret v => Ends B (VRel B) σ N s.heap Q v s' | _ => Ends B (VRel B) σ N s.heap Q .none s' := by
  obtain ⟨x, l', σ', N', r, I', S', F', n', q⟩ := x
  have S : ∀ {σ₂ : Store}, Sub σ₂ σ' → Step σ s.heap (σ₂.reset σ.fr) s'.heap := fun u => ⟨fun b o e n => by
    have z := S'.keep b o (fun z => by rw [z, hL, get_fresh] at e; cases e) (hk b o e) (h1 b o e n)
    exact ⟨z.1, u.none z.2⟩, rfl⟩
  have K : ∀ {σ₂ : Store}, Sub σ₂ σ' → ∀ a, σ.fr a → σ₂.fr a := fun u a q => by rw [u.fr, S'.fr]; exact hf a q
  cases r with
  | next => obtain ⟨σ₂, u, q⟩ := q; exact ⟨_, _, N', .none, (I'.sub u).reset (K u), S u, Nat.le_trans hn n', q⟩
  | brk => exact q.elim
  | cont => exact q.elim
  | ret r => obtain ⟨σ₂, v₂, o, q⟩ := q; exact ⟨_, _, N', (o.rel I' r).pass (.reset (K o.store)), (I'.sub o.store).reset (K o.store), S o.store, Nat.le_trans hn n', q⟩

/-- a call, for those who call by machine -/
noncomputable def WK (B : Cx) (d : Nat) (f : Value) (xs : List V) (σ : Store) (N : Nat) (Q : Post V) : Prop :=
  ∀ A s as, Ok d A → Inv B σ N s → VRelL B σ s.heap xs as → codeAny (model B.prog B.w) A (.call f ⟨as, []⟩) (fun r s' => match r with | .ok (.ret v) => Ends B (VRel B) σ N s.heap Q v s' | .ok _ => False | .error _ => False) s
theorem WK.c {f : Value} {xs : List V} {Q : Post V} (h : WK B d f xs σ N Q) : WC B d f xs σ N Q := fun A s as k I r => wpAny_call (codeAny_mono (h A s as k I r) fun r s' z => by rcases r with e | (v | _ | _ | _) <;> exact z)
theorem K_def {a : Nat} {fd : FuncData} {body : List Stmt} {names : List Str} {xs : List V} {Q : Post V} (hf : FnAt B σ a fd) (hc : CodeAt B σ fd) (hlim : B.h₀.NoLimit) (hb : fd.body = .stmts body)
    (hbind : ∀ s (as : List Value), as.length = xs.length → BindsTo s fd ⟨as, []⟩ (names.zip as)) (hcell : ∀ x ∈ fd.scope.names, x.2 ≠ .cell) (hloc : ∀ x ∈ names, fd.scope.names.lookup x = some .local)
    (h : ∀ L, N ≤ L → σ L = none → (∀ a, N ≤ a → σ a = none) → WX B d (callEnv fd L a) (locs names xs) body (σ.add L) N (Back σ.fr Q))
    (hco : fd.scope.isCoroutine = false) (hgen : fd.scope.isGenerator = false) (hk : fd.scope.kind = .function) : WK B (d + 1) (.ref a) xs σ N Q := fun A s as k I r => by
  obtain ⟨o, ho, hd⟩ := hf.get I
  have hroom : A.depth < recursionLimit := by have := k.depth; show _ < 1000; exact ar52 this
  refine (codeAny_call_def hroom ho hd (hlim.keeps I.keep) (hc.get I) hb (hbind s as r.length.symm) hcell (fun x hx => hloc _ (List.of_mem_zip hx).1) (fun h₁ hn hk₁ => ?_) hco hgen hk)
  have hL : B.h₀.get? s.heap.objs.size = none := by
    cases q : B.h₀.get? s.heap.objs.size with
    | none => rfl
    | some o => have := (I.base _ _ q).1; rw [get_fresh] at this; cases this
  have sz : s.heap.objs.size ≤ h₁.objs.size := Nat.le_of_lt hn.lt
  have pA : Pass σ s.heap (σ.add s.heap.objs.size) s.heap := .add (get_fresh _)
  have S : Step (σ.add s.heap.objs.size) s.heap (σ.add s.heap.objs.size) h₁ := .grow hk₁
  have F : FRel B (callEnv fd s.heap.objs.size a) (locs names xs) (σ.add s.heap.objs.size) h₁ := ⟨I.fresh, hL, .inl rfl, _, hn, fun y v e => ((LRel.zip names r).rev.look e).imp fun u ⟨e, q⟩ => ⟨e, (q.pass pA).mono S⟩⟩
  refine bot (h s.heap.objs.size I.size I.fresh I.above (A.deeper _) _ k.deeper (Inv.mark (s' := { s with heap := h₁, toks := s.toks + (names.zip as).length }) I (get_fresh _) I.fresh hk₁ sz hn.lt rfl rfl) F) fun f s' e => ?_
  have z := back_ends (σ := σ) (σ₁ := σ.add s.heap.objs.size) rfl hk₁ (fun _ _ _ n => n) (fun _ q => Or.inr q) (Nat.le_refl _) e
  cases f <;> exact z

/-! names kept in cells -/
noncomputable def kinds (fd : FuncData) : Str → Option NameKind := fun y => fd.scope.names.lookup y
noncomputable def bL (kindOf : Str → Option NameKind) : List (Str × V) → Loc → Loc
  | [], m => m
  | (n, v) :: r, m => bL kindOf r (if kindOf n = some .local then upd m n v else m)
noncomputable def bC (kindOf : Str → Option NameKind) : List (Str × V) → Loc → Loc
  | [], m => m
  | (n, v) :: r, m => bC kindOf r (if kindOf n = some .local then m else upd m n v)
noncomputable def ptCells (cm : Loc) : List (Str × Nat) → Store → Store
  | [], σ => σ
  | (n, c) :: r, σ => pt (ptCells cm r σ) c (.cell (cm.lookup n))
theorem MapRel.upd {h : Heap} {l : Loc} {m : Str → Option Value} (x : MapRel B σ h l m) {n : Str} {v : V} {u : Value} (r : VRel B σ h v u) : MapRel B σ h (upd l n v) (fun y => if y = n then some u else m y) := fun y => by
  rw [upd_look]
  by_cases z : y = n
  · simp only [if_pos z]; exact r
  · simp only [if_neg z]; exact x y
theorem bL_rel {h : Heap} {kindOf : Str → Option NameKind} : ∀ {a : List (Str × V)} {b : List (Str × Value)} {l : Loc} {m : Str → Option Value}, LRel B σ h a b → MapRel B σ h l m → MapRel B σ h (bL kindOf a l) (bindL kindOf b m)
  | _, _, _, _, .nil, x => x
  | _, _, _, _, .cons (n := n) r t, x => by
    unfold bL bindL
    by_cases z : kindOf n = some .local
    · rw [if_pos z, if_pos z]; exact bL_rel t (x.upd r)
    · rw [if_neg z, if_neg z]; exact bL_rel t x
theorem bC_rel {h : Heap} {kindOf : Str → Option NameKind} : ∀ {a : List (Str × V)} {b : List (Str × Value)} {l : Loc} {m : Str → Option Value}, LRel B σ h a b → MapRel B σ h l m → MapRel B σ h (bC kindOf a l) (bindC kindOf b m)
  | _, _, _, _, .nil, x => x
  | _, _, _, _, .cons (n := n) r t, x => by
    unfold bC bindC
    by_cases z : kindOf n = some .local
    · rw [if_pos z, if_pos z]; exact bC_rel t x
    · rw [if_neg z, if_neg z]; exact bC_rel t (x.upd r)
theorem ptCells_fr {cm : Loc} : ∀ {cs : List (Str × Nat)} {σ : Store}, (ptCells cm cs σ).fr = σ.fr
  | [], _ => rfl
  | (n, c) :: r, σ => ptCells_fr (cs := r)
theorem ptCells_out {cm : Loc} : ∀ {cs : List (Str × Nat)} {b : Nat}, (∀ p ∈ cs, p.2 ≠ b) → ptCells cm cs σ b = σ b
  | [], _, _ => rfl
  | (n, c) :: r, b, h => by
    unfold ptCells
    rw [pt_ne (Ne.symm (h (n, c) (.head _)))]
    exact ptCells_out fun p hp => h p (.tail _ hp)
theorem ptCells_in {cm : Loc} : ∀ {cs : List (Str × Nat)} {b : Nat} {o : AObj}, ptCells cm cs σ b = some o → (∃ n, (n, b) ∈ cs ∧ o = .cell (cm.lookup n)) ∨ σ b = some o
  | [], _, _, h => .inr h
  | (n, c) :: r, b, o, h => by
    unfold ptCells at h
    by_cases z : b = c
    · subst z; rw [pt_same] at h; cases h; exact .inl ⟨n, .head _, rfl⟩
    · rw [pt_ne z] at h
      rcases ptCells_in h with ⟨n', q, e⟩ | q
      · exact .inl ⟨n', .tail _ q, e⟩
      · exact .inr q

theorem K_cells {a : Nat} {fd : FuncData} {body : List Stmt} {names : List Str} {xs : List V} {Q : Post V} (hf : FnAt B σ a fd) (hc : CodeAt B σ fd) (hlim : B.h₀.NoLimit) (hb : fd.body = .stmts body) (hclo : fd.closure = [])
    (hbind : ∀ (as : List Value), as.length = xs.length → bindArgs fd ⟨as, []⟩ = pure (names.zip as))
    (hkind : ∀ n, ∀ x ∈ names, fd.scope.names.lookup x = some .local ∨ (fd.scope.names.lookup x = some .cell ∧ ((cellsFrom n fd.scope.names []).lookup x).isSome = true))
    (hnd : ∀ n, ((cellsFrom n fd.scope.names []).map (·.1)).Nodup)
    (h : ∀ L N₁, N ≤ L → σ L = none → (∀ a, N ≤ a → σ a = none) → L < N₁ → (∀ p ∈ cellsFrom (L + 1) fd.scope.names [], p.2 < N₁) →
      WX B d (callEnvC fd L a) (bL (kinds fd) (names.zip xs) []) body (ptCells (bC (kinds fd) (names.zip xs) []) (cellsFrom (L + 1) fd.scope.names []) (σ.add L)) N₁ (Back σ.fr Q))
    (hco : fd.scope.isCoroutine = false) (hgen : fd.scope.isGenerator = false) (hk : fd.scope.kind = .function) : WK B (d + 1) (.ref a) xs σ N Q := fun A s as k I r => by
  obtain ⟨o, ho, hd⟩ := hf.get I
  have hroom : A.depth < recursionLimit := by have := k.depth; show _ < 1000; exact ar52 this
  refine codeAny_call_cells hroom ho hd (hlim.keeps I.keep) (hc.get I) hb (hbind as r.length.symm) hclo (fun x hx => hkind _ _ (List.of_mem_zip hx).1) (fun s₁ C => ?_) hco hgen hk
  have hL : B.h₀.get? s.heap.objs.size = none := by
    cases q : B.h₀.get? s.heap.objs.size with
    | none => rfl
    | some o => have := (I.base _ _ q).1; rw [get_fresh] at this; cases this
  obtain ⟨h₁, tk, rfl, hk₁⟩ := C.done
  have hn := C.toInCall.ns
  have above : ∀ p ∈ cellsFrom (s.heap.objs.size + 1) fd.scope.names [], s.heap.objs.size < p.2 := fun p hp => C.above p.1 p.2 hp
  have cellAt : ∀ n c, (n, c) ∈ cellsFrom (s.heap.objs.size + 1) fd.scope.names [] → h₁.IsCell c (bindC (kinds fd) (names.zip as) (fun _ => none) n) := fun n c hm => C.cell n c (lookup_of_mem_nodup (hnd _) hm)
  generalize hcs : cellsFrom (s.heap.objs.size + 1) fd.scope.names [] = cs at *
  have out0 : ∀ b, b ≤ s.heap.objs.size → ptCells (bC (kinds fd) (names.zip xs) []) cs (σ.add s.heap.objs.size) b = σ b := fun b hb => by
    rw [ptCells_out fun p hp z => by have h1 : s.heap.objs.size < p.2 := above p hp; have h2 : p.2 = b := z; rw [h2] at h1; exact Nat.not_lt.mpr hb h1]; rfl
  have hfr : (ptCells (bC (kinds fd) (names.zip xs) []) cs (σ.add s.heap.objs.size)).fr = (σ.add s.heap.objs.size).fr := ptCells_fr
  generalize hσ : ptCells (bC (kinds fd) (names.zip xs) []) cs (σ.add s.heap.objs.size) = σ₁ at *
  have out : ∀ b o, s.heap.get? b = some o → σ b = none → σ₁ b = none := fun b o e n => by
    rw [out0 b (Nat.le_of_lt (Heap.lt_size e))]; exact n
  have pA : Pass σ s.heap (σ.add s.heap.objs.size) s.heap := .add (get_fresh _)
  have S : Step (σ.add s.heap.objs.size) s.heap σ₁ h₁ := ⟨fun b o e n => ⟨hk₁ b o e, out b o e n⟩, hfr⟩
  have M0 : MapRel B σ s.heap [] (fun _ => none) := fun _ => trivial
  have ML := ((bL_rel (kindOf := kinds fd) (LRel.zip names r) M0).pass pA).mono S
  have MC := ((bC_rel (kindOf := kinds fd) (LRel.zip names r) M0).pass pA).mono S
  have sz : s.heap.objs.size ≤ h₁.objs.size := Nat.le_of_lt hn.lt
  have oL : σ₁ s.heap.objs.size = none := (out0 _ (Nat.le_refl _)).trans I.fresh
  have I₁ : Inv B σ₁ h₁.objs.size ({ s with heap := h₁, toks := tk } : Shared) := by
    refine ⟨fun b x e => ?_, fun b x e => ⟨hk₁ _ _ (I.base b x e).1, out b x (I.base b x e).1 (I.base b x e).2⟩, I.gens, I.os, fun b x e => ?_, Nat.le_refl _, fun b f => ?_⟩
    · rw [← hσ] at e
      rcases ptCells_in e with ⟨n, q, rfl⟩ | q
      · refine ⟨_, cellAt n b q, ?_⟩
        have := MC n
        revert this
        cases (bC (kinds fd) (names.zip xs) []).lookup n <;> cases bindC (kinds fd) (names.zip as) (fun _ => none) n <;> exact id
      · exact ((I.store b x q).pass pA fun _ z => z).mono S fun y z => hk₁ b y z
    · rw [← hσ] at e
      rcases ptCells_in e with ⟨n, q, rfl⟩ | q
      · exact (cellAt n b q).lt
      · exact Nat.lt_of_lt_of_le (I.top b x q) (Nat.le_trans I.size sz)
    · rw [hfr] at f
      rcases f with q | q
      · subst q; exact ⟨hn.lt, oL, hL⟩
      · obtain ⟨x, y, z⟩ := I.marks b q
        exact ⟨Nat.lt_of_lt_of_le x sz, (out0 b (Nat.le_of_lt x)).trans y, z⟩
  have F : FRel B (callEnvC fd s.heap.objs.size a) (bL (kinds fd) (names.zip xs) []) σ₁ h₁ := ⟨oL, hL, by rw [hfr]; exact .inl rfl, _, hn, fun y v e => by
    have := ML y
    rw [e] at this
    change match some v, bindL (kinds fd) (names.zip as) (fun _ => none) y with | none, none => True | some v, some u => VRel B σ₁ h₁ v u | _, _ => False at this
    change ∃ u, bindL (kinds fd) (names.zip as) (fun _ => none) y = some u ∧ VRel B σ₁ h₁ v u
    revert this
    cases bindL (kinds fd) (names.zip as) (fun _ => none) y with
    | none => exact False.elim
    | some u => exact fun q => ⟨u, rfl, q⟩⟩
  have hh := h s.heap.objs.size h₁.objs.size I.size I.fresh I.above hn.lt (fun p hp => by rw [hcs] at hp; exact (cellAt p.1 p.2 hp).lt)
  rw [hcs, hσ] at hh
  refine bot (hh (A.deeper _) _ k.deeper I₁ F) fun f s' e => ?_
  have z := back_ends (σ := σ) rfl hk₁ out (fun _ q => by rw [hfr]; exact Or.inr q) (Nat.le_trans I.size sz) e
  cases f <;> exact z
end
end
noncomputable section
section
variable {B : Cx} {d : Nat} {env : Env} {l : Loc} {σ : Store} {N : Nat}

/-! ints -/
section
variable {a b : Int} {Q : Post V}
theorem O_add (h : Q (.int (a + b)) σ N) : W2 B d (VRel B) (binaryOp .Add) (.int a) (.int b) σ N Q := fun A s x y k I r r' => by
  obtain ⟨_, rfl⟩ := r.inv; obtain ⟨_, rfl⟩ := r'.inv; exact PyProof.Rows.add_int (.here I.toks (.refl _ _) (.int _ _) h)
theorem O_sub (h : Q (.int (a - b)) σ N) : W2 B d (VRel B) (binaryOp .Sub) (.int a) (.int b) σ N Q := fun A s x y k I r r' => by
  obtain ⟨_, rfl⟩ := r.inv; obtain ⟨_, rfl⟩ := r'.inv; exact PyProof.Rows.sub_int (.here I.toks (.refl _ _) (.int _ _) h)
theorem O_mul (hm : IntMulOk a b) (h : Q (.int (a * b)) σ N) : W2 B d (VRel B) (binaryOp .Mult) (.int a) (.int b) σ N Q := fun A s x y k I r r' => by
  obtain ⟨_, rfl⟩ := r.inv; obtain ⟨_, rfl⟩ := r'.inv; exact PyProof.Rows.mul_int (.here I.toks (.refl _ _) (.int _ _) h) hm
theorem O_mod (hb : b ≠ 0) (h : Q (.int (a.fmod b)) σ N) : W2 B d (VRel B) (binaryOp .Mod) (.int a) (.int b) σ N Q := fun A s x y k I r r' => by
  obtain ⟨_, rfl⟩ := r.inv; obtain ⟨_, rfl⟩ := r'.inv; exact PyProof.Rows.mod_int hb (.here I.toks (.refl _ _) (.int _ _) h)
theorem O_fdiv (hb : b ≠ 0) (hs : b.natAbs < 1073741824) (h : Q (.int (a.fdiv b)) σ N) : W2 B d (VRel B) (binaryOp .FloorDiv) (.int a) (.int b) σ N Q := fun A s x y k I r r' => by
  obtain ⟨_, rfl⟩ := r.inv; obtain ⟨_, rfl⟩ := r'.inv; exact PyProof.Rows.floordiv_int hb (.here I.toks (.refl _ _) (.int _ _) h) (.inl (PyProof.noPylong_small hs))
theorem O_shr (hb : 0 ≤ b) (h : Q (.int (a.fdiv (2 ^ b.toNat))) σ N) : W2 B d (VRel B) (binaryOp .RShift) (.int a) (.int b) σ N Q := fun A s x y k I r r' => by
  obtain ⟨_, rfl⟩ := r.inv; obtain ⟨_, rfl⟩ := r'.inv; exact PyProof.Rows.rshift_int_or k.handled (fun q => absurd q (Int.not_lt.mpr hb)) fun _ => .here I.toks (.refl _ _) (.int _ _) h
theorem O_lt (h : Q (.bool (decide (a < b))) σ N) : W2 B d (VRel B) (compareOp .Lt) (.int a) (.int b) σ N Q := fun A s x y k I r r' => by
  obtain ⟨_, rfl⟩ := r.inv; obtain ⟨_, rfl⟩ := r'.inv; exact PyProof.Rows.lt_int (.here I (.refl _ _) (.bool _) h)
theorem O_le (h : Q (.bool (decide (a ≤ b))) σ N) : W2 B d (VRel B) (compareOp .LtE) (.int a) (.int b) σ N Q := fun A s x y k I r r' => by
  obtain ⟨_, rfl⟩ := r.inv; obtain ⟨_, rfl⟩ := r'.inv; exact PyProof.Rows.le_int (.here I (.refl _ _) (.bool _) h)
theorem O_gt (h : Q (.bool (decide (b < a))) σ N) : W2 B d (VRel B) (compareOp .Gt) (.int a) (.int b) σ N Q := fun A s x y k I r r' => by
  obtain ⟨_, rfl⟩ := r.inv; obtain ⟨_, rfl⟩ := r'.inv; exact PyProof.Rows.gt_int (.here I (.refl _ _) (.bool _) h)
theorem O_ge (h : Q (.bool (decide (b ≤ a))) σ N) : W2 B d (VRel B) (compareOp .GtE) (.int a) (.int b) σ N Q := fun A s x y k I r r' => by
  obtain ⟨_, rfl⟩ := r.inv; obtain ⟨_, rfl⟩ := r'.inv; exact PyProof.Rows.ge_int (.here I (.refl _ _) (.bool _) h)
theorem O_eq (h : Q (.bool (decide (a = b))) σ N) : W2 B d (VRel B) (compareOp .Eq) (.int a) (.int b) σ N Q := fun A s x y k I r r' => by
  obtain ⟨_, rfl⟩ := r.inv; obtain ⟨_, rfl⟩ := r'.inv; exact PyProof.Rows.eq_int (.here I (.refl _ _) (.bool _) (by rw [show (a == b) = decide (a = b) from rfl]; exact h))
theorem O_ne (h : Q (.bool (!decide (a = b))) σ N) : W2 B d (VRel B) (compareOp .NotEq) (.int a) (.int b) σ N Q := fun A s x y k I r r' => by
  obtain ⟨_, rfl⟩ := r.inv; obtain ⟨_, rfl⟩ := r'.inv; exact PyProof.Rows.ne_int (.here I (.refl _ _) (.bool _) (by rw [show (a != b) = !decide (a = b) from rfl]; exact h))
end
/-! strs -/
section
variable {x y : Str} {Q : Post V}
theorem S_add (hz : x.length + y.length ≤ sizeLine) (h : Q (.str (x ++ y)) σ N) : W2 B d (VRel B) (binaryOp .Add) (.str x) (.str y) σ N Q := fun A s _ _ k I r r' => by
  obtain ⟨_, rfl⟩ := r.inv; obtain ⟨_, rfl⟩ := r'.inv; exact PyProof.Rows.add_str (fun _ _ => .here I.toks (.refl _ _) (.str _ _) h) hz
theorem S_eq (h : Q (.bool (decide (x = y))) σ N) : W2 B d (VRel B) (compareOp .Eq) (.str x) (.str y) σ N Q := fun A s _ _ k I r r' => by
  obtain ⟨_, rfl⟩ := r.inv; obtain ⟨_, rfl⟩ := r'.inv; exact PyProof.Rows.eq_str (.here I (.refl _ _) (.bool _) (by rw [show (x == y) = decide (x = y) from by by_cases z : x = y <;> simp [z]]; exact h))
theorem S_ne (h : Q (.bool (!decide (x = y))) σ N) : W2 B d (VRel B) (compareOp .NotEq) (.str x) (.str y) σ N Q := fun A s _ _ k I r r' => by
  obtain ⟨_, rfl⟩ := r.inv; obtain ⟨_, rfl⟩ := r'.inv; exact PyProof.Rows.ne_str (.here I (.refl _ _) (.bool _) (by rw [show (x != y) = !decide (x = y) from by by_cases z : x = y <;> simp [z]]; exact h))
theorem S_lt (h : Q (.bool (decide (x.cps.toList < y.cps.toList))) σ N) : W2 B d (VRel B) (compareOp .Lt) (.str x) (.str y) σ N Q := fun A s _ _ k I r r' => by
  obtain ⟨_, rfl⟩ := r.inv; obtain ⟨_, rfl⟩ := r'.inv; exact PyProof.Rows.lt_str (.here I (.refl _ _) (.bool _) h)
theorem S_gt (h : Q (.bool (decide (y.cps.toList < x.cps.toList))) σ N) : W2 B d (VRel B) (compareOp .Gt) (.str x) (.str y) σ N Q := fun A s _ _ k I r r' => by
  obtain ⟨_, rfl⟩ := r.inv; obtain ⟨_, rfl⟩ := r'.inv; exact PySem.P.gt_str (.here I (.refl _ _) (.bool _) h)
theorem S_in (h : Q (.bool !(Builtin.Str.occurrences x y 0 x.length 1).isEmpty) σ N) : W2 B d (VRel B) (compareOp .In) (.str y) (.str x) σ N Q := fun A s _ _ k I r r' => by
  obtain ⟨_, rfl⟩ := r.inv; obtain ⟨_, rfl⟩ := r'.inv; exact PyProof.Rows.in_str (.here I (.refl _ _) (.bool _) h)
end
/-! truth -/
section
variable {Q : Post Bool}
theorem T_bool {b : Bool} (h : Q b σ N) : W1 B d BRel truthy (.bool b) σ N Q := fun A s x k I r => by
  obtain ⟨_, rfl⟩ := r.inv; exact wpAny_truthy_bool (.here I (.refl _ _) rfl h)
theorem T_list {u : V} {xs : List V} (hs : ListV σ u xs) (hz : xs.length < 2 ^ 40) (h : Q (!xs.isEmpty) σ N) : W1 B d BRel truthy u σ N Q := fun A s x k I r => by
  obtain ⟨a, items, n, rfl, ho, rl⟩ := hs.at I r
  have hl := rl.length
  refine wpAny_truthy_list (items := items) ⟨_, ho, rfl, n, rfl⟩ ?_ (.here I.toks (.refl _ _) ?_ h)
  · rw [← Array.length_toList, ← hl]; exact ar143 hz
  · have : items.isEmpty = xs.isEmpty := by
      rw [← Array.isEmpty_toList]
      revert rl
      generalize items.toList = ys
      intro rl
      cases rl <;> rfl
    rw [this]
theorem T_str {x : Str} (hz : x.length < 2 ^ 40) (h : Q (decide (x.length ≠ 0)) σ N) : W1 B d BRel truthy (.str x) σ N Q := fun A s _ k I r => by
  obtain ⟨_, rfl⟩ := r.inv
  exact PySem.P.truthy_str (by exact ar53 hz) (.here I.toks (.refl _ _) (by by_cases z : x.length = 0 <;> simp [z]) h)
theorem O_not {x : V} {Q : Post V} (h : W1 B d BRel truthy x σ N fun c σ₁ N₁ => Q (.bool (!c)) σ₁ N₁) : W1 B d (VRel B) (unaryOp .Not) x σ N Q := fun A s a k I r =>
  not_of (bot (h A s a k I r) fun c s' ⟨c', σ₁, N₁, e, I₁, S, n, q⟩ => ⟨_, σ₁, N₁, by rw [← show c' = c from e]; exact .bool _, I₁, S, n, q⟩)
end

/-! calls -/
section
variable {x : Str} {p pos : Pos} {args : List Expr} {e : Expr} {es : List Expr} {Q : Post V}
noncomputable def CW (B : Cx) (d : Nat) (env : Env) (l : Loc) (pos : Pos) (f : V) (first : List V) (args : List Expr) (σ : Store) (N : Nat) (Q : Post V) : Prop :=
  ∀ A s fv fs, Ok d A → Inv B σ N s → FRel B env l σ s.heap → VRel B σ s.heap f fv → VRelL B σ s.heap first fs → wpAny (model B.prog B.w) A (callWith pos fv fs (backTo pos (starEach args env)) []) (Ends B (VRel B) σ N s.heap Q) (fun _ _ => False) s
theorem CW_of {f : V} {fv : Value} {first : List V} (hfv : ∀ σ h v, VRel B σ h f v → v = fv) (P : Store → Prop) (hP : ∀ σ N s, P σ → Inv B σ N s → ∃ k, (k = Keeper.frame ∨ k = Keeper.machine ∨ k = Keeper.boundFrame) ∧ Looks (model B.prog B.w) s.heap (keeperOf fv) k)
    (h : WA B d env l pos (e :: es) σ N fun vs σ₁ N₁ => P σ₁ ∧ WC B d fv (first ++ vs) σ₁ N₁ Q) (he : starEach (e :: es) env = (false, eval e env) :: starEach es env := by rfl) (hplain : (backTo pos (starEach es env)).any (·.1) = false := by rfl) : CW B d env l pos f first (e :: es) σ N Q :=
  fun A s v fs k I F r rs => by
    obtain rfl := hfv _ _ _ r
    have h := h
    unfold WA at h
    rw [he] at h ⊢
    refine callWith_of (P := fun hp => ∃ σ₁ N₁ s₁, P σ₁ ∧ Inv B σ₁ N₁ s₁ ∧ s₁.heap = hp) (by show ((false || (backTo pos (starEach es env)).any (·.1)) || false) = false; rw [hplain]; rfl) (fun hp ⟨σ₁, N₁, s₁, p, I₁, e⟩ => e ▸ hP σ₁ N₁ s₁ p I₁) (evalArgs_plain ?_)
    exact h.seq (ρ' := VRel B) k I F fun as us σ₁ N₁ s₁ r₁ I₁ F₁ S₁ n₁ ⟨p, h₁⟩ => ⟨⟨σ₁, N₁, s₁, p, I₁, rfl⟩, bot (h₁ A s₁ (fs ++ as) k I₁ ((rs.mono S₁).app r₁)) fun c s₂ q => q.after S₁ n₁⟩
theorem CW_of0 {f : V} {fv : Value} {first : List V} (hfv : ∀ σ h v, VRel B σ h f v → v = fv) (hP : ∀ N s, Inv B σ N s → ∃ k, (k = Keeper.frame ∨ k = Keeper.machine ∨ k = Keeper.boundFrame) ∧ Looks (model B.prog B.w) s.heap (keeperOf fv) k)
    (h : WC B d fv first σ N Q) : CW B d env l pos f first [] σ N Q :=
  fun A s v fs k I F r rs => by
    obtain rfl := hfv _ _ _ r
    refine callWith_of (P := fun hp => hp = s.heap) rfl (fun hp e => e ▸ hP N s I) (evalArgs_nil3 ⟨rfl, ?_⟩)
    rw [List.append_nil]
    exact h A s fs k I rs
theorem keeps_fn {M : Model} {h : Heap} {f : Nat} {o : Obj} {fd : FuncData} (e : h.get? f = some o) (hd : o.data = .func fd) : ∃ k, (k = Keeper.frame ∨ k = Keeper.machine ∨ k = Keeper.boundFrame) ∧ Looks M h (keeperOf (.ref f)) k := by
  obtain ⟨c, dd, dt, sl⟩ := o
  cases hd
  exact ⟨.frame, .inl rfl, (Looks.ld (part := none) e).andThen .now⟩
theorem CW_fn {f : Nat} {u : V} {first : List V} (hu : ∀ σ h v, VRel B σ h u v → v = .ref f) (h : WA B d env l pos (e :: es) σ N fun vs σ₁ N₁ => (∃ fd, FnAt B σ₁ f fd) ∧ WC B d (.ref f) (first ++ vs) σ₁ N₁ Q)
    (he : starEach (e :: es) env = (false, eval e env) :: starEach es env := by rfl) (hplain : (backTo pos (starEach es env)).any (·.1) = false := by rfl) : CW B d env l pos u first (e :: es) σ N Q :=
  CW_of hu (fun σ => ∃ fd, FnAt B σ f fd) (fun σ N s ⟨fd, p⟩ I => let ⟨o, a, b⟩ := p.get I; keeps_fn a b) h he hplain
theorem CW_fn0 {f : Nat} {fd : FuncData} {u : V} {first : List V} (hu : ∀ σ h v, VRel B σ h u v → v = .ref f) (hf : FnAt B σ f fd) (h : WC B d (.ref f) first σ N Q) : CW B d env l pos u first [] σ N Q :=
  CW_of0 hu (fun N s I => let ⟨o, a, b⟩ := hf.get I; keeps_fn a b) h
theorem V.ref_is {f : Nat} : ∀ σ h v, VRel B σ h (.ref f) v → v = .ref f := fun _ _ _ r => by obtain ⟨_, rfl⟩ := r.inv; rfl
theorem V.lit_is {w : Value} : ∀ σ h v, VRel B σ h (.lit w) v → v = w := fun _ _ _ r => by obtain ⟨_, rfl⟩ := r.inv; rfl
theorem CW_B {id : String} {first : List V} (h : WA B d env l pos (e :: es) σ N fun vs σ₁ N₁ => WC B d (.builtin id) (first ++ vs) σ₁ N₁ Q) (he : starEach (e :: es) env = (false, eval e env) :: starEach es env := by rfl) (hplain : (backTo pos (starEach es env)).any (·.1) = false := by rfl) :
    CW B d env l pos (.lit (.builtin id)) first (e :: es) σ N Q :=
  fun A s v fs k I F r rs => by
    obtain ⟨_, rfl⟩ := r.inv
    have h := h
    unfold WA at h
    rw [he] at h ⊢
    exact callWith_builtin (by show (false || (backTo pos (starEach es env)).any (·.1)) = false; rw [hplain]; rfl) (evalArgs_plain (h.seq (ρ' := VRel B) k I F fun as us σ₁ N₁ s₁ r₁ I₁ F₁ S₁ n₁ h₁ => bot (h₁ A s₁ (fs ++ as) k I₁ ((rs.mono S₁).app r₁)) fun c s₂ q => q.after S₁ n₁))
theorem CW_B0 {id : String} {first : List V} (h : WC B d (.builtin id) first σ N Q) : CW B d env l pos (.lit (.builtin id)) first [] σ N Q :=
  fun A s v fs k I F r rs => by
    obtain ⟨_, rfl⟩ := r.inv
    refine callWith_builtin rfl (evalArgs_nil3 ?_)
    show wpAny _ _ (call (.builtin id) (fs ++ []) []) _ _ _
    rw [List.append_nil]
    exact h A s fs k I rs
theorem CW_T {T : String} {first : List V} (h : WA B d env l pos (e :: es) σ N fun vs σ₁ N₁ => WC B d (.type T) (first ++ vs) σ₁ N₁ Q) (he : starEach (e :: es) env = (false, eval e env) :: starEach es env := by rfl) (hplain : (backTo pos (starEach es env)).any (·.1) = false := by rfl) :
    CW B d env l pos (.lit (.type T)) first (e :: es) σ N Q :=
  fun A s v fs k I F r rs => by
    obtain ⟨_, rfl⟩ := r.inv
    have h := h
    unfold WA at h
    rw [he] at h ⊢
    exact PySem.callWith_type (by show (false || (backTo pos (starEach es env)).any (·.1)) = false; rw [hplain]; rfl) (evalArgs_plain (h.seq (ρ' := VRel B) k I F fun as us σ₁ N₁ s₁ r₁ I₁ F₁ S₁ n₁ h₁ => bot (h₁ A s₁ (fs ++ as) k I₁ ((rs.mono S₁).app r₁)) fun c s₂ q => q.after S₁ n₁))
/-- a call of a name -/
theorem E_call (h : WE B d env l (.Name x p) σ N fun f σ₁ N₁ => CW B d env l pos f [] args σ₁ N₁ Q) : WE B d env l (.Call (.Name x p) args [] pos) σ N Q :=
  fun A s k I F => wpAny_Call_NameR (h.seq (ρ' := VRel B) k I F fun a u σ₁ N₁ s₁ r I₁ F₁ S₁ n₁ h₁ => bot (h₁ A s₁ a [] k I₁ F₁ r .nil) fun c s₂ q => q.after S₁ n₁)
/-- the kind of a value -/
inductive TypeV (σ : Store) : V → String → Prop
  | str (x : Str) : TypeV σ (.str x) "str"
  | int (i : Int) : TypeV σ (.int i) "int"
  | tup (xs : List V) : TypeV σ (.tup xs) "tuple"
  | list {u : V} {xs : List V} (h : ListV σ u xs) : TypeV σ u "list"
  | dict {u : V} {xs : List (Kx × V)} (h : DictV σ u xs) : TypeV σ u "dict"
theorem TypeV.is {x : V} {T : String} {s : Shared} {v : Value} (t : TypeV σ x T) (I : Inv B σ N s) (r : VRel B σ s.heap x v) : s.TypeIs v T ∧ ∀ a, v = .ref a → ∃ o, s.heap.get? a = some o ∧ o.dict = none := by
  cases t with
  | str x => obtain ⟨_, rfl⟩ := r.inv; exact ⟨rfl, fun _ e => nomatch e⟩
  | int x => obtain ⟨_, rfl⟩ := r.inv; exact ⟨rfl, fun _ e => nomatch e⟩
  | tup x => obtain ⟨_, _, _, rfl, ho, hs, hl⟩ := r.inv; exact ⟨⟨_, ho, rfl⟩, fun a e => by cases e; exact ⟨_, ho, rfl⟩⟩
  | list h => obtain ⟨a, items, n, rfl, ho, _⟩ := h.at I r; exact ⟨⟨_, ho, rfl⟩, fun a e => by cases e; exact ⟨_, ho, rfl⟩⟩
  | dict h => obtain ⟨a, kvs, ep, rfl, _, ⟨o, es, ho, hx, _⟩, _⟩ := h.at I r; exact ⟨⟨_, ho, hx.1⟩, fun a e => by cases e; exact ⟨_, ho, hx.2.1⟩⟩
end
end
end
noncomputable section
section
variable {B : Cx} {d : Nat} {env : Env} {l : Loc} {σ : Store} {N : Nat} {a : Nat} {xs : List V}

theorem VRelL.size {h : Heap} {items : Array Value} (r : VRelL B σ h xs items.toList) : xs.length = items.size := r.length.trans (by simp)
theorem get_mapSeq {h : Heap} {items : Array Value} {n : Nat} (ho : h.get? a = some (listObj items n)) (f : Array Value → Array Value) : ∃ n', (h.update a (Obj.mapSeq f)).get? a = some (listObj (f items) n') :=
  ⟨_, Heap.get?_update_self _ ho rfl⟩
theorem Inv.updList {s : Shared} (I : Inv B σ N s) (hs : σ a = some (.list xs)) {items : Array Value} {n : Nat} (ho : s.heap.get? a = some (listObj items n)) (f : Array Value → Array Value) {ys : List V} (r : VRelL B σ s.heap ys (f items).toList) :
    Inv B (pt σ a (.list ys)) N { s with heap := s.heap.update a (Obj.mapSeq f) } ∧ Step σ s.heap (pt σ a (.list ys)) (s.heap.update a (Obj.mapSeq f)) := by
  have hx : Heap.ExtBut a s.heap (s.heap.update a (Obj.mapSeq f)) := (Heap.SameBut.update ..).extBut
  have hi : σ a ≠ none ∨ (s.heap.get? a = none ∧ s.heap.objs.size ≤ a) := .inl (by rw [hs]; nofun)
  have S : Step σ s.heap (pt σ a (.list ys)) (s.heap.update a (Obj.mapSeq f)) := .put hx hi
  obtain ⟨n', e⟩ := get_mapSeq ho f
  exact ⟨Inv.put (s' := { s with heap := s.heap.update a (Obj.mapSeq f) }) I hx hi ⟨_, n', e, r.mono S⟩ (Nat.le_refl _) (I.top a _ hs) (Nat.le_trans I.size (Nat.le_of_eq (Heap.size_after_update ..).symm)) (Nat.le_of_eq (Heap.size_after_update ..).symm) rfl rfl, S⟩

theorem Inv.sameList {s : Shared} {h' : Heap} (I : Inv B σ N s) (hs : σ a = some (.list xs)) (hx : Heap.SameBut a s.heap h') {items : Array Value} (ho : h'.PlainList a items) {ys : List V} (r : VRelL B σ s.heap ys items.toList) :
    Inv B (pt σ a (.list ys)) N { s with heap := h' } ∧ Step σ s.heap (pt σ a (.list ys)) h' := by
  have hi : σ a ≠ none ∨ (s.heap.get? a = none ∧ s.heap.objs.size ≤ a) := .inl (by rw [hs]; nofun)
  have S : Step σ s.heap (pt σ a (.list ys)) h' := .put hx.extBut hi
  obtain ⟨n', e⟩ := ho
  exact ⟨Inv.put (s' := { s with heap := h' }) I hx.extBut hi ⟨_, n', e, r.mono S⟩ (Nat.le_refl _) (I.top a _ hs) (Nat.le_trans I.size (Nat.le_of_eq hx.1.symm)) (Nat.le_of_eq hx.1.symm) rfl rfl, S⟩
theorem seqIndex_nat {i : Int} {n : Nat} (h0 : 0 ≤ i) (h : i.toNat < n) : seqIndex? i n = some i.toNat := by
  unfold seqIndex?
  simp only [show ¬ i < 0 from Int.not_lt.mpr h0, if_false]
  simp; exact ar144 h0 h
theorem L_append {v : V} {Q : Post V} (hs : σ a = some (.list xs)) (hz : xs.length < 2 ^ 20) (h : Q .none (pt σ a (.list (xs ++ [v]))) N) : WC B d (.builtin "list.append") [.ref a, v] σ N Q := fun A s as k I r => by
  cases r with | cons r1 r2 => cases r2 with | cons r2 r3 =>
  cases r3; cases r1
  rename_i y
  obtain ⟨items, n, ho, rl⟩ := I.store a _ hs
  have hl := rl.size
  refine wpAny_list_append_plain ⟨n, ho⟩ (fun h' hp hsb => ?_) (by show _ ≤ 2 ^ 24; exact ar145 hz hl)
  obtain ⟨I', S'⟩ := I.sameList hs hsb hp (ys := xs ++ [v]) (by rw [Array.toList_push]; exact rl.app (.cons r2 .nil))
  exact ⟨.none, _, N, .none, I', S', Nat.le_refl _, h⟩
theorem L_popLast {v : V} {Q : Post V} {ys : List V} (hs : σ a = some (.list (ys ++ [v]))) (hz : ys.length < 2 ^ 20) (h : Q v (pt σ a (.list ys)) N) : WC B d (.builtin "list.pop") [.ref a] σ N Q := fun A s as k I r => by
  obtain ⟨_, _, rfl, r1, r2⟩ := r.cons'
  obtain rfl := r2.nil'; obtain ⟨_, rfl⟩ := r1.inv
  obtain ⟨items, n, ho, rl⟩ := I.store a _ hs
  have hl := rl.size
  rw [List.length_append, List.length_singleton] at hl
  obtain ⟨y, hy, ry⟩ := rl.get (i := ys.length) (a := v) (by simp)
  have e1 : items.size - 1 = ys.length := by exact ar146 hl
  have hy' : items[items.size - 1]? = some y := by rw [e1, ← Array.getElem?_toList]; exact hy
  obtain ⟨I', S'⟩ := I.updList hs ho (fun zs => zs.eraseIdxIfInBounds (items.size - 1)) (ys := ys) (by
    have : (items.eraseIdxIfInBounds (items.size - 1)).toList = items.toList.take ys.length := by
      rw [e1]
      have hlt : ys.length < items.size := by exact ar147 hl
      rw [Array.eraseIdxIfInBounds, dif_pos hlt, Array.toList_eraseIdx, List.eraseIdx_eq_take_drop_succ, List.drop_of_length_le (by simp; exact ar148 hl), List.append_nil]
    rw [this]
    have := rl.take ys.length
    rwa [List.take_left] at this)
  exact call_meets F.slot_list_pop ⟨_, ho, rfl⟩ F.entry_list_pop (F.args_list_pop_1 _) (MeetsSeq.list_pop_last a items n y hy' (by show _ ≤ 2 ^ 24; exact ar54 hz hl)) ⟨ho, ⟨v, _, N, ry.mono S', I', S', Nat.le_refl _, h⟩⟩
theorem L_pop0 {v : V} {Q : Post V} {ys : List V} (hs : σ a = some (.list (v :: ys))) (hz : ys.length < 2 ^ 20) (h : Q v (pt σ a (.list ys)) N) : WC B d (.builtin "list.pop") [.ref a, .int 0] σ N Q := fun A s as k I r => by
  cases r with | cons r1 r2 => cases r2 with | cons r2 r3 =>
  cases r3; cases r1; cases r2
  obtain ⟨items, n, ho, rl⟩ := I.store a _ hs
  have hl := rl.size
  rw [List.length_cons] at hl
  obtain ⟨y, hy, ry⟩ := rl.get (i := 0) (a := v) rfl
  have hy' : items[0]? = some y := by rw [← Array.getElem?_toList]; exact hy
  obtain ⟨I', S'⟩ := I.updList hs ho (fun zs => zs.eraseIdxIfInBounds 0) (ys := ys) (by
    have hlt : 0 < items.size := by exact ar55 hl
    have : (items.eraseIdxIfInBounds 0).toList = items.toList.drop 1 := by
      rw [Array.eraseIdxIfInBounds, dif_pos hlt, Array.toList_eraseIdx, List.eraseIdx_zero, List.drop_one]
    rw [this]
    exact rl.drop 1)
  have hk : seqIndex? 0 items.size = some 0 := seqIndex_nat (Int.le_refl _) (by show 0 < _; exact ar55 hl)
  exact call_meets F.slot_list_pop ⟨_, ho, rfl⟩ F.entry_list_pop (F.args_list_pop_2 _ _) (MeetsSeq.list_pop_at a items n 0 _ 0 y (by decide) hk hy' (by show _ ≤ 2 ^ 24; exact ar54 hz hl)) ⟨ho, ⟨v, _, N, ry.mono S', I', S', Nat.le_refl _, h⟩⟩
theorem L_extend {w : V} {ys : List V} {Q : Post V} (hs : σ a = some (.list xs)) (hb : ListV σ w ys) (hz : xs.length + ys.length < 2 ^ 20) (h : Q .none (pt σ a (.list (xs ++ ys))) N) : WC B d (.builtin "list.extend") [.ref a, w] σ N Q := fun A s as k I r => by
  cases r with | cons r1 r2 => cases r2 with | cons r2 r3 =>
  cases r3; cases r1
  obtain ⟨items, n, ho, rl⟩ := I.store a _ hs
  obtain ⟨b, items2, n2, rfl, ho2, rl2⟩ := hb.at I r2
  have hl := rl.size
  have hl2 := rl2.size
  obtain ⟨I', S'⟩ := I.updList hs ho (fun zs => zs ++ items2) (ys := xs ++ ys) (by rw [Array.toList_append]; exact rl.app rl2)
  have hd : ¬(!items.isEmpty && Builtin.List.listTooLong (items.size + items2.size)) = true := by
    have : Builtin.List.listTooLong (items.size + items2.size) = false := by
      unfold Builtin.List.listTooLong; rw [sizeLine_eq]; simp; exact ar149 hz hl hl2
    simp [this]
  exact call_meets F.slot_list_extend ⟨_, ho, rfl⟩ F.entry_list_extend (F.args_list_extend_2 _ _) (AutoSeq1.list_extend_list_list_0 a items n b items2 n2 hd (by show _ ≤ 2 ^ 24; exact ar150 hz hl) (by show _ ≤ 2 ^ 24 + 1; exact ar151 hz hl hl2)) ⟨ho, ho2, ⟨.none, _, N, .none, I', S', Nat.le_refl _, h⟩⟩
/-! len, items -/
theorem C_lenList {u : V} {Q : Post V} (hs : ListV σ u xs) (hz : xs.length < 2 ^ 40) (h : Q (.int xs.length) σ N) : WC B d (.builtin "len") [u] σ N Q := fun A s as k I r => by
  obtain ⟨_, _, rfl, r1, r2⟩ := r.cons'
  obtain rfl := r2.nil'
  obtain ⟨a, items, n, rfl, ho, rl⟩ := hs.at I r1
  have hl := rl.size
  exact call_len_list (items := items) ⟨_, ho, rfl, n, rfl⟩ (by exact ar152 hz hl) (.here I.toks (.refl _ _) (by rw [← hl]; exact .int _ _) h)
theorem G_list {u : V} {i : Int} {v : V} {Q : Post V} (hs : ListV σ u xs) (h0 : 0 ≤ i) (hi : i < 2 ^ 60) (hx : xs[i.toNat]? = some v) (h : Q v σ N) : W2 B d (VRel B) getItem u (.int i) σ N Q := fun A s x y k I r r' => by
  obtain ⟨_, rfl⟩ := r'.inv
  obtain ⟨a, items, n, rfl, ho, rl⟩ := hs.at I r
  obtain ⟨y, hy, ry⟩ := rl.get hx
  exact wpAny_getItem_list (items := items) ⟨_, ho, rfl, n, rfl⟩ h0 (by exact ar56 hi) (by rw [← Array.getElem?_toList]; exact hy) (.here I (.refl _ _) ry h)
theorem G_tup {i : Int} {v : V} {Q : Post V} (h0 : 0 ≤ i) (hi : i < 2 ^ 60) (hx : xs[i.toNat]? = some v) (h : Q v σ N) : W2 B d (VRel B) getItem (.tup xs) (.int i) σ N Q := fun A s x y k I r r' => by
  obtain ⟨_, rfl⟩ := r'.inv
  cases r with
  | tup ho hs' rl =>
    rename_i items
    obtain ⟨y, hy, ry⟩ := rl.get hx
    have hlt : i.toNat < items.size := by have := (List.getElem?_eq_some_iff.mp hy).1; simpa using this
    exact PySem.P.getItem_tuple ho (by exact ar153 h0) (by exact ar56 hi) (seqIndex_nat h0 hlt) (by rw [← Array.getElem?_toList]; exact hy) (.here I (.refl _ _) ry h)
/-- `o[i]` within an expression -/
theorem U_of {value slice : Expr} {o i : V} {T id : String} {Q : Post V} (ht : TypeV σ o T) (hl : typeLookup (.type T) "__getitem__" = pure (some (.builtin id))) (hsub : ∀ a b : Value, subscripted slice false a b = operate [a, b] (getItem a b))
    (h : W2 B d (VRel B) getItem o i σ N Q) : W2 B d (VRel B) (subscriptTail value slice) o i σ N Q := fun A s x y k I r r' =>
  tail_any (ht.is I r).1 hl (h A s x y k I r r') (hsub x y)
theorem WE_sub {value slice : Expr} {pos : Pos} {Q : Post V} (h : WE B d env l value σ N fun o σ₁ N₁ => WE B d env l slice σ₁ N₁ fun i σ₂ N₂ => W2 B d (VRel B) (subscriptTail value slice) o i σ₂ N₂ Q) : WE B d env l (.Subscript value slice pos) σ N Q :=
  fun A s k I F => Subscript_ (h.seq (ρ' := VRel B) k I F fun a u σ₁ N₁ s₁ r I₁ F₁ S₁ n₁ h₁ => h₁.seq (ρ' := VRel B) k I₁ F₁ fun b v σ₂ N₂ s₂ r₂ I₂ F₂ S₂ n₂ h₂ =>
    bot (h₂ A s₂ a b k I₂ (r.mono S₂) r₂) fun c s₃ e => e.after (S₁.trans S₂) (Nat.le_trans n₁ n₂))
theorem U_list {u : V} {value slice : Expr} {i : Int} {v : V} {Q : Post V} (hs : ListV σ u xs) (h0 : 0 ≤ i) (hi : i < 2 ^ 60) (hx : xs[i.toNat]? = some v) (h : Q v σ N) (hsub : ∀ a b : Value, subscripted slice false a b = operate [a, b] (getItem a b) := by intro _ _; with_unfolding_all rfl) :
    W2 B d (VRel B) (subscriptTail value slice) u (.int i) σ N Q := U_of (.list hs) slot_list_getitem.lookup hsub (G_list hs h0 hi hx h)
theorem U_tup {value slice : Expr} {i : Int} {v : V} {Q : Post V} (h0 : 0 ≤ i) (hi : i < 2 ^ 60) (hx : xs[i.toNat]? = some v) (h : Q v σ N) (hsub : ∀ a b : Value, subscripted slice false a b = operate [a, b] (getItem a b) := by intro _ _; with_unfolding_all rfl) :
    W2 B d (VRel B) (subscriptTail value slice) (.tup xs) (.int i) σ N Q := U_of (.tup _) F.slot_tuple_getitem.lookup hsub (G_tup h0 hi hx h)
theorem S_setList {i : Int} {v : V} {Q : Post Unit} (hs : σ a = some (.list xs)) (h0 : 0 ≤ i) (hi : i < xs.length) (hz : xs.length < 2 ^ 40) (h : Q () (pt σ a (.list (xs.set i.toNat v))) N) : W3 B d URel setItem (.ref a) (.int i) v σ N Q := fun A s x y c k I r r' rv => by
  obtain ⟨_, rfl⟩ := r.inv; obtain ⟨_, rfl⟩ := r'.inv
  obtain ⟨items, n, ho, rl⟩ := I.store a _ hs
  have hl := rl.size
  obtain ⟨I', S'⟩ := I.updList hs ho (fun zs => zs.setIfInBounds i.toNat c) (ys := xs.set i.toNat v) (by rw [Array.toList_setIfInBounds]; exact rl.set rv _)
  exact ki_setAt ho h0 (by exact ar154 hi hz) (by exact ar155 hi hl) ⟨(), _, N, trivial, I', S', Nat.le_refl _, h⟩
end
end
noncomputable section
/-! tuples of ints and strs, compared -/
noncomputable def eqS : V → V → Bool
  | .int a, .int b => decide (a = b)
  | .str a, .str b => decide (a = b)
  | _, _ => false
noncomputable def ltS : V → V → Bool
  | .int a, .int b => decide (a < b)
  | .str a, .str b => decide (a.cps.toList < b.cps.toList)
  | _, _ => false
inductive SameS : V → V → Prop
  | int (a b : Int) : SameS (.int a) (.int b)
  | str (a b : Str) : SameS (.str a) (.str b)
noncomputable def lexLt : List V → List V → Bool
  | [], [] => false
  | [], _ :: _ => true
  | _ :: _, [] => false
  | x :: xs, y :: ys => if eqS x y = true then lexLt xs ys else ltS x y
inductive LexOk : List V → List V → Prop
  | nil : LexOk [] []
  | cons {x y : V} {xs ys : List V} (h : SameS x y) (r : LexOk xs ys) : LexOk (x :: xs) (y :: ys)

section
variable {prog : Program} {w : World} {A : Around} {E : Value → Shared → Prop} {s : Shared} {σ : Store} {h : Heap}
theorem eqBool_S {x y : V} {a b : Value} {Q : Bool → Shared → Prop} (k : SameS x y) (ra : VRel B σ h x a) (rb : VRel B σ h y b) (q : Q (eqS x y) s) : wpAny (model prog w) A (eqBool a b) Q E s := by
  cases k with
  | int i j => obtain ⟨_, rfl⟩ := ra.inv; obtain ⟨_, rfl⟩ := rb.inv; exact wpAny_eqBool_int q
  | str i j => obtain ⟨_, rfl⟩ := ra.inv; obtain ⟨_, rfl⟩ := rb.inv; exact wpAny_eqBool_str q
theorem lt_S {x y : V} {a b : Value} {Q : Value → Shared → Prop} (k : SameS x y) (ra : VRel B σ h x a) (rb : VRel B σ h y b) (q : Q (.bool (ltS x y)) s) : wpAny (model prog w) A (richCompare .Lt a b) Q E s := by
  cases k with
  | int i j => obtain ⟨_, rfl⟩ := ra.inv; obtain ⟨_, rfl⟩ := rb.inv; exact PyProof.Rows.lt_int q
  | str i j => obtain ⟨_, rfl⟩ := ra.inv; obtain ⟨_, rfl⟩ := rb.inv; exact PyProof.Rows.lt_str q
theorem tuple_lt_tree {xs ys : List V} {a b : Nat} {ia ib : Array Value} {na nb : Nat} {P : Fin → Shared → Prop} (ha : s.heap.get? a = some ⟨.type "tuple", none, .seq ia na, #[]⟩) (hb : s.heap.get? b = some ⟨.type "tuple", none, .seq ib nb, #[]⟩)
    (ra : VRelL B σ h xs ia.toList) (rb : VRelL B σ h ys ib.toList) (k : LexOk xs ys) (q : P (.done (.ret (.bool (lexLt xs ys)))) s) : wpAny (model prog w) A (Builtin.«tuple.__lt__» ⟨[.ref a, .ref b], []⟩) P E s := by
  show wpAny _ _ (isInstance (.ref b) (.type "tuple") >>= _) _ _ s
  refine wpAny_bind (wpAny_isInstance ⟨_, hb, rfl⟩ isSubtype_tuple_tuple ?_)
  simp only [Bool.not_true, Bool.false_eq_true, if_false]
  refine wpAny_bind (wpAny_tupleItemsOf ha rfl ?_)
  refine wpAny_bind (wpAny_tupleItemsOf hb rfl ?_)
  refine wpAny_bind ?_
  refine wpAny_forIn_list _ (fun rest r s' => r.1 = none ∧ s' = s ∧ ∃ xs' ys' us vs, rest = List.zip us vs ∧ VRelL B σ h xs' us ∧ VRelL B σ h ys' vs ∧ LexOk xs' ys' ∧ lexLt xs' ys' = lexLt xs ys ∧ ia.size = ib.size) _ ?_ ?_ _ _ ⟨rfl, rfl, xs, ys, ia.toList, ib.toList, rfl, ra, rb, k, rfl, ?_⟩
  · rintro ⟨u, v⟩ rest r s' ⟨hr, rfl, xs', ys', us, vs, hz, r1, r2, k', e, hsz⟩
    cases k' with
    | nil => obtain rfl := r1.nil'; cases hz
    | cons k1 k2 =>
      obtain ⟨_, _, rfl, c1, c2⟩ := r1.cons'
      obtain ⟨_, _, rfl, d1, d2⟩ := r2.cons'
      simp only [List.zip_cons_cons, List.cons.injEq, Prod.mk.injEq] at hz
      obtain ⟨⟨rfl, rfl⟩, rfl⟩ := hz
      refine wpAny_bind (eqBool_S k1 c1 d1 ?_)
      rw [lexLt] at e
      rename_i x y xs'' ys'' _ _
      cases z : eqS x y with
      | true =>
        rw [if_pos z] at e
        simp only [Bool.not_true, Bool.false_eq_true, if_false]
        exact wpAny_pure ⟨rfl, rfl, _, _, _, _, rfl, c2, d2, k2, e, hsz⟩
      | false =>
        rw [if_neg (by rw [z]; exact Bool.false_ne_true)] at e
        simp only [Bool.not_false, if_true]
        refine wpAny_bind (wpAny_rule (wpAny_bind (lt_S k1 c1 d1 (wpAny_bind (wpAny_pure (wpAny_pure ?_))))))
        rw [e]
        exact wpAny_pure q
  · rintro ⟨r1, r2⟩ s' ⟨hr, rfl, xs', ys', us, vs, hz, c1, c2, k', e, hsz⟩
    simp only at hr
    subst hr
    cases k' with
    | cons _ _ => cases c1 with | cons _ _ => cases c2 with | cons _ _ => cases hz
    | nil =>
      refine wpAny_pure ?_
      show P (.done (.ret (.bool (decide (ia.size < ib.size))))) s'
      rw [hsz, show decide (ib.size < ib.size) = false from decide_eq_false (Nat.lt_irrefl _), show false = lexLt xs ys from e]
      exact q
  · have h1 := ra.length
    have h2 := rb.length
    have : xs.length = ys.length := by
      clear q h1 h2 ra rb
      induction k with
      | nil => rfl
      | cons _ _ ih => simp [ih]
    simp only [Array.length_toList] at h1 h2
    exact ar156 h1 h2 this
end
section
variable {B : Cx} {d : Nat} {σ : Store} {N : Nat} {xs ys : List V}
theorem P_lt {Q : Post V} (k : LexOk xs ys) (h : Q (.bool (lexLt xs ys)) σ N) : W2 B d (VRel B) (compareOp .Lt) (.tup xs) (.tup ys) σ N Q := fun A s a b hk I r r' => by
  cases r with | tup ha _ ra =>
  cases r' with | tup hb _ rb =>
  refine cmp_ofLt (wpAny_richCompare_same_room (T := "tuple") ⟨_, ha, rfl⟩ ⟨_, hb, rfl⟩ F.slot_tuple_lt (wpAny_call_entry F.slot_tuple_lt ⟨_, ha, rfl⟩ F.entry_tuple_lt (tuple_lt_tree ha hb ra rb k ⟨_, rfl, by simp, ?_⟩) (F.args_tuple_lt_2 _ _)) ?_)
  · exact .here I (.refl _ _) (.bool _) h
  · have := hk.units; show _ < 9900; exact ar157 this
end
end
noncomputable section
/-! no run makes the heap smaller -/
theorem runs_grow {M : Model} {Γ : PySem.Ctx} {p : Pos} {t : Sem Fin} {fs : List Frame} {s s' : Shared} {e : End} (h : Runs M Γ p t fs s e s') : s.heap.objs.size ≤ s'.heap.objs.size := by
  induction h with
  | done | raise | yield => exact Nat.le_refl _
  | again _ _ ih | rule _ ih | «at» _ ih | load _ _ ih | loadIfAlive _ ih | point _ ih | fresh _ ih | ask _ ih | choose _ _ ih | os _ ih | handled _ ih | genState _ _ ih | stack _ ih | thread _ ih | newGen _ ih | callSusp _ ih | resumeJustStarted _ _ _ ih | resumeThrowFresh _ _ ih | resumeRunning _ _ ih | resumeFinished _ _ ih | segSuspOut _ _ ih => exact ih
  | update _ _ ih => exact Nat.le_trans (Nat.le_of_eq (Heap.size_after_update ..).symm) ih
  | alloc _ ih => exact Nat.le_trans (Nat.le_succ _) (Nat.le_trans (Nat.le_of_eq (Heap.size_push ..).symm) ih)
  | call _ _ ih ih' | segRet _ _ ih ih' | segGen _ _ ih ih' => exact Nat.le_trans ih ih'
  | resumeFresh _ _ _ _ ih ih' | resumeSuspended _ _ _ _ ih ih' | segSuspGen _ _ _ _ ih ih' => exact Nat.le_trans ih ih'
theorem wakes_grow {M : Model} {Γ : PySem.Ctx} {p : Pos} {g : Nat} {r : Resume} {s s' : Shared} {res : GenResult} (h : Wakes M Γ p g r s res s') : s.heap.objs.size ≤ s'.heap.objs.size := by
  unfold Wakes at h
  split at h
  · exact h.elim
  · split at h
    · obtain ⟨e, s₁, hr, _, _, rfl⟩ := h; have := runs_grow hr; exact this
    · rw [h.2]; exact Nat.le_refl _
    · rw [h.2]; exact Nat.le_refl _
  · obtain ⟨e, s₁, hr, _, _, rfl⟩ := h; have := runs_grow hr; exact this
  · rw [h.2]; exact Nat.le_refl _
  · rw [h.2]; exact Nat.le_refl _
theorem wp_grow {α : Type} {M : Model} {Γ : PySem.Ctx} (n : Nat) (t : Sem α) {Q : α → Pos → Shared → Prop} {E : Value → Pos → Shared → Prop} (p : Pos) (s : Shared) (hn : n ≤ s.heap.objs.size) (h : Sem.wp M Γ t Q E p s) :
    Sem.wp M Γ t (fun a p' s' => Q a p' s' ∧ n ≤ s'.heap.objs.size) (fun a p' s' => E a p' s' ∧ n ≤ s'.heap.objs.size) p s := by
  induction t generalizing p s with
  | pure a => exact ⟨h, hn⟩
  | raise a => exact ⟨h, hn⟩
  | unsupported | finish | yield | fork | await | register => exact h
  | rule _ k ih | «at» _ k ih | loadIfAlive _ k ih | point _ k ih | fresh k ih | ask k ih | os _ _ k ih | handled _ k ih | newGen _ k ih | stack k ih | thread k ih => exact ih _ _ _ hn h
  | alloc o k ih => exact ih _ _ _ (Nat.le_trans hn (Nat.le_trans (Nat.le_succ _) (Nat.le_of_eq (Heap.size_push ..).symm))) h
  | load a _ k ih | genState a k ih => exact h.imp fun o h => ⟨h.1, ih _ _ _ hn h.2⟩
  | choose _ _ k ih => exact ⟨h.1, ih _ _ _ hn h.2⟩
  | update a _ f k ih => exact ⟨h.1, ih _ _ _ (Nat.le_trans hn (Nat.le_of_eq (Heap.size_after_update ..).symm)) h.2⟩
  | call c h' g l k ih => exact h.imp fun r h => h.imp fun s' h => ⟨h.1, ih _ _ _ (Nat.le_trans hn (runs_grow h.1)) h.2⟩
  | resume g r l k ih => exact h.imp fun r h => h.imp fun s' h => ⟨h.1, ih _ _ _ (Nat.le_trans hn (wakes_grow h.1)) h.2⟩
theorem any_grow {α : Type} {M : Model} {A : Around} {t : Sem α} {Q : α → Shared → Prop} {E : Value → Shared → Prop} {s : Shared} (h : wpAny M A t Q E s) : wpAny M A t (fun a s' => Q a s' ∧ s.heap.objs.size ≤ s'.heap.objs.size) E s :=
  fun Γ p hΓ => Sem.wp_mono M Γ t (fun _ _ _ x => x) (fun _ _ _ x => x.1) p s (wp_grow _ t p s (Nat.le_refl _) (h Γ p hΓ))
end
noncomputable section
noncomputable def isMany : Expr → Bool
  | .Tuple .. | .List .. => true
  | _ => false
theorem notMany {target : Expr} (h : isMany target = false) : ∀ it v, letOwnedTupleGo target it v = pure () := fun x v => by
  cases target <;> first | rfl | cases h
/-- an iterator `it` that hands out `item 0 .. item (n - 1)`, to targets of the kind `many` -/
structure Iter (B : Cx) (many : Bool) (σ₁ : Store) (h₁ : Heap) (it n : Nat) (item : Nat → V) (Dep : Store → Prop) (St : Nat → Heap → Prop) : Prop where
  frame : ∀ i h h', St i h → (∀ o, h.get? it = some o → h'.get? it = some o) → St i h'
  notup : ∀ i h, St i h → NoFz it h ∧ ∃ o, h.get? it = some o
  self : ∀ i A s R E, St i s.heap → R (.ref it) s → wpAny (model B.prog B.w) A (pyIter (.ref it)) R E s
  next : ∀ target, isMany target = many → ∀ i A s σ N (R : Value → Shared → Prop) (E : Value → Shared → Prop), i < n → A.handled = none → Dep σ → Inv B σ N s → Pass σ₁ h₁ σ s.heap → σ it = none → St i s.heap →
    (∀ v h' tk, VRel B σ h' (item i) v → St (i + 1) h' → Heap.ExtBut it s.heap h' → R v { s with heap := h', toks := tk }) →
    wpAny (model B.prog B.w) A (pyNext (.ref it)) (fun r s₁ => ∃ v, r = some v ∧ wpAny (model B.prog B.w) A (letOwnedTupleGo target (.ref it) v) (fun _ s₂ => R v s₂) E s₁) E s
  stop : ∀ A s σ N R E, A.handled = none → Dep σ → Inv B σ N s → Pass σ₁ h₁ σ s.heap → St n s.heap →
    (∀ h' tk, Heap.ExtBut it s.heap h' → R none { s with heap := h', toks := tk }) → wpAny (model B.prog B.w) A (pyNext (.ref it)) R E s
/-- what `iter(x)` hands out -/
noncomputable def IterOk (B : Cx) (many : Bool) (x : V) (σ : Store) (n : Nat) (item : Nat → V) (Dep : Store → Prop) : Prop :=
  Dep σ ∧ ∀ A s N a R E, A.handled = none → Inv B σ N s → VRel B σ s.heap x a →
    (∀ o St, Iter B many σ s.heap s.heap.objs.size n item Dep St → St 0 (s.heap.push o) → R (.ref s.heap.objs.size) { s with heap := s.heap.push o }) → wpAny (model B.prog B.w) A (pyIter a) R E s
noncomputable def ownTypes : List String := ["enumerate", "zip", "dict_itemiterator", "dict_reverseitemiterator", "odict_iterator", "itertools.zip_longest", "itertools.pairwise"]
theorem go_any {M : Model} {A : Around} {E : Value → Shared → Prop} {s : Shared} {target : Expr} {it : Nat} {v : Value} {o : Obj} {T : String} {Q : Shared → Prop} (ho : s.heap.get? it = some o) (hc : o.cls = .type T) (hT : ownTypes.contains T = false) (q : Q s) : wpAny M A (letOwnedTupleGo target (.ref it) v) (fun _ s' => Q s') E s := by
  have body : wpAny M A (do
      let (.ref r, .ref a) := (Value.ref it, v) | return
      let o ← load r
      match o.cls, o.data with
      | .type n, .fields vs =>
        if ["enumerate", "zip", "dict_itemiterator", "dict_reverseitemiterator", "odict_iterator", "itertools.zip_longest", "itertools.pairwise"].contains n && vs[0]? == some (rawInt a) then
          rule "for.unpacks-the-owned-tuple"
          updateField r 0 .none
      | _, _ => pure ()) (fun _ s' => Q s') E s := by
    cases v with
    | ref a =>
      refine wpAny_bind (wpAny_load ho ?_)
      obtain ⟨c, od, dt, sl⟩ := o
      dsimp only at hc
      subst hc
      cases dt with
      | fields vs =>
        show wpAny _ _ (if (ownTypes.contains T && _) = true then _ else _) _ _ _
        rw [hT, Bool.false_and, if_neg Bool.false_ne_true]
        exact wpAny_pure q
      | _ => exact wpAny_pure q
    | _ => exact wpAny_pure q
  cases target with
  | Tuple a b c => exact body
  | List a b => exact body
  | _ => exact wpAny_pure q

section
variable {B : Cx} {d : Nat} {env : Env} {l : Loc} {σ : Store} {N : Nat} {rest body : List Stmt} {Q : PostS}
theorem Inv.base_none {s : Shared} (I : Inv B σ N s) {a : Nat} (h : s.heap.get? a = none) : B.h₀.get? a = none := by
  cases q : B.h₀.get? a with
  | none => rfl
  | some o => have := (I.base _ _ q).1; rw [h] at this; cases this

theorem not_frozen {o : Obj} {T : String} (h : o.cls = .type T) (ht : T ∉ ["tuple", "range", "slice", "dict_items", "dict_values", "list", "dict"]) : ¬ Frozen o := fun f => by
  have := f
  unfold Frozen at this
  rw [h] at this
  simp only [List.mem_cons, List.not_mem_nil, or_false, Value.type.injEq] at this ht
  exact ht this

/-! lists -/
theorem iter_list {many : Bool} {u : V} {xs : List V} (hs : ListV σ u xs) : IterOk B many u σ xs.length (fun i => xs.getD i .none) (fun σ => ListV σ u xs) :=
  ⟨hs, fun A s N v R E hh I r k => by
    obtain ⟨a, items, n, rfl, ho, rl⟩ := hs.at I r
    have hne : a ≠ s.heap.objs.size := Nat.ne_of_lt (Heap.lt_size ho)
    refine wpAny_pyIter_list (items := items) ⟨_, ho, rfl, n, rfl⟩ (k _ (fun i h => h.IsListIter s.heap.objs.size a i) ⟨?_, ?_, ?_, ?_, ?_⟩ ⟨_, Heap.get?_push_size _ rfl, rfl, rfl⟩)
    · exact fun i h h' ⟨o, e, r⟩ k => ⟨o, k o e, r⟩
    · exact fun i h ⟨o, e, hc, r⟩ => ⟨fun o' e' f => by rw [e] at e'; cases e'; exact not_frozen hc (by decide) f, o, e⟩
    · exact fun i A s R E st q => wpAny_pyIter_listiter st q
    · intro target _ i A s' σ' N' R E hi hh hd I' rx hou st q
      obtain ⟨a', its, m, e', ho', rl'⟩ := hd.at I' (r.pass rx)
      cases e'
      obtain ⟨y, hy, ry⟩ := rl'.get (List.getElem?_eq_getElem hi)
      have hN : NoTup σ' s.heap.objs.size s'.heap := by obtain ⟨o, e, hc, r⟩ := st; exact .inr fun o' e' f => by rw [e] at e'; cases e'; exact not_frozen hc (by decide) f
      refine wpAny_pyNext_list_item st (items := its) ⟨_, ho', rfl, m, rfl⟩ (by rw [← Array.getElem?_toList]; exact hy) fun h' st' hsb => ⟨y, rfl, ?_⟩
      obtain ⟨o, e, hc, r⟩ := id st'
      refine go_any (Q := R y) e hc (by decide) (q y h' _ ?_ st' hsb.extBut)
      show VRel B σ' _ (xs.getD i .none) y
      rw [List.getD_eq_getElem?_getD, List.getElem?_eq_getElem hi]; exact ry.pass (StepL.pass (.of_ext hsb.extBut hou) hN)
    · intro A s' σ' N' R E hh hd I' rx st q
      obtain ⟨a', its, m, e', ho', rl'⟩ := hd.at I' (r.pass rx)
      cases e'
      refine wpAny_pyNext_list_end hh st (items := its) ⟨_, ho', rfl, m, rfl⟩ ?_ fun h' hx => q h' _ hx
      rw [Array.getElem?_eq_none]; rw [← rl'.size]; exact Nat.le_refl _⟩

/-! range(n) -/
noncomputable def rangeObj (n : Int) (t u v : Tok) : Obj := { cls := .type "range", data := .fields #[.int 0 t, .int n u, .int 1 v] }
theorem frozen_range {n : Int} {t u v : Tok} : Frozen (rangeObj n t u v) := .tail _ (.head _)
theorem C_range {n : Int} {Q : Post V} (h : ∀ t u v, Q (.imm (rangeObj n t u v)) σ N) : WC B d (.type "range") [.int n] σ N Q := fun A s as k I r => by
  obtain ⟨_, _, rfl, r1, r2⟩ := r.cons'
  obtain rfl := r2.nil'; obtain ⟨_, rfl⟩ := r1.inv
  exact call_range_1 (.here (Inv.toks (Inv.push I)) .push (.imm (Heap.get?_push_size _ rfl) I.free frozen_range) (h _ _ _))
theorem iter_range {many : Bool} {n : Nat} {t u v : Tok} (hn : (n : Int) < 2 ^ 60) : IterOk B many (.imm (rangeObj n t u v)) σ n (fun i => .int i) (fun _ => True) :=
  ⟨trivial, fun A s N a R E hh I r k => by
    obtain ⟨_, rfl, ho, hs, hf⟩ := r.inv
    have hsz : Builtin.Range.rangeSize 0 n 1 = n := by
      unfold Builtin.Range.rangeSize
      rw [if_pos (by decide)]
      by_cases z : (0 : Int) < n
      · rw [if_pos z]; exact ar158
      · rw [if_neg z]; exact ar159 z
    refine wpAny_pyIter_range ho (by
      have hf : Builtin.Range.rangeFitsLong (n : Int) = true := by unfold Builtin.Range.rangeFitsLong; simp; exact ar160 hn
      unfold Builtin.Range.small; rw [hsz, if_pos (by decide), show (n : Int) + (1 - 1) = n from by exact ar161, hf]; simp; decide) (k _ (fun i h => IsRangeIter h s.heap.objs.size i ((n : Int) - i) 1) ⟨?_, ?_, ?_, ?_, ?_⟩ ?_)
    · exact fun i h h' e k => k _ e
    · exact fun i h e => ⟨fun o' e' f => by rw [show h.get? s.heap.objs.size = _ from e] at e'; cases e'; exact not_frozen rfl (by decide) f, _, e⟩
    · exact fun i A s R E st q => wpAny_pyIter_rangeiter st q
    · intro target _ i A s' σ' N' R E hi hh hd I' rx hou st q
      refine wpAny_pyNext_range_item st (by exact ar162 hi) fun h' st' hsb => ⟨_, rfl, ?_⟩
      have : (n : Int) - (i : Nat) - 1 = (n : Int) - ((i + 1 : Nat) : Int) := by exact ar163
      rw [this] at st'
      exact go_any (Q := R _) (show h'.get? _ = _ from st') rfl (by decide) (q _ h' _ (.int _ _) st' hsb.extBut)
    · intro A s' σ' N' R E hh hd I' rx st q
      exact wpAny_pyNext_range_end hh st (by exact ar164) fun h' hx => q h' _ hx
    · show IsRangeIter _ _ _ _ _
      rw [hsz]
      have : (n : Int) - ((0 : Nat) : Int) = n := by exact ar165
      rw [this]
      exact Heap.get?_push_size _ rfl⟩

/-- a target takes its value -/
noncomputable def WAs (B : Cx) (d : Nat) (env : Env) (l : Loc) (target : Expr) (v : V) (σ : Store) (N : Nat) (K : Loc → Store → Nat → Prop) : Prop :=
  ∀ A s a R E, Ok d A → Inv B σ N s → FRel B env l σ s.heap → VRel B σ s.heap v a →
    (∀ s' l' σ' N', Inv B σ' N' s' → StepL env.locals σ s.heap σ' s'.heap → FRel B env l' σ' s'.heap → N ≤ N' → K l' σ' N' → R () s') → wpAny (model B.prog B.w) A (assign target env a) R E s
theorem A_name {x : Str} {p : Pos} {v : V} {K : Loc → Store → Nat → Prop} (h : K (upd l x v) σ N) (hl : env.kindOf x = some .local := by rfl) (hk : env.scope.kind = .function := by rfl) : WAs B d env l (.Name x p) v σ N K :=
  fun A s a R E k I F r q => wpAny_assign_Name (store_local I F r hl hk fun s' I' F' S' => q s' _ σ N I' S' F' (Nat.le_refl _) h)
theorem A_cell {x : Str} {p : Pos} {c : Nat} {v : V} {v₀ : Option V} {K : Loc → Store → Nat → Prop} (hc : env.cells.lookup x = some c) (hs : σ c = some (.cell v₀)) (h : K l (pt σ c (.cell (some v))) N) (hl : env.kindOf x = some .cell := by rfl) (hk : env.scope.kind = .function := by rfl) : WAs B d env l (.Name x p) v σ N K :=
  fun A s a R E k I F r q => wpAny_assign_Name (store_cell I F r hl hk hc hs fun s' I' F' S' => q s' _ _ N I' (S'.toL _) F' (Nat.le_refl _) h)

/-- what a turn of a for loop hands on -/
noncomputable def ForTurn (B : Cx) (d : Nat) (env : Env) (rest : List Stmt) (Q : PostS) (J : Loc → Store → Nat → Prop) : PostS := fun x l σ N => match x with
  | .next | .cont => ∃ l', LSub l' l ∧ J l' σ N
  | .brk => WX B d env l rest σ N Q
  | .ret v => Q (.ret v) l σ N
/-- what follows the source of a for -/
noncomputable def ForAfter (B : Cx) (d : Nat) (env : Env) (target : Expr) (body rest : List Stmt) (Q : PostS) (x : V) (l : Loc) (σ : Store) (N : Nat) : Prop :=
  ∀ A s a, Ok d A → Inv B σ N s → FRel B env l σ s.heap → VRel B σ s.heap x a → wpAny (model B.prog B.w) A (pyIter a) (fun it s₂ =>
    codeAny (model B.prog B.w) A (.forLoop target it body [] env) (fun r s' => match r with | .ok f => EndS B env σ N s.heap (Then B d env rest Q) f s' | .error e => cameBackBy (model B.prog B.w) A env (fun _ _ => False) e s') s₂) (fun _ _ => False) s
theorem X_for {target iter : Expr} {pos : Pos} (h : WE B d env l iter σ N fun x σ₁ N₁ => ForAfter B d env target body rest Q x l σ₁ N₁) (hs : ∀ x, foldedSetIterable iter env x = pure x) : WX B d env l (.For target iter body [] pos :: rest) σ N Q :=
  X_cons fun A s k I F => wpAny_For (h.seq (ρ' := VRel B) k I F fun a x σ₁ N₁ s₁ r I₁ F₁ S₁ n₁ h₁ => bot (h₁ A s₁ a k I₁ F₁ r) fun it s₂ h₂ => codeAny_mono h₂ fun r s' q => by
    cases r with
    | ok f => exact EndS.after (S₁.toL _) n₁ q
    | error e => exact q) hs
inductive FI (B : Cx) (env : Env) (σ : Store) (N : Nat) (h : Heap) (n : Nat) (J : Nat → Loc → Store → Nat → Prop) (St : Nat → Heap → Prop) (m : Nat) (s' : Shared) : Prop
  | mk (i : Nat) (l' : Loc) (σ' : Store) (N' : Nat) (hi : i ≤ n) (hm : m = n - i) (hJ : J i l' σ' N') (I : Inv B σ' N' s') (S : StepL env.locals σ h σ' s'.heap) (F : FRel B env l' σ' s'.heap) (n' : N ≤ N') (st : St i s'.heap) (ho : σ' h.objs.size = none)
theorem For_items {target : Expr} {x : V} (h : ∃ n item Dep, IterOk B (isMany target) x σ n item Dep ∧ ∃ (J : Nat → Loc → Store → Nat → Prop) (l₀ : Loc), LSub l₀ l ∧ J 0 l₀ σ N ∧
      (∀ i l σ N', J i l σ N' → N ≤ N' → Dep σ) ∧
      (∀ i l σ N', i < n → J i l σ N' → N ≤ N' → WAs B d env l target (item i) σ N' fun l' σ' N'' => WX B d env l' body σ' N'' (ForTurn B d env rest Q (J (i + 1)))) ∧
      ∀ l σ N', J n l σ N' → N ≤ N' → WX B d env l rest σ N' Q) : ForAfter B d env target body rest Q x l σ N := fun A s₁ a k I₁ F₁ r => by
    obtain ⟨n, item, Dep, ⟨hdep, hit⟩, J, l₀, hl₀, h₀, hD, turn, fin⟩ := h
    refine hit A s₁ N a _ _ k.handled I₁ r fun o St W hst => ?_
    have S₀ : StepL env.locals σ s₁.heap σ (s₁.heap.push o) := (Step.push).toL _
    have hfresh : s₁.heap.get? s₁.heap.objs.size = none := get_fresh _
    have hb : B.h₀.get? s₁.heap.objs.size = none := I₁.base_none hfresh
    refine codeAny_forLoop_any (FI B env σ N s₁.heap n J St)
      (fun m s' ⟨i, l', σ', N', hi, hm, hJ, I', S', F', n', st, ho⟩ => ?_) n ⟨0, l₀, σ, N, Nat.zero_le _, rfl, h₀, I₁.push, ⟨fun b o _ e n => ⟨Heap.get?_push_of_some _ e, n⟩, rfl⟩, (F₁.mono .push).less hl₀, Nat.le_refl _, hst, I₁.fresh⟩
    have hLn : env.locals ≠ s₁.heap.objs.size := by
      obtain ⟨mm, hn, _⟩ := F₁.ns
      exact Nat.ne_of_lt hn.lt
    have fin' : ∀ {s'' : Shared} {σ'' : Store}, StepL env.locals σ s₁.heap σ'' s''.heap → StepL env.locals σ s₁.heap σ'' s''.heap := fun q => q
    by_cases hlt : i < n
    · refine bot (any_grow (W.next target rfl i A s' σ' N' (fun v s'' => ∃ h' tk, s'' = { s' with heap := h', toks := tk } ∧ VRel B σ' h' (item i) v ∧ St (i + 1) h' ∧ Heap.ExtBut s₁.heap.objs.size s'.heap h') (fun _ _ => False) hlt k.handled (hD i l' σ' N' hJ n') I' (S'.pass F₁.noTup) ho st fun v h' tk r1 r2 r3 => ⟨h', tk, rfl, r1, r2, r3⟩)) ?_
      rintro _ s'' ⟨⟨v, rfl, hgo⟩, hsz₀⟩
      refine bot (any_grow hgo) ?_
      rintro _ _ ⟨⟨h', tk, rfl, rv, st', hsb⟩, hsz₁⟩
      have hsz := Nat.le_trans hsz₀ hsz₁
      have hN : NoTup σ' s₁.heap.objs.size s'.heap := .inr (W.notup i _ st).1
      have SL : StepL s₁.heap.objs.size σ' s'.heap σ' h' := .of_ext hsb ho
      have I'' : Inv B σ' N' { s' with heap := h', toks := tk } := Inv.frame (s' := { s' with heap := h', toks := tk }) I' hsb ho hb hN hsz rfl rfl
      have F'' : FRel B env l' σ' h' := by
        obtain ⟨mm, hn, km⟩ := F'.ns
        exact ⟨F'.out, F'.new, F'.mark, mm, hn.extBut hsb hLn, fun y u e => let ⟨b, h1, h2⟩ := km y u e; ⟨b, h1, h2.pass (StepL.pass SL hN)⟩⟩
      refine turn i l' σ' N' hlt hJ n' A { s' with heap := h', toks := tk } v _ _ k I'' F'' rv fun s₃ l₃ σ₃ N₃ I₃ S₃ F₃ n₃ h₃ => ?_
      refine bot (h₃ A s₃ k I₃ F₃) fun f s₄ ⟨y, l₄, σ₄, N₄, rf, I₄, S₄, F₄, n₄, q⟩ => ?_
      have nn : N ≤ N₄ := Nat.le_trans (Nat.le_trans n' n₃) n₄
      have S₅ : StepL env.locals σ s₁.heap σ₄ s₄.heap := ⟨fun b o hb e nn => by
        obtain ⟨e1, e2⟩ := S'.keep b o hb e nn
        have hbn : b ≠ s₁.heap.objs.size := Nat.ne_of_lt (Heap.lt_size e)
        obtain ⟨e3, e4⟩ := S₃.keep b o hb (hsb b o hbn e1) e2
        exact S₄.keep b o hb e3 e4, S₄.fr.trans (S₃.fr.trans S'.fr)⟩
      obtain ⟨oi, hoi⟩ := (W.notup _ _ st').2
      have hi3 := S₃.keep _ _ (Ne.symm hLn) hoi ho
      have hi4 := S₄.keep _ _ (Ne.symm hLn) hi3.1 hi3.2
      have st4 : St (i + 1) s₄.heap := W.frame _ _ _ st' fun o e => by rw [hoi] at e; cases e; exact hi4.1
      cases rf with
      | next => obtain ⟨l₅, hl₅, hj⟩ := q; exact ⟨n - (i + 1), by exact arb1 hi hm hlt, i + 1, l₅, σ₄, N₄, hlt, rfl, hj, I₄, S₅, F₄.less hl₅, nn, st4, hi4.2⟩
      | cont => obtain ⟨l₅, hl₅, hj⟩ := q; exact ⟨n - (i + 1), by exact arb1 hi hm hlt, i + 1, l₅, σ₄, N₄, hlt, rfl, hj, I₄, S₅, F₄.less hl₅, nn, st4, hi4.2⟩
      | brk => exact ⟨.next, l₄, σ₄, N₄, .next, I₄, fin' S₅, F₄, nn, q⟩
      | ret rv => exact ⟨_, l₄, σ₄, N₄, .ret rv, I₄, fin' S₅, F₄, nn, q⟩
    · obtain rfl : i = n := by exact ar30 hi hlt
      refine bot (any_grow (W.stop A s' σ' N' (fun r s'' => ∃ h' tk, r = none ∧ s'' = { s' with heap := h', toks := tk } ∧ Heap.ExtBut s₁.heap.objs.size s'.heap h') (fun _ _ => False) k.handled (hD i l' σ' N' hJ n') I' (S'.pass F₁.noTup) st fun h' tk hx => ⟨h', tk, rfl, rfl, hx⟩)) ?_
      rintro _ _ ⟨⟨h', tk, rfl, rfl, hx⟩, hsz⟩
      have hN : NoTup σ' s₁.heap.objs.size s'.heap := .inr (W.notup i _ st).1
      have SL : StepL s₁.heap.objs.size σ' s'.heap σ' h' := .of_ext hx ho
      have I'' : Inv B σ' N' { s' with heap := h', toks := tk } := Inv.frame (s' := { s' with heap := h', toks := tk }) I' hx ho hb hN hsz rfl rfl
      have F'' : FRel B env l' σ' h' := by
        obtain ⟨mm, hn, km⟩ := F'.ns
        exact ⟨F'.out, F'.new, F'.mark, mm, hn.extBut hx hLn, fun y u e => let ⟨b, h1, h2⟩ := km y u e; ⟨b, h1, h2.pass (StepL.pass SL hN)⟩⟩
      refine wpAny_execs_nil ⟨.next, l', σ', N', .next, I'', fin' ⟨fun b o hb e nn => ?_, S'.fr⟩, F'', n', fin l' σ' N' hJ n'⟩
      obtain ⟨e1, e2⟩ := S'.keep b o hb e nn
      exact ⟨hx b o (Nat.ne_of_lt (Heap.lt_size e)) e1, e2⟩
end
end
noncomputable section
section
variable {B : Cx} {d : Nat} {env : Env} {l : Loc} {σ : Store} {N : Nat}

/-- the tests of a comprehension -/
noncomputable abbrev WTs (B : Cx) (d : Nat) (env : Env) (l : Loc) (ifs : List Expr) (σ : Store) (N : Nat) (K : Post Bool) : Prop :=
  WF B d env l BRel (forIn ifs true fun c r => if r = true then do let ok ← isTrue c env (eval c env); pure (ForInStep.yield ok) else pure (ForInStep.yield r)) σ N K
theorem Ts_nil {K : Post Bool} (h : K true σ N) : WTs B d env l [] σ N K := fun A s k I F => wpAny_tests_nil (.here I (.refl _ _) rfl h)
theorem Ts_one {c : Expr} {K : Post Bool} (h : WB B d env l c σ N K) : WTs B d env l [c] σ N K := fun A s k I F => wpAny_tests_one (h A s k I F)

/-- the two kinds of comprehension, by what they share -/
structure CK (e target iter : Expr) (ifs : List Expr) (act : Nat → Env → Sem Unit) : Prop where
  clauses : clausesOf e = [⟨target, iter, ifs, 0⟩]
  turn : ∀ it a env, compTurn e 0 it (.ref a) env = (do
      standAt iter.pos
      match ← pyNext it with
      | none => pure (.done .next)
      | some v =>
        letOwnedTupleGo target it v
        assign target env v
        let mut ok := true
        for c in ifs do
          if ok then ok ← isTrue c env (eval c env)
        if ok then act a env
        again (.compLoop e 0 it (.ref a) env))
  loop : ∀ {prog : Program} {w : World} {A : Around} {R : Result → Shared → Prop} {s : Shared} {it : Value} {a : Nat} {env : Env} (I : Nat → Shared → Prop), (∀ n s, I n s → wpAny (model prog w) A (compTurn e 0 it (.ref a) env)
      (fun fin s' => match fin with | .done f => R (.ok f) s' | .again c' => c' = .compLoop e 0 it (.ref a) env ∧ ∃ m, m < n ∧ I m s') (fun _ _ => False) s) → ∀ n, I n s → codeAny (model prog w) A (.compLoop e 0 it (.ref a) env) R s
  start : ∀ {prog : Program} {w : World} {A : Around} {R : Result → Shared → Prop} {s : Shared} {it acc : Value} {env : Env}, codeAny (model prog w) A (.compLoop e 0 it acc env) R s →
    wpAny (model prog w) A (pyIter it) (fun it' s' => codeAny (model prog w) A (.compLoop e 0 it' acc env) R s') (notedBy (model prog w) A env fun x s' => R (.error x) s') s → codeAny (model prog w) A (.compStart e 0 it acc env) R s
theorem ck_list (elt target iter : Expr) (ifs : List Expr) (scope : Scope) (pos : Pos) : CK (.ListComp elt [⟨target, iter, ifs, 0⟩] scope pos) target iter ifs (fun a env => do let _ ← call (.builtin "list.append") [.ref a, ← eval elt env]) :=
  ⟨rfl, fun it a env => compTurn_list _ _ _ _ _ _ _ _ _, fun {prog w A R s it a env} I h n h0 => codeAny_loop rfl I (fun n s hI => by
    show wpAny _ A ((compTurn (.ListComp elt [⟨target, iter, ifs, 0⟩] scope pos) 0 it (.ref a) env).onRaise (fun x => do noteFrame x env; theTreesLotGoes x)) _ _ s
    exact wpAny_noted (bot (h n s hI) fun _ _ x => x)) n h0, codeAny_compStart_list⟩
/-- a marked thing taken in hand, and given back -/
noncomputable def own (σ : Store) (a : Nat) (o : AObj) : Store := ⟨fun b => if b = a then some o else σ b, fun b => σ.fr b ∧ b ≠ a⟩
theorem Pass.own {h : Heap} {a : Nat} {o : AObj} (hf : σ.fr a) : Pass σ h (own σ a o) h := ⟨fun b x e _ n => by
  have ne : b ≠ a := fun q => n.2 (q ▸ hf)
  exact ⟨e, (if_neg ne).trans n.1, fun q => n.2 q.1⟩⟩
theorem Inv.own {s : Shared} {a : Nat} {o : AObj} (I : Inv B σ N s) (hr : ORel B σ s.heap a o) (hf : σ.fr a) (ha : a < N) : Inv B (own σ a o) N s :=
  ⟨fun b x e => by
    by_cases z : b = a
    · subst z; rw [show Mine.own σ b o b = some o from if_pos rfl] at e; cases e; exact hr.pass (.own hf) fun _ q => q
    · rw [show Mine.own σ a o b = σ b from if_neg z] at e; exact (I.store b x e).pass (.own hf) fun _ q => q,
   fun b x e => ⟨(I.base b x e).1, (if_neg (fun q => by have z := (I.marks a hf).2.2; rw [← q, e] at z; cases z) : Mine.own σ a o b = σ b).trans (I.base b x e).2⟩, I.gens, I.os,
   fun b x e => by
    by_cases z : b = a
    · subst z; exact ha
    · rw [show Mine.own σ a o b = σ b from if_neg z] at e; exact I.top b x e, I.size,
   fun b f => let ⟨x, y, z⟩ := I.marks b f.1; ⟨x, (if_neg f.2 : Mine.own σ a o b = σ b).trans y, z⟩⟩
noncomputable def disown (σ : Store) (a : Nat) : Store := ⟨fun b => if b = a then none else σ b, fun b => b = a ∨ σ.fr b⟩
theorem Pass.disown {h : Heap} {a : Nat} {o : AObj} (hs : σ a = some o) : Pass σ h (disown σ a) h := ⟨fun b x e _ n => by
  have ne : b ≠ a := fun q => by have z := n.1; rw [q, hs] at z; cases z
  exact ⟨e, (if_neg ne).trans n.1, fun q => q.elim ne n.2⟩⟩
theorem Inv.disown {s : Shared} {a : Nat} {o : AObj} (I : Inv B σ N s) (hs : σ a = some o) : Inv B (disown σ a) N s :=
  have lk : ∀ {b x}, Mine.disown σ a b = some x → σ b = some x := fun {b x} e => by
    by_cases z : b = a
    · rw [show Mine.disown σ a b = none from if_pos z] at e; cases e
    · rwa [show Mine.disown σ a b = σ b from if_neg z] at e
  have ln : ∀ {b}, σ b = none → Mine.disown σ a b = none := fun {b} e => by
    by_cases z : b = a
    · exact if_pos z
    · exact (if_neg z).trans e
  ⟨fun b x e => (I.store b x (lk e)).pass (.disown hs) fun _ q => q, fun b x e => ⟨(I.base b x e).1, ln (I.base b x e).2⟩, I.gens, I.os, fun b x e => I.top b x (lk e), I.size, fun b f => by
    rcases f with q | q
    · subst q
      refine ⟨Nat.lt_of_lt_of_le (I.top b _ hs) I.size, if_pos rfl, ?_⟩
      cases q : B.h₀.get? b with
      | none => rfl
      | some y => have := (I.base b y q).2; rw [hs] at this; cases this
    · obtain ⟨x, y, z⟩ := I.marks b q; exact ⟨x, ln y, z⟩⟩
theorem disown_own {a : Nat} {o o' : AObj} (hs : σ a = none) (hf : σ.fr a) : disown (pt (own σ a o) a o') a = σ := Store.ext (fun b => by
  by_cases z : b = a
  · subst z; exact (if_pos rfl : Mine.disown _ b b = none).trans hs.symm
  · exact (if_neg z : Mine.disown _ a b = _).trans ((pt_ne z).trans (if_neg z))) (funext fun b => propext ⟨fun q => q.elim (fun q => q ▸ hf) (fun q => q.1), fun q => by
    by_cases z : b = a
    · exact .inl z
    · exact .inr ⟨q, z⟩⟩)
/-- what the marked thing holds while a tree runs that does not know it -/
noncomputable abbrev Held (B : Cx) (σ : Store) (h : Heap) (a : Nat) (o : AObj) : Prop := ORel B σ h a o ∧ σ a = none ∧ σ.fr a
theorem Held.stepL {L a : Nat} {o : AObj} {σ' : Store} {h h' : Heap} (x : Held B σ h a o) (S : StepL L σ h σ' h') (hL : NoTup σ L h) (ne : a ≠ L) (hx : ∃ y, h.get? a = some y) : Held B σ' h' a o :=
  let ⟨y, hy⟩ := hx
  ⟨x.1.pass (S.pass hL) fun z e => (S.keep a z ne e x.2.1).1, (S.keep a y ne hy x.2.1).2, by rw [S.fr]; exact x.2.2⟩
theorem ORel.there {h : Heap} {a : Nat} {o : AObj} (r : ORel B σ h a o) : ∃ x, h.get? a = some x := by
  cases o with
  | list xs => obtain ⟨_, _, e, _⟩ := r; exact ⟨_, e⟩
  | dict es ep => obtain ⟨_, ⟨_, _, e, _⟩, _⟩ := r; exact ⟨_, e⟩
  | cell v => obtain ⟨_, ⟨_, e, _⟩, _⟩ := r; exact ⟨_, e⟩
  | obj x => exact ⟨_, r⟩
  | ns l => obtain ⟨m, ⟨_, _, _, e, _⟩, _⟩ := r; exact ⟨_, e⟩
theorem Held.step {a : Nat} {o : AObj} {σ' : Store} {h h' : Heap} (x : Held B σ h a o) (S : Step σ h σ' h') : Held B σ' h' a o :=
  let ⟨y, hy⟩ := x.1.there
  ⟨x.1.pass S.pass fun z e => (S.keep a z e x.2.1).1, (S.keep a y hy x.2.1).2, by rw [S.fr]; exact x.2.2⟩
inductive AE (B : Cx) (env : Env) (l : Loc) (a : Nat) (σ : Store) (N : Nat) (h : Heap) (K : AObj → Store → Nat → Prop) (u : Unit) (s' : Shared) : Prop
  | mk (o' : AObj) (σ' : Store) (N' : Nat) (hh : Held B σ' s'.heap a o') (I : Inv B σ' N' s') (S : StepL a σ h σ' s'.heap) (F : FRel B env l σ' s'.heap) (n : N ≤ N') (q : K o' σ' N')
/-- what a turn does to the list or dict under way -/
noncomputable def WAct (B : Cx) (d : Nat) (env : Env) (l : Loc) (act : Sem Unit) (a : Nat) (o : AObj) (σ : Store) (N : Nat) (K : AObj → Store → Nat → Prop) : Prop :=
  ∀ A s, Ok d A → Inv B σ N s → FRel B env l σ s.heap → Held B σ s.heap a o → a < N → env.locals ≠ a →
    wpAny (model B.prog B.w) A act (AE B env l a σ N s.heap K) (fun _ _ => False) s
/-- a turn -/
noncomputable def CompTurn (B : Cx) (d : Nat) (env : Env) (target : Expr) (ifs : List Expr) (act : Sem Unit) (a : Nat) (v : V) (o : AObj) (J : AObj → Store → Nat → Prop) (σ : Store) (N : Nat) : Prop :=
  WAs B d env [] target v σ N fun l σ₁ N₁ => WTs B d env l ifs σ₁ N₁ fun ok σ₂ N₂ => if ok = true then WAct B d env l act a o σ₂ N₂ J else J o σ₂ N₂
noncomputable abbrev Kept (σ₁ : Store) (h₁ : Heap) (σ' : Store) (h' : Heap) : Prop := ∀ b o, h₁.get? b = some o → σ₁ b = none → h'.get? b = some o ∧ σ' b = none
inductive CI (B : Cx) (cenv : Env) (σ₁ : Store) (h₁ : Heap) (σ₀ : Store) (it a N₂ n : Nat) (J : Nat → AObj → Store → Nat → Prop) (St : Nat → Heap → Prop) (m : Nat) (s' : Shared) : Prop
  | mk (i : Nat) (o : AObj) (σ' : Store) (N' : Nat) (hi : i ≤ n) (hm : m = n - i) (hJ : J i o σ' N') (I : Inv B σ' N' s') (S : Kept σ₁ h₁ σ' s'.heap) (F : FRel B cenv [] σ' s'.heap) (n' : N₂ ≤ N') (st : St i s'.heap) (ho : σ' it = none) (hh : Held B σ' s'.heap a o) (fr : σ'.fr = σ₀.fr)
theorem comp_loop {e target iter : Expr} {ifs : List Expr} {act : Nat → Env → Sem Unit} {cenv : Env} {n : Nat} {item : Nat → V} {Dep : Store → Prop} {St : Nat → Heap → Prop} {A : Around} {s₁ s : Shared} {it a C : Nat} {σ₁ σ₀ : Store} {N₂ : Nat} {o₀ : AObj} (ck : CK e target iter ifs act)
    (J : Nat → AObj → Store → Nat → Prop) (k : Ok d A) (W : Iter B (isMany target) σ₁ s₁.heap it n item Dep St) (hx : ∀ σ' h', Kept σ₁ s₁.heap σ' h' → σ'.fr = σ₀.fr → Pass σ₁ s₁.heap σ' h') (hC : cenv.locals = C) (hitC : it ≠ C) (hita : it ≠ a) (haC : a ≠ C) (hit1 : s₁.heap.get? it = none) (hC1 : s₁.heap.get? C = none) (ha1 : s₁.heap.get? a = none) (hitb : B.h₀.get? it = none)
    (hD : ∀ i o σ N, J i o σ N → Dep σ) (turn : ∀ i o σ N, i < n → J i o σ N → N₂ ≤ N → CompTurn B d cenv target ifs (act a cenv) a (item i) o (J (i + 1)) σ N)
    {R : Result → Shared → Prop} (hR : ∀ s' o σ' N', J n o σ' N' → Inv B σ' N' s' → Kept σ₁ s₁.heap σ' s'.heap → N₂ ≤ N' → σ' C = none → (∃ m, s'.heap.Ns C m) → Held B σ' s'.heap a o → σ'.fr = σ₀.fr → R (.ok .next) s')
    (hJ0 : J 0 o₀ σ₀ N₂) (I0 : Inv B σ₀ N₂ s) (S0 : Kept σ₁ s₁.heap σ₀ s.heap) (F0 : FRel B cenv [] σ₀ s.heap) (h0 : Held B σ₀ s.heap a o₀) (ha : a < N₂) (st0 : St 0 s.heap) (q0 : σ₀ it = none) :
    codeAny (model B.prog B.w) A (.compLoop e 0 (.ref it) (.ref a) cenv) R s := by
  subst hC
  refine ck.loop (CI B cenv σ₁ s₁.heap σ₀ it a N₂ n J St)
    (fun m s' ⟨i, o, σ', N', hi, hm, hJ, I', S', F', n', st, ho, hh, hfr⟩ => ?_) n ⟨0, _, _, N₂, Nat.zero_le _, rfl, hJ0, I0, S0, F0, Nat.le_refl _, st0, q0, h0, rfl⟩
  rw [ck.turn]
  refine wpAny_bind (wpAny_standAt (wpAny_bind ?_))
  have hN : NoTup σ' it s'.heap := .inr (W.notup i _ st).1
  by_cases hlt : i < n
  · refine bot (any_grow (W.next target rfl i A s' σ' N' (fun v s'' => ∃ h' tk, s'' = { s' with heap := h', toks := tk } ∧ VRel B σ' h' (item i) v ∧ St (i + 1) h' ∧ Heap.ExtBut it s'.heap h') (fun _ _ => False) hlt k.handled (hD _ _ _ _ hJ) I' (hx _ _ S' hfr) ho st fun v h' tk r1 r2 r3 => ⟨h', tk, rfl, r1, r2, r3⟩)) ?_
    rintro _ s'' ⟨⟨v, rfl, hgo⟩, hsz₀⟩
    refine wpAny_bind (bot (any_grow hgo) ?_)
    rintro _ _ ⟨⟨h', tk, rfl, rv, st', hsb⟩, hsz₁⟩
    have hsz := Nat.le_trans hsz₀ hsz₁
    have SL : StepL it σ' s'.heap σ' h' := .of_ext hsb ho
    have I'' : Inv B σ' N' { s' with heap := h', toks := tk } := Inv.frame (s' := { s' with heap := h', toks := tk }) I' hsb ho hitb hN hsz rfl rfl
    have F'' : FRel B cenv [] σ' h' := by
      obtain ⟨mm, hn, km⟩ := F'.ns
      exact ⟨F'.out, F'.new, F'.mark, mm, hn.extBut hsb (Ne.symm hitC), fun y u e => nomatch e⟩
    have hh'' := hh.stepL SL hN (Ne.symm hita) hh.1.there
    obtain ⟨oi, hoi⟩ := (W.notup _ _ st').2
    refine wpAny_bind (turn i o σ' N' hlt hJ n' A { s' with heap := h', toks := tk } v _ _ k I'' F'' rv fun s₃ l₃ σ₃ N₃ I₃ S₃ F₃ n₃ h₃ => ?_)
    have i3 := S₃.keep it oi hitC hoi ho
    have hh3 := hh''.stepL S₃ (.inl F''.mark) haC hh''.1.there
    refine wpAny_bind (bot (h₃ A s₃ k I₃ F₃) fun ok s₄ ⟨b, σ₄, N₄, rb, I₄, S₄, n₄, h₄⟩ => ?_)
    cases (show b = ok from rb)
    have i4 := S₄.keep it oi i3.1 i3.2
    have hh4 := hh3.step S₄
    have fr4 : σ₄.fr = σ₀.fr := S₄.fr.trans (S₃.fr.trans hfr)
    have K4 : Kept σ₁ s₁.heap σ₄ s₄.heap := fun b o e nn => by
      obtain ⟨e1, e2⟩ := S' b o e nn
      have q1 : b ≠ it := fun z => by rw [z, hit1] at e; cases e
      have q2 : b ≠ cenv.locals := fun z => by rw [z, hC1] at e; cases e
      obtain ⟨e3, e4⟩ := S₃.keep b o q2 (hsb b o q1 e1) e2
      exact S₄.keep b o e3 e4
    have F4 : FRel B cenv l₃ σ₄ s₄.heap := F₃.mono S₄
    have n5 : N₂ ≤ N₄ := Nat.le_trans (Nat.le_trans n' n₃) n₄
    cases ok with
    | true =>
      rw [if_pos rfl] at h₄
      refine wpAny_bind (bot (h₄ A s₄ k I₄ F4 hh4 (Nat.lt_of_lt_of_le ha n5) (Ne.symm haC)) fun _ s₅ ⟨o', σ₅, N₅, hh5, I₅, S₅, F₅, n₅, h₅⟩ => wpAny_pure ⟨rfl, ?_⟩)
      have i5 := S₅.keep it oi hita i4.1 i4.2
      exact ⟨n - (i + 1), by exact arb1 hi hm hlt, i + 1, o', σ₅, N₅, hlt, rfl, h₅, I₅, fun b o e nn => let z := K4 b o e nn; S₅.keep b o (fun q => by rw [q, ha1] at e; cases e) z.1 z.2, F₅.less (.nil _), Nat.le_trans n5 n₅, W.frame _ _ _ st' fun o e => (by rw [hoi] at e; cases e; exact i5.1), i5.2, hh5, S₅.fr.trans fr4⟩
    | false =>
      rw [if_neg Bool.false_ne_true] at h₄
      exact wpAny_pure ⟨rfl, n - (i + 1), by exact arb1 hi hm hlt, i + 1, o, σ₄, N₄, hlt, rfl, h₄, I₄, K4, F4.less (.nil _), n5, W.frame _ _ _ st' fun o e => (by rw [hoi] at e; cases e; exact i4.1), i4.2, hh4, fr4⟩
  · obtain rfl : i = n := by exact ar30 hi hlt
    refine bot (any_grow (W.stop A s' σ' N' (fun r s'' => ∃ h' tk, r = none ∧ s'' = { s' with heap := h', toks := tk } ∧ Heap.ExtBut it s'.heap h') (fun _ _ => False) k.handled (hD _ _ _ _ hJ) I' (hx _ _ S' hfr) st fun h' tk hx => ⟨h', tk, rfl, rfl, hx⟩)) ?_
    rintro _ _ ⟨⟨h', tk, rfl, rfl, hx⟩, hsz⟩
    have SL : StepL it σ' s'.heap σ' h' := .of_ext hx ho
    refine wpAny_pure (hR _ o σ' N' hJ (Inv.frame (s' := { s' with heap := h', toks := tk }) I' hx ho hitb hN hsz rfl rfl) (fun b o e nn => ?_) n' F'.out ?_ (hh.stepL SL hN (Ne.symm hita) hh.1.there) hfr)
    · obtain ⟨e1, e2⟩ := S' b o e nn
      exact ⟨hx b o (fun z => by rw [z, hit1] at e; cases e) e1, e2⟩
    · obtain ⟨mm, hn, _⟩ := F'.ns
      exact ⟨mm, hn.extBut hx (Ne.symm hitC)⟩
/-- a list or a dict, done -/
inductive Done : AObj → V → Prop
  | list (ys : List V) : Done (.list ys) (.lst ys)
  | dict (es : List (Kx × V)) (ep : Nat) : Done (.dict es ep) (.dct es)
theorem Done.rel {h : Heap} {a : Nat} {o : AObj} {v : V} (x : Done o v) (hn : (a == sysModules) = false) (r : ORel B σ h a o) (hf : Free σ a) : VRel B σ h v (.ref a) := by
  cases x with
  | list ys => obtain ⟨items, n, e, q⟩ := r; exact .lst e hf q
  | dict es ep => obtain ⟨kvs, e, q⟩ := r; exact .dct hn e hf q
/-- what is asked of a comprehension's source and turns -/
noncomputable def CompAsk (B : Cx) (d : Nat) (env : Env) (scope : Scope) (cl : List (Str × Nat)) (target : Expr) (ifs : List Expr) (act : Nat → Env → Sem Unit) (acc₀ : AObj) (K : Post V) : Post V := fun x σ₁ N₁ =>
  ∃ n item Dep, IterOk B (isMany target) x σ₁ n item Dep ∧ ∀ a C, N₁ ≤ a → a < C → ∃ J : Nat → AObj → Store → Nat → Prop, J 0 acc₀ ((σ₁.add a).add C) (a + 1) ∧ (∀ i o σ N, J i o σ N → Dep σ) ∧
    (∀ i o σ N, i < n → J i o σ N → N₁ ≤ N → CompTurn B d (compEnvC scope cl C env) target ifs (act a (compEnvC scope cl C env)) a (item i) o (J (i + 1)) σ N) ∧ ∀ o σ N, J n o σ N → N₁ ≤ N → ∃ v, Done o v ∧ K v (σ.reset σ₁.fr) N
theorem comp_core {e target iter : Expr} {ifs : List Expr} {act : Nat → Env → Sem Unit} {scope : Scope} {pos : Pos} {cl : List (Str × Nat)} {mk : Sem Value} {acc₀ : AObj} {K : Post V} {A : Around} {s : Shared} {use : Option (Value → Sem Unit)} {P : Value → Shared → Prop} (ck : CK e target iter ifs act)
    (hmk : ∀ {σ : Store} {N : Nat} {Q : Post V}, (∀ a, N ≤ a → Q (.ref a) (pt σ a acc₀) (a + 1)) → W0 B d (VRel B) mk σ N Q) (k : Ok d A) (I : Inv B σ N s) (F : FRel B env l σ s.heap)
    (hclos : closureFor scope env = pure cl) (hkind : scope.kind = .function) (hnames : ∀ x ∈ scope.names, x.2 = .local → scope.names.lookup x.1 = some .local) (hcell : ∀ x ∈ scope.names, x.2 ≠ .cell)
    (h : WE B d env l iter σ N (CompAsk B d env scope cl target ifs act acc₀ K)) (hs : ∀ x, foldedSetIterable iter env x = pure x)
    (hP : ∀ a C v σ' N' s', VRel B σ' s'.heap v (.ref a) → K v σ' N' → Inv B σ' N' s' → Inv B (σ'.add C) N' s' → VRel B (σ'.add C) s'.heap v (.ref a) → Step σ s.heap σ' s'.heap → FRel B env l σ' s'.heap → FRel B env l (σ'.add C) s'.heap → N ≤ N' → σ' C = none → B.h₀.get? C = none → (∃ m, s'.heap.Ns C m) → s.heap.get? C = none → compPost (model B.prog B.w) A (fun _ _ => False) use P (.ref a) C (.ok .next) s') :
    wpAny (model B.prog B.w) A (comprehension e scope env pos mk false (eval iter env) use) P (fun _ _ => False) s := by
  refine wpAny_comprehension_free (g := ⟨target, iter, ifs, 0⟩) (gs := []) ck.clauses hs hclos hkind hnames ?_
  refine bot (any_grow (h A s k I F)) fun x s₁ ⟨⟨xv, σ₁, N₁, r, I₁, S₁, n₁, n, item, Dep, ⟨hdep, hit⟩, hk⟩, hsz⟩ => hit A s₁ N₁ x _ _ k.handled I₁ r fun o St W hst => ?_
  have F₁ := F.mono S₁
  have I₂ : Inv B σ₁ N₁ { s₁ with heap := s₁.heap.push o } := I₁.push
  refine bot (hmk (Q := fun v σ' N' => ∃ a, v = .ref a ∧ σ' = pt σ₁ a acc₀ ∧ N₁ ≤ a ∧ N' = a + 1) (fun a ha => ⟨a, rfl, rfl, ha, rfl⟩) A _ k I₂) ?_
  rintro acc s₃ ⟨_, _, _, r₃, I₃, S₃, n₃, a, rfl, rfl, ha, rfl⟩
  cases r₃
  have hC : s₃.heap.get? s₃.heap.objs.size = none := get_fresh _
  have haC : a < s₃.heap.objs.size := I₃.size
  have hst3 : St 0 s₃.heap := W.frame _ _ _ hst fun x e => (S₃.keep _ _ e I₁.fresh).1
  obtain ⟨oi, hoi⟩ := (W.notup _ _ hst3).2
  obtain ⟨oi', hoi'⟩ := (W.notup _ _ hst).2
  have hit3 : pt σ₁ a acc₀ s₁.heap.objs.size = none := (S₃.keep _ _ hoi' I₁.fresh).2
  have hita : s₁.heap.objs.size ≠ a := fun q => by rw [q, pt_same] at hit3; cases hit3
  have sa : σ₁ a = none := I₁.above a ha
  have ha0 : s₁.heap.get? a = none := by
    cases q : s₁.heap.get? a with
    | none => rfl
    | some x => have := (S₃.keep a x (Heap.get?_push_of_some _ q) sa).2; rw [pt_same] at this; cases this
  have k3 : ∀ b x, s₁.heap.get? b = some x → s₃.heap.get? b = some x ∨ σ₁ b ≠ none := fun b x e => by
    by_cases z : σ₁ b = none
    · exact .inl (S₃.keep b x (Heap.get?_push_of_some _ e) z).1
    · exact .inr z
  have hC1 : s₁.heap.get? s₃.heap.objs.size = none := by
    cases q : s₁.heap.get? s₃.heap.objs.size with
    | none => rfl
    | some x =>
      rcases k3 _ _ q with z | z
      · rw [hC] at z; cases z
      · exfalso
        cases w : σ₁ s₃.heap.objs.size with
        | none => exact z w
        | some o' =>
          have h1 := I₁.top _ _ w
          exact ar166 ha haC h1
  refine wpAny_newFunctionEnv hcell (fun _ hx => nomatch hx) (fun h' hns hsb => ?_) hkind
  have kp : ∀ b x, s₃.heap.get? b = some x → h'.get? b = some x := fun b x e => by
    rw [hsb.2 b (Nat.ne_of_lt (Heap.lt_size e))]
    exact Heap.get?_push_of_some _ e
  have sz : s₃.heap.objs.size ≤ h'.objs.size := Nat.le_of_lt hns.lt
  obtain ⟨J, hJ0, hD, turn, fin⟩ := hk a s₃.heap.objs.size ha haC
  have oC : pt σ₁ a acc₀ s₃.heap.objs.size = none := I₃.fresh
  have bC := I₃.base_none hC
  -- the thing under way, marked; the frame, marked
  have e0 : disown (pt σ₁ a acc₀) a = σ₁.add a := Store.ext (fun b => by
    by_cases z : b = a
    · subst z; exact (if_pos rfl : Mine.disown _ b b = none).trans sa.symm
    · exact (if_neg z : Mine.disown _ a b = _).trans (pt_ne z)) rfl
  have I₄ : Inv B (σ₁.add a) (a + 1) s₃ := e0 ▸ I₃.disown (pt_same _ _ _)
  have I₅ : Inv B ((σ₁.add a).add s₃.heap.objs.size) (a + 1) { s₃ with heap := h', toks := s₃.toks + ([] : List (Str × Value)).length } := Inv.mark (s' := { s₃ with heap := h', toks := s₃.toks + ([] : List (Str × Value)).length }) I₄ hC I₄.fresh kp sz hns.lt rfl rfl
  have P₅ : Pass (pt σ₁ a acc₀) s₃.heap ((σ₁.add a).add s₃.heap.objs.size) h' := ⟨fun b x e hf n => by
    have y1 := (Pass.disown (h := s₃.heap) (pt_same σ₁ a acc₀)).free b x e hf n
    rw [e0] at y1
    have y2 := (Pass.add (σ := σ₁.add a) hC).free b x e hf y1.2
    exact ⟨kp b x e, y2.2⟩⟩
  have H₅ : Held B ((σ₁.add a).add s₃.heap.objs.size) h' a acc₀ := ⟨(I₃.store a _ (pt_same _ _ _)).pass P₅ fun x e => kp a x e, sa, .inr (.inl rfl)⟩
  have F₅ : FRel B (compEnvC scope cl s₃.heap.objs.size env) [] ((σ₁.add a).add s₃.heap.objs.size) h' := ⟨I₄.fresh, bC, .inl rfl, _, hns, fun _ _ e => nomatch e⟩
  have hitC : s₁.heap.objs.size ≠ s₃.heap.objs.size := Nat.ne_of_lt (Heap.lt_size hoi)
  have loop := comp_loop (R := compPost (model B.prog B.w) A (fun _ _ => False) use P (.ref a) s₃.heap.objs.size) (s₁ := s₁) (σ₁ := σ₁) (N₂ := a + 1) (cenv := compEnvC scope cl s₃.heap.objs.size env) ck J k W (fun σ' h' kk ff => ⟨fun b y e _ nn => ⟨(kk b y e nn.1).1, (kk b y e nn.1).2, by
      rw [ff]
      intro q
      rcases q with q | q | q
      · rw [q, hC1] at e; cases e
      · rw [q, ha0] at e; cases e
      · exact nn.2 q⟩⟩) rfl hitC hita (Nat.ne_of_lt haC) (get_fresh _) hC1 ha0 (I₁.base_none (get_fresh _)) hD
    (fun i o σ N hi hj hn => turn i o σ N hi hj (by exact ar3 ha hn))
    (fun s' o σ' N' hJ I' S' n' hc' hm hh hfr => by
      obtain ⟨v, hd, hK⟩ := fin o σ' N' hJ (by exact ar3 ha n')
      have kf : ∀ b, σ₁.fr b → σ'.fr b := fun b q => by rw [hfr]; exact .inr (.inr q)
      have kf2 : ∀ b, ((σ'.reset σ₁.fr).add s₃.heap.objs.size).fr b → σ'.fr b := fun b q => by
        rw [hfr]
        rcases q with q | q
        · exact .inl q
        · exact .inr (.inr q)
      have nfa : ¬ σ₁.fr a := fun q => by have := (I₃.marks a q).2.1; rw [pt_same] at this; cases this
      have rr := Pass.reset (σ := σ') (h := s'.heap) kf
      have r2 : Pass σ' s'.heap ((σ'.reset σ₁.fr).add s₃.heap.objs.size) s'.heap := ⟨fun b x e hf n => ⟨e, n.1, fun q => n.2 (kf2 b q)⟩⟩
      have SS : Step σ₁ s₁.heap (σ'.reset σ₁.fr) s'.heap := ⟨S', rfl⟩
      have FF := F₁.mono SS
      have nC : ¬ a = s₃.heap.objs.size := Nat.ne_of_lt haC
      have I6 : Inv B (σ'.reset σ₁.fr) N' s' := I'.reset kf
      have I7 : Inv B ((σ'.reset σ₁.fr).add s₃.heap.objs.size) N' s' := ⟨fun b x e => (I'.store b x e).pass r2 fun _ q => q, I'.base, I'.gens, I'.os, I'.top, I'.size, fun b q => I'.marks b (kf2 b q)⟩
      refine hP a s₃.heap.objs.size v (σ'.reset σ₁.fr) N' s' (hd.rel (I₃.notSys (pt_same _ _ _)) (hh.1.pass rr fun _ q => q) ⟨hh.2.1, nfa⟩) hK I6 I7 (hd.rel (I₃.notSys (pt_same _ _ _)) (hh.1.pass r2 fun _ q => q) ⟨hh.2.1, fun q => q.elim nC nfa⟩) (S₁.trans SS) FF ?_ (by exact ar167 n₁ ha n') hc' bC hm (by
        cases q : s.heap.get? s₃.heap.objs.size with
        | none => rfl
        | some x =>
          have z : (s₃.heap.objs.size : Nat) < s.heap.objs.size := Heap.lt_size q
          have z2 : (s₁.heap.objs.size : Nat) < s₃.heap.objs.size := Heap.lt_size hoi
          omega)
      obtain ⟨mm, hn, km⟩ := F₁.ns
      obtain ⟨oo, es, ep, he, hr⟩ := hn
      have hne : (s₃.heap.objs.size : Nat) ≠ env.locals := fun q => by rw [q, he] at hC1; cases hC1
      refine ⟨FF.out, FF.new, .inr FF.mark, mm, ⟨oo, es, ep, (S' _ _ he F₁.out).1, hr⟩, fun y u e => ?_⟩
      obtain ⟨b, h1, h2⟩ := km y u e
      refine ⟨b, h1, ?_⟩
      have p3 : Pass σ₁ s₁.heap ((σ'.reset σ₁.fr).add s₃.heap.objs.size) s'.heap := ⟨fun b x e hf n => by
        have z := S' b x e n.1
        exact ⟨z.1, z.2, fun q => q.elim (fun q => by rw [q, hC1] at e; cases e) n.2⟩⟩
      exact h2.pass p3)
    hJ0 I₅ (fun b o e nn => let z := S₃.keep b o (Heap.get?_push_of_some _ e) nn; ⟨kp _ _ z.1, nn⟩) F₅ H₅ (Nat.lt_succ_self a) (W.frame _ _ _ hst3 fun x e => kp _ _ e) (I₁.fresh)
  exact ck.start loop (W.self 0 A _ _ _ (W.frame _ _ _ hst3 fun x e => kp _ _ e) loop)

/-- a comprehension as a value -/
theorem comp_value {e target iter : Expr} {ifs : List Expr} {act : Nat → Env → Sem Unit} {scope : Scope} {pos : Pos} {cl : List (Str × Nat)} {mk : Sem Value} {acc₀ : AObj} {Q : Post V} (ck : CK e target iter ifs act)
    (hmk : ∀ {σ : Store} {N : Nat} {Q : Post V}, (∀ a, N ≤ a → Q (.ref a) (pt σ a acc₀) (a + 1)) → W0 B d (VRel B) mk σ N Q) (he : eval e env = comprehension e scope env pos mk false (eval iter env) none)
    (hclos : closureFor scope env = pure cl) (hkind : scope.kind = .function) (hnames : ∀ x ∈ scope.names, x.2 = .local → scope.names.lookup x.1 = some .local) (hcell : ∀ x ∈ scope.names, x.2 ≠ .cell)
    (hs : ∀ x, foldedSetIterable iter env x = pure x) (h : WE B d env l iter σ N (CompAsk B d env scope cl target ifs act acc₀ Q)) : WE B d env l e σ N Q :=
  fun A s k I F => by
    rw [he]
    exact comp_core ck hmk k I F hclos hkind hnames hcell h hs fun a C v σ' N' s' r hK I' I'' r'' S' F' F'' n' oC bC ⟨m, hm⟩ hCs => ⟨m, hm, fun h' hsb => by
      have hN : NoTup (σ'.add C) C s'.heap := .inl (.inl rfl)
      have SL : StepL C (σ'.add C) s'.heap (σ'.add C) h' := .of_ext hsb.extBut oC
      have I3 : Inv B (σ'.add C) N' { s' with heap := h' } := Inv.frame (s' := { s' with heap := h' }) I'' hsb.extBut oC bC hN (Nat.le_of_eq hsb.1.symm) rfl rfl
      have kf : ∀ b, σ'.fr b → (σ'.add C).fr b := fun b q => .inr q
      exact ⟨v, σ', N', (r''.pass (SL.pass hN)).pass (Pass.reset (f := σ'.fr) kf), I3.reset (f := σ'.fr) kf, ⟨fun b o e nn => by
        have z := S'.keep b o e nn
        exact ⟨hsb.extBut b o (fun q => by rw [q, hCs] at e; cases e) z.1, z.2⟩, S'.fr⟩, n', hK⟩⟩
theorem comp_use {e target iter : Expr} {ifs : List Expr} {act : Nat → Env → Sem Unit} {scope : Scope} {x : Str} {p pos : Pos} {cl : List (Str × Nat)} {mk : Sem Value} {acc₀ : AObj} {A : Around} {s : Shared} {R : Value → Shared → Prop} (ck : CK e target iter ifs act)
    (hmk : ∀ {σ : Store} {N : Nat} {Q : Post V}, (∀ a, N ≤ a → Q (.ref a) (pt σ a acc₀) (a + 1)) → W0 B d (VRel B) mk σ N Q) (hl : env.kindOf x = some .local) (hk : env.scope.kind = .function) {K : Post V}
    (hclos : closureFor scope env = pure cl) (hkind : scope.kind = .function) (hnames : ∀ x ∈ scope.names, x.2 = .local → scope.names.lookup x.1 = some .local) (hcell : ∀ x ∈ scope.names, x.2 ≠ .cell)
    (hs : ∀ x, foldedSetIterable iter env x = pure x) (k : Ok d A) (I : Inv B σ N s) (F : FRel B env l σ s.heap) (h : WE B d env l iter σ N (CompAsk B d env scope cl target ifs act acc₀ K))
    (hR : ∀ v u s' σ' N', K u σ' N' → Inv B σ' N' s' → StepL env.locals σ s.heap σ' s'.heap → FRel B env (upd l x u) σ' s'.heap → N ≤ N' → R v s') :
    wpAny (model B.prog B.w) A (comprehension e scope env pos mk false (eval iter env) (some (assign (.Name x p) env))) R (fun _ _ => False) s :=
  comp_core ck hmk k I F hclos hkind hnames hcell h hs fun a C u σ' N' s' r hK I' I'' r'' S' F' F'' n' oC bC ⟨m, hm⟩ hCs => by
    show wpAny _ _ (assign (.Name x p) env (.ref a)) _ _ s'
    refine wpAny_assign_Name (store_local I'' F'' r'' hl hk fun s'' I3 F3 S'' => ?_)
    have hCL : C ≠ env.locals := fun q => by
      obtain ⟨mm, ⟨o, es, ep, ho, _⟩, _⟩ := F.ns
      rw [q, ho] at hCs; cases hCs
    obtain ⟨oC', es, ep, hoC, hd, r2⟩ := hm
    have hC'' := S''.keep C oC' hCL hoC oC
    have hm'' : s''.heap.Ns C m := ⟨oC', es, ep, hC''.1, hd, r2⟩
    refine ⟨m, hm'', fun h' hsb => ?_⟩
    have hN : NoTup (σ'.add C) C s''.heap := .inl (.inl rfl)
    have SL : StepL C (σ'.add C) s''.heap (σ'.add C) h' := .of_ext hsb.extBut oC
    have I4 : Inv B (σ'.add C) N' { s'' with heap := h' } := Inv.frame (s' := { s'' with heap := h' }) I3 hsb.extBut oC bC hN (Nat.le_of_eq hsb.1.symm) rfl rfl
    have kf : ∀ b, σ'.fr b → (σ'.add C).fr b := fun b q => .inr q
    have pk : Pass (σ'.add C) s''.heap σ' h' := ⟨fun b o e hf n => by
      have z := (SL.pass hN).free b o e hf n
      exact ⟨z.1, z.2.1, fun q => z.2.2 (.inr q)⟩⟩
    refine hR _ u _ σ' N' hK (I4.reset (f := σ'.fr) kf) ⟨fun b o hb e nn => ?_, S'.fr⟩ ?_ n'
    · have z := S'.keep b o e nn
      have z2 := S''.keep b o hb z.1 z.2
      exact ⟨hsb.extBut b o (fun q => by rw [q, hCs] at e; cases e) z2.1, z2.2⟩
    · obtain ⟨mm, hn, km⟩ := F3.ns
      exact ⟨F'.out, F'.new, F'.mark, mm, hn.extBut hsb.extBut (Ne.symm hCL), fun y u e => let ⟨b, h1, h2⟩ := km y u e; ⟨b, h1, h2.pass pk⟩⟩
/-- lists -/
theorem mk_list {Q : Post V} (h : ∀ a, N ≤ a → Q (.ref a) (pt σ a (.list [])) (a + 1)) : W0 B d (VRel B) (newList []) σ N Q := fun A s k I => WN_newList (xs := []) h (Nat.zero_le _) A s [] k I .nil
/-- a marked thing changed by a call that knows it -/
theorem Held.call {β : Type} {ρ : Store → Heap → β → Value → Prop} {a : Nat} {o o' : AObj} {σ' : Store} {s s' : Shared} {N' : Nat} (x : Held B σ s.heap a o) (e : σ' = pt (own σ a o) a o') (I' : Inv B σ' N' s') (S : Step (own σ a o) s.heap σ' s'.heap) :
    Held B σ s'.heap a o' ∧ Inv B σ N' s' ∧ StepL a σ s.heap σ s'.heap := by
  subst e
  have I2 := I'.disown (pt_same _ _ _)
  rw [disown_own x.2.1 x.2.2] at I2
  refine ⟨⟨?_, x.2⟩, I2, ⟨fun b y nb e n => ?_, rfl⟩⟩
  · have := (I'.store a _ (pt_same _ _ _)).pass (Pass.disown (pt_same _ _ _)) fun _ q => q
    rwa [disown_own x.2.1 x.2.2] at this
  · exact ⟨(S.keep b y e ((if_neg nb : own σ a o b = σ b).trans n)).1, n⟩
theorem FRel.stepL {a : Nat} {σ' : Store} {h h' : Heap} (F : FRel B env l σ h) (S : StepL a σ h σ' h') (hne : env.locals ≠ a) (hf : σ.fr a) : FRel B env l σ' h' := by
  obtain ⟨mm, ⟨oo, es, ep, he, hr⟩, km⟩ := F.ns
  have z := S.keep _ _ hne he F.out
  exact ⟨z.2, F.new, by rw [S.fr]; exact F.mark, mm, ⟨oo, es, ep, z.1, hr⟩, fun y u e => let ⟨b, q1, q2⟩ := km y u e; ⟨b, q1, q2.pass (S.pass (.inl hf))⟩⟩
theorem act_list {elt : Expr} {a : Nat} {ys : List V} {K : AObj → Store → Nat → Prop} (hz : ys.length < 2 ^ 20) (h : WE B d env l elt σ N fun u σ₁ N₁ => K (.list (ys ++ [u])) σ₁ N₁) :
    WAct B d env l (do let _ ← call (.builtin "list.append") [.ref a, ← eval elt env]) a (.list ys) σ N K := fun A s k I F hh ha hne =>
  wpAny_bind (h.seq (ρ' := VRel B) k I F fun x u σ₁ N₁ s₁ r I₁ F₁ S₁ n₁ h₁ => by
    have h1 := hh.step S₁
    have I2 := I₁.own h1.1 h1.2.2 (Nat.lt_of_lt_of_le ha n₁)
    refine wpAny_bind (bot (L_append (Q := fun _ σ' N' => σ' = pt (own σ₁ a (.list ys)) a (.list (ys ++ [u])) ∧ N' = N₁) (if_pos rfl : own σ₁ a (.list ys) a = _) hz ⟨rfl, rfl⟩ A s₁ [.ref a, x] k I2 (.cons (.ref a) (.cons (r.pass (.own h1.2.2)) .nil))) fun _ s₂ ⟨_, σ₂, N₂, _, I₂, S₂, n₂, e₂, e₃⟩ => wpAny_pure ?_)
    obtain ⟨z1, z2, z3⟩ := h1.call (ρ := VRel B) e₂ I₂ S₂
    exact ⟨_, σ₁, N₂, z1, z2, (S₁.toL a).trans z3, F₁.stepL z3 hne h1.2.2, by exact ar168 n₁ e₃, e₃ ▸ h₁⟩)
end
end
noncomputable section
/-! instances and their attributes -/
theorem len_le_of_subset : ∀ (ks ns : List Str), ks.Pairwise (· ≠ ·) → (∀ k ∈ ks, k ∈ ns) → ks.length ≤ ns.length
  | [], _, _, _ => Nat.zero_le _
  | k :: r, ns, hp, hs => by
    have hk := hs k (.head _)
    have := len_le_of_subset r (ns.erase k) (List.pairwise_cons.mp hp).2 fun x hx => (List.mem_erase_of_ne (Ne.symm ((List.pairwise_cons.mp hp).1 x hx))).mpr (hs x (.tail _ hx))
    rw [List.length_erase_of_mem hk] at this
    have : 0 < ns.length := List.length_pos_of_mem hk
    simp only [List.length_cons]; lia
noncomputable def keyName (e : DictEntry) : Str := match e.key with
  | .str n _ => n
  | _ => Str.empty
theorem isStr_self (n : Str) (t : Tok) : (Value.str n t).isStr n = true := by simp [Value.isStr]
section
variable {B : Cx} {d : Nat} {env : Env} {l : Loc} {σ : Store} {N : Nat} {s : Shared} {a x D C : Nat} {name : Str} {at' : Loc}
theorem lookIn_ns {h : Heap} {m : Str → Option Value} {o : Obj} (hn : h.Ns1 a m) (ho : h.get? a = some o) : lookIn name o = some (m name) := by
  obtain ⟨o', es, ep, e, hd, hk, _, hf⟩ := hn
  rw [ho] at e; cases e
  unfold lookIn
  rw [hd]
  dsimp only
  have hf := hf name
  unfold nsFind findBy at hf
  rw [← Array.find?_toList] at hf
  cases q : es.toList.find? (fun e => e.key.isStr name) with
  | some e => rw [q] at hf; rw [← hf]; rfl
  | none =>
    rw [q] at hf
    have : es.toList.any (·.refKey) = false := by
      rw [List.any_eq_false]
      intro e he
      obtain ⟨n, t, h⟩ := hk e (Array.mem_toList_iff.mp he)
      simp [DictEntry.refKey, h]
    rw [← hf]
    simp [this]
theorem ns_size {h : Heap} {m : Str → Option Value} {o : Obj} {es : Array DictEntry} {ep : Nat} {names : List Str} (hn : h.Ns1 a m) (ho : h.get? a = some o) (hd : o.data = .dict es ep) (hm : ∀ y, m y ≠ none → y ∈ names) : es.size ≤ names.length := by
  obtain ⟨o', es', ep', e, hd', hk, hu, hf⟩ := hn
  rw [ho] at e; cases e
  rw [hd] at hd'; cases hd'
  have := len_le_of_subset (es.toList.map keyName) names (by
    rw [List.pairwise_map]
    refine hu.imp_of_mem fun {p q} hp hq h e => ?_
    obtain ⟨n, t, h1⟩ := hk p (Array.mem_toList_iff.mp hp)
    obtain ⟨n', t', h2⟩ := hk q (Array.mem_toList_iff.mp hq)
    have : n = n' := by simpa [keyName, h1, h2] using e
    subst this
    exact h n (by rw [h1]; exact isStr_self _ _) (by rw [h2]; exact isStr_self _ _)) fun k hk' => by
      obtain ⟨e, he, rfl⟩ := List.mem_map.mp hk'
      obtain ⟨n, t, h1⟩ := hk e (Array.mem_toList_iff.mp he)
      refine hm _ ?_
      rw [← hf]
      unfold nsFind findBy
      intro z
      rw [Option.map_eq_none_iff, ← Array.find?_toList, List.find?_eq_none] at z
      have := z e he
      simp only [keyName, h1] at this
      exact this (isStr_self _ _)
  simpa using this

noncomputable def AttrAt (B : Cx) (C : Nat) (name : Str) : Prop := ∃ K attr, K.In B.h₀ ∧ plainGet K C name = true ∧ hasDictIn K C = true ∧ findIn K (.ref C) name = some attr ∧ noGet K attr = true
noncomputable def SetAt (B : Cx) (C : Nat) (name : Str) : Prop := ∃ K, K.In B.h₀ ∧ findIn K (.ref C) "__setattr__" = some (some (.builtin "object.__setattr__")) ∧ plainOver K C = true ∧ takerIn K C name = some none ∧ hasDictIn K C = true
noncomputable def MethAt (B : Cx) (C : Nat) (name : Str) (f : Nat) : Prop := ∃ K, K.In B.h₀ ∧ plainGet K C name = true ∧ findIn K (.ref C) name = some (some (.ref f)) ∧ isFn K (.ref f) = true
theorem inst_at (I : Inv B σ N s) (hx : σ x = some (.obj (instObj C D))) (hD : σ D = some (.ns at')) : ∃ od m, InstAt s.heap x (instObj C D) C (some od) ∧ s.heap.Ns1 D m ∧ s.heap.get? D = some od ∧ MapRel B σ s.heap at' m := by
  have h1 := I.store x _ hx
  obtain ⟨m, hn, hm⟩ := I.store D _ hD
  obtain ⟨o, es, ep, e, r⟩ := id hn
  exact ⟨o, m, ⟨h1, rfl, rfl, e⟩, hn, e, hm⟩
noncomputable def handV : V → Bool
  | .lit v => handedIn v
  | _ => true
theorem handV_ok {v : V} {u : Value} {h : Heap} (r : VRel B σ h v u) (hv : handV v = true) : handedIn u = true := by
  cases r <;> first | rfl | exact hv
theorem MapRel.some_of {h : Heap} {m : Str → Option Value} {v : V} (x : MapRel B σ h at' m) (hl : at'.lookup name = some v) : ∃ u, m name = some u ∧ VRel B σ h v u := by
  have := x name
  rw [hl] at this
  cases q : m name with
  | none => rw [q] at this; exact this.elim
  | some u => rw [q] at this; exact ⟨u, rfl, this⟩
theorem MapRel.none_of {h : Heap} {m : Str → Option Value} (x : MapRel B σ h at' m) (hl : at'.lookup name = none) : m name = none := by
  have := x name
  rw [hl] at this
  cases q : m name with
  | none => rfl
  | some u => rw [q] at this; exact this.elim
theorem A_get {v : V} {Q : Post V} {e : Bool} (hx : σ x = some (.obj (instObj C D))) (hD : σ D = some (.ns at')) (ha : AttrAt B C name) (hl : at'.lookup name = some v) (hv : handV v = true) (h : Q v σ N) : W1 B d (VRel B) (fun o => getAttr o name e) (.ref x) σ N Q := fun A s a k I r => by
  obtain ⟨_, rfl⟩ := r.inv
  obtain ⟨od, m, IA, hn, ho, hm⟩ := inst_at I hx hD
  obtain ⟨K, attr, hK, h1, h2, h3, h4⟩ := ha
  obtain ⟨u, hu, ru⟩ := hm.some_of hl
  exact get_value (hK.keeps I.keep) IA (plainGet_of h1).1 (findObj_own h2 h3 h4 (by rw [lookIn_ns hn ho, hu])) (handV_ok ru hv) (.here I.toks (.refl _ _) ru h)
theorem M_inst {pos : Pos} {pl : Sem Bool} {args : List Expr} {f : Nat} {Q : Post V} (hx : σ x = some (.obj (instObj C D))) (hD : σ D = some (.ns at')) (hm : MethAt B C name f) (hl : at'.lookup name = none)
    (h : CW B d env l pos (.lit (.ref f)) [.ref x] args σ N Q) : ∀ A s a, Ok d A → Inv B σ N s → FRel B env l σ s.heap → VRel B σ s.heap (.ref x) a → wpAny (model B.prog B.w) A (getMethod a name pl) (fun fx s₂ => wpAny (model B.prog B.w) A (callWith pos fx.1 fx.2 (backTo pos (starEach args env)) []) (Ends B (VRel B) σ N s.heap Q) (fun _ _ => False) s₂) (fun _ _ => False) s :=
  fun A s a k I F r => by
    obtain ⟨_, rfl⟩ := r.inv
    obtain ⟨od, m, IA, hn, ho, hr⟩ := inst_at I hx hD
    obtain ⟨K, hK, h1, h2, h3⟩ := hm
    exact method_fn (hK.keeps I.keep) IA (plainGet_of h1).1 (plainGet_of h1).2 h2 (beq_iff_eq.mp h3) (by show (lookIn name od).map _ = _; rw [lookIn_ns hn ho, hr.none_of hl]; rfl) (h A s _ [.ref x] k I F (.lit _) (.cons (.ref x) .nil))
/-- a name's value put -/
noncomputable def putA : Loc → Str → V → Loc
  | [], n, v => [(n, v)]
  | (x, u) :: r, n, v => if n = x then (n, v) :: r else (x, u) :: putA r n v
theorem putA_look : ∀ (l : Loc) (n : Str) (v : V) (y : Str), (putA l n v).lookup y = if y = n then some v else l.lookup y
  | [], n, v, y => upd_look [] n v y
  | (x, u) :: r, n, v, y => by
    unfold putA
    by_cases h : n = x
    · rw [if_pos h]; have := upd_look r n v y; rw [this, upd_look r x u y]; subst h; by_cases q : y = n <;> simp [q]
    · rw [if_neg h, upd_look (putA r n v) x u y, upd_look r x u y, putA_look r n v y]
      by_cases q : y = x
      · rw [if_pos q, if_pos q, if_neg (fun z => h (z.symm.trans q))]
      · rw [if_neg q, if_neg q]
theorem A_set {v : V} {Q : Post Unit} (hx : σ x = some (.obj (instObj C D))) (hD : σ D = some (.ns at')) (ha : SetAt B C name) (hz : at'.length < 1000) (h : Q () (pt σ D (.ns (putA at' name v))) N) : W2 B d URel (fun o u => setAttr o name u) (.ref x) v σ N Q := fun A s a u k I r rv => by
  obtain ⟨_, rfl⟩ := r.inv
  obtain ⟨od, m, IA, hn, ho, hm⟩ := inst_at I hx hD
  obtain ⟨K, hK, h1, h2, h3, h4⟩ := ha
  have X := hK.keeps I.keep
  refine set_plain X IA h1 (osa_open (s := { s with toks := s.toks + 1 }) X IA h2 h3 fun b => ?_)
  obtain ⟨cd, hc, hd'⟩ := any_some h4
  refine wpAny_bind (wpAny_pure (wpAny_bind (wpAny_bind (wpAny_loadPart IA.at_ (wpAny_bind (Looks.here (s := { s with toks := s.toks + 1 }) (looks_clsIn X hc) ?_))))))
  rw [hd']
  refine wpAny_pure (a := some D) (wpAny_bind (wpAny_pure (wpAny_bind ?_)))
  refine wpAny_nsSet1 (s := { s with toks := s.toks + 1 }) hn fun h' hn' hsb => ?_
  have hi : σ D ≠ none ∨ (s.heap.get? D = none ∧ s.heap.objs.size ≤ D) := .inl (by rw [hD]; nofun)
  have S : Step σ s.heap (pt σ D (.ns (putA at' name v))) h' := .put hsb.extBut hi
  have hm' : MapRel B (pt σ D (.ns (putA at' name v))) h' (putA at' name v) (fun y => if y = name then some u else m y) := fun y => by
    rw [putA_look]
    have := (hm.mono S) y
    by_cases z : y = name
    · simp only [if_pos z]; exact rv.mono S
    · simp only [if_neg z]; exact this
  obtain ⟨o', es', ep', e', hd2, r2⟩ := id hn'
  refine wpAny_bind (wpAny_lookBehind e' ?_ (wpAny_pure ?_))
  · rw [hd2]
    have hsz := ns_size (names := (putA at' name v).map (·.1)) hn' e' hd2 fun y hy => by
      have := hm' y
      have hmem : ∀ (l : Loc) (w : V), l.lookup y = some w → y ∈ l.map (·.1) := fun l w q => by
        induction l with
        | nil => cases q
        | cons p r ih =>
          rw [List.lookup_cons] at q
          cases z : y == p.1 with
          | true => rw [eq_of_beq z]; exact .head _
          | false => rw [z] at q; exact .tail _ (ih q)
      cases q : (putA at' name v).lookup y with
      | none => rw [q] at this; cases z : (if y = name then some u else m y) with
        | none => exact (hy z).elim
        | some w => simp only [z] at this
      | some w => exact hmem _ w q
    have hlen : ∀ l : Loc, (putA l name v).length ≤ l.length + 1 := fun l => by
      induction l with
      | nil => exact Nat.le_refl _
      | cons p r ih => unfold putA; split <;> simp only [List.length_cons] <;> lia
    have := hlen at'
    rw [List.length_map] at hsz
    exact pastItsLine_dict (by rw [sizeLine_eq]; exact ar169 hz hsz this)
  · exact ⟨(), pt σ D (.ns (putA at' name v)), N, trivial, Inv.put (s' := { s with heap := h', toks := s.toks + 1 + 1 }) I hsb.extBut hi ⟨_, hn', hm'⟩ (Nat.le_refl _) (I.top D _ hD) (Nat.le_trans I.size (Nat.le_of_eq hsb.1.symm)) (Nat.le_of_eq hsb.1.symm) rfl rfl, S, Nat.le_refl _, h⟩
end
end
noncomputable section
section
variable {B : Cx} {d : Nat} {env : Env} {l : Loc} {σ : Store} {N : Nat} {rest : List Stmt} {Q : PostS}
/-- `o.name` -/
theorem WE_attr {o : Expr} {name : Str} {pos : Pos} {Q : Post V} (ha : attributeBase o name env (eval o env) = eval o env) (h : WE B d env l o σ N fun u σ₁ N₁ => W1 B d (VRel B) (fun x => getAttr x name true) u σ₁ N₁ Q) : WE B d env l (.Attribute o name pos) σ N Q :=
  fun A s k I F => by
    rw [arm_eval_Attribute, ha]
    refine wpAny_bind (h.seq (ρ' := VRel B) k I F fun a u σ₁ N₁ s₁ r I₁ F₁ S₁ n₁ h₁ => wpAny_bind (wpAny_standAt (wpAny_bind (wpAny_holding ?_))))
    exact bot (h₁ A s₁ a k I₁ r) fun c s₂ e => wpAny_bind (wpAny_letTemporaryGo (wpAny_pure (e.after S₁ n₁)))
/-- `o.name = e` -/
theorem X_assignAttr {o e : Expr} {name : Str} {p pos : Pos} (h : WE B d env l e σ N fun v σ₁ N₁ => WE B d env l o σ₁ N₁ fun u σ₂ N₂ => W2 B d URel (fun x y => setAttr x name y) u v σ₂ N₂ fun _ σ₃ N₃ => WX B d env l rest σ₃ N₃ Q)
    (hs : swapsWith e (some (.Attribute o name p)) pos.line env = pure false) : WX B d env l (.Assign [.Attribute o name p] e pos :: rest) σ N Q :=
  X_cons fun A s k I F => plainObj_wpAny_Assign_Attribute (h.seq (ρ' := VRel B) k I F fun a v σ₁ N₁ s₁ r I₁ F₁ S₁ n₁ h₁ => h₁.seq (ρ' := VRel B) k I₁ F₁ fun b u σ₂ N₂ s₂ r₂ I₂ F₂ S₂ n₂ h₂ =>
    bot (h₂ A s₂ b a k I₂ r₂ (r.mono S₂)) fun _ s₃ ⟨_, σ₃, N₃, _, I₃, S₃, n₃, h₃⟩ => ⟨.next, l, σ₃, N₃, .next, I₃, ((S₁.trans S₂).trans S₃).toL _, F₂.mono S₃, Nat.le_trans (Nat.le_trans n₁ n₂) n₃, h₃⟩) hs
/-- `x op= e`, a local name -/
theorem X_augName {x : Str} {e : Expr} {op : Operator} {p pos : Pos} {old : V} (hl : l.lookup x = some old) (hk : env.scope.kind = .function) (hx : env.kindOf x = some .local)
    (h : WE B d env l e σ N fun v σ₁ N₁ => W2 B d (VRel B) (inplaceOp op) old v σ₁ N₁ fun r σ₂ N₂ => WX B d env (upd l x r) rest σ₂ N₂ Q) : WX B d env l (.AugAssign (.Name x p) op e pos :: rest) σ N Q :=
  X_cons fun A s k I F => wpAny_AugAssign_Name ((WF_loadLocal (Q := fun v σ' N' => v = old ∧ σ' = σ ∧ N' = N) hl ⟨rfl, rfl, rfl⟩ hk hx).seq (ρ' := VRel B) k I F fun a u σ₀ N₀ s₀ r₀ I₀ F₀ S₀ n₀ ⟨e1, e2, e3⟩ => by
    subst e1 e2 e3
    exact h.seq (ρ' := VRel B) k I₀ F₀ fun b v σ₁ N₁ s₁ r I₁ F₁ S₁ n₁ h₁ => bot (h₁ A s₁ a b k I₁ (r₀.mono S₁) r) fun c s₂ ⟨w, σ₂, N₂, r₂, I₂, S₂, n₂, h₂⟩ =>
      store_local I₂ (F₁.mono S₂) r₂ hx hk fun s₃ I₃ F₃ S₃ => ⟨.next, _, σ₂, N₂, .next, I₃, (((S₀.trans S₁).trans S₂).toL _).trans S₃, F₃, Nat.le_trans n₁ n₂, h₂⟩)
/-- `o.name op= e` -/
theorem X_augAttr {o e : Expr} {name : Str} {op : Operator} {p pos : Pos} (h : WE B d env l o σ N fun u σ₁ N₁ => W1 B d (VRel B) (fun x => getAttr x name true) u σ₁ N₁ fun old σ₂ N₂ => WE B d env l e σ₂ N₂ fun v σ₃ N₃ => W2 B d (VRel B) (inplaceOp op) old v σ₃ N₃ fun r σ₄ N₄ =>
      W2 B d URel (fun x y => setAttr x name y) u r σ₄ N₄ fun _ σ₅ N₅ => WX B d env l rest σ₅ N₅ Q) : WX B d env l (.AugAssign (.Attribute o name p) op e pos :: rest) σ N Q :=
  X_cons fun A s k I F => wpAny_AugAssign_AttributeAny (h.seq (ρ' := VRel B) k I F fun a u σ₁ N₁ s₁ r₁ I₁ F₁ S₁ n₁ h₁ => bot (h₁ A s₁ a k I₁ r₁) fun b s₂ ⟨old, σ₂, N₂, r₂, I₂, S₂, n₂, h₂⟩ =>
    h₂.seq (ρ' := VRel B) k I₂ (F₁.mono S₂) fun c v σ₃ N₃ s₃ r₃ I₃ F₃ S₃ n₃ h₃ => bot (h₃ A s₃ b c k I₃ (r₂.mono S₃) r₃) fun e s₄ ⟨w, σ₄, N₄, r₄, I₄, S₄, n₄, h₄⟩ =>
      bot (h₄ A s₄ a e k I₄ (((r₁.mono S₂).mono S₃).mono S₄) r₄) fun _ s₅ ⟨_, σ₅, N₅, _, I₅, S₅, n₅, h₅⟩ =>
        ⟨.next, l, σ₅, N₅, .next, I₅, ((((S₁.trans S₂).trans S₃).trans S₄).trans S₅).toL _, (F₃.mono S₄).mono S₅, Nat.le_trans (Nat.le_trans (Nat.le_trans (Nat.le_trans n₁ n₂) n₃) n₄) n₅, h₅⟩)
/-- `o[i] op= e` -/
theorem X_augSub {o i e : Expr} {op : Operator} {p pos : Pos} (hi : ∀ ov iv new, augStore i ov iv new = (do holding [new, ov, iv] (setItem ov iv new); release [new, ov, iv] []; pure .next))
    (h : WE B d env l o σ N fun u σ₁ N₁ => WE B d env l i σ₁ N₁ fun j σ₂ N₂ => W2 B d (VRel B) getItem u j σ₂ N₂ fun old σ₃ N₃ => WE B d env l e σ₃ N₃ fun v σ₄ N₄ => W2 B d (VRel B) (inplaceOp op) old v σ₄ N₄ fun r σ₅ N₅ =>
      W3 B d URel setItem u j r σ₅ N₅ fun _ σ₆ N₆ => WX B d env l rest σ₆ N₆ Q) : WX B d env l (.AugAssign (.Subscript o i p) op e pos :: rest) σ N Q :=
  X_cons fun A s k I F => wpAny_AugAssign_SubscriptAny (h.seq (ρ' := VRel B) k I F fun a u σ₁ N₁ s₁ r₁ I₁ F₁ S₁ n₁ h₁ => h₁.seq (ρ' := VRel B) k I₁ F₁ fun b j σ₂ N₂ s₂ r₂ I₂ F₂ S₂ n₂ h₂ =>
    bot (h₂ A s₂ a b k I₂ (r₁.mono S₂) r₂) fun c s₃ ⟨old, σ₃, N₃, r₃, I₃, S₃, n₃, h₃⟩ => h₃.seq (ρ' := VRel B) k I₃ (F₂.mono S₃) fun e v σ₄ N₄ s₄ r₄ I₄ F₄ S₄ n₄ h₄ =>
      bot (h₄ A s₄ c e k I₄ (r₃.mono S₄) r₄) fun g s₅ ⟨w, σ₅, N₅, r₅, I₅, S₅, n₅, h₅⟩ =>
        bot (h₅ A s₅ a b g k I₅ ((((r₁.mono S₂).mono S₃).mono S₄).mono S₅) (((r₂.mono S₃).mono S₄).mono S₅) r₅) fun _ s₆ ⟨_, σ₆, N₆, _, I₆, S₆, n₆, h₆⟩ =>
          ⟨.next, l, σ₆, N₆, .next, I₆, (((((S₁.trans S₂).trans S₃).trans S₄).trans S₅).trans S₆).toL _, (F₄.mono S₅).mono S₆, Nat.le_trans (Nat.le_trans (Nat.le_trans (Nat.le_trans (Nat.le_trans n₁ n₂) n₃) n₄) n₅) n₆, h₆⟩) hi
theorem IP_int {a b : Int} {Q : Post V} (h : Q (.int (a + b)) σ N) : W2 B d (VRel B) (inplaceOp .Add) (.int a) (.int b) σ N Q := fun A s x y k I r r' => by
  obtain ⟨_, rfl⟩ := r.inv; obtain ⟨_, rfl⟩ := r'.inv; exact PyProof.Rows.iadd_int (.here I.toks (.refl _ _) (.int _ _) h)
theorem IP_str {x y : Str} {Q : Post V} (hz : x.length + y.length ≤ sizeLine) (h : Q (.str (x ++ y)) σ N) : W2 B d (VRel B) (inplaceOp .Add) (.str x) (.str y) σ N Q := fun A s _ _ k I r r' => by
  obtain ⟨_, rfl⟩ := r.inv; obtain ⟨_, rfl⟩ := r'.inv; exact PyProof.Rows.iadd_str (fun _ _ => .here I.toks (.refl _ _) (.str _ _) h) hz
/-- an instance made -/
theorem C_cls {K : Frag} {C fI : Nat} {xs : List V} {Q : Post V} (hK : K.In B.h₀) (hm : makesIn K C = true) (hi : findIn K (.ref C) "__init__" = some (some (.ref fI))) (hf : typeIn K (.ref fI) = some (.type "function"))
    (h : ∀ D, N ≤ D → WK B d (.ref fI) (.ref (D + 1) :: xs) (pt (pt σ D (.ns [])) (D + 1) (.obj (instObj C D))) (D + 2) fun v σ' N' => v = .none ∧ Q (.ref (D + 1)) σ' N') : WC B (d + 1) (.ref C) xs σ N Q := fun A s as k I r => by
  have X := hK.keeps I.keep
  refine wpAny_call ?_
  obtain ⟨hp, g, dr, t, os⟩ := s
  refine make_core (makes_of X hm) (looks_findIn X hi) (fun self => bind_fn X self hf) (.inl rfl) ?_
  have sz : (hp.push emptyDict).objs.size = hp.objs.size + 1 := Heap.size_push ..
  have I₁ := I.new (x := emptyDict) (o := .ns []) ⟨fun _ => none, Heap.Ns1.of_empty ⟨_, #[], 0, Heap.get?_push_size _ rfl, rfl, fun e he => (Array.not_mem_empty _ he).elim, fun _ => rfl⟩, fun y => trivial⟩
  have I₂ := I₁.new (x := instObj C hp.objs.size) (o := .obj (instObj C hp.objs.size)) (by show ((hp.push emptyDict).push _).get? _ = _; exact Heap.get?_push_size _ rfl)
  have S₁ : Step σ hp (pt σ hp.objs.size (.ns [])) (hp.push emptyDict) := .new
  have S₂ : Step (pt σ hp.objs.size (.ns [])) (hp.push emptyDict) (pt (pt σ hp.objs.size (.ns [])) (hp.push emptyDict).objs.size (.obj (instObj C hp.objs.size))) ((hp.push emptyDict).push (instObj C hp.objs.size)) := .new
  simp only [sz] at I₂ S₂
  have hw : (Code.builtin "type.__call__" ⟨.ref C :: as, []⟩).weight ≤ 1 := by first | exact Nat.le_of_eq rfl | exact Nat.le_succ_of_le (Nat.le_of_eq rfl) | (unfold Code.weight; simp [Code.frames, Code.isCreation, Code.isGuard, Code.isCaller])
  have hu : (Code.builtin "type.__call__" ⟨.ref C :: as, []⟩).cUnits ≤ 50 := by first | exact Nat.le_trans (Nat.le_of_eq (rfl : _ = 1)) (by decide) | exact Nat.le_trans (Nat.le_of_eq (rfl : _ = 4)) (by decide) | (simp [Code.cUnits, Code.frames])
  have hO : Ok d (A.under (.builtin "type.__call__" ⟨.ref C :: as, []⟩)) := ⟨k.handled, by have := k.depth; show A.depth + Code.weight _ + d ≤ 900; exact ar170 hw this, by have := k.units; show A.units + Code.cUnits _ + 50 * d ≤ 9000; exact ar171 hu this⟩
  refine codeAny_mono (h hp.objs.size I.size _ _ (.ref (hp.objs.size + 1) :: as) hO I₂ (.cons (.ref _) ((r.mono S₁).mono S₂))) fun r s' z => ?_
  rcases r with e | (v | _ | _ | _) <;> first | exact z | exact z.elim | skip
  obtain ⟨b, σ', N', rb, I', S', n', hv, q⟩ := z
  subst hv
  obtain ⟨_, rfl⟩ := rb.inv
  exact ⟨rfl, ⟨_, σ', N', .ref _, I', (S₁.trans S₂).trans S', Nat.le_trans (Nat.le_trans I.size (by show hp.objs.size ≤ hp.objs.size + 2; exact ar172)) n', q⟩⟩
end
end
noncomputable section
/-! attributes of functions -/
theorem slot_fn_ga : Slot "function" "__getattribute__" "object.__getattribute__" := .of (owner := "object") (n := "__getattribute__") (by rw [typeLookup_type, builtinLookup_eq_fast]; kernel_rfl) (by decide +kernel) (by decide +kernel) (by decide +kernel) (.inl (by decide +kernel)) (by rw [isSubtype_type]; kernel_rfl)
theorem slot_fn_sa : Slot "function" "__setattr__" "object.__setattr__" := .of (owner := "object") (n := "__setattr__") (by rw [typeLookup_type, builtinLookup_eq_fast]; kernel_rfl) (by decide +kernel) (by decide +kernel) (by decide +kernel) (.inl (by decide +kernel)) (by rw [isSubtype_type]; kernel_rfl)
theorem entry_ga : entryFor table "object.__getattribute__" = some Builtin.«object.__getattribute__» := entryFor_of_tree (by kernel_rfl)
theorem args_ga (o a : Value) : argsOk "object.__getattribute__" ⟨[o, a], []⟩ := by unfold argsOk; kernel_rfl
theorem fn_ga0 : typeLookup (.type "function") "__getattr__" = pure none := by kernel_rfl
theorem fn_read : typeLookup (.type "function") "read" = pure none := by kernel_rfl
theorem fn_mro : mroOf (.type "function") = pure [.type "function", .type "object"] := by kernel_rfl
theorem fn_refuse (self : Value) : refuseLoop self "__setattr__" [.type "function", .type "object"] = pure () := by kernel_rfl
theorem fn_dict : typeHasDict (.type "function") = true := by rfl
theorem fn_made (a b : Nat) : dictMade (.type "function") a b = pure (some b) := by kernel_rfl
section
variable {prog : Program} {w : World} {A : Around} {E : Value → Shared → Prop} {s : Shared} {x D : Nat} {o : Obj} {m : Str → Option Value} {v : Value}
theorem fn_find {M : Model} {name : Str} {Q : Builtin.ObjectAttr.Found → Shared → Prop} (hl : typeLookup (.type "function") name = pure none) (ho : s.heap.get? x = some o) (hc : o.cls = .type "function") (hd : o.dict = some D) {fd : FuncData} (hf : o.data = .func fd) (hn : s.heap.Ns D m) (hv : m name = some v)
    (h : Q (.value v) s) : wpAny M A (Builtin.ObjectAttr.find (.ref x) (.type "function") name) Q E s := by
  unfold Builtin.ObjectAttr.find
  rw [hl]
  refine wpAny_bind (wpAny_pure (wpAny_bind (wpAny_pure (wpAny_bind (wpAny_pure ?_)))))
  refine wpAny_bind (wpAny_bind (wpAny_bind (wpAny_loadPart ho ?_)))
  obtain ⟨oc, od, oda, osl⟩ := o
  dsimp only at hc hd hf
  subst hc hd hf
  refine wpAny_bind (wpAny_loadPart ho ?_)
  refine wpAny_pure (a := some D) ?_
  refine wpAny_nsGet hn ?_
  rw [hv]
  exact wpAny_bind (wpAny_rule (wpAny_pure h))
theorem fn_get {name : Str} {expr : Bool} {Q : Value → Shared → Prop} (hl : typeLookup (.type "function") name = pure none) (ho : s.heap.get? x = some o) (hc : o.cls = .type "function") (hd : o.dict = some D) {fd : FuncData} (hf : o.data = .func fd) (hn : s.heap.Ns D m) (hv : m name = some v) (hh : handedIn v = true)
    (h : Q v { s with toks := s.toks + 1 }) : wpAny (model prog w) A (getAttr (.ref x) name expr) Q E s := by
  have hT : ({ s with toks := s.toks + 1 } : Shared).TypeIs (.ref x) "function" := ⟨_, ho, hc⟩
  unfold getAttr getAttrBy
  refine wpAny_bind (wpAny_mkText (wpAny_holding (wpAny_bind (wpAny_typeOf hT (wpAny_bind (wpAny_of_eq slot_fn_ga.lookup ?_))))))
  show wpAny _ _ (getAttrByItsOwn (.ref x) (.str name s.toks) (.type "function") (.builtin "object.__getattribute__") true expr) _ _ _
  unfold getAttrByItsOwn hookBefore callGetattribute boundAndCalled
  refine wpAny_bind (wpAny_of_eq (show (if onTheHeap (.type "function") then typeLookup (.type "function") "__getattr__" else pure none) = pure none from rfl) ?_)
  refine wpAny_bind (wpAny_attempt (wpAny_holding ?_))
  rw [show (expr && onTheHeap (.builtin "object.__getattribute__")) = false from by cases expr <;> rfl]
  refine wpAny_bind (wpAny_of_eq (slot_fn_ga.bind _) ?_)
  refine wpAny_mono (Q := fun u s' => u = v ∧ s' = { s with toks := s.toks + 1 }) (E := fun _ _ => False) (wpAny_call_entry slot_fn_ga hT entry_ga ?_ (args_ga _ _)) (fun u s' hv => ?_) fun _ _ z => z.elim
  · refine wpAny_bind (wpAny_pure (wpAny_bind (wpAny_pure (wpAny_bind (wpAny_typeOf hT (wpAny_bind (fn_find (s := { s with toks := s.toks + 1 }) hl ho hc hd hf hn hv ?_)))))))
    exact wpAny_pure ⟨_, rfl, rfl, rfl⟩
  · obtain ⟨rfl, rfl⟩ := hv
    show wpAny _ _ (handedOut u) _ _ _
    rw [handedOut_of hh]
    exact wpAny_pure h
theorem fn_method {name : Str} {pl : Sem Bool} {Q : Value × List Value → Shared → Prop} (hl : typeLookup (.type "function") name = pure none) (ho : s.heap.get? x = some o) (hc : o.cls = .type "function") (hd : o.dict = some D) {fd : FuncData} (hf : o.data = .func fd) (hn : s.heap.Ns D m) (hv : m name = some v) (hh : handedIn v = true)
    (h : Q (v, []) { s with toks := s.toks + 1 }) : wpAny (model prog w) A (getMethod (.ref x) name pl) Q E s := by
  have hT : s.TypeIs (.ref x) "function" := ⟨_, ho, hc⟩
  have hcan := PySem.F.canon_object_ga
  unfold getMethod
  refine wpAny_bind (wpAny_specialOf hT slot_fn_ga.lookup ?_)
  dsimp only
  rw [hcan, if_neg (by decide)]
  refine wpAny_bind (wpAny_specialOf hT fn_ga0 ?_)
  refine wpAny_bind (wpAny_specialOf hT hl ?_)
  exact wpAny_bind (fn_get hl ho hc hd hf hn hv hh (wpAny_pure h))
theorem fn_set {name : Str} {Q : Unit → Shared → Prop} (hl : typeLookup (.type "function") name = pure none) (ho : s.heap.get? x = some o) (hc : o.cls = .type "function") (hd : o.dict = none) {fd : FuncData} (hf : o.data = .func fd)
    (h : ∀ h' tk, h'.Ns1 s.heap.objs.size (fun y => if y = name then some v else none) → h'.get? x = some { o with dict := some s.heap.objs.size } → (∀ b p, b ≠ x → s.heap.get? b = some p → h'.get? b = some p) → h'.objs.size = s.heap.objs.size + 1 → Q () { s with heap := h', toks := tk }) :
    wpAny (model prog w) A (setAttr (.ref x) name v) Q E s := by
  have hT : ({ s with toks := s.toks + 1 } : Shared).TypeIs (.ref x) "function" := ⟨_, ho, hc⟩
  unfold setAttr
  refine wpAny_bind (wpAny_mkText (wpAny_bind (wpAny_callSpecial?_slot (name := Str.ofString "__setattr__") hT slot_fn_sa (wpAny_call_entry slot_fn_sa hT PySem.F.store_object.entry ?_ (PySem.F.store_object.args _ _ _)))))
  rw [osa_eq, refuse_eq]
  refine wpAny_bind (wpAny_bind (wpAny_typeOf hT (wpAny_bind (wpAny_of_eq fn_mro ?_))))
  rw [fn_refuse]
  refine wpAny_pure (wpAny_bind (wpAny_typeOf hT (wpAny_bind (wpAny_of_eq hl (wpAny_bind (wpAny_pure ?_))))))
  obtain ⟨oc, od, oda, osl⟩ := o
  dsimp only at hc hd hf
  subst hc hd hf
  refine wpAny_bind (wpAny_pure (wpAny_bind (wpAny_bind (wpAny_loadPart ho ?_))))
  simp only [fn_dict, Bool.not_true, Bool.or_self, Bool.false_eq_true, if_false]
  refine wpAny_bind (wpAny_alloc ?_)
  have hne : x ≠ s.heap.objs.size := Nat.ne_of_lt (Heap.lt_size ho)
  refine wpAny_bind (wpAny_update (Heap.get?_push_of_some _ ho) ?_)
  rw [fn_made]
  refine wpAny_pure ?_
  generalize hf : (fun o : Obj => ({ cls := o.cls, dict := some s.heap.objs.size, data := o.data, slots := o.slots } : Obj)) = f
  have hu : Heap.SameBut x (s.heap.push emptyDict) ((s.heap.push emptyDict).update x f) := Heap.SameBut.update ..
  have hD : ((s.heap.push emptyDict).update x f).get? s.heap.objs.size = some emptyDict := (hu.2 _ (Ne.symm hne)).trans (Heap.get?_push_size _ rfl)
  have hX : ((s.heap.push emptyDict).update x f).get? x = some { cls := .type "function", dict := some s.heap.objs.size, data := .func fd, slots := osl } := by
    rw [← hf]; exact Heap.get?_update_self _ (Heap.get?_push_of_some _ ho) rfl
  have hn0 : ((s.heap.push emptyDict).update x f).Ns1 s.heap.objs.size (fun _ => none) := Heap.Ns1.of_empty ⟨_, #[], 0, hD, rfl, fun e he => (Array.not_mem_empty _ he).elim, fun _ => rfl⟩
  refine wpAny_bind (wpAny_pure (wpAny_bind (wpAny_nsSet1 (s := { s with heap := (s.heap.push emptyDict).update x f, toks := s.toks + 1 }) hn0 fun h' hn' hsb => ?_)))
  obtain ⟨o', es', ep', e', hd2, r2⟩ := id hn'
  refine wpAny_bind (wpAny_lookBehind e' ?_ (wpAny_pure ⟨_, rfl, wpAny_pure (h h' _ hn' ((hsb.2 x hne).trans hX) (fun b p hb e => ?_) ?_)⟩))
  · rw [hd2]
    have hsz := ns_size (names := [name]) hn' e' hd2 fun y hy => by
      by_cases z : y = name
      · rw [z]; exact .head _
      · rw [if_neg z] at hy; exact absurd rfl hy
    exact pastItsLine_dict (by rw [sizeLine_eq]; simp only [List.length_singleton] at hsz; exact ar173 hsz)
  · have hlt : b < s.heap.objs.size := Heap.lt_size e
    rw [hsb.2 b (Nat.ne_of_lt hlt)]
    exact (hu.2 b hb).trans (Heap.get?_push_of_some _ e)
  · rw [hsb.1, hu.1, Heap.size_push]
end
section
variable {B : Cx} {d : Nat} {env : Env} {l : Loc} {σ : Store} {N : Nat} {s : Shared} {x D : Nat} {o : Obj} {fd : FuncData} {name : Str} {v : V}
/-- `f.name = v`, the first -/
theorem A_setFn {Q : Post Unit} (hl : typeLookup (.type "function") name = pure none) (hx : σ x = some (.obj o)) (hc : o.cls = .type "function") (hd : o.dict = none) (hf : o.data = .func fd)
    (h : ∀ D, N ≤ D → Q () (pt (pt σ x (.obj { o with dict := some D })) D (.ns [(name, v)])) (D + 1)) : W2 B d URel (fun o u => setAttr o name u) (.ref x) v σ N Q := fun A s a u k I r rv => by
  obtain ⟨_, rfl⟩ := r.inv
  have ho : s.heap.get? x = some o := I.store x _ hx
  refine fn_set hl ho hc hd hf fun h' tk hn' hx' hk hz => ?_
  have hlt : x < s.heap.objs.size := Heap.lt_size ho
  have hne : x ≠ s.heap.objs.size := Nat.ne_of_lt hlt
  have hfr : σ s.heap.objs.size = none := I.fresh
  have S : Step σ s.heap (pt (pt σ x (.obj { o with dict := some s.heap.objs.size })) s.heap.objs.size (.ns [(name, v)])) h' := ⟨fun b p e n => by
    have b1 : b ≠ x := fun z => by rw [z, hx] at n; cases n
    have b2 : b ≠ s.heap.objs.size := Nat.ne_of_lt (Heap.lt_size e)
    exact ⟨hk b p b1 e, by rw [pt_ne b2, pt_ne b1]; exact n⟩, rfl⟩
  refine ⟨(), _, s.heap.objs.size + 1, trivial, ⟨fun b p e => ?_, fun b p e => ?_, I.gens, I.os, fun b p e => ?_, Nat.le_of_eq hz.symm, fun b f => ?_⟩, S, Nat.le_succ_of_le I.size, h _ I.size⟩
  · by_cases z : b = s.heap.objs.size
    · subst z; rw [pt_same] at e; cases e
      refine ⟨_, hn', fun y => ?_⟩
      show match List.lookup y (upd [] name v), _ with | none, none => True | some v, some u => VRel B _ h' v u | _, _ => False
      rw [upd_look]
      by_cases q : y = name
      · simp only [if_pos q]; exact rv.mono S
      · simp only [if_neg q]; trivial
    · rw [pt_ne z] at e
      by_cases y : b = x
      · subst y; rw [pt_same] at e; cases e; exact hx'
      · rw [pt_ne y] at e; exact (I.store b p e).mono S fun q r => hk b q y r
  · obtain ⟨e1, e2⟩ := I.base b p e
    have b1 : b ≠ x := fun z => by rw [z, hx] at e2; cases e2
    exact ⟨hk b p b1 e1, (S.keep b p e1 e2).2⟩
  · by_cases z : b = s.heap.objs.size
    · subst z; exact Nat.lt_succ_self _
    · rw [pt_ne z] at e
      have : b < N := by
        by_cases y : b = x
        · subst y; exact I.top _ _ hx
        · rw [pt_ne y] at e; exact I.top _ _ e
      exact Nat.lt_succ_of_le (Nat.le_trans (Nat.le_of_lt this) I.size)
  · obtain ⟨x1, y1, z1⟩ := I.marks b f
    have b1 : b ≠ x := fun z => by rw [z, hx] at y1; cases y1
    exact ⟨by show b < h'.objs.size; rw [hz]; exact Nat.lt_succ_of_lt x1, by rw [pt_ne (Nat.ne_of_lt x1), pt_ne b1]; exact y1, z1⟩
theorem M_fn {pos : Pos} {pl : Sem Bool} {args : List Expr} {at' : Loc} {Q : Post V} (hl : typeLookup (.type "function") name = pure none) (hx : σ x = some (.obj o)) (hc : o.cls = .type "function") (hd : o.dict = some D) (hf : o.data = .func fd) (hD : σ D = some (.ns at')) (hv : at'.lookup name = some v) (hh : handV v = true)
    (h : CW B d env l pos v [] args σ N Q) : ∀ A s a, Ok d A → Inv B σ N s → FRel B env l σ s.heap → VRel B σ s.heap (.ref x) a → wpAny (model B.prog B.w) A (getMethod a name pl) (fun fx s₂ => wpAny (model B.prog B.w) A (callWith pos fx.1 fx.2 (backTo pos (starEach args env)) []) (Ends B (VRel B) σ N s.heap Q) (fun _ _ => False) s₂) (fun _ _ => False) s :=
  fun A s a k I F r => by
    obtain ⟨_, rfl⟩ := r.inv
    obtain ⟨m, hn, hm⟩ := I.store D _ hD
    obtain ⟨u, hu, ru⟩ := hm.some_of hv
    exact fn_method hl (I.store x _ hx) hc hd hf hn.ns hu (handV_ok ru hh) (h A { s with toks := s.toks + 1 } u [] k I.toks F ru .nil)
end
end
noncomputable section
/-! functions made while running -/
section
variable {B : Cx} {d : Nat} {env : Env} {l : Loc} {σ : Store} {N : Nat} {s : Shared} {rest : List Stmt} {Q : PostS}
noncomputable abbrev madeSt (σ : Store) (P : Nat) (oP : Obj) (c : Nat) (oc : Obj) (f : Nat) (fo : Obj) : Store := pt (pt (pt σ P (.obj oP)) c (.obj oc)) f (.obj fo)
theorem Inv.made {P c : Nat} {oP oP' oc fo : Obj} {h' : Heap} {tk : Nat} (I : Inv B σ N s) (hP : σ P = some (.obj oP)) (hx : Heap.ExtBut P s.heap h') (hc : s.heap.objs.size ≤ c) (hc' : c < h'.objs.size) (hoc : h'.get? c = some oc) (hP' : h'.get? P = some oP') (hfo : fo.isFreed = false) :
    Inv B (madeSt σ P oP' c oc h'.objs.size fo) (h'.objs.size + 1) { s with heap := h'.push fo, toks := tk } ∧ Step σ s.heap (madeSt σ P oP' c oc h'.objs.size fo) (h'.push fo) := by
  have hPl : P < s.heap.objs.size := by obtain ⟨x, e⟩ := I.there hP; exact Heap.lt_size e
  have kp : ∀ b p, b ≠ P → s.heap.get? b = some p → (h'.push fo).get? b = some p := fun b p n e => Heap.get?_push_of_some _ (hx b p n e)
  have low : ∀ b, b < s.heap.objs.size → b ≠ P → madeSt σ P oP' c oc h'.objs.size fo b = σ b := fun b hb n => by
    unfold madeSt
    rw [pt_ne (by exact ar174 hc hc' hb), pt_ne (by exact ar57 hc hb), pt_ne n]
  have S : Step σ s.heap (madeSt σ P oP' c oc h'.objs.size fo) (h'.push fo) := ⟨fun b p e n => by
    have b1 : b ≠ P := fun z => by rw [z, hP] at n; cases n
    exact ⟨kp b p b1 e, (low b (Heap.lt_size e) b1).trans n⟩, rfl⟩
  refine ⟨⟨fun b p e => ?_, fun b p e => ?_, I.gens, I.os, fun b p e => ?_, by show _ ≤ (h'.push fo).objs.size; rw [Heap.size_push]; exact Nat.le_refl _, fun b f => ?_⟩, S⟩
  · unfold madeSt at e
    by_cases z1 : b = h'.objs.size
    · subst z1; rw [pt_same] at e; cases e; exact Heap.get?_push_size _ hfo
    · rw [pt_ne z1] at e
      by_cases z2 : b = c
      · subst z2; rw [pt_same] at e; cases e; exact Heap.get?_push_of_some _ hoc
      · rw [pt_ne z2] at e
        by_cases z3 : b = P
        · subst z3; rw [pt_same] at e; cases e; exact Heap.get?_push_of_some _ hP'
        · rw [pt_ne z3] at e; exact (I.store b p e).mono S fun q r => kp b q z3 r
  · obtain ⟨e1, e2⟩ := I.base b p e
    exact S.keep b p e1 e2
  · unfold madeSt at e
    by_cases z1 : b = h'.objs.size
    · subst z1; exact Nat.lt_succ_self _
    · rw [pt_ne z1] at e
      by_cases z2 : b = c
      · exact ar175 hc' z2
      · rw [pt_ne z2] at e
        by_cases z3 : b = P
        · exact ar176 hc hc' hPl z3
        · rw [pt_ne z3] at e
          have h1 := I.top b p e
          have h2 := I.size
          exact ar177 hc hc' h1 h2
  · obtain ⟨x1, y1, z1⟩ := I.marks b f
    have b1 : b ≠ P := fun z => by rw [z, hP] at y1; cases y1
    exact ⟨by show b < (h'.push fo).objs.size; rw [Heap.size_push]; exact ar178 hc hc' x1, (low b x1 b1).trans y1, z1⟩
/-- a code object's head -/
noncomputable def CodeOb (oc : Obj) (qual : Str) : Prop := ∃ vs t, oc.data = .fields vs ∧ vs[1]? = some (.str qual t)
structure Nest (B : Cx) (c P : Nat) : Prop where
  code : CodeHd B.h₀ c P
  glob : ∃ mg, B.h₀.Ns mainGlobals mg ∧ B.h₀.BuiltinsAt mg P
  ne : mainGlobals ≠ P
theorem BuiltinsAt.up {h h' : Heap} {mg : Str → Option Value} {P : Nat} (x : h.BuiltinsAt mg P) (k : ∀ b o, h.get? b = some o → h'.get? b = some o) : h'.BuiltinsAt mg P :=
  let ⟨bm, o, a, b, c, e, g, r⟩ := x; ⟨bm, o, a, b, c, e, k _ _ g, r⟩
theorem def_exec {M : Model} {A : Around} {E : Value → Shared → Prop} {name : Str} {params : Arguments} {body : List Stmt} {scope : Scope} {pos : Pos} {Q : Flow → Shared → Prop} (hd : params.defaults = []) (hk0 : params.kw_defaults = []) (ha : annTrees params none env = [])
    (h : wpAny M A (makeFunction name (qualnameIn env name name) params (.stmts body) scope env [] [] [] pos pos.line)
      (fun v s' => wpAny M A (storeName env name v) (fun _ s'' => Q .next s'') E s') E s) :
    wpAny M A (exec (.FunctionDef name params body [] none [] scope none name pos) env) Q E s := by
  rw [exec_def]
  refine wpAny_bind (wpAny_standAt (wpAny_bind (wpAny_holding ?_)))
  rw [defaultsOf_eq, hk0, ha, hd]
  refine wpAny_bind (kdv_all0 (env := env) ?_)
  refine wpAny_bind (wpAny_holding (wpAny_pure ?_))
  refine wpAny_holding (wpAny_bind (wpAny_pure ?_))
  exact wpAny_mono h (fun v s' h' => wpAny_bind (wpAny_standAt (wpAny_bind (wpAny_bindName (wpAny_mono h' (fun _ _ h'' => wpAny_pure h'') fun _ _ x => x))))) fun _ _ x => x
theorem X_def {name : Str} {params : Arguments} {body : List Stmt} {scope : Scope} {pos : Pos} {c P : Nat} {ps : Array Value} {clos : List (Str × Nat)} (hn : Nest B c P) (hcl : closureFor scope env = pure clos) (hg0 : env.globals = mainGlobals) (hk : env.scope.kind = .function) (hcode : env.code = .ref c)
    (hP : σ P = some (.obj (tabObj ps))) (ht : TriplesOk ps.toList) (hnf : codeAmong pos ps.toList = none) (hl : env.kindOf name = some .local) (hd : params.defaults = []) (hk0 : params.kw_defaults = []) (ha : annTrees params none env = [])
    (h : ∀ c' f oc ctv doc pm, N ≤ c' → c' < f → CodeOb oc (qualnameIn env name name) →
      WX B d env (upd l name (.ref f)) rest (madeSt σ P (tabObj (ps ++ #[rawInt pos.line, rawInt pos.col, .ref c'])) c' oc f (fnMade name (qualnameIn env name name) params body scope clos doc pm c' ctv)) (f + 1) Q) :
    WX B d env l (.FunctionDef name params body [] none [] scope none name pos :: rest) σ N Q :=
  X_cons fun A s k I F => def_exec hd hk0 ha (by
    obtain ⟨mg, hg, hb⟩ := hn.glob
    refine makeFunction_K hcl hg0 (hg.keeps I.keep) hcode (hn.code.keeps I.keep) (I.store P _ hP) ht hnf hn.ne (BuiltinsAt.up hb I.keep) fun c' ctv doc h' tk hx hge hlt hrec hP' => ?_
    obtain ⟨c₂, oc, vs, t, e, hoc, hdt, hq⟩ := hrec
    cases e
    obtain ⟨I₁, S₁⟩ := I.made (fo := fnMade name (qualnameIn env name name) params body scope clos doc ((mg "__name__").getD .none) c' ctv) (tk := tk) hP hx hge hlt hoc hP' rfl
    refine store_local I₁ (F.mono S₁) (.ref _) hl hk fun s₂ I₂ F₂ S₂ => ?_
    exact ⟨.next, _, _, _, .next, I₂, (S₁.toL _).trans S₂, F₂, by have := I.size; exact ar58 hge hlt this, h c' h'.objs.size oc ctv doc _ (Nat.le_trans I.size hge) hlt ⟨vs, t, hdt, hq⟩⟩)
theorem X_defHit {name : Str} {params : Arguments} {body : List Stmt} {scope : Scope} {pos : Pos} {c P c' : Nat} {ps : Array Value} {clos : List (Str × Nat)} (hn : Nest B c P) (hcl : closureFor scope env = pure clos) (hg0 : env.globals = mainGlobals) (hk : env.scope.kind = .function) (hcode : env.code = .ref c)
    (hP : σ P = some (.obj (tabObj ps))) (ht : TriplesOk ps.toList) (hf : codeAmong pos ps.toList = some (.ref c')) (hl : env.kindOf name = some .local) (hd : params.defaults = []) (hk0 : params.kw_defaults = []) (ha : annTrees params none env = [])
    (h : ∀ f ctv doc pm, N ≤ f → WX B d env (upd l name (.ref f)) rest (pt σ f (.obj (fnMade name (qualnameIn env name name) params body scope clos doc pm c' ctv))) (f + 1) Q) :
    WX B d env l (.FunctionDef name params body [] none [] scope none name pos :: rest) σ N Q :=
  X_cons fun A s k I F => def_exec hd hk0 ha (by
    obtain ⟨mg, hg, hb⟩ := hn.glob
    refine makeFunction_hit hcl hg0 (hg.keeps I.keep) hcode (hn.code.keeps I.keep) (I.store P _ hP) ht hf (BuiltinsAt.up hb I.keep) fun ctv doc h' tk hk' hz => ?_
    have I₀ : Inv B σ N { s with heap := h', toks := tk } := I.grow hk' hz rfl rfl
    have S₀ : Step σ s.heap σ h' := .grow hk'
    have I₁ := I₀.new (x := fnMade name (qualnameIn env name name) params body scope clos doc ((mg "__name__").getD .none) c' ctv) (o := .obj (fnMade name (qualnameIn env name name) params body scope clos doc ((mg "__name__").getD .none) c' ctv)) (by show (h'.push _).get? _ = _; exact Heap.get?_push_size _ rfl)
    have S₁ : Step σ s.heap _ _ := S₀.trans (.new (x := fnMade name (qualnameIn env name name) params body scope clos doc ((mg "__name__").getD .none) c' ctv) (o := .obj (fnMade name (qualnameIn env name name) params body scope clos doc ((mg "__name__").getD .none) c' ctv)))
    refine store_local I₁ (F.mono S₁) (.ref _) hl hk fun s₂ I₂ F₂ S₂ => ?_
    exact ⟨.next, _, _, _, .next, I₂, (S₁.toL _).trans S₂, F₂, by have := I₀.size; exact Nat.le_succ_of_le this, h h'.objs.size ctv doc _ I₀.size⟩)
theorem WE_lambda {params : Arguments} {body : Expr} {scope : Scope} {pos : Pos} {c P : Nat} {ps : Array Value} {clos : List (Str × Nat)} {Q : Post V} (hn : Nest B c P) (hcl : closureFor scope env = pure clos) (hg0 : env.globals = mainGlobals) (hcode : env.code = .ref c)
    (hP : σ P = some (.obj (tabObj ps))) (ht : TriplesOk ps.toList) (hnf : codeAmong pos ps.toList = none) (hd : defaultsOf params env = ([], []))
    (h : ∀ c' f oc ctv pm, N ≤ c' → c' < f → Q (.ref f) (madeSt σ P (tabObj (ps ++ #[rawInt pos.line, rawInt pos.col, .ref c'])) c' oc f (kla_obj "<lambda>" (env.qual ++ "<lambda>") params body scope clos pm c' ctv)) (f + 1)) :
    WE B d env l (.Lambda params body scope pos) σ N Q :=
  fun A s k I F => kla_eval hd (by
    obtain ⟨mg, hg, hb⟩ := hn.glob
    refine kla_makeFunction hcl hg0 (hg.keeps I.keep) hcode (hn.code.keeps I.keep) (I.store P _ hP) ht hnf hn.ne (BuiltinsAt.up hb I.keep) fun c' ctv h' tk hx hge hlt hrec hP' => ?_
    obtain ⟨c₂, oc, vs, t, e, hoc, hdt, hq⟩ := hrec
    cases e
    obtain ⟨I₁, S₁⟩ := I.made (fo := kla_obj "<lambda>" (env.qual ++ "<lambda>") params body scope clos ((mg "__name__").getD .none) c' ctv) (tk := tk) hP hx hge hlt hoc hP' rfl
    exact ⟨.ref _, _, _, .ref _, I₁, S₁, by have := I.size; exact ar58 hge hlt this, h c' h'.objs.size oc ctv _ (Nat.le_trans I.size hge) hlt⟩)
theorem WE_lambdaHit {params : Arguments} {body : Expr} {scope : Scope} {pos : Pos} {c P c' : Nat} {ps : Array Value} {clos : List (Str × Nat)} {Q : Post V} (hn : Nest B c P) (hcl : closureFor scope env = pure clos) (hg0 : env.globals = mainGlobals) (hcode : env.code = .ref c)
    (hP : σ P = some (.obj (tabObj ps))) (ht : TriplesOk ps.toList) (hf : codeAmong pos ps.toList = some (.ref c')) (hd : defaultsOf params env = ([], []))
    (h : ∀ f ctv pm, N ≤ f → Q (.ref f) (pt σ f (.obj (kla_obj "<lambda>" (env.qual ++ "<lambda>") params body scope clos pm c' ctv))) (f + 1)) :
    WE B d env l (.Lambda params body scope pos) σ N Q :=
  fun A s k I F => kla_eval hd (by
    obtain ⟨mg, hg, hb⟩ := hn.glob
    refine kla_makeFunctionHit hcl hg0 (hg.keeps I.keep) hcode (hn.code.keeps I.keep) (I.store P _ hP) ht hf (BuiltinsAt.up hb I.keep) fun ctv h' tk hk' hz => ?_
    have I₀ : Inv B σ N { s with heap := h', toks := tk } := I.grow hk' hz rfl rfl
    have S₀ : Step σ s.heap σ h' := .grow hk'
    have I₁ := I₀.new (x := kla_obj "<lambda>" (env.qual ++ "<lambda>") params body scope clos ((mg "__name__").getD .none) c' ctv) (o := .obj (kla_obj "<lambda>" (env.qual ++ "<lambda>") params body scope clos ((mg "__name__").getD .none) c' ctv)) (by show (h'.push _).get? _ = _; exact Heap.get?_push_size _ rfl)
    have S₁ : Step σ s.heap _ _ := S₀.trans (.new (x := kla_obj "<lambda>" (env.qual ++ "<lambda>") params body scope clos ((mg "__name__").getD .none) c' ctv) (o := .obj (kla_obj "<lambda>" (env.qual ++ "<lambda>") params body scope clos ((mg "__name__").getD .none) c' ctv)))
    exact ⟨.ref _, _, _, .ref _, I₁, S₁, by have := I₀.size; exact Nat.le_succ_of_le this, h h'.objs.size ctv _ I₀.size⟩)
end
end
noncomputable section
/-! bound methods, iter(callable, sentinel) -/
theorem slot_cit_next : Slot "callable_iterator" "__next__" "callable_iterator.__next__" :=
  .of (owner := "callable_iterator") (n := "__next__") (by rw [typeLookup_type, builtinLookup_eq_fast]; kernel_rfl) (by decide +kernel) (by decide +kernel) (by decide +kernel)
    (by first | exact .inl (by decide +kernel) | exact .inr (by decide +kernel)) (by rw [isSubtype_type]; kernel_rfl)
theorem slot_cit_iter : Slot "callable_iterator" "__iter__" "callable_iterator.__iter__" :=
  .of (owner := "callable_iterator") (n := "__iter__") (by rw [typeLookup_type, builtinLookup_eq_fast]; kernel_rfl) (by decide +kernel) (by decide +kernel) (by decide +kernel)
    (by first | exact .inl (by decide +kernel) | exact .inr (by decide +kernel)) (by rw [isSubtype_type]; kernel_rfl)
theorem entry_cit_next : entryFor table "callable_iterator.__next__" = some Builtin.«callable_iterator.__next__» := entryFor_of_tree (by kernel_rfl)
theorem entry_cit_iter : entryFor table "callable_iterator.__iter__" = some Builtin.«dict_keyiterator.__iter__» :=
  entryFor_alias (id' := "dict_keyiterator.__iter__") (by kernel_rfl) rfl (by decide +kernel) (by kernel_rfl)
theorem args_cit_next (a : Value) : argsOk "callable_iterator.__next__" ⟨[a], []⟩ := by unfold argsOk; kernel_rfl
theorem args_cit_iter (a : Value) : argsOk "callable_iterator.__iter__" ⟨[a], []⟩ := by unfold argsOk; kernel_rfl
theorem kind_iter : builtinKind "iter" = none := by decide +kernel
theorem plain_iter : plainId "iter" = true := by decide +kernel
theorem entry_iter : entryFor table "iter" = some Builtin.«iter» := entryFor_of_tree (by kernel_rfl)
theorem args_iter2 (a b : Value) : argsOk "iter" ⟨[a, b], []⟩ := by unfold argsOk; kernel_rfl
theorem meth_call : typeLookup (.type "method") "__call__" = pure (some (.builtin "method.__call__")) := by rw [typeLookup_type, builtinLookup_eq_fast]; kernel_rfl
noncomputable abbrev citObj (f s e : Value) : Obj := { cls := .type "callable_iterator", data := .fields #[f, s, e] }
section
variable {B : Cx} {d : Nat} {env : Env} {l : Loc} {σ : Store} {N : Nat} {s : Shared} {x D C f : Nat} {name : Str} {at' : Loc}
noncomputable def BoundAt (B : Cx) (C : Nat) (name : Str) (f : Nat) : Prop := ∃ K, K.In B.h₀ ∧ plainGet K C name = true ∧ hasDictIn K C = true ∧ findIn K (.ref C) name = some (some (.ref f)) ∧ isFn K (.ref f) = true ∧
  specialIn K (.ref f) "__get__" = some (some (.builtin "function.__get__")) ∧ takesIn K (.ref f) = some false ∧ copiedNames.contains name = false
theorem A_bound {Q : Post V} {e : Bool} (hx : σ x = some (.obj (instObj C D))) (hD : σ D = some (.ns at')) (ha : BoundAt B C name f) (hl : at'.lookup name = none) (h : ∀ q, N ≤ q → Q (.ref q) (pt σ q (.obj (methodObj (.ref f) (.ref x)))) (q + 1)) : W1 B d (VRel B) (fun o => getAttr o name e) (.ref x) σ N Q := fun A s a k I r => by
  obtain ⟨_, rfl⟩ := r.inv
  obtain ⟨od, m, IA, hn, ho, hm⟩ := inst_at I hx hD
  obtain ⟨K, hK, h1, h2, h3, h4, h5, h6, h7⟩ := ha
  have X := hK.keeps I.keep
  refine get_bind X IA (plainGet_of h1).1 (findObj_fn h2 h3 h5 h6 h7 (by rw [lookIn_ns hn ho, hm.none_of hl])) (plainGet_of h1).2
    (wpAny_call (PySem.W.fn_get (s := { s with toks := s.toks + 1 }) X (beq_iff_eq.mp h4) (handed_on rfl ?_)))
  exact ⟨.ref s.heap.objs.size, _, s.heap.objs.size + 1, .ref _, (I.new (o := .obj (methodObj (.ref f) (.ref x))) (Heap.get?_push_size _ rfl)).toks, .new, Nat.le_succ_of_le I.size, h _ I.size⟩
theorem C_iter2 {bm : Nat} {y : Str} {g : Value} {Q : Post V} (hb : σ bm = some (.obj (methodObj g (.ref x)))) (h : ∀ q t, N ≤ q → Q (.ref q) (pt σ q (.obj (citObj (.ref bm) (.str y t) (.bool false)))) (q + 1)) : WC B d (.builtin "iter") [.ref bm, .str y] σ N Q := fun A s as k I r => by
  cases r with | cons r1 r2 => cases r2 with | cons r2 r3 =>
  cases r3; cases r1; cases r2
  rename_i t
  have ho := I.store bm _ hb
  refine call_function_entry kind_iter plain_iter entry_iter (args_iter2 _ _) ?_
  unfold Builtin.«iter»
  refine wpAny_bind (m := someArgs "iter" 1 2 _) (wpAny_pure ?_)
  refine wpAny_bind (wpAny_specialOf ⟨_, ho, rfl⟩ meth_call ?_)
  simp only [Option.isNone_some, Bool.false_eq_true, if_false]
  refine wpAny_bind (wpAny_rule (wpAny_bind (wpAny_newObj_type ?_ (by size_fits))))
  exact wpAny_pure ⟨_, rfl, ⟨.ref s.heap.objs.size, _, s.heap.objs.size + 1, .ref _, I.new (x := citObj (.ref bm) (.str y t) (.bool false)) (o := .obj (citObj (.ref bm) (.str y t) (.bool false))) (Heap.get?_push_size _ rfl), .new, Nat.le_succ_of_le I.size, h _ t I.size⟩⟩
/-- an iterator by calls -/
structure CIt (B : Cx) (σ : Store) (it bm f x : Nat) (y : Str) (t : Tok) : Prop where
  it : σ it = some (.obj (citObj (.ref bm) (.str y t) (.bool false)))
  bm : σ bm = some (.obj (methodObj (.ref f) (.ref x)))
  fn : ∃ fd, FnAt B σ f fd
theorem wpAny_callBorrowed {M : Model} {A : Around} {E : Value → Shared → Prop} {g : Value} {Q : Value → Shared → Prop} (hc : codeAny M A (.call g ⟨[], []⟩) (fun r s' => match r with | .ok (.ret v) => Q v s' | .ok _ => False | .error e => E e s') s) : wpAny M A (callBorrowed g []) Q E s :=
  fun Γ p hΓ => by
    have := wpAny_runValue (E := E) hc Γ p hΓ
    rw [Sem.wp_runValue] at this
    unfold callBorrowed
    rw [Sem.wp_call]
    refine cast (congrArg (fun R => wpCode M (Γ.enter (.call g ⟨[], []⟩) none p) R p s) ?_) this
    funext r s'
    rcases r with e | (v | _ | _ | _) <;> rfl
theorem next_cit {it bm f x : Nat} {y : Str} {t : Tok} {A : Around} {R : Option Value → Shared → Prop} {E : Value → Shared → Prop} {K : Str → Post Unit} (c : CIt B σ it bm f x y t) (k : Ok (d + 1) A) (I : Inv B σ N s)
    (h : WK B d (.ref f) [.ref x] σ N fun v σ' N' => ∃ z, v = .str z ∧ CIt B σ' it bm f x y t ∧ K z () (if z = y then pt σ' it (.obj (citObj .none .none (.bool true))) else σ') N')
    (g : ∀ z u s' σ' N', Inv B σ' N' s' → Step σ s.heap σ' s'.heap → N ≤ N' → K z () σ' N' → R (if z = y then none else some (.str z u)) s') : wpAny (model B.prog B.w) A (pyNext (.ref it)) R E s := by
  have hit := I.store it _ c.it
  have hbm := I.store bm _ c.bm
  obtain ⟨fd, hf⟩ := c.fn
  obtain ⟨of, hof, hfd⟩ := hf.get I
  have hT : s.TypeIs (.ref it) "callable_iterator" := ⟨_, hit, rfl⟩
  unfold pyNext
  refine wpAny_bind (wpAny_attempt (wpAny_callSpecial?_slot (name := Str.ofString "__next__") hT slot_cit_next (wpAny_call_entry slot_cit_next hT entry_cit_next ?_ (args_cit_next _))))
  show wpAny _ _ (field (.ref it) 2 >>= _) _ _ s
  refine wpAny_bind (wpAny_field hit rfl (x := .bool false) rfl ?_)
  show wpAny _ _ (field (.ref it) 0 >>= _) _ _ s
  refine wpAny_bind (wpAny_field hit rfl (x := .ref bm) rfl ?_)
  refine wpAny_bind (wpAny_attempt ?_)
  have hbo : wpAny (model B.prog B.w) A.in1 (borrowsExactly (.ref bm)) (fun b s' => b = true ∧ s' = s) (fun _ _ => False) s := by
    unfold borrowsExactly
    refine wpAny_bind (wpAny_load hbm ?_)
    refine wpAny_bind (wpAny_load hof ?_)
    rw [hfd]
    exact wpAny_pure ⟨rfl, rfl⟩
  refine wpAny_bind (bot hbo ?_)
  rintro _ s₀ ⟨rfl, e₀⟩
  obtain rfl : s = s₀ := e₀.symm
  rw [if_pos rfl]
  refine wpAny_callBorrowed (method_call hbm (codeAny_mono (h A.in1 s [.ref x] k.in1 I (.cons (.ref x) .nil)) fun r s₁ q => ?_))
  rcases r with e | (v | _ | _ | _) <;> first | exact q.elim | skip
  obtain ⟨b, σ₁, N₁, rb, I₁, S₁, n₁, z, rfl, c₁, hk⟩ := q
  cases rb with | str z u =>
  have hit₁ := I₁.store it _ c₁.it
  have hbm₁ := I₁.store bm _ c₁.bm
  obtain ⟨fd₁, hf₁⟩ := c₁.fn
  obtain ⟨of₁, hof₁, hfd₁⟩ := hf₁.get I₁
  show wpAny _ _ (field (.ref it) 2 >>= _) _ _ s₁
  refine wpAny_bind (wpAny_field hit₁ rfl (x := .bool false) rfl ?_)
  show wpAny _ _ (field (.ref it) 1 >>= _) _ _ s₁
  refine wpAny_bind (wpAny_field hit₁ rfl (x := .str y t) rfl ?_)
  refine wpAny_bind (wpAny_holding (wpAny_eqBool_str ?_))
  by_cases hz : z = y
  · rw [if_pos hz] at hk
    subst hz
    simp only [Bool.not_true, Bool.false_eq_true, if_false, decide_true]
    refine wpAny_bind (wpAny_rule (wpAny_bind ?_))
    show wpAny _ _ (field (.ref it) 0 >>= _) _ _ s₁
    refine wpAny_bind (wpAny_field hit₁ rfl (x := .ref bm) rfl (wpAny_bind ?_))
    have hbo₁ : wpAny (model B.prog B.w) A.in1 (borrowsExactly (.ref bm)) (fun b s' => b = true ∧ s' = s₁) (fun _ _ => False) s₁ := by
      unfold borrowsExactly
      refine wpAny_bind (wpAny_load hbm₁ ?_)
      refine wpAny_bind (wpAny_load hof₁ ?_)
      rw [hfd₁]
      exact wpAny_pure ⟨rfl, rfl⟩
    unfold slotLetsGo
    refine wpAny_bind (bot hbo₁ ?_)
    rintro _ s₂ ⟨rfl, e₂⟩
    obtain rfl : s₁ = s₂ := e₂.symm
    rw [if_pos rfl]
    refine wpAny_pure ?_
    refine wpAny_bind (wpAny_setField hit₁ rfl (Nat.lt_of_sub_ne_zero (by simp)) ?_)
    have e1 : (s₁.heap.update it (Obj.mapFields (·.setIfInBounds 0 .none))).get? it = some (citObj .none (.str z t) (.bool false)) := Heap.get?_update_self _ hit₁ rfl
    refine wpAny_bind (wpAny_setField (s := { s₁ with heap := s₁.heap.update it (Obj.mapFields (·.setIfInBounds 0 .none)) }) e1 rfl (Nat.lt_of_sub_ne_zero (by simp)) ?_)
    have e2 : ((s₁.heap.update it (Obj.mapFields (·.setIfInBounds 0 .none))).update it (Obj.mapFields (·.setIfInBounds 1 .none))).get? it = some (citObj .none .none (.bool false)) := Heap.get?_update_self _ e1 rfl
    refine wpAny_setField (s := { s₁ with heap := (s₁.heap.update it (Obj.mapFields (·.setIfInBounds 0 .none))).update it (Obj.mapFields (·.setIfInBounds 1 .none)) }) e2 rfl (Nat.lt_of_sub_ne_zero (by simp)) ?_
    have e3 : (((s₁.heap.update it (Obj.mapFields (·.setIfInBounds 0 .none))).update it (Obj.mapFields (·.setIfInBounds 1 .none))).update it (Obj.mapFields (·.setIfInBounds 2 (.bool true)))).get? it = some (citObj .none .none (.bool true)) := Heap.get?_update_self _ e2 rfl
    have b1 : Heap.SameBut it s₁.heap (((s₁.heap.update it (Obj.mapFields (·.setIfInBounds 0 .none))).update it (Obj.mapFields (·.setIfInBounds 1 .none))).update it (Obj.mapFields (·.setIfInBounds 2 (.bool true)))) := ((Heap.SameBut.update ..).trans (Heap.SameBut.update ..)).trans (Heap.SameBut.update ..)
    generalize ((s₁.heap.update it (Obj.mapFields (·.setIfInBounds 0 .none))).update it (Obj.mapFields (·.setIfInBounds 1 .none))).update it (Obj.mapFields (·.setIfInBounds 2 (.bool true))) = hq at e3 b1
    show wpAny _ _ (newExc (.type "StopIteration") [] >>= _) _ _ _
    refine wpAny_bind ?_
    simp only [newExc, newTuple]
    refine wpAny_bind (wpAny_newObj_type ?_ (by size_fits))
    refine wpAny_bind (m := firstArgMember _ _) (wpAny_of_eq (a := Value.none) (by first | rfl | (simp only [firstArgMember]; rfl)) ?_)
    refine wpAny_newObj_type ?_ (by size_fits)
    simp only [raiseNew]
    refine wpAny_bind (wpAny_handled ?_)
    rw [show A.in1.handled = none from k.handled]
    refine wpAny_bind (wpAny_pure (wpAny_throw ?_))
    refine wpAny_bind (wpAny_isInstance (T := "StopIteration") (b := true) ⟨_, Heap.get?_push_size _ rfl, rfl⟩ isSubtype_stop ?_)
    rw [if_pos rfl]
    refine wpAny_pure ?_
    have hi : σ₁ it ≠ none ∨ (s₁.heap.get? it = none ∧ s₁.heap.objs.size ≤ it) := .inl (by rw [c₁.it]; nofun)
    have S₂ : Step σ₁ s₁.heap (pt σ₁ it (.obj (citObj .none .none (.bool true)))) hq := .put b1.extBut hi
    have I₂ : Inv B (pt σ₁ it (.obj (citObj .none .none (.bool true)))) N₁ { s₁ with heap := hq } := Inv.put (s' := { s₁ with heap := hq }) I₁ b1.extBut hi e3 (Nat.le_refl _) (I₁.top it _ c₁.it) (Nat.le_trans I₁.size (Nat.le_of_eq b1.1.symm)) (Nat.le_of_eq b1.1.symm) rfl rfl
    rw [show (none : Option Value) = (if z = z then none else some (.str z u)) from (if_pos rfl).symm]
    exact g z u _ _ N₁ I₂.push.push ((S₁.trans S₂).trans (Step.push.trans .push)) n₁ hk
  · rw [if_neg hz] at hk
    rw [show (!decide (y = z)) = true from by simp [Ne.symm hz], if_pos rfl]
    have := g z u s₁ σ₁ N₁ I₁ S₁ n₁ hk
    rw [if_neg hz] at this
    exact wpAny_pure ⟨_, rfl, wpAny_pure this⟩
/-- a for over calls -/
structure ForCall (B : Cx) (d : Nat) (env : Env) (target : Expr) (body rest : List Stmt) (Q : PostS) (it bm f x : Nat) (y : Str) (t : Tok) (J : Nat → Loc → Store → Nat → Prop) (n : Nat) (l : Loc) (σ : Store) (N : Nat) : Prop where
  cit : CIt B σ it bm f x y t
  call : WK B d (.ref f) [.ref x] σ N fun v σ' N' => ∃ z, v = .str z ∧ CIt B σ' it bm f x y t ∧ (if z = y then WX B (d + 1) env l rest (pt σ' it (.obj (citObj .none .none (.bool true)))) N' Q
    else WAs B (d + 1) env l target (.str z) σ' N' fun l₁ σ₁ N₁ => WX B (d + 1) env l₁ body σ₁ N₁ (ForTurn B (d + 1) env rest Q fun l σ N => ∃ m, m < n ∧ J m l σ N))
theorem For_calls {target : Expr} {body rest : List Stmt} {Q : PostS} {it bm f x : Nat} {y : Str} {t : Tok} {n : Nat} {l₀ : Loc} (J : Nat → Loc → Store → Nat → Prop) (ht : ∀ it v, letOwnedTupleGo target it v = pure ()) (hl₀ : LSub l₀ l) (h₀ : J n l₀ σ N)
    (turn : ∀ n l σ N', J n l σ N' → N ≤ N' → ForCall B d env target body rest Q it bm f x y t J n l σ N') : ForAfter B (d + 1) env target body rest Q (.ref it) l σ N := fun A s₁ a k I₁ F₁ r => by
    obtain ⟨_, rfl⟩ := r.inv
    have c₀ := (turn n l₀ σ N h₀ (Nat.le_refl _)).cit
    have hT : s₁.TypeIs (.ref it) "callable_iterator" := ⟨_, I₁.store it _ c₀.it, rfl⟩
    refine wpAny_pyIter_slot hT slot_cit_iter (wpAny_call_entry slot_cit_iter hT entry_cit_iter ?_ (args_cit_iter _))
    show wpAny _ _ (ret (.ref it)) _ _ s₁
    refine wpAny_pure ⟨_, rfl, "callable_iterator", _, hT, slot_cit_next.lookup, ?_⟩
    refine codeAny_forLoop (LI B env σ N s₁.heap J)
      (fun m s' ⟨l', σ', N', hJ, I', S', F', n'⟩ => ?_) n ⟨l₀, σ, N, h₀, I₁, .refl _ _ _, F₁.less hl₀, Nat.le_refl _⟩ (fun v => ht _ v)
    have W := turn m l' σ' N' hJ n'
    refine next_cit (K := fun z _ σ₂ N₂ => if z = y then WX B (d + 1) env l' rest σ₂ N₂ Q else WAs B (d + 1) env l' target (.str z) σ₂ N₂ fun l₁ σ₁ N₁ => WX B (d + 1) env l₁ body σ₁ N₁ (ForTurn B (d + 1) env rest Q fun l σ N => ∃ m', m' < m ∧ J m' l σ N)) W.cit k I'
      (fun A s as k I r => codeAny_mono (W.call A s as k I r) fun r s' q => ?_) fun z u s₂ σ₂ N₂ I₂ S₂ n₂ hk => ?_
    · rcases r with e | (v | _ | _ | _) <;> first | exact q | skip
      obtain ⟨b, σ₁, N₁, rb, I₁, S₁, n₁, z, e, c₁, hz⟩ := q
      refine ⟨b, σ₁, N₁, rb, I₁, S₁, n₁, z, e, c₁, ?_⟩
      by_cases q : z = y
      · rw [if_pos q] at hz ⊢; rw [if_pos q]; exact hz
      · rw [if_neg q] at hz ⊢; rw [if_neg q]; exact hz
    · have S₃ := S'.trans (S₂.toL env.locals)
      by_cases q : z = y
      · rw [if_pos q] at hk ⊢
        exact wpAny_execs_nil ⟨.next, l', σ₂, N₂, .next, I₂, S₃, F'.mono S₂, by exact ar59 n' n₂, hk⟩
      · rw [if_neg q] at hk ⊢
        refine hk A s₂ (.str z u) _ _ k I₂ (F'.mono S₂) (.str _ _) fun s₃ l₃ σ₃ N₃ I₃ S₄ F₃ n₃ h₃ => ?_
        refine bot (h₃ A s₃ k I₃ F₃) fun fl s₄ ⟨w, l₄, σ₄, N₄, rf, I₄, S₅, F₄, n₄, h₄⟩ => ?_
        have S₆ := (S₃.trans S₄).trans S₅
        have n₅ : N ≤ N₄ := by exact ar179 n' n₂ n₃ n₄
        cases rf with
        | next => obtain ⟨l₅, hl₅, m', hm', hj⟩ := h₄; exact ⟨m', hm', l₅, σ₄, N₄, hj, I₄, S₆, F₄.less hl₅, n₅⟩
        | cont => obtain ⟨l₅, hl₅, m', hm', hj⟩ := h₄; exact ⟨m', hm', l₅, σ₄, N₄, hj, I₄, S₆, F₄.less hl₅, n₅⟩
        | brk => exact ⟨.next, l₄, σ₄, N₄, .next, I₄, S₆, F₄, n₅, h₄⟩
        | ret rv => exact ⟨_, l₄, σ₄, N₄, .ret rv, I₄, S₆, F₄, n₅, h₄⟩
end
end
noncomputable section
/-! dicts -/
noncomputable abbrev Dk := List (Kx × V)
noncomputable def dget (es : Dk) (k : Kx) : Option V := (es.find? fun kv => kv.1 = k).map (·.2)
noncomputable def dset (es : Dk) (k : Kx) (v : V) : Dk := if es.any (fun kv => kv.1 = k) then es.map (fun kv => if kv.1 = k then (kv.1, v) else kv) else es ++ [(k, v)]
section
variable {B : Cx} {d : Nat} {env : Env} {l : Loc} {σ : Store} {N : Nat} {s : Shared} {a : Nat} {es : Dk} {ep : Nat} {k : Kx}
theorem DRel.get {h : Heap} : ∀ {es : Dk} {kvs : List (Kx × Value)}, DRel B σ h es kvs → match dget es k, valueAt kvs k with | none, none => True | some v, some u => VRel B σ h v u | _, _ => False
  | _, _, .nil => trivial
  | _, _, .cons (k := k') (xs := xs) (ys := ys) hd tl => by
    have := DRel.get tl
    unfold dget valueAt at this ⊢
    rw [List.find?_cons, List.find?_cons]
    by_cases z : k' = k
    · simp only [z, decide_true]; exact hd
    · simp only [z, decide_false]; exact this
theorem DRel.some_of {h : Heap} {kvs : List (Kx × Value)} {v : V} (r : DRel B σ h es kvs) (e : dget es k = some v) : ∃ u, valueAt kvs k = some u ∧ VRel B σ h v u := by
  have := r.get (k := k)
  rw [e] at this
  cases q : valueAt kvs k with
  | none => rw [q] at this; exact this.elim
  | some u => rw [q] at this; exact ⟨u, rfl, this⟩
theorem DRel.isSome {h : Heap} {kvs : List (Kx × Value)} (r : DRel B σ h es kvs) : (valueAt kvs k).isSome = (dget es k).isSome := by
  have := r.get (k := k)
  cases q : dget es k <;> cases q' : valueAt kvs k <;> rw [q, q'] at this <;> first | rfl | exact this.elim
theorem DRel.any {h : Heap} : ∀ {es : Dk} {kvs : List (Kx × Value)}, DRel B σ h es kvs → es.any (fun kv => kv.1 = k) = kvs.any (fun kv => kv.1 = k)
  | _, _, .nil => rfl
  | _, _, .cons _ tl => by rw [List.any_cons, List.any_cons, DRel.any tl]
theorem DRel.mapSet {h : Heap} {v : V} {u : Value} (rv : VRel B σ h v u) : ∀ {es : Dk} {kvs : List (Kx × Value)}, DRel B σ h es kvs → DRel B σ h (es.map fun kv => if kv.1 = k then (kv.1, v) else kv) (kvs.map fun kv => if kv.1 = k then (kv.1, u) else kv)
  | _, _, .nil => .nil
  | _, _, .cons (k := k') hd tl => by
    rw [List.map_cons, List.map_cons]
    by_cases z : k' = k
    · simp only [z, if_true]; exact .cons rv (DRel.mapSet rv tl)
    · simp only [z, if_false]; exact .cons hd (DRel.mapSet rv tl)
theorem DRel.app {h : Heap} {es' : Dk} {kvs' : List (Kx × Value)} (q : DRel B σ h es' kvs') : ∀ {es : Dk} {kvs : List (Kx × Value)}, DRel B σ h es kvs → DRel B σ h (es ++ es') (kvs ++ kvs')
  | _, _, .nil => q
  | _, _, .cons hd tl => .cons hd (DRel.app q tl)
theorem DRel.set {h : Heap} {kvs : List (Kx × Value)} {v : V} {u : Value} (r : DRel B σ h es kvs) (rv : VRel B σ h v u) : DRel B σ h (dset es k v) (stored kvs k u) := by
  unfold dset stored
  rw [r.any]
  split
  · exact r.mapSet rv
  · exact DRel.app (.cons rv .nil) r
theorem Kx.is_of {h : Heap} {u : Value} (r : VRel B σ h k.v u) : (kxKind B.prog B.w).is k u = true := by
  cases k with
  | s x => obtain ⟨_, rfl⟩ := r.inv; simp [kxKind, Kx.is, Value.isStrOf]
  | i x => obtain ⟨_, rfl⟩ := r.inv; simp [kxKind, Kx.is, Value.isInt]
theorem D_get {u v : V} {Q : Post V} (hs : DictV σ u es) (hv : dget es k = some v) (h : Q v σ N) : W2 B d (VRel B) getItem u k.v σ N Q := fun A s x y hk I r r' => by
  obtain ⟨a, kvs, ep, rfl, _, ho, rl⟩ := hs.at I r
  obtain ⟨u, hu, ru⟩ := rl.some_of hv
  exact wpAny_getItem_of (Kx.is_of r') ho.dictOf.mapOf hu (.here I.toks (.refl _ _) ru h)
theorem D_in {u : V} {Q : Post V} (hs : DictV σ u es) (h : Q (.bool (dget es k).isSome) σ N) : W2 B d (VRel B) (compareOp .In) k.v u σ N Q := fun A s x y hk I r r' => by
  obtain ⟨a, kvs, ep, rfl, hn, ho, rl⟩ := hs.at I r'
  exact wpAny_in_of (Kx.is_of r) hn ho.dictOf.mapOf (.here I.toks (.refl _ _) (by rw [rl.isSome]; exact .bool _) h)
theorem Inv.setDict {h' : Heap} {es' : Dk} {ep' : Nat} {kvs' : List (Kx × Value)} {tk : Nat} (I : Inv B σ N s) (hs : σ a = some (.dict es ep)) (hx : Heap.SameBut a s.heap h') (ho : h'.DictAt (kxKind B.prog B.w) a kvs' ep') (r : DRel B σ s.heap es' kvs') :
    Inv B (pt σ a (.dict es' ep')) N { s with heap := h', toks := tk } ∧ Step σ s.heap (pt σ a (.dict es' ep')) h' := by
  have hi : σ a ≠ none ∨ (s.heap.get? a = none ∧ s.heap.objs.size ≤ a) := .inl (by rw [hs]; nofun)
  have S : Step σ s.heap (pt σ a (.dict es' ep')) h' := .put hx.extBut hi
  exact ⟨Inv.put (s' := { s with heap := h', toks := tk }) I hx.extBut hi ⟨_, ho, r.mono S⟩ (Nat.le_refl _) (I.top a _ hs) (Nat.le_trans I.size (Nat.le_of_eq hx.1.symm)) (Nat.le_of_eq hx.1.symm) rfl rfl, S⟩
theorem D_set {v : V} {Q : Post Unit} (hs : σ a = some (.dict es ep)) (hz : es.length < 2 ^ 20) (h : ∀ ep', Q () (pt σ a (.dict (dset es k v) ep')) N) : W3 B d URel setItem (.ref a) k.v v σ N Q := fun A s x y c hk I r r' rv => by
  obtain ⟨_, rfl⟩ := r.inv
  obtain ⟨kvs, ho, rl⟩ := I.store a _ hs
  refine wpAny_setItem_pairs (Kx.is_of r') ho.dictOf (fun h' ho' hsb => ?_) (by rw [← rl.length, sizeLine_eq]; exact ar60 hz)
  obtain ⟨ep', ho'⟩ := ho'.dictAt
  obtain ⟨I', S'⟩ := I.setDict (tk := s.toks + 1) hs hsb ho' (rl.set rv)
  exact ⟨(), _, N, trivial, I', S', Nat.le_refl _, h ep'⟩
theorem D_getD {u v : V} {Q : Post V} (hs : DictV σ u es) (h : Q ((dget es k).getD v) σ N) : WC B d (.builtin "dict.get") [u, k.v, v] σ N Q := fun A s as hk I r => by
  cases r with | cons r1 r2 => cases r2 with | cons r2 r3 => cases r3 with | cons r3 r4 =>
  cases r4
  rename_i y z
  obtain ⟨a, kvs, ep, rfl, hn, ho, rl⟩ := hs.at I r1
  refine call_meetsIn F.slot_dict_get ho.dictOf.typeIs F.entry_dict_get (F.args_dict_get_3 _ _ _) (meets_dict_get_default (kxKind B.prog B.w) a (Kx.is_of r2) hn z) ⟨_, ho.dictOf.mapOf, ?_⟩
  have := rl.get (k := k)
  cases q : dget es k with
  | none =>
    rw [q] at this h
    cases q' : valueAt kvs k with
    | none => exact .here I.toks (.refl _ _) r3 h
    | some u => rw [q'] at this; exact this.elim
  | some w =>
    rw [q] at this h
    cases q' : valueAt kvs k with
    | none => rw [q'] at this; exact this.elim
    | some u => rw [q'] at this; exact .here I.toks (.refl _ _) this h
/-- a new dict: one of the store, or one that nobody changes -/
inductive VDictAt (σ : Store) (N : Nat) (Q : Post V) (es : Dk) (a : Nat) : Prop
  | mut (h : ∀ ep, Q (.ref a) (pt σ a (.dict es ep)) N)
  | froz (h : Q (.dct es) σ N)
theorem VDictAt.ends {h : Heap} {s' : Shared} {σ₁ : Store} {N₁ : Nat} {ep : Nat} {Q : Post V} (x : VDictAt (σ₁.reset σ.fr) N₁ Q es a) (hh : Held B σ₁ s'.heap a (.dict es ep)) (I : Inv B σ₁ N₁ s') (hf : σ₁.fr = (σ.add a).fr) (nf : ¬ σ.fr a) (ha : a < N₁) (S : ∀ b o, h.get? b = some o → σ b = none → s'.heap.get? b = some o ∧ σ₁ b = none) (hne : h.get? a = none) (hN : N ≤ N₁) :
    Ends B (VRel B) σ N h Q (.ref a) s' := by
  have kf : ∀ b, σ.fr b → σ₁.fr b := fun b q => by rw [hf]; exact .inr q
  have I1 := I.own hh.1 hh.2.2 ha
  cases x with
  | «mut» h1 =>
    have e : own σ₁ a (.dict es ep) = pt (σ₁.reset σ.fr) a (.dict es ep) := Store.ext (fun b => rfl) (funext fun b => propext ⟨fun q => by
      have q1 := q.1
      rw [hf] at q1
      exact q1.elim (fun z => absurd z q.2) id, fun q => ⟨kf b q, fun z => nf (z ▸ q)⟩⟩)
    rw [e] at I1
    exact ⟨_, _, N₁, .ref a, I1, ⟨fun b o eo n => by
      have nb : b ≠ a := fun z => by rw [z, hne] at eo; cases eo
      exact ⟨(S b o eo n).1, (pt_ne nb).trans (S b o eo n).2⟩, rfl⟩, hN, h1 ep⟩
  | froz h1 =>
    obtain ⟨kvs, e, q⟩ := hh.1
    exact ⟨_, σ₁.reset σ.fr, N₁, .dct (I1.notSys (if_pos rfl)) e ⟨hh.2.1, nf⟩ (q.pass (.reset kf)), I.reset kf, ⟨S, rfl⟩, hN, h1⟩
theorem Held.new {x : Obj} {o : AObj} {s : Shared} (I : Inv B σ N s) (hr : ORel B (pt σ s.heap.objs.size o) (s.heap.push x) s.heap.objs.size o) :
    Held B (σ.add s.heap.objs.size) (s.heap.push x) s.heap.objs.size o ∧ Inv B (σ.add s.heap.objs.size) (s.heap.objs.size + 1) { s with heap := s.heap.push x } := by
  have I1 := I.new hr
  have e0 : disown (pt σ s.heap.objs.size o) s.heap.objs.size = σ.add s.heap.objs.size := Store.ext (fun b => by
    by_cases z : b = s.heap.objs.size
    · subst z; exact (if_pos rfl : disown _ _ _ = none).trans I.fresh.symm
    · exact (if_neg z : disown _ _ b = _).trans (pt_ne z)) rfl
  have I2 := I1.disown (pt_same _ _ _)
  rw [e0] at I2
  have P := Pass.disown (h := s.heap.push x) (pt_same σ s.heap.objs.size o)
  rw [e0] at P
  exact ⟨⟨hr.pass P fun _ q => q, I.fresh, .inl rfl⟩, I2⟩
theorem WE_dict0 {pos : Pos} {Q : Post V} (h : ∀ a, N ≤ a → VDictAt σ (a + 1) Q [] a) : WE B d env l (.Dict [] [] pos) σ N Q := fun A s k I F => by
  rw [eval_Dict_empty]
  refine wpAny_bind (wpAny_standAt ?_)
  obtain ⟨ep, hd⟩ := (Heap.DictOf.new (knd := kxKind B.prog B.w) s.heap).dictAt
  obtain ⟨h1, h2⟩ := Held.new (o := .dict [] ep) I ⟨[], hd, .nil⟩
  exact wpAny_newObj_type (VDictAt.ends (σ₁ := σ.add s.heap.objs.size) (h _ I.size) h1 h2 rfl I.free.2 (Nat.lt_succ_self _) (fun b o e n => ⟨Heap.get?_push_of_some _ e, n⟩) (get_fresh _) (Nat.le_succ_of_le I.size)) (by size_fits)
noncomputable def dmerge (es more : Dk) : Dk := more.foldl (fun acc kv => dset acc kv.1 kv.2) es
theorem DRel.merge {h : Heap} : ∀ {more : Dk} {kvs' : List (Kx × Value)} {es : Dk} {kvs : List (Kx × Value)}, DRel B σ h es kvs → DRel B σ h more kvs' → DRel B σ h (dmerge es more) (merged kvs kvs')
  | _, _, _, _, r, .nil => r
  | _, _, es, kvs, r, .cons (k := k) (x := x) (y := y) hd tl => DRel.merge (es := dset es k x) (kvs := stored kvs k y) (r.set hd) tl
/-- pairs, evaluated -/
inductive PRel (B : Cx) (σ : Store) (h : Heap) : List (V × V) → List (Value × Value) → Prop
  | nil : PRel B σ h [] []
  | cons {k v : V} {a b : Value} {xs : List (V × V)} {ys : List (Value × Value)} (hk : VRel B σ h k a) (hv : VRel B σ h v b) (tl : PRel B σ h xs ys) : PRel B σ h ((k, v) :: xs) ((a, b) :: ys)
noncomputable def kvV (es : Dk) : List (V × V) := es.map fun p => (p.1.v, p.2)
theorem PRel.carries {h : Heap} : ∀ {es : Dk} {ys : List (Value × Value)}, PRel B σ h (kvV es) ys → ∃ kvs, Carries (kxKind B.prog B.w) ys kvs ∧ DRel B σ h es kvs
  | [], _, .nil => ⟨[], trivial, .nil⟩
  | (k, v) :: es, _, .cons (b := b) hk hv tl => let ⟨kvs, c, r⟩ := PRel.carries tl; ⟨(k, b) :: kvs, ⟨Kx.is_of hk, rfl, c⟩, .cons hv r⟩
noncomputable abbrev WPs (B : Cx) (d : Nat) (env : Env) (l : Loc) (pos : Pos) (ps : List (Expr × Expr)) (σ : Store) (N : Nat) (Q : Post (List (V × V))) : Prop :=
  WF B d env l (PRel B) (evalPairs (ps.map fun p => (eval p.1 env, do let x ← eval p.2 env; standAt pos; pure x))) σ N Q
theorem Ps_nil {pos : Pos} {Q : Post (List (V × V))} (h : Q [] σ N) : WPs B d env l pos [] σ N Q := fun A s k I F => evalPairs_nil (.here I (.refl _ _) .nil h)
theorem Ps_cons {pos : Pos} {x y : Expr} {ps : List (Expr × Expr)} {Q : Post (List (V × V))} (h : WE B d env l x σ N fun u σ₁ N₁ => WE B d env l y σ₁ N₁ fun v σ₂ N₂ => WPs B d env l pos ps σ₂ N₂ fun r σ₃ N₃ => Q ((u, v) :: r) σ₃ N₃) : WPs B d env l pos ((x, y) :: ps) σ N Q :=
  fun A s k I F => evalPairs_cons (h.seq (ρ' := VRel B) k I F fun a u σ₁ N₁ s₁ r I₁ F₁ S₁ n₁ h₁ => wpAny_bind (h₁.seq (ρ' := VRel B) k I₁ F₁ fun b v σ₂ N₂ s₂ r₂ I₂ F₂ S₂ n₂ h₂ => wpAny_bind (wpAny_standAt (wpAny_pure
    (bot (h₂ A s₂ k I₂ F₂) fun _ s₃ ⟨rs, σ₃, N₃, r₃, I₃, S₃, n₃, h₃⟩ => ⟨_, σ₃, N₃, .cons ((r.mono S₂).mono S₃) (r₂.mono S₃) r₃, I₃, (S₁.trans S₂).trans S₃, Nat.le_trans (Nat.le_trans n₁ n₂) n₃, h₃⟩)))))
theorem zip_shape (env : Env) (pos : Pos) : ∀ (ps : List (Expr × Expr)), (evalEachOpt (ps.map fun p => some p.1) env).zip ((evalEach (ps.map (·.2)) env).map fun v => (do let x ← v; standAt pos; pure x : Sem Value)) = (ps.map fun p => (eval p.1 env, (do let x ← eval p.2 env; standAt pos; pure x : Sem Value))).map fun p => (some p.1, p.2)
  | [] => rfl
  | p :: ps => by
    exact congrArg (List.cons (some (eval p.1 env), (do let x ← eval p.2 env; standAt pos; pure x : Sem Value))) (zip_shape env pos ps)
theorem WE_dict {ps : List (Expr × Expr)} {pos : Pos} {Q : Post V} (h0 : ps ≠ []) (hz : ps.length ≤ 15)
    (h : ∀ a, N ≤ a → WPs B d env l pos ps (σ.add a) (a + 1) fun kvs σ₁ N₁ => ∃ es : Dk, kvs = kvV es ∧ VDictAt (σ₁.reset σ.fr) N₁ Q (dmerge [] es) a) :
    WE B d env l (.Dict (ps.map fun p => some p.1) (ps.map (·.2)) pos) σ N Q := fun A s k I F => by
  obtain ⟨ep, hd⟩ := (Heap.DictOf.new (knd := kxKind B.prog B.w) s.heap).dictAt
  obtain ⟨H₀, I₀⟩ := Held.new (x := emptyDict) (o := .dict [] ep) I ⟨[], hd, .nil⟩
  have F₀ : FRel B env l (σ.add s.heap.objs.size) (s.heap.push emptyDict) := by
    obtain ⟨mm, ⟨oo, es, ep, he, hr⟩, km⟩ := F.ns
    exact ⟨F.out, F.new, .inr F.mark, mm, ⟨oo, es, ep, Heap.get?_push_of_some _ he, hr⟩, fun y u e => let ⟨b, q1, q2⟩ := km y u e; ⟨b, q1, (q2.pass (.add (get_fresh _))).mono .push⟩⟩
  refine wpAny_Dict_pairs (knd := kxKind B.prog B.w) (zip_shape env pos ps) (fun q => h0 (List.map_eq_nil_iff.mp q)) (by rw [List.length_map]; exact hz) ?_
  refine bot (h s.heap.objs.size I.size A _ k I₀ F₀) fun vs s₁ ⟨kv, σ₁, N₁, r, I₁, S₁, n₁, es, e, h₁⟩ => ?_
  subst e
  obtain ⟨kvs, c, rd⟩ := PRel.carries (B := B) r
  have H₁ := H₀.step S₁
  have hlt : s.heap.objs.size < N₁ := n₁
  have I3 := I₁.own H₁.1 H₁.2.2 hlt
  have hs : own σ₁ s.heap.objs.size (.dict [] ep) s.heap.objs.size = some (.dict [] ep) := if_pos rfl
  obtain ⟨kvs₀, ho, r₀⟩ := I3.store _ _ hs
  cases r₀
  refine ⟨kvs, c, ho.dictOf, fun h' hd' hsb => ?_⟩
  obtain ⟨ep', hd'⟩ := hd'.dictAt
  obtain ⟨I₂, S₂⟩ := I3.setDict (tk := s₁.toks + vs.length) hs hsb hd' (DRel.merge .nil (rd.pass (.own H₁.2.2)))
  obtain ⟨z1, z2, z3⟩ := H₁.call (ρ := VRel B) (s' := { s₁ with heap := h', toks := s₁.toks + vs.length }) rfl I₂ S₂
  exact h₁.ends z1 z2 S₁.fr I.free.2 hlt (fun b o eo n => by
    have nb : b ≠ s.heap.objs.size := fun z => by rw [z, get_fresh] at eo; cases eo
    have w1 := S₁.keep b o (Heap.get?_push_of_some _ eo) n
    exact z3.keep b o nb w1.1 w1.2) (get_fresh _) (Nat.le_trans (Nat.le_succ_of_le I.size) n₁)
/-- dict comprehensions -/
noncomputable def dictAct (kx vx : Expr) (a : Nat) (env : Env) : Sem Unit := do
  let kv ← eval kx env
  let vv ← holding [kv] (eval vx env)
  standAt { kx.pos with endLine := vx.pos.endLine, endCol := vx.pos.endCol }
  holding [kv, vv] (dictSet a kv vv)
theorem ck_dict (kx vx target iter : Expr) (ifs : List Expr) (scope : Scope) (pos : Pos) : CK (.DictComp kx vx [⟨target, iter, ifs, 0⟩] scope pos) target iter ifs (dictAct kx vx) :=
  ⟨rfl, fun it a env => compTurn_dict _ _ _ _ _ _ _ _ _ _, fun {prog w A R s it a env} I h n h0 => codeAny_loop rfl I (fun n s hI => by
    show wpAny _ A ((compTurn (.DictComp kx vx [⟨target, iter, ifs, 0⟩] scope pos) 0 it (.ref a) env).onRaise (fun x => do noteFrame x env; theTreesLotGoes x)) _ _ s
    exact wpAny_noted (bot (h n s hI) fun _ _ x => x)) n h0, codeAny_compStart_dict⟩
theorem mk_dict {Q : Post V} (h : ∀ a, N ≤ a → Q (.ref a) (pt σ a (.dict [] 0)) (a + 1)) : W0 B d (VRel B) newDict σ N Q := fun A s k I => by
  obtain ⟨o, es, ep, e, hx, hd, r⟩ := Heap.DictOf.new (knd := kxKind B.prog B.w) s.heap
  have e' : (s.heap.push emptyDict).get? s.heap.objs.size = some emptyDict := Heap.get?_push_size _ rfl
  rw [e'] at e
  cases e
  cases hd
  exact wpAny_newObj_type ⟨.ref s.heap.objs.size, pt σ s.heap.objs.size (.dict [] 0), s.heap.objs.size + 1, .ref _,
    I.new ⟨[], ⟨_, _, e', hx, rfl, r⟩, .nil⟩, .new, Nat.le_succ_of_le I.size, h _ I.size⟩ (by size_fits)
theorem act_dict {kx vx : Expr} {es : Dk} {ep : Nat} {K : AObj → Store → Nat → Prop} (hz : es.length < 2 ^ 20) (h : WE B d env l kx σ N fun u σ₁ N₁ => WE B d env l vx σ₁ N₁ fun v σ₂ N₂ => ∃ k, u = Kx.v k ∧ ∀ ep', K (.dict (dset es k v) ep') σ₂ N₂) :
    WAct B d env l (dictAct kx vx a env) a (.dict es ep) σ N K := fun A s hk I F hh ha hne =>
  wpAny_bind (h.seq (ρ' := VRel B) hk I F fun x u σ₁ N₁ s₁ r I₁ F₁ S₁ n₁ h₁ => wpAny_bind (wpAny_holding (h₁.seq (ρ' := VRel B) hk I₁ F₁ fun y v σ₂ N₂ s₂ r₂ I₂ F₂ S₂ n₂ ⟨k, e, h₂⟩ => wpAny_bind (wpAny_standAt (wpAny_holding (by
    subst e
    have h1 := (hh.step S₁).step S₂
    have I3 := I₂.own h1.1 h1.2.2 (by exact ar180 ha n₁ n₂)
    have hs : own σ₂ a (.dict es ep) a = some (.dict es ep) := if_pos rfl
    obtain ⟨kvs, ho, rl⟩ := I3.store a _ hs
    refine wpAny_dictSet_pairs (Kx.is_of (r.mono S₂)) ho.dictOf (fun h' ho' hsb => ?_) (by rw [← rl.length, sizeLine_eq]; exact ar60 hz)
    obtain ⟨ep', ho'⟩ := ho'.dictAt
    obtain ⟨I', S'⟩ := I3.setDict (tk := s₂.toks + 1) hs hsb ho' (rl.set (r₂.pass (.own h1.2.2)))
    obtain ⟨z1, z2, z3⟩ := h1.call (ρ := VRel B) rfl I' S'
    exact ⟨_, σ₂, N₂, z1, z2, ((S₁.trans S₂).toL a).trans z3, F₂.stepL z3 hne h1.2.2, by exact ar59 n₁ n₂, h₂ ep'⟩))))))
end
end
noncomputable section
/-! dicts, walked -/
theorem slot_kit_iter : Slot "dict_keyiterator" "__iter__" "dict_keyiterator.__iter__" :=
  .of (owner := "dict_keyiterator") (n := "__iter__") (by rw [typeLookup_type, builtinLookup_eq_fast]; kernel_rfl) (by decide +kernel) (by decide +kernel) (by decide +kernel)
    (by first | exact .inl (by decide +kernel) | exact .inr (by decide +kernel)) (by rw [isSubtype_type]; kernel_rfl)
theorem entry_kit_iter : entryFor table "dict_keyiterator.__iter__" = some Builtin.«dict_keyiterator.__iter__» := entryFor_of_tree (by kernel_rfl)
theorem args_kit_iter (a : Value) : argsOk "dict_keyiterator.__iter__" ⟨[a], []⟩ := by unfold argsOk; kernel_rfl
theorem look_kit_next : typeLookup (.type "dict_keyiterator") "__next__" = pure (some (.builtin "dict_keyiterator.__next__")) := by rw [typeLookup_type, builtinLookup_eq_fast]; kernel_rfl
theorem slot_vit_iter : Slot "dict_valueiterator" "__iter__" "dict_valueiterator.__iter__" :=
  .of (owner := "dict_valueiterator") (n := "__iter__") (by rw [typeLookup_type, builtinLookup_eq_fast]; kernel_rfl) (by decide +kernel) (by decide +kernel) (by decide +kernel)
    (by first | exact .inl (by decide +kernel) | exact .inr (by decide +kernel)) (by rw [isSubtype_type]; kernel_rfl)
theorem entry_vit_iter : entryFor table "dict_valueiterator.__iter__" = some Builtin.«dict_keyiterator.__iter__» :=
  entryFor_alias (id' := "dict_keyiterator.__iter__") (by kernel_rfl) rfl (by decide +kernel) (by kernel_rfl)
theorem args_vit_iter (a : Value) : argsOk "dict_valueiterator.__iter__" ⟨[a], []⟩ := by unfold argsOk; kernel_rfl
theorem look_vit_next : typeLookup (.type "dict_valueiterator") "__next__" = pure (some (.builtin "dict_valueiterator.__next__")) := by rw [typeLookup_type, builtinLookup_eq_fast]; kernel_rfl
theorem slot_iit_iter : Slot "dict_itemiterator" "__iter__" "dict_itemiterator.__iter__" :=
  .of (owner := "dict_itemiterator") (n := "__iter__") (by rw [typeLookup_type, builtinLookup_eq_fast]; kernel_rfl) (by decide +kernel) (by decide +kernel) (by decide +kernel)
    (by first | exact .inl (by decide +kernel) | exact .inr (by decide +kernel)) (by rw [isSubtype_type]; kernel_rfl)
theorem entry_iit_iter : entryFor table "dict_itemiterator.__iter__" = some Builtin.«dict_keyiterator.__iter__» :=
  entryFor_alias (id' := "dict_keyiterator.__iter__") (by kernel_rfl) rfl (by decide +kernel) (by kernel_rfl)
theorem args_iit_iter (a : Value) : argsOk "dict_itemiterator.__iter__" ⟨[a], []⟩ := by unfold argsOk; kernel_rfl
theorem look_iit_next : typeLookup (.type "dict_itemiterator") "__next__" = pure (some (.builtin "dict_itemiterator.__next__")) := by rw [typeLookup_type, builtinLookup_eq_fast]; kernel_rfl
/-- a dict to be walked -/
inductive DictW (σ : Store) : V → Dk → (Store → Prop) → Prop
  | ref {a : Nat} {es : Dk} {ep : Nat} (h : σ a = some (.dict es ep)) : DictW σ (.ref a) es (fun σ => σ a = some (.dict es ep))
  | dct (es : Dk) : DictW σ (.dct es) es (fun _ => True)
section
variable {B : Cx} {d : Nat} {env : Env} {l : Loc} {σ : Store} {N : Nat} {s : Shared} {a : Nat} {es : Dk} {ep : Nat}
theorem DRel.at {h : Heap} : ∀ {es : Dk} {kvs : List (Kx × Value)}, DRel B σ h es kvs → ∀ {i : Nat} {p : Kx × V}, es[i]? = some p → ∃ u, kvs[i]? = some (p.1, u) ∧ VRel B σ h p.2 u
  | _, _, .nil, _, _, e => by cases e
  | _, _, .cons hd tl, 0, _, e => by cases e; exact ⟨_, rfl, hd⟩
  | _, _, .cons hd tl, i + 1, _, e => DRel.at tl (by simpa using e)
theorem Kx.of_is {h : Heap} {k : Kx} {u : Value} (e : (kxKind B.prog B.w).is k u = true) : VRel B σ h k.v u := by
  cases k with
  | s x => obtain ⟨t, rfl⟩ := Value.isStrOf_shape e; exact .str _ _
  | i x => obtain ⟨t, rfl⟩ := Value.isInt_shape e; exact .int _ _
theorem dk_some {i : Nat} (h : i < es.length) : es[i]? = some (es.getD i (.i 0, .none)) := by rw [List.getD_eq_getElem?_getD, List.getElem?_eq_getElem h]; rfl
theorem DictW.at {D : Store → Prop} {u : V} {x : Value} (t : DictW σ u es D) (I : Inv B σ N s) (r : VRel B σ s.heap u x) : ∃ a kvs ep, x = .ref a ∧ (a == sysModules) = false ∧ s.heap.DictAt (kxKind B.prog B.w) a kvs ep ∧ DRel B σ s.heap es kvs ∧
    ∀ {σ' : Store} {N' : Nat} {s' : Shared}, D σ' → Inv B σ' N' s' → Pass σ s.heap σ' s'.heap → ∃ kvs', s'.heap.DictAt (kxKind B.prog B.w) a kvs' ep ∧ DRel B σ' s'.heap es kvs' := by
  cases t with
  | ref h =>
    obtain ⟨_, rfl⟩ := r.inv
    obtain ⟨kvs, e, q⟩ := I.store _ _ h
    exact ⟨_, kvs, _, rfl, I.notSys h, e, q, fun hd I' _ => I'.store _ _ hd⟩
  | dct =>
    obtain ⟨_, _, _, rfl, hn, e, hs, q⟩ := r.inv
    exact ⟨_, _, _, rfl, hn, e, q, fun _ I' P => ⟨_, (P.dict e hs).1, q.pass P⟩⟩
theorem DictW.dep {D : Store → Prop} {u : V} (t : DictW σ u es D) : D σ := by
  cases t with
  | ref h => exact h
  | dct => trivial
theorem iter_keys {many : Bool} {u : V} {D : Store → Prop} (hs : DictW σ u es D) : IterOk B many u σ es.length (fun i => (es.getD i (.i 0, .none)).1.v) D :=
  ⟨hs.dep, fun A s N v R E hh I r k => by
    obtain ⟨a, kvs, ep, rfl, hn, ho, rl, W⟩ := hs.at I r
    refine wpAny_pyIter_dict hn ho (k _ (fun i h => h.IsKeyIter s.heap.objs.size a i es.length ep) ⟨?_, ?_, ?_, ?_, ?_⟩ ?_)
    · exact fun i h h' ⟨o, e, r⟩ k => ⟨o, k o e, r⟩
    · exact fun i h ⟨o, e, hc, r⟩ => ⟨fun o' e' f => by rw [e] at e'; cases e'; exact not_frozen hc (by decide) f, o, e⟩
    · intro i A s R E st q
      refine wpAny_pyIter_slot st.typeIs slot_kit_iter (wpAny_call_entry slot_kit_iter st.typeIs entry_kit_iter ?_ (args_kit_iter _))
      show wpAny _ _ (ret (.ref _)) _ _ s
      exact wpAny_pure ⟨_, rfl, "dict_keyiterator", _, st.typeIs, look_kit_next, q⟩
    · intro target _ i A s' σ' N' R E hi hh hd I' rx hou st q
      obtain ⟨kvs', ho', rl'⟩ := W hd I' rx
      obtain ⟨u, hu, ru⟩ := rl'.at (dk_some hi)
      rw [rl'.length] at st
      refine wpAny_pyNext_dict_item st ho' hu fun key h' hk st' hsb => ⟨key, rfl, ?_⟩
      rw [← rl'.length] at st'
      obtain ⟨o, e, hc, r⟩ := id st'
      exact go_any (Q := R key) e hc (by decide) (q key h' s'.toks (Kx.of_is hk) st' hsb.extBut)
    · intro A s' σ' N' R E hh hd I' rx st q
      obtain ⟨kvs', ho', rl'⟩ := W hd I' rx
      rw [rl'.length] at st
      exact wpAny_pyNext_dict_end hh st ho' (List.getElem?_eq_none (Nat.le_refl _)) fun h' hx => q h' s'.toks hx
    · rw [rl.length]
      exact ⟨_, Heap.get?_push_size _ rfl, rfl, rfl⟩⟩
/-- `values()`, `items()` of a dict that nobody changes any more, or of one of the store -/
theorem C_valuesF {Q : Post V} (h : Q (.view "dict_values" es) σ N) : WC B d (.builtin "dict.values") [.dct es] σ N Q := fun A s as k I r => by
  obtain ⟨_, _, rfl, r1, r2⟩ := r.cons'
  obtain rfl := r2.nil'; obtain ⟨_, _, _, rfl, hn, ho, hs, rl⟩ := r1.inv
  exact call_meetsIn F.slot_dict_values ho.dictOf.typeIs F.entry_dict_values (F.args_dict_values_1 _) (meets_dict_values (kxKind B.prog B.w) _ hn) ⟨⟨_, ho.dictOf⟩, .here I.push .push (.view (.tail _ (.head _)) (Heap.get?_push_size _ rfl) I.free hn (ho.keep fun b o e => Heap.get?_push_of_some _ e) hs (rl.mono .push)) h⟩
theorem C_itemsF {Q : Post V} (h : Q (.view "dict_items" es) σ N) : WC B d (.builtin "dict.items") [.dct es] σ N Q := fun A s as k I r => by
  obtain ⟨_, _, rfl, r1, r2⟩ := r.cons'
  obtain rfl := r2.nil'; obtain ⟨_, _, _, rfl, hn, ho, hs, rl⟩ := r1.inv
  exact call_meetsIn F.slot_dict_items ho.dictOf.typeIs F.entry_dict_items (F.args_dict_items_1 _) (meets_dict_items (kxKind B.prog B.w) _ hn) ⟨⟨_, ho.dictOf⟩, .here I.push .push (.view (.head _) (Heap.get?_push_size _ rfl) I.free hn (ho.keep fun b o e => Heap.get?_push_of_some _ e) hs (rl.mono .push)) h⟩
/-- a view to be walked -/
inductive ViewW (σ : Store) (T : String) : V → Dk → (Store → Prop) → Prop
  | ref {a : Nat} {es : Dk} {ep : Nat} (h : σ a = some (.dict es ep)) : ViewW σ T (.imm (viewObj T a)) es (fun σ => σ a = some (.dict es ep))
  | view (es : Dk) : ViewW σ T (.view T es) es (fun _ => True)
theorem ViewW.at {T : String} {D : Store → Prop} {u : V} {x : Value} (t : ViewW σ T u es D) (I : Inv B σ N s) (r : VRel B σ s.heap u x) : ∃ b a kvs ep, x = .ref b ∧ s.heap.get? b = some (viewObj T a) ∧ s.heap.DictAt (kxKind B.prog B.w) a kvs ep ∧ DRel B σ s.heap es kvs ∧
    ∀ {σ' : Store} {N' : Nat} {s' : Shared}, D σ' → Inv B σ' N' s' → Pass σ s.heap σ' s'.heap → ∃ kvs', s'.heap.DictAt (kxKind B.prog B.w) a kvs' ep ∧ DRel B σ' s'.heap es kvs' := by
  cases t with
  | ref h =>
    cases r with | imm hv _ _ =>
    obtain ⟨kvs, e, q⟩ := I.store _ _ h
    exact ⟨_, _, kvs, _, rfl, hv, e, q, fun hd I' _ => I'.store _ _ hd⟩
  | view =>
    cases r with | view hT hb hb' hn e hs q =>
    exact ⟨_, _, _, _, rfl, hb, e, q, fun _ I' P => ⟨_, (P.dict e hs).1, q.pass P⟩⟩
theorem ViewW.dep {T : String} {D : Store → Prop} {u : V} (t : ViewW σ T u es D) : D σ := by
  cases t with
  | ref h => exact h
  | view => trivial
theorem iter_values {many : Bool} {u : V} {D : Store → Prop} (hs : ViewW σ "dict_values" u es D) : IterOk B many u σ es.length (fun i => (es.getD i (.i 0, .none)).2) D :=
  ⟨hs.dep, fun A s N v R E hh I r k => by
    obtain ⟨b, a, kvs, ep, rfl, hv, ho, rl, W⟩ := hs.at I r
    refine wpAny_pyIter_values ⟨_, hv, rfl, rfl⟩ ho (k _ (fun i h => h.IsValIter s.heap.objs.size a i es.length ep) ⟨?_, ?_, ?_, ?_, ?_⟩ ?_)
    · exact fun i h h' ⟨o, e, r⟩ k => ⟨o, k o e, r⟩
    · exact fun i h ⟨o, e, hc, r⟩ => ⟨fun o' e' f => by rw [e] at e'; cases e'; exact not_frozen hc (by decide) f, o, e⟩
    · intro i A s R E st q
      refine wpAny_pyIter_slot st.typeIs slot_vit_iter (wpAny_call_entry slot_vit_iter st.typeIs entry_vit_iter ?_ (args_vit_iter _))
      show wpAny _ _ (ret (.ref _)) _ _ s
      exact wpAny_pure ⟨_, rfl, "dict_valueiterator", _, st.typeIs, look_vit_next, q⟩
    · intro target _ i A s' σ' N' R E hi hh hd I' rx hou st q
      obtain ⟨kvs', ho', rl'⟩ := W hd I' rx
      obtain ⟨u, hu, ru⟩ := rl'.at (dk_some hi)
      have hN : NoTup σ' s.heap.objs.size s'.heap := by obtain ⟨o, e, hc, r⟩ := st; exact .inr fun o' e' f => by rw [e] at e'; cases e'; exact not_frozen hc (by decide) f
      rw [rl'.length] at st
      refine wpAny_pyNext_values_item st ho' hu fun h' st' hsb => ⟨u, rfl, ?_⟩
      rw [← rl'.length] at st'
      obtain ⟨o, e, hc, r⟩ := id st'
      exact go_any (Q := R u) e hc (by decide) (q u h' s'.toks (ru.pass (StepL.pass (.of_ext hsb.extBut hou) hN)) st' hsb.extBut)
    · intro A s' σ' N' R E hh hd I' rx st q
      obtain ⟨kvs', ho', rl'⟩ := W hd I' rx
      rw [rl'.length] at st
      exact wpAny_pyNext_values_end hh st ho' (List.getElem?_eq_none (Nat.le_refl _)) fun h' hx => q h' s'.toks hx
    · rw [rl.length]
      exact ⟨_, Heap.get?_push_size _ rfl, rfl, rfl⟩⟩
theorem iter_items {u : V} {D : Store → Prop} (hs : ViewW σ "dict_items" u es D) : IterOk B true u σ es.length (fun i => .tup [(es.getD i (.i 0, .none)).1.v, (es.getD i (.i 0, .none)).2]) D :=
  ⟨hs.dep, fun A s N v R E hh I r k => by
    obtain ⟨b, a, kvs, ep, rfl, hv, ho, rl, W⟩ := hs.at I r
    refine wpAny_pyIter_items ⟨_, hv, rfl, rfl⟩ ho (k _ (fun i h => ∃ ok ov, IsItemIter h s.heap.objs.size a i es.length ep ok ov) ⟨?_, ?_, ?_, ?_, ?_⟩ ?_)
    · exact fun i h h' ⟨ok, ov, e⟩ k => ⟨ok, ov, k _ e⟩
    · exact fun i h ⟨ok, ov, e⟩ => ⟨fun o' e' f => by rw [show h.get? s.heap.objs.size = _ from e] at e'; cases e'; exact not_frozen rfl (by decide) f, _, e⟩
    · rintro i A s' R E ⟨ok, ov, e⟩ q
      have hT : s'.TypeIs (.ref s.heap.objs.size) "dict_itemiterator" := ⟨_, e, rfl⟩
      refine wpAny_pyIter_slot hT slot_iit_iter (wpAny_call_entry slot_iit_iter hT entry_iit_iter ?_ (args_iit_iter _))
      show wpAny _ _ (ret (.ref _)) _ _ s'
      exact wpAny_pure ⟨_, rfl, "dict_itemiterator", _, hT, look_iit_next, q⟩
    · rintro target hm i A s' σ' N' R E hi hh hd I' rx hou ⟨ok, ov, st⟩ q
      obtain ⟨kvs', ho', rl'⟩ := W hd I' rx
      obtain ⟨u, hu, ru⟩ := rl'.at (dk_some hi)
      rw [rl'.length] at st
      have hN : NoTup σ' s.heap.objs.size s'.heap := .inr fun o' e' f => by rw [show s'.heap.get? s.heap.objs.size = _ from st] at e'; cases e'; exact not_frozen rfl (by decide) f
      refine wpAny_pyNext_items_item st ho' hu fun key h' hk st' ht hz hkp => ⟨_, rfl, ?_⟩
      have hlt : s.heap.objs.size < s'.heap.objs.size := Heap.lt_size st
      have go : ∀ ts x1 tp, wpAny (model B.prog B.w) A (letOwnedTupleGo (.Tuple ts x1 tp) (.ref s.heap.objs.size) (.ref s'.heap.objs.size)) (fun _ s₂ => R (.ref s'.heap.objs.size) s₂) E { s' with heap := h' } := fun ts x1 tp => by
        refine wpAny_letOwnedTupleGo_items st' fun h₂ st₂ hsb => ?_
        have x2 : Heap.ExtBut s.heap.objs.size s'.heap h₂ := fun b o nb e => by
          rw [hsb.2 b nb]; exact hkp b o nb e
        have SL : StepL s.heap.objs.size σ' s'.heap σ' h₂ := .of_ext x2 hou
        refine q _ h₂ s'.toks (.tup (n := 0) (items := #[key, u]) ((hsb.2 _ (Nat.ne_of_gt hlt)).trans ht) I'.free (.cons (Kx.of_is hk) (.cons (ru.pass (StepL.pass SL hN)) .nil))) ?_ x2
        rw [← rl'.length] at st₂
        exact ⟨_, _, st₂⟩
      cases target with
      | Tuple ts x1 tp => exact go ts x1 tp
      | List ts tp => exact go ts 0 tp
      | _ => cases hm
    · rintro A s' σ' N' R E hh hd I' rx ⟨ok, ov, st⟩ q
      obtain ⟨kvs', ho', rl'⟩ := W hd I' rx
      rw [rl'.length] at st
      exact wpAny_pyNext_items_end hh st ho' (List.getElem?_eq_none (Nat.le_refl _)) fun h' hx => q h' s'.toks hx
    · rw [rl.length]
      exact ⟨_, _, Heap.get?_push_size _ rfl⟩⟩
end
end
noncomputable section
/-! tuples taken apart -/
noncomputable def noStar : List Expr → Bool
  | [] => true
  | .Starred _ _ :: _ => false
  | _ :: r => noStar r
section
variable {B : Cx} {d : Nat} {env : Env} {σ : Store} {N : Nat}
noncomputable def WAsL (B : Cx) (d : Nat) (env : Env) : List Expr → List V → Loc → Store → Nat → (Loc → Store → Nat → Prop) → Prop
  | [], [], l, σ, N, K => K l σ N
  | t :: ts, v :: vs, l, σ, N, K => WAs B d env l t v σ N fun l' σ' N' => WAsL B d env ts vs l' σ' N' K
  | _, _, _, _, _, _ => False
theorem noStar_each {t : Expr} {ts : List Expr} (hn : noStar (t :: ts) = true) : assignEach (t :: ts) env = (false, assign t env) :: assignEach ts env ∧ noStar ts = true := by
  cases t <;> first | exact ⟨rfl, hn⟩ | cases hn
theorem WAsL_in {A : Around} {R : Unit → Shared → Prop} {E : Value → Shared → Prop} {K : Loc → Store → Nat → Prop} (k : Ok d A) (ts : List Expr) : ∀ (vs : List V) (as : List Value) (l : Loc) (σ : Store) (N : Nat) (s : Shared), noStar ts = true → WAsL B d env ts vs l σ N K → Inv B σ N s → FRel B env l σ s.heap → VRelL B σ s.heap vs as →
    (∀ s' l' σ' N', Inv B σ' N' s' → StepL env.locals σ s.heap σ' s'.heap → FRel B env l' σ' s'.heap → N ≤ N' → K l' σ' N' → R () s') → wpAny (model B.prog B.w) A (assignInOrder ((assignEach ts env).map (·.2)) as) R E s := by
  induction ts with
  | nil =>
    intro vs as l σ N s hn h I F rs q
    cases rs with
    | nil => exact wpAny_pure (q s l σ N I (.refl _ _ _) F (Nat.le_refl _) h)
    | cons => exact h.elim
  | cons t ts ih =>
    intro vs as l σ N s hn h I F rs q
    cases rs with
    | nil => exact h.elim
    | cons r rs =>
      rename_i y _ ys
      have e := noStar_each (env := env) hn
      rw [e.1]
      show wpAny _ _ (do holding ys (assign t env y); assignInOrder ((assignEach ts env).map (·.2)) ys) _ _ _
      refine wpAny_bind (wpAny_holding (h A s y _ _ k I F r fun s₁ l₁ σ₁ N₁ I₁ S₁ F₁ n₁ h₁ => ?_))
      exact ih _ _ _ _ _ _ e.2 h₁ I₁ F₁ (rs.pass (S₁.pass F.noTup)) fun s' l' σ' N' I' S' F' n' h' => q s' l' σ' N' I' (S₁.trans S') F' (Nat.le_trans n₁ n') h'
theorem assignEach_star (ts : List Expr) : noStar ts = true → (assignEach ts env).length = ts.length ∧ (assignEach ts env).findIdx? (·.1) = none := by
  induction ts with
  | nil => exact fun _ => ⟨rfl, rfl⟩
  | cons t ts ih =>
    intro hn
    have e := noStar_each (env := env) hn
    obtain ⟨h1, h2⟩ := ih e.2
    rw [e.1]
    refine ⟨by rw [List.length_cons, List.length_cons, h1], ?_⟩
    rw [List.findIdx?_cons, h2]; rfl
theorem A_tuple {l : Loc} {ts : List Expr} {vs : List V} {x1 : Nat} {pos : Pos} {K : Loc → Store → Nat → Prop} (hn : noStar ts = true) (hl : ts.length = vs.length) (h : WAsL B d env ts vs l σ N K) : WAs B d env l (.Tuple ts x1 pos) (.tup vs) σ N K :=
  fun A s a R E k I F r q => by
    obtain ⟨_, _, _, rfl, ho, hs, rl⟩ := r.inv
    rename_i n items
    obtain ⟨h1, h2⟩ := assignEach_star (env := env) ts hn
    rw [arm_assign_Tuple]
    refine wpAny_bind (wpAny_standAt ?_)
    unfold unpack
    rw [show (assignEach ts env).length = items.size from by rw [h1, hl, rl.length, Array.length_toList], h2]
    refine wpAny_bind (wpAny_holding (bot (any_grow (wpAny_unpackItems_tuple (Q := fun its s' => its = items.toList ∧ ∃ h', s' = { s with heap := h' } ∧ Heap.ExtBut s.heap.objs.size s.heap h') (E := fun _ _ => False) k.handled ⟨_, ho, rfl, _, rfl⟩ fun h' hx => ⟨rfl, h', rfl, hx⟩)) ?_))
    rintro _ _ ⟨⟨rfl, h', rfl, hx⟩, hsz⟩
    have kp : ∀ b x, s.heap.get? b = some x → h'.get? b = some x := fun b x e => hx b x (Nat.ne_of_lt (Heap.lt_size e)) e
    have S : Step σ s.heap σ h' := .grow kp
    exact WAsL_in k ts _ _ _ _ _ _ hn h (I.grow (s' := { s with heap := h' }) kp hsz rfl rfl) (F.mono S) (rl.mono S) fun s' l' σ' N' I' S' F' n' q' => q s' l' σ' N' I' ((S.toL _).trans S') F' n' q'
end
end
noncomputable section
/-- `o[i]` within an expression, whatever the texts of `o` and `i` -/
noncomputable def WItem (B : Cx) (d : Nat) (u v : V) (σ : Store) (N : Nat) (Q : Post V) : Prop := (∃ T id, TypeV σ u T ∧ typeLookup (.type T) "__getitem__" = pure (some (.builtin id))) ∧ W2 B d (VRel B) getItem u v σ N Q
/-- of a type, by its class alone -/
inductive TypeS (σ : Store) : V → String → Prop
  | of {u : V} {T : String} (t : TypeV σ u T) : TypeS σ u T
  | imm {o : Obj} {T : String} (h : o.cls = .type T) : TypeS σ (.imm o) T
theorem TypeS.is {B : Cx} {σ : Store} {N : Nat} {x : V} {T : String} {s : Shared} {v : Value} (t : TypeS σ x T) (I : Inv B σ N s) (r : VRel B σ s.heap x v) : s.TypeIs v T := by
  cases t with
  | of t => exact (t.is I r).1
  | imm h => obtain ⟨_, rfl, ho, hs, hf⟩ := r.inv; exact ⟨_, ho, h⟩
/-- `o[lo:hi:st]` -/
noncomputable def WSlice (B : Cx) (d : Nat) (u : V) (lo hi st : Option Int) (σ : Store) (N : Nat) (Q : Post V) : Prop := (∃ T id, TypeS σ u T ∧ typeLookup (.type T) "__getitem__" = pure (some (.builtin id))) ∧
  ∀ A s a sl vl vu vk, Ok d A → Inv B σ N s → VRel B σ s.heap u a → s.heap.IsSliceOf sl vl vu vk → IsPart vl lo → IsPart vu hi → IsPart vk st → wpAny (model B.prog B.w) A (getItem a (.ref sl)) (Ends B (VRel B) σ N s.heap Q) (fun _ _ => False) s
/-! what a walk asks, as a function of the text -/
structure VIf (c : Bool) (p q : Prop) : Prop where
  t : c = true → p
  f : c = false → q
theorem VIf.pos {c : Bool} {p q : Prop} (h : c = true) (x : p) : VIf c p q := ⟨fun _ => x, fun e => (by rw [h] at e; cases e)⟩
theorem VIf.neg {c : Bool} {p q : Prop} (h : c = false) (x : q) : VIf c p q := ⟨fun e => (by rw [h] at e; cases e), fun _ => x⟩
inductive VIfS (p : Prop) (q : (Loc → Store → Nat → Prop) → Prop) : Prop
  | plain (h : p)
  | join (J : Loc → Store → Nat → Prop) (h : q J)
structure Need (p : Prop) : Prop where
  h : p
structure Tb where
  names : List (Str × Value)
  fns : List Nat
structure Rec where
  E : Env → Expr → Loc → Store → Nat → Post V → Prop
  T : Env → Expr → Loc → Store → Nat → Post Bool → Prop
  S : Env → List Stmt → Loc → Store → Nat → PostS → Prop
/-- a test that the text itself decides -/
noncomputable def vG (c : Bool) (p : Prop) : Prop := match c with
  | true => p
  | false => False
noncomputable def vO {α : Type} (o : Option α) (p : α → Prop) : Prop := match o with
  | some a => p a
  | none => False
theorem vG.out {c : Bool} {p : Prop} (h : vG c p) : c = true ∧ p := by cases c with | true => exact ⟨rfl, h⟩ | false => exact h.elim
theorem vO.out {α : Type} {o : Option α} {p : α → Prop} (h : vO o p) : ∃ a, o = some a ∧ p a := by cases o with | some a => exact ⟨a, rfl, h⟩ | none => exact h.elim
noncomputable def vOpI (op : Operator) (a b : Int) (σ : Store) (N : Nat) (Q : Post V) : Prop := match op with
  | .Add => Q (.int (a + b)) σ N
  | .Sub => Q (.int (a - b)) σ N
  | .Mult => IntMulOk a b ∧ Q (.int (a * b)) σ N
  | .Mod => b ≠ 0 ∧ Q (.int (a.fmod b)) σ N
  | .FloorDiv => (b ≠ 0 ∧ b.natAbs < 1073741824) ∧ Q (.int (a.fdiv b)) σ N
  | .RShift => 0 ≤ b ∧ Q (.int (a.fdiv (2 ^ b.toNat))) σ N
  | _ => False
noncomputable def vOpS (op : Operator) (a b : Str) (σ : Store) (N : Nat) (Q : Post V) : Prop := match op with
  | .Add => a.length + b.length ≤ sizeLine ∧ Q (.str (a ++ b)) σ N
  | _ => False
noncomputable def V.asInt : V → Option Int
  | .int i => some i
  | _ => Option.none
noncomputable def V.asStr : V → Option Str
  | .str i => some i
  | _ => Option.none
noncomputable def V.asTup : V → Option (List V)
  | .tup i => some i
  | _ => Option.none
theorem V.asInt_eq {v : V} {i : Int} (h : v.asInt = some i) : v = .int i := by cases v <;> cases h; rfl
theorem V.asStr_eq {v : V} {i : Str} (h : v.asStr = some i) : v = .str i := by cases v <;> cases h; rfl
theorem V.asTup_eq {v : V} {i : List V} (h : v.asTup = some i) : v = .tup i := by cases v <;> cases h; rfl
noncomputable def vOp (op : Operator) (u v : V) (σ : Store) (N : Nat) (Q : Post V) (other : Prop) : Prop := match u with
  | .int a => vO v.asInt fun b => vOpI op a b σ N Q
  | .str a => match v.asStr with
    | some b => vOpS op a b σ N Q
    | none => other
  | _ => other
noncomputable def vCmpI (op : CmpOp) (a b : Int) (σ : Store) (N : Nat) (Q : Post V) : Prop := match op with
  | .Lt => Q (.bool (decide (a < b))) σ N
  | .LtE => Q (.bool (decide (a ≤ b))) σ N
  | .Gt => Q (.bool (decide (b < a))) σ N
  | .GtE => Q (.bool (decide (b ≤ a))) σ N
  | .Eq => Q (.bool (decide (a = b))) σ N
  | .NotEq => Q (.bool (!decide (a = b))) σ N
  | _ => False
noncomputable def vCmpS (op : CmpOp) (a b : Str) (σ : Store) (N : Nat) (Q : Post V) : Prop := match op with
  | .Eq => Q (.bool (decide (a = b))) σ N
  | .NotEq => Q (.bool (!decide (a = b))) σ N
  | .Gt => Q (.bool (decide (b.cps.toList < a.cps.toList))) σ N
  | .Lt => Q (.bool (decide (a.cps.toList < b.cps.toList))) σ N
  | .In => Q (.bool !(Builtin.Str.occurrences b a 0 b.length 1).isEmpty) σ N
  | _ => False
noncomputable def V.asBool : V → Option Bool
  | .bool i => some i
  | _ => Option.none
theorem V.asBool_eq {v : V} {i : Bool} (h : v.asBool = some i) : v = .bool i := by cases v <;> cases h; rfl
noncomputable def vCmpB (op : CmpOp) (a b : Bool) (σ : Store) (N : Nat) (Q : Post V) : Prop := match op with
  | .Eq => Q (.bool (decide (a = b))) σ N
  | _ => False
noncomputable def vCmp (op : CmpOp) (u v : V) (σ : Store) (N : Nat) (Q : Post V) (other : Prop) : Prop := match u with
  | .int a => match v.asInt with
    | some b => vCmpI op a b σ N Q
    | none => other
  | .str a => match v.asStr with
    | some b => vCmpS op a b σ N Q
    | none => other
  | .bool a => vO v.asBool fun b => vCmpB op a b σ N Q
  | _ => other
noncomputable def vTr (u : V) (σ : Store) (N : Nat) (Q : Post Bool) (other : Prop) : Prop :=
  match u with
  | .bool b => Q b σ N
  | .str x => x.length < 2 ^ 40 ∧ Q (decide (x.length ≠ 0)) σ N
  | .lst xs => xs.length < 2 ^ 40 ∧ Q (!xs.isEmpty) σ N
  | _ => other
noncomputable def methId : String → Str → Option String
  | "list", x => if x = "append" then some "list.append" else if x = "pop" then some "list.pop" else if x = "extend" then some "list.extend" else if x = "count" then some "list.count" else none
  | "dict", x => if x = "get" then some "dict.get" else if x = "items" then some "dict.items" else if x = "values" then some "dict.values" else none
  | "str", x => if x = "join" then some "str.join" else if x = "count" then some "str.count" else if x = "startswith" then some "str.startswith" else if x = "endswith" then some "str.endswith" else none
  | _, _ => none
inductive VMeth (B : Cx) (σ : Store) (name : Str) (K : V → List V → Prop) : V → Prop
  | builtin {u : V} {T id : String} (ht : TypeV σ u T) (hm : methId T name = some id) (h : K (.lit (.builtin id)) [u]) : VMeth B σ name K u
  | inst {x C D f : Nat} {at' : Loc} (hx : σ x = some (.obj (instObj C D))) (hD : σ D = some (.ns at')) (hm : MethAt B C name f) (hl : at'.lookup name = none) (h : K (.lit (.ref f)) [.ref x]) : VMeth B σ name K (.ref x)
  | fn {x D : Nat} {o : Obj} {fd : FuncData} {at' : Loc} {v : V} (hl : typeLookup (.type "function") name = pure none) (hx : σ x = some (.obj o)) (hc : o.cls = .type "function") (hd : o.dict = some D) (hf : o.data = .func fd) (hD : σ D = some (.ns at')) (hv : at'.lookup name = some v) (hh : handV v = true)
      (h : K v []) : VMeth B σ name K (.ref x)
/-- things handed out, read anew -/
inductive OffL : Store → List V → Store → List V → Prop
  | refl {σ : Store} {vs : List V} : OffL σ vs σ vs
  | cons {σ : Store} {v v' : V} {vs vs' : List V} {σ₁ σ₂ : Store} (h : Off σ v σ₁ v') (r : OffL σ₁ vs σ₂ vs') : OffL σ (v :: vs) σ₂ (v' :: vs')
/-- a list display: a list of the store, or one that nobody changes -/
inductive VList (σ : Store) (N : Nat) (Q : Post V) (vs : List V) : Prop
  | mut (hz : vs.length ≤ sizeLine) (h : ∀ a, N ≤ a → Q (.ref a) (pt σ a (.list vs)) (a + 1))
  | froz (hz : vs.length ≤ sizeLine) (h : ∀ N', N ≤ N' → Q (.lst vs) σ N')
section
variable (B : Cx) (tb : Tb) (d : Nat)
noncomputable def vName (env : Env) (x : Str) (l : Loc) (σ : Store) (N : Nat) (Q : Post V) : Prop := vO (env.kindOf x) fun k => match k with
  | .local => vO (l.lookup x) fun v => Q v σ N
  | .cell | .free => vO (env.cells.lookup x) fun c => ∃ v, σ c = some (.cell (some v)) ∧ Q v σ N
  | .globalImplicit => vO (tb.names.lookup x) fun v => Q (.lit v) σ N
  | _ => False
noncomputable def okName (x : Str) : Bool := !(x == ("__debug__" : Str)) && !(x == ("__classdict__" : Str))
noncomputable def eA (R : Rec) (env : Env) : List Expr → Loc → Store → Nat → Post (List V) → Prop
  | [], _, σ, N, Q => Q [] σ N
  | e :: es, l, σ, N, Q => R.E env e l σ N fun v σ₁ N₁ => eA R env es l σ₁ N₁ fun vs σ₂ N₂ => Q (v :: vs) σ₂ N₂
noncomputable def vCallL (R : Rec) (env : Env) (v : Value) (first : List V) (args : List Expr) (l : Loc) (σ : Store) (N : Nat) (Q : Post V) : Prop := match v with
  | .ref a => vG (tb.fns.contains a) (eA R env args l σ N fun vs σ₁ N₁ => Need (WC B d (.ref a) (first ++ vs) σ₁ N₁ Q))
  | .builtin id => eA R env args l σ N fun vs σ₁ N₁ => Need (WC B d (.builtin id) (first ++ vs) σ₁ N₁ Q)
  | .type T => eA R env args l σ N fun vs σ₁ N₁ => Need (WC B d (.type T) (first ++ vs) σ₁ N₁ Q)
  | _ => False
noncomputable def vCall (R : Rec) (env : Env) (f : V) (first : List V) (args : List Expr) (l : Loc) (σ : Store) (N : Nat) (Q : Post V) : Prop := match f with
  | .lit v => vCallL B tb d R env v first args l σ N Q
  | .ref a => eA R env args l σ N fun vs σ₁ N₁ => Need ((∃ fd, FnAt B σ₁ a fd) ∧ WC B d (.ref a) (first ++ vs) σ₁ N₁ Q)
  | _ => False
noncomputable def vAsN (env : Env) (x : Str) (v : V) (l : Loc) (σ : Store) (N : Nat) (K : Loc → Store → Nat → Prop) : Prop := vO (env.kindOf x) fun k => match k with
  | .local => K (upd l x v) σ N
  | .cell => vO (env.cells.lookup x) fun c => (∃ v₀, σ c = some (.cell v₀)) ∧ K l (pt σ c (.cell (some v))) N
  | _ => False
noncomputable def nameOf : Expr → Option Str
  | .Name x _ => some x
  | _ => none
noncomputable def uncons {α : Type} : List α → Option (α × List α)
  | [] => none
  | a :: r => some (a, r)
noncomputable def vAsL (env : Env) : List Expr → List V → Loc → Store → Nat → (Loc → Store → Nat → Prop) → Prop
  | [], vs, l, σ, N, K => vG vs.isEmpty (K l σ N)
  | t :: ts, vs, l, σ, N, K => vO (nameOf t) fun x => vO (uncons vs) fun p => vAsN env x p.1 l σ N fun l' σ' N' => vAsL env ts p.2 l' σ' N' K
noncomputable def vAsT (env : Env) (ts : List Expr) (v : V) (l : Loc) (σ : Store) (N : Nat) (K : Loc → Store → Nat → Prop) : Prop := vO v.asTup fun vs => vG (noStar ts && ts.length == vs.length) (vAsL env ts vs l σ N K)
noncomputable def vAs (env : Env) (t : Expr) (v : V) (l : Loc) (σ : Store) (N : Nat) (K : Loc → Store → Nat → Prop) : Prop := match t with
  | .Name x _ => vAsN env x v l σ N K
  | .Tuple ts _ _ => vAsT env ts v l σ N K
  | _ => False
noncomputable def vTs (R : Rec) (env : Env) (ifs : List Expr) (l : Loc) (σ : Store) (N : Nat) (Q : Post Bool) : Prop := match ifs with
  | [] => Q true σ N
  | c :: r => vG r.isEmpty (R.T env c l σ N Q)
noncomputable def cloOf (env : Env) : List (Str × NameKind) → List (Str × Nat) → Option (List (Str × Nat))
  | [], cs => some cs
  | (n, .free) :: r, cs => (match env.cells.lookup n with | some c => cloOf env r ((n, c) :: cs) | none => none)
  | _ :: r, cs => cloOf env r cs
noncomputable def okScope (names : List (Str × NameKind)) : Bool := names.all fun x => decide (x.2 ≠ .cell) && (decide (x.2 ≠ .local) || decide (names.lookup x.1 = some .local))
noncomputable def isSet : Expr → Bool
  | .Set .. => true
  | _ => false
/-- a comprehension: by what holds ahead of each turn, or by a function where a turn changes nothing -/
inductive VComp (B : Cx) (R : Rec) (env : Env) (vact : Env → Loc → Store → Nat → AObj → (AObj → Store → Nat → Prop) → Prop) (acc₀ : AObj) (target : Expr) (ifs : List Expr) (scope : Scope) (cl : List (Str × Nat)) (σ₁ : Store) (N₁ : Nat) (K : Post V) (x : V) : Prop
  | mk {n : Nat} {item : Nat → V} {Dep : Store → Prop} (it : IterOk B (isMany target) x σ₁ n item Dep)
      (h : ∀ a C, N₁ ≤ a → a < C → ∃ J : Nat → AObj → Store → Nat → Prop, J 0 acc₀ ((σ₁.add a).add C) (a + 1) ∧ (∀ i o σ N, J i o σ N → Dep σ) ∧
        (∀ i o σ N, i < n → J i o σ N → N₁ ≤ N → vAs (compEnvC scope cl C env) target (item i) [] σ N fun l σ' N' => vTs R (compEnvC scope cl C env) ifs l σ' N' fun ok σ₂ N₂ =>
          VIf ok (vact (compEnvC scope cl C env) l σ₂ N₂ o (J (i + 1))) (J (i + 1) o σ₂ N₂)) ∧
        ∀ o σ N, J n o σ N → N₁ ≤ N → ∃ v, Done o v ∧ K v (σ.reset σ₁.fr) N)
noncomputable def vComp (R : Rec) (env : Env) (vact : Env → Loc → Store → Nat → AObj → (AObj → Store → Nat → Prop) → Prop) (acc₀ : AObj) (target iter : Expr) (ifs : List Expr) (scope : Scope) (l : Loc) (σ : Store) (N : Nat) (K : Post V) : Prop :=
  vO (cloOf env scope.names []) fun cl => vG (okScope scope.names && decide (scope.kind = .function) && !isSet iter) (R.E env iter l σ N fun x σ₁ N₁ => VComp B R env vact acc₀ target ifs scope cl σ₁ N₁ K x)
noncomputable def vactL (R : Rec) (elt : Expr) (env : Env) (l : Loc) (σ : Store) (N : Nat) (o : AObj) (K : AObj → Store → Nat → Prop) : Prop := match o with
  | .list ys => ys.length < 2 ^ 20 ∧ R.E env elt l σ N fun u σ₁ N₁ => K (.list (ys ++ [u])) σ₁ N₁
  | _ => False
noncomputable def vactD (R : Rec) (kx vx : Expr) (env : Env) (l : Loc) (σ : Store) (N : Nat) (o : AObj) (K : AObj → Store → Nat → Prop) : Prop := match o with
  | .dict es ep => es.length < 2 ^ 20 ∧ R.E env kx l σ N fun u σ₁ N₁ => R.E env vx l σ₁ N₁ fun v σ₂ N₂ => ∃ k, u = Kx.v k ∧ ∀ ep', K (.dict (dset es k v) ep') σ₂ N₂
  | _ => False
/-- the pairs of a display -/
noncomputable def pairsOf : List (Option Expr) → List Expr → Option (List (Expr × Expr))
  | [], [] => some []
  | some k :: ks, v :: vs => (pairsOf ks vs).map ((k, v) :: ·)
  | _, _ => none
theorem pairsOf_eq : ∀ {ks : List (Option Expr)} {vs : List Expr} {ps : List (Expr × Expr)}, pairsOf ks vs = some ps → ks = ps.map (fun p => some p.1) ∧ vs = ps.map (·.2)
  | [], [], _, h => by cases h; exact ⟨rfl, rfl⟩
  | some k :: ks, v :: vs, _, h => by
    unfold pairsOf at h
    cases q : pairsOf ks vs with
    | none => rw [q] at h; cases h
    | some r => rw [q] at h; cases h; obtain ⟨a, b⟩ := pairsOf_eq q; exact ⟨by rw [a]; rfl, by rw [b]; rfl⟩
  | [], _ :: _, _, h => by cases h
  | none :: _, _, _, h => by cases h
  | some _ :: _, [], _, h => by cases h
noncomputable def vPs (R : Rec) (env : Env) : List (Expr × Expr) → Loc → Store → Nat → Post (List (V × V)) → Prop
  | [], _, σ, N, Q => Q [] σ N
  | (k, v) :: ps, l, σ, N, Q => R.E env k l σ N fun u σ₁ N₁ => R.E env v l σ₁ N₁ fun w σ₂ N₂ => vPs R env ps l σ₂ N₂ fun r σ₃ N₃ => Q ((u, w) :: r) σ₃ N₃
noncomputable def vDict (R : Rec) (env : Env) (ps : List (Expr × Expr)) (l : Loc) (σ : Store) (N : Nat) (Q : Post V) : Prop := match ps with
  | [] => ∀ a, N ≤ a → VDictAt σ (a + 1) Q [] a
  | p :: ps => vG (decide ((p :: ps).length ≤ 15)) (∀ a, N ≤ a → vPs R env (p :: ps) l (σ.add a) (a + 1) fun kvs σ₁ N₁ => ∃ es : Dk, kvs = kvV es ∧ VDictAt (σ₁.reset σ.fr) N₁ Q (dmerge [] es) a)
noncomputable def plainBase : Expr → Bool
  | .Name .. | .Attribute .. | .Subscript .. | .Constant .. => true
  | _ => false
noncomputable def isSlice : Expr → Bool
  | .Slice .. => true
  | _ => false
noncomputable def vConst (c : Const) (σ : Store) (N : Nat) (Q : Post V) : Prop := match c with
  | .int i => Q (.int i) σ N
  | .str x => Q (.str x) σ N
  | .bool x => Q (.bool x) σ N
  | .none => Q .none σ N
  | _ => False
/-- the one thing of a list -/
noncomputable def one {α : Type} : List α → Option α
  | [a] => some a
  | _ => none
noncomputable def two {α : Type} : List α → Option (α × α)
  | [a, b] => some (a, b)
  | _ => none
theorem one_eq {α : Type} {l : List α} {a : α} (h : one l = some a) : l = [a] := by
  cases l with
  | nil => cases h
  | cons b r => cases r with
    | nil => cases h; rfl
    | cons => cases h
theorem two_eq {α : Type} {l : List α} {a b : α} (h : two l = some (a, b)) : l = [a, b] := by
  cases l with
  | nil => cases h
  | cons b r => cases r with
    | nil => cases h
    | cons c r => cases r with
      | nil => cases h; rfl
      | cons => cases h
noncomputable def vTruth (u : V) (σ : Store) (N : Nat) (Q : Post Bool) : Prop := vTr u σ N Q (Need (W1 B d BRel truthy u σ N Q))
noncomputable def vBoolE (R : Rec) (env : Env) (op : BoolOp) (x y : Expr) (l : Loc) (σ : Store) (N : Nat) (Q : Post V) : Prop := R.E env x l σ N fun u σ₁ N₁ => vTruth B d u σ₁ N₁ fun c σ₂ N₂ => match op with
  | .And => VIf c (R.E env y l σ₂ N₂ Q) (Q u σ₂ N₂)
  | .Or => VIf c (Q u σ₂ N₂) (R.E env y l σ₂ N₂ Q)
noncomputable def vCallE (R : Rec) (env : Env) (f : Expr) (args : List Expr) (pos : Pos) (l : Loc) (σ : Store) (N : Nat) (Q : Post V) : Prop := match f with
  | .Name x _ => vG (okName x) (vName tb env x l σ N fun fv σ₁ N₁ => vCall B tb d R env fv [] args l σ₁ N₁ Q)
  | .Attribute o name apos => vG (plainBase o && apos.endLine == pos.line && decide (args.length < 30)) (R.E env o l σ N fun ov σ₁ N₁ => VMeth B σ₁ name (fun f first => vCall B tb d R env f first args l σ₁ N₁ Q) ov)
  | _ => False
noncomputable def genOf (gens : List Comprehension) : Option (Expr × Expr × List Expr) := match one gens with
  | some g => if g.is_async = 0 then some (g.target, g.iter, g.ifs) else none
  | none => none
theorem genOf_eq {gens : List Comprehension} {p : Expr × Expr × List Expr} (h : genOf gens = some p) : gens = [⟨p.1, p.2.1, p.2.2, 0⟩] := by
  unfold genOf at h
  cases q : one gens with
  | none => rw [q] at h; cases h
  | some g =>
    rw [q] at h
    rw [one_eq q]
    obtain ⟨a, b, c, n⟩ := g
    simp only at h
    split at h
    · rename_i e; cases h; rw [e]
    · cases h
/-- a slice's part -/
noncomputable def vPart (R : Rec) (env : Env) (o : Option Expr) (l : Loc) (σ : Store) (N : Nat) (K : Option Int → Store → Nat → Prop) : Prop := match o with
  | none => K none σ N
  | some e => R.E env e l σ N fun v σ₁ N₁ => vO v.asInt fun i => K (some i) σ₁ N₁
noncomputable def vSubE (R : Rec) (env : Env) (o i : Expr) (l : Loc) (σ : Store) (N : Nat) (Q : Post V) : Prop := match i with
  | .Slice a b c _ => R.E env o l σ N fun u σ₁ N₁ => vPart R env a l σ₁ N₁ fun lo σ₂ N₂ => vPart R env b l σ₂ N₂ fun hi σ₃ N₃ => vPart R env c l σ₃ N₃ fun st σ₄ N₄ => Need (WSlice B d u lo hi st σ₄ N₄ Q)
  | i => vG (!isSlice i) (R.E env o l σ N fun u σ₁ N₁ => R.E env i l σ₁ N₁ fun v σ₂ N₂ => Need (WItem B d u v σ₂ N₂ Q))
noncomputable def vE (R : Rec) (env : Env) (e : Expr) (l : Loc) (σ : Store) (N : Nat) (Q : Post V) : Prop := match e with
  | .Constant c _ _ => vConst c σ N Q
  | .Name x _ => vG (okName x) (vName tb env x l σ N Q)
  | .BinOp x op y _ => R.E env x l σ N fun u σ₁ N₁ => R.E env y l σ₁ N₁ fun v σ₂ N₂ => vOp op u v σ₂ N₂ Q (Need (W2 B d (VRel B) (binaryOp op) u v σ₂ N₂ Q))
  | .Compare x ops ys _ => vO (one ops) fun op => vO (one ys) fun y => vG (!isSet y) (R.E env x l σ N fun u σ₁ N₁ => R.E env y l σ₁ N₁ fun v σ₂ N₂ => vCmp op u v σ₂ N₂ Q (Need (W2 B d (VRel B) (compareOp op) u v σ₂ N₂ Q)))
  | .UnaryOp op x _ => vG (op == .Not) (R.E env x l σ N fun u σ₁ N₁ => vTruth B d u σ₁ N₁ fun c σ₂ N₂ => Q (.bool (!c)) σ₂ N₂)
  | .BoolOp op vs _ => vO (two vs) fun p => vBoolE B d R env op p.1 p.2 l σ N Q
  | .IfExp t x y _ => R.T env t l σ N fun c σ₁ N₁ => VIf c (R.E env x l σ₁ N₁ Q) (R.E env y l σ₁ N₁ Q)
  | .Subscript o i _ => vSubE B d R env o i l σ N Q
  | .List es _ => vG (noStar es) (eA R env es l σ N fun vs σ₁ N₁ => VList σ₁ N₁ Q vs)
  | .Tuple es _ _ => vG (noStar es) (eA R env es l σ N fun vs σ₁ N₁ => ∃ σ₂ vs', OffL σ₁ vs σ₂ vs' ∧ vs.length ≤ sizeLine ∧ Q (.tup vs') σ₂ N₁)
  | .Call f args ks pos => vG (noStar args && ks.isEmpty) (vCallE B tb d R env f args pos l σ N Q)
  | .ListComp elt gens scope _ => vO (genOf gens) fun g => vComp B R env (vactL R elt) (.list []) g.1 g.2.1 g.2.2 scope l σ N Q
  | .DictComp kx vx gens scope _ => vO (genOf gens) fun g => vComp B R env (vactD R kx vx) (.dict [] 0) g.1 g.2.1 g.2.2 scope l σ N Q
  | .Attribute o name _ => vG (plainBase o) (R.E env o l σ N fun u σ₁ N₁ => Need (W1 B d (VRel B) (fun x => getAttr x name true) u σ₁ N₁ Q))
  | .Dict ks vs _ => vO (pairsOf ks vs) fun ps => vDict R env ps l σ N Q
  | _ => False
noncomputable def vBoolT (R : Rec) (env : Env) (op : BoolOp) : List Expr → Loc → Store → Nat → Post Bool → Prop
  | [], _, _, _, _ => False
  | [x], l, σ, N, Q => R.T env x l σ N Q
  | x :: y :: r, l, σ, N, Q => R.T env x l σ N fun b σ₁ N₁ => match op with
    | .And => VIf b (vBoolT R env op (y :: r) l σ₁ N₁ Q) (Q false σ₁ N₁)
    | .Or => VIf b (Q true σ₁ N₁) (vBoolT R env op (y :: r) l σ₁ N₁ Q)
noncomputable def plainT : Expr → Bool
  | .Name .. | .Attribute .. | .Subscript .. | .Call .. => true
  | _ => false
noncomputable def vT (R : Rec) (env : Env) (e : Expr) (l : Loc) (σ : Store) (N : Nat) (Q : Post Bool) : Prop := match e with
  | .UnaryOp op x _ => vG (op == .Not) (R.T env x l σ N fun b σ₁ N₁ => Q (!b) σ₁ N₁)
  | .BoolOp op vs _ => vBoolT R env op vs l σ N Q
  | .Compare x ops ys _ => vO (one ops) fun op => vO (one ys) fun y => vG (!isSet y) (R.E env x l σ N fun u σ₁ N₁ => R.E env y l σ₁ N₁ fun v σ₂ N₂ => vCmp op u v σ₂ N₂ (fun c σ₃ N₃ => vTruth B d c σ₃ N₃ Q) (Need (W2 B d (VRel B) (compareOp op) u v σ₂ N₂ fun c σ₃ N₃ => vTruth B d c σ₃ N₃ Q)))
  | e => vG (plainT e) (R.E env e l σ N fun u σ₁ N₁ => vTruth B d u σ₁ N₁ Q)
noncomputable def vThen (R : Rec) (env : Env) (rest : List Stmt) (Q : PostS) : PostS := fun x l σ N => match x with
  | .next => R.S env rest l σ N Q
  | .brk => Q .brk l σ N
  | .cont => Q .cont l σ N
  | .ret v => Q (.ret v) l σ N
noncomputable def vJoin (Q : PostS) (J : Loc → Store → Nat → Prop) : PostS := fun x l σ N => match x with
  | .next => ∃ l', LSub l' l ∧ J l' σ N
  | .brk => Q .brk l σ N
  | .cont => Q .cont l σ N
  | .ret v => Q (.ret v) l σ N
noncomputable def vTurn (R : Rec) (env : Env) (rest : List Stmt) (Q : PostS) (J : Loc → Store → Nat → Prop) : PostS := fun x l σ N => match x with
  | .next | .cont => ∃ l', LSub l' l ∧ J l' σ N
  | .brk => R.S env rest l σ N Q
  | .ret v => Q (.ret v) l σ N
noncomputable def isComp : Expr → Bool
  | .ListComp .. | .SetComp .. | .DictComp .. => true
  | _ => false
noncomputable def swaps (env : Env) (t : Str) (p pos : Pos) (scope : Scope) : Bool := env.blockKind == .function && env.kindOf t == some .local && p.line == pos.line && !(scope.names.any fun (n, k) => n == t && (k == .local || k == .cell))
noncomputable def vAssignC (R : Rec) (env : Env) (x : Str) (p : Pos) (vact : Env → Loc → Store → Nat → AObj → (AObj → Store → Nat → Prop) → Prop) (acc₀ : AObj) (target iter : Expr) (ifs : List Expr) (scope : Scope) (pos : Pos) (rest : List Stmt) (l : Loc) (σ : Store) (N : Nat) (Q : PostS) : Prop := match swaps env x p pos scope with
  | true => vComp B R env vact acc₀ target iter ifs scope l σ N fun a σ₁ N₁ => R.S env rest (upd l x a) σ₁ N₁ Q
  | false => vComp B R env vact acc₀ target iter ifs scope l σ N fun a σ₁ N₁ => vAsN env x a l σ₁ N₁ fun l σ₂ N₂ => R.S env rest l σ₂ N₂ Q
noncomputable def vAssignN (R : Rec) (env : Env) (x : Str) (p : Pos) (e : Expr) (rest : List Stmt) (l : Loc) (σ : Store) (N : Nat) (Q : PostS) : Prop := match e with
  | .ListComp elt gens scope pos => vO (genOf gens) fun g => vAssignC B R env x p (vactL R elt) (.list []) g.1 g.2.1 g.2.2 scope pos rest l σ N Q
  | .DictComp kx vx gens scope pos => vO (genOf gens) fun g => vAssignC B R env x p (vactD R kx vx) (.dict [] 0) g.1 g.2.1 g.2.2 scope pos rest l σ N Q
  | e => vG (!isComp e) (R.E env e l σ N fun v σ₁ N₁ => vAsN env x v l σ₁ N₁ fun l σ₂ N₂ => R.S env rest l σ₂ N₂ Q)
noncomputable def vAssign (R : Rec) (env : Env) (t e : Expr) (rest : List Stmt) (l : Loc) (σ : Store) (N : Nat) (Q : PostS) : Prop := match t with
  | .Name x p => vAssignN B R env x p e rest l σ N Q
  | .Subscript o i _ => vG (!isComp e) (R.E env e l σ N fun v σ₁ N₁ => R.E env o l σ₁ N₁ fun ov σ₂ N₂ => R.E env i l σ₂ N₂ fun iv σ₃ N₃ => Need (W3 B d URel setItem ov iv v σ₃ N₃ fun _ σ₄ N₄ => R.S env rest l σ₄ N₄ Q))
  | .Attribute o name _ => vG (!isComp e) (R.E env e l σ N fun v σ₁ N₁ => R.E env o l σ₁ N₁ fun ov σ₂ N₂ => Need (W2 B d URel (fun x y => setAttr x name y) ov v σ₂ N₂ fun _ σ₃ N₃ => R.S env rest l σ₃ N₃ Q))
  | .Tuple ts _ _ => vG (!isComp e && !isMany e) (R.E env e l σ N fun v σ₁ N₁ => vAsT env ts v l σ₁ N₁ fun l σ₂ N₂ => R.S env rest l σ₂ N₂ Q)
  | _ => False
/-- `old += v` -/
noncomputable def vInp (op : Operator) (u v : V) (σ : Store) (N : Nat) (Q : Post V) : Prop := vG (op == .Add) (match u with
  | .int a => vO v.asInt fun b => Q (.int (a + b)) σ N
  | .str a => vO v.asStr fun b => a.length + b.length ≤ sizeLine ∧ Q (.str (a ++ b)) σ N
  | _ => False)
noncomputable def vAug (R : Rec) (env : Env) (t : Expr) (op : Operator) (e : Expr) (rest : List Stmt) (l : Loc) (σ : Store) (N : Nat) (Q : PostS) : Prop := match t with
  | .Name x _ => vG (env.kindOf x == some .local) (vO (l.lookup x) fun old => R.E env e l σ N fun v σ₁ N₁ => vInp op old v σ₁ N₁ fun r σ₂ N₂ => R.S env rest (upd l x r) σ₂ N₂ Q)
  | .Attribute o name _ => R.E env o l σ N fun u σ₁ N₁ => Need (W1 B d (VRel B) (fun x => getAttr x name true) u σ₁ N₁ fun old σ₂ N₂ => R.E env e l σ₂ N₂ fun v σ₃ N₃ => vInp op old v σ₃ N₃ fun r σ₄ N₄ => Need (W2 B d URel (fun x y => setAttr x name y) u r σ₄ N₄ fun _ σ₅ N₅ => R.S env rest l σ₅ N₅ Q))
  | .Subscript o i _ => vG (!isSlice i) (R.E env o l σ N fun u σ₁ N₁ => R.E env i l σ₁ N₁ fun j σ₂ N₂ => Need (W2 B d (VRel B) getItem u j σ₂ N₂ fun old σ₃ N₃ => R.E env e l σ₃ N₃ fun v σ₄ N₄ => vInp op old v σ₄ N₄ fun r σ₅ N₅ => Need (W3 B d URel setItem u j r σ₅ N₅ fun _ σ₆ N₆ => R.S env rest l σ₆ N₆ Q)))
  | _ => False
/-- a for: over what is known ahead, or over calls -/
inductive VFor (B : Cx) (d : Nat) (R : Rec) (env : Env) (target : Expr) (body rest : List Stmt) (Q : PostS) (l : Loc) (σ : Store) (N : Nat) : V → Prop
  | items {x : V} {n : Nat} {item : Nat → V} {Dep : Store → Prop} (it : IterOk B (isMany target) x σ n item Dep) (J : Nat → Loc → Store → Nat → Prop) (l₀ : Loc) (hl : LSub l₀ l) (h₀ : J 0 l₀ σ N) (dep : ∀ i l σ N', J i l σ N' → N ≤ N' → Dep σ)
      (turn : ∀ i l σ N', i < n → J i l σ N' → N ≤ N' → vAs env target (item i) l σ N' fun l' σ' N'' => R.S env body l' σ' N'' (vTurn R env rest Q (J (i + 1))))
      (fin : ∀ l σ N', J n l σ N' → N ≤ N' → R.S env rest l σ N' Q) : VFor B d R env target body rest Q l σ N x
  | calls {it bm f x : Nat} {y : Str} {t : Tok} (hd : 0 < d) (hm : isMany target = false) (J : Nat → Loc → Store → Nat → Prop) (n : Nat) (l₀ : Loc) (hl : LSub l₀ l) (h₀ : J n l₀ σ N)
      (turn : ∀ n l σ N', J n l σ N' → N ≤ N' → CIt B σ it bm f x y t ∧ WK B (d - 1) (.ref f) [.ref x] σ N' fun v σ' N'' => ∃ z, v = .str z ∧ CIt B σ' it bm f x y t ∧
        (z = y → R.S env rest l (pt σ' it (.obj (citObj .none .none (.bool true)))) N'' Q) ∧ (z ≠ y → vAs env target (.str z) l σ' N'' fun l₁ σ₁ N₁ => R.S env body l₁ σ₁ N₁ (vTurn R env rest Q fun l σ N => ∃ m, m < n ∧ J m l σ N))) :
      VFor B d R env target body rest Q l σ N (.ref it)
noncomputable def vSt (R : Rec) (env : Env) (st : Stmt) (rest : List Stmt) (l : Loc) (σ : Store) (N : Nat) (Q : PostS) : Prop := match st with
  | .Assign ts e _ => vO (one ts) fun t => vAssign B d R env t e rest l σ N Q
  | .AugAssign t op e _ => vAug B d R env t op e rest l σ N Q
  | .Expr e _ => vG (!isComp e) (R.E env e l σ N fun _ σ₁ N₁ => R.S env rest l σ₁ N₁ Q)
  | .Return o _ => vO o fun e => R.E env e l σ N fun v σ₁ N₁ => Q (.ret v) l σ₁ N₁
  | .Break _ => Q .brk l σ N
  | .Continue _ => Q .cont l σ N
  | .If t b e _ => VIfS (R.T env t l σ N fun c σ₁ N₁ => VIf c (R.S env b l σ₁ N₁ (vThen R env rest Q)) (R.S env e l σ₁ N₁ (vThen R env rest Q)))
      fun J => (∀ l σ N', N ≤ N' → J l σ N' → R.S env rest l σ N' Q) ∧ R.T env t l σ N fun c σ₁ N₁ => VIf c (R.S env b l σ₁ N₁ (vJoin Q J)) (R.S env e l σ₁ N₁ (vJoin Q J))
  | .While t b o _ => vG o.isEmpty (∃ (J : Nat → Loc → Store → Nat → Prop) (n : Nat) (l₀ : Loc), LSub l₀ l ∧ J n l₀ σ N ∧ ∀ n l σ N', J n l σ N' → N ≤ N' →
      R.T env t l σ N' fun c σ₁ N₁ => VIf c (R.S env b l σ₁ N₁ (vTurn R env rest Q fun l σ N => ∃ m, m < n ∧ J m l σ N)) (R.S env rest l σ₁ N₁ Q))
  | .For target iter body o _ => vG (o.isEmpty && !isSet iter) (R.E env iter l σ N fun x σ₁ N₁ => VFor B d R env target body rest Q l σ₁ N₁ x)
  | _ => False
noncomputable def vS (R : Rec) (env : Env) (ss : List Stmt) (l : Loc) (σ : Store) (N : Nat) (Q : PostS) : Prop := match ss with
  | [] => Q .next l σ N
  | st :: rest => vSt B d R env st rest l σ N Q
noncomputable def vStep (R : Rec) : Rec := ⟨vE B tb d R, vT B d R, vS B d R⟩
noncomputable def vRun : Nat → Rec
  | 0 => ⟨fun _ _ _ _ _ _ => False, fun _ _ _ _ _ _ => False, fun _ _ _ _ _ _ => False⟩
  | n + 1 => vStep B tb d (vRun n)
end
end
noncomputable section
structure EnvOk (env : Env) : Prop where
  kind : env.scope.kind = .function
  glob : env.globals = mainGlobals
  bui : env.builtins = builtinsNs
theorem EnvOk.inter {env : Env} (h : EnvOk env) : interactive env = false := by unfold interactive; rw [h.kind]; rfl
noncomputable def Keeps (B : Cx) (a : Nat) : Prop := ∀ σ N s, Inv B σ N s → ∃ k, (k = Keeper.frame ∨ k = Keeper.machine ∨ k = Keeper.boundFrame) ∧ Looks (model B.prog B.w) s.heap (keeperOf (.ref a)) k
structure TabOk (B : Cx) (tb : Tb) : Prop where
  name : ∀ x v, tb.names.lookup x = some v → Glo B x v ∨ Bui B x v
  fn : ∀ a, tb.fns.contains a = true → Keeps B a
structure Sound (B : Cx) (d : Nat) (R : Rec) : Prop where
  E : ∀ {env e l σ N Q}, EnvOk env → R.E env e l σ N Q → WE B d env l e σ N Q
  T : ∀ {env e l σ N Q}, EnvOk env → R.T env e l σ N Q → WB B d env l e σ N Q
  S : ∀ {env e l σ N Q}, EnvOk env → R.S env e l σ N Q → WX B d env l e σ N Q
section
variable {B : Cx} {tb : Tb} {d : Nat} {env : Env} {l : Loc} {σ : Store} {N : Nat} {R : Rec}
theorem WF.mono {α β : Type} {ρ : Store → Heap → β → α → Prop} {t : Sem α} {Q Q' : Post β} (h : WF B d env l ρ t σ N Q) (k : ∀ b σ' N', Q b σ' N' → Q' b σ' N') : WF B d env l ρ t σ N Q' :=
  fun A s o I F => bot (h A s o I F) fun _ _ x => let ⟨b, σ', N', r, I', S', n, q⟩ := x; ⟨b, σ', N', r, I', S', n, k _ _ _ q⟩
theorem W1.mono {α β : Type} {ρ : Store → Heap → β → α → Prop} {f : Value → Sem α} {x : V} {Q Q' : Post β} (h : W1 B d ρ f x σ N Q) (k : ∀ b σ' N', Q b σ' N' → Q' b σ' N') : W1 B d ρ f x σ N Q' :=
  fun A s a o I r => bot (h A s a o I r) fun _ _ x => let ⟨b, σ', N', r, I', S', n, q⟩ := x; ⟨b, σ', N', r, I', S', n, k _ _ _ q⟩
theorem W2.mono {α β : Type} {ρ : Store → Heap → β → α → Prop} {f : Value → Value → Sem α} {x y : V} {Q Q' : Post β} (h : W2 B d ρ f x y σ N Q) (k : ∀ b σ' N', Q b σ' N' → Q' b σ' N') : W2 B d ρ f x y σ N Q' :=
  fun A s a b o I r r' => bot (h A s a b o I r r') fun _ _ x => let ⟨b, σ', N', r, I', S', n, q⟩ := x; ⟨b, σ', N', r, I', S', n, k _ _ _ q⟩
theorem W3.mono {α β : Type} {ρ : Store → Heap → β → α → Prop} {f : Value → Value → Value → Sem α} {x y z : V} {Q Q' : Post β} (h : W3 B d ρ f x y z σ N Q) (k : ∀ b σ' N', Q b σ' N' → Q' b σ' N') : W3 B d ρ f x y z σ N Q' :=
  fun A s a b c o I r r' r'' => bot (h A s a b c o I r r' r'') fun _ _ x => let ⟨b, σ', N', r, I', S', n, q⟩ := x; ⟨b, σ', N', r, I', S', n, k _ _ _ q⟩
theorem vOp_sound {op : Operator} {u v : V} {Q : Post V} (h : vOp op u v σ N Q (Need (W2 B d (VRel B) (binaryOp op) u v σ N Q))) : W2 B d (VRel B) (binaryOp op) u v σ N Q := by
  cases u with
  | int a =>
    obtain ⟨b, hb, h⟩ := vO.out h
    cases V.asInt_eq hb
    cases op with
    | Add => exact O_add h
    | Sub => exact O_sub h
    | Mult => exact O_mul h.1 h.2
    | Mod => exact O_mod h.1 h.2
    | FloorDiv => exact O_fdiv h.1.1 h.1.2 h.2
    | RShift => exact O_shr h.1 h.2
    | _ => exact h.elim
  | str a =>
    cases v with
    | str b =>
      cases op with
      | Add => exact S_add h.1 h.2
      | _ => exact h.elim
    | _ => exact Need.h h
  | _ => exact Need.h h
theorem O_eqB {a b : Bool} {Q : Post V} (h : Q (.bool (decide (a = b))) σ N) : W2 B d (VRel B) (compareOp .Eq) (.bool a) (.bool b) σ N Q := fun A s x y k I r r' => by
  obtain ⟨_, rfl⟩ := r.inv; obtain ⟨_, rfl⟩ := r'.inv; exact PyProof.Rows.eq_bool (.here I (.refl _ _) (.bool _) (by rw [show (a == b) = decide (a = b) from by cases a <;> cases b <;> rfl]; exact h))
theorem vCmp_sound {op : CmpOp} {u v : V} {Q : Post V} (h : vCmp op u v σ N Q (Need (W2 B d (VRel B) (compareOp op) u v σ N Q))) : W2 B d (VRel B) (compareOp op) u v σ N Q := by
  cases u with
  | int a =>
    cases v with
    | int b =>
      cases op with
      | Lt => exact O_lt h
      | LtE => exact O_le h
      | Gt => exact O_gt h
      | GtE => exact O_ge h
      | Eq => exact O_eq h
      | NotEq => exact O_ne h
      | _ => exact h.elim
    | _ => exact Need.h h
  | str a =>
    cases v with
    | str b =>
      cases op with
      | Eq => exact S_eq h
      | NotEq => exact S_ne h
      | Gt => exact S_gt h
      | Lt => exact S_lt h
      | In => exact S_in h
      | _ => exact h.elim
    | _ => exact Need.h h
  | bool a =>
    obtain ⟨b, hb, h⟩ := vO.out h
    cases V.asBool_eq hb
    cases op with
    | Eq => exact O_eqB h
    | _ => exact h.elim
  | _ => exact Need.h h
theorem vTr_sound {u : V} {Q : Post Bool} (h : vTruth B d u σ N Q) : W1 B d BRel truthy u σ N Q := by
  cases u with
  | bool b => exact T_bool h
  | str x => exact T_str h.1 h.2
  | lst xs => exact T_list (.lst xs) h.1 h.2
  | _ => exact Need.h h
theorem vName_sound (ht : TabOk B tb) (he : EnvOk env) {x : Str} {p : Pos} {Q : Post V} (hx : okName x = true) (h : vName tb env x l σ N Q) : WE B d env l (.Name x p) σ N Q := by
  simp only [okName, Bool.and_eq_true, Bool.not_eq_true'] at hx
  obtain ⟨k, e, h⟩ := vO.out h
  cases k with
  | «local» => obtain ⟨v, ev, h⟩ := vO.out h; exact WE_local ev h he.kind e hx.1
  | cell => obtain ⟨c, ev, v, e2, h⟩ := vO.out h; exact WE_cell ev e2 h he.kind e hx.1
  | free => obtain ⟨c, ev, v, e2, h⟩ := vO.out h; exact WE_free ev e2 h he.kind e hx.1 hx.2
  | globalImplicit =>
    obtain ⟨v, ev, h⟩ := vO.out h
    exact (ht.name x v ev).elim (fun q => WE_glob q h he.kind e he.glob hx.1) fun q => WE_built q h he.kind e he.glob he.bui hx.1
  | _ => exact h.elim
theorem noStar_cons {e : Expr} {es : List Expr} (h : noStar (e :: es) = true) : starEach (e :: es) env = (false, eval e env) :: starEach es env ∧ noStar es = true := by
  cases e <;> first | exact ⟨rfl, h⟩ | cases h
theorem noStar_any {pos : Pos} (env : Env) : ∀ {es : List Expr}, noStar es = true → (backTo pos (starEach es env)).any (·.1) = false
  | [], _ => rfl
  | e :: es, h => by
    obtain ⟨h1, h2⟩ := noStar_cons (env := env) h
    have := noStar_any (pos := pos) env h2
    rw [h1]
    show (false || (backTo pos (starEach es env)).any (·.1)) = false
    rw [this]; rfl
theorem eA_sound (hR : Sound B d R) (he : EnvOk env) {pos : Pos} : ∀ {es : List Expr} {σ : Store} {N : Nat} {Q : Post (List V)}, noStar es = true → eA R env es l σ N Q → WA B d env l pos es σ N Q
  | [], _, _, _, _, h => WA_nil h
  | _ :: _, _, _, _, hn, h => WA_cons ((hR.E he h).mono fun _ _ _ h => eA_sound hR he (noStar_cons (env := env) hn).2 h) (noStar_cons hn).1
theorem CW_T0 {pos : Pos} {T : String} {first : List V} {Q : Post V} (h : WC B d (.type T) first σ N Q) : CW B d env l pos (.lit (.type T)) first [] σ N Q :=
  fun A s v fs k I F r rs => by
    obtain ⟨_, rfl⟩ := r.inv
    refine PySem.callWith_type rfl (evalArgs_nil3 ?_)
    show wpAny _ _ (call (.type T) (fs ++ []) []) _ _ _
    rw [List.append_nil]
    exact h A s fs k I rs
theorem cw_sound (ht : TabOk B tb) (hR : Sound B d R) (he : EnvOk env) {pos : Pos} {f : V} {first : List V} {args : List Expr} {Q : Post V} (hn : noStar args = true)
    (h : vCall B tb d R env f first args l σ N Q) : CW B d env l pos f first args σ N Q := by
  cases args with
  | nil =>
    cases f with
    | lit v =>
      cases v with
      | ref a =>
        obtain ⟨hc, h⟩ := vG.out h
        have h := Need.h h
        rw [List.append_nil] at h
        exact CW_of0 V.lit_is (fun N s I => ht.fn _ hc σ N s I) h
      | builtin id =>
        have h := Need.h h
        rw [List.append_nil] at h
        exact CW_B0 h
      | type T =>
        have h := Need.h h
        rw [List.append_nil] at h
        exact CW_T0 h
      | _ => exact h.elim
    | ref a =>
      have h := Need.h h
      rw [List.append_nil] at h
      obtain ⟨⟨fd, hf⟩, h⟩ := h
      exact CW_fn0 V.ref_is hf h
    | _ => exact h.elim
  | cons e es =>
    obtain ⟨h1, h2⟩ := noStar_cons (env := env) hn
    have h3 := noStar_any (pos := pos) env h2
    cases f with
    | lit v =>
      cases v with
      | ref a =>
        obtain ⟨hc, h⟩ := vG.out h
        exact CW_of V.lit_is (fun _ => True) (fun σ N s _ I => ht.fn _ hc σ N s I) ((eA_sound hR he (pos := pos) hn h).mono fun _ _ _ h => ⟨trivial, h.h⟩) h1 h3
      | builtin id =>
        have h : eA R env (e :: es) l σ N (fun vs σ₁ N₁ => Need (WC B d (.builtin id) (first ++ vs) σ₁ N₁ Q)) := h
        exact CW_B ((eA_sound hR he (pos := pos) hn h).mono fun _ _ _ h => h.h) h1 h3
      | type T =>
        have h : eA R env (e :: es) l σ N (fun vs σ₁ N₁ => Need (WC B d (.type T) (first ++ vs) σ₁ N₁ Q)) := h
        exact CW_T ((eA_sound hR he (pos := pos) hn h).mono fun _ _ _ h => h.h) h1 h3
      | _ => exact h.elim
    | ref a =>
      have h : eA R env (e :: es) l σ N (fun vs σ₁ N₁ => Need ((∃ fd, FnAt B σ₁ a fd) ∧ WC B d (.ref a) (first ++ vs) σ₁ N₁ Q)) := h
      exact CW_fn V.ref_is ((eA_sound hR he (pos := pos) hn h).mono fun _ _ _ h => h.h) h1 h3
    | _ => exact h.elim
theorem vAsN_sound (he : EnvOk env) {x : Str} {p : Pos} {v : V} {K : Loc → Store → Nat → Prop} (h : vAsN env x v l σ N K) : WAs B d env l (.Name x p) v σ N K := by
  obtain ⟨k, e, h⟩ := vO.out h
  cases k with
  | «local» => exact A_name h e he.kind
  | cell => obtain ⟨c, ec, ⟨v₀, h0⟩, h⟩ := vO.out h; exact A_cell ec h0 h e he.kind
  | _ => exact h.elim
theorem WAs.mono {t : Expr} {v : V} {K K' : Loc → Store → Nat → Prop} (h : WAs B d env l t v σ N K) (k : ∀ l σ N, K l σ N → K' l σ N) : WAs B d env l t v σ N K' :=
  fun A s a R E o I F r q => h A s a R E o I F r fun s' l' σ' N' I' S' F' n' h' => q s' l' σ' N' I' S' F' n' (k _ _ _ h')
theorem nameOf_eq {t : Expr} {x : Str} (h : nameOf t = some x) : ∃ p, t = .Name x p := by
  cases t with
  | Name y p => cases h; exact ⟨p, rfl⟩
  | _ => cases h
theorem uncons_eq {α : Type} {l : List α} {p : α × List α} (h : uncons l = some p) : l = p.1 :: p.2 := by
  cases l with
  | nil => cases h
  | cons => cases h; rfl
theorem vAsL_sound (he : EnvOk env) {K : Loc → Store → Nat → Prop} (ts : List Expr) : ∀ {vs : List V} {l : Loc} {σ : Store} {N : Nat}, vAsL env ts vs l σ N K → WAsL B d env ts vs l σ N K := by
  induction ts with
  | nil =>
    intro vs l σ N h
    obtain ⟨e, h⟩ := vG.out h
    cases vs with
    | nil => exact h
    | cons => cases e
  | cons t ts ih =>
    intro vs l σ N h
    obtain ⟨x, e1, h1⟩ := vO.out h
    obtain ⟨p, e2, h2⟩ := vO.out h1
    obtain ⟨q, e3⟩ := nameOf_eq e1
    rw [uncons_eq e2, e3]
    exact (vAsN_sound he h2).mono fun _ _ _ h => ih h
theorem vAsT_sound (he : EnvOk env) {ts : List Expr} {x1 : Nat} {p : Pos} {v : V} {K : Loc → Store → Nat → Prop} (h : vAsT env ts v l σ N K) : WAs B d env l (.Tuple ts x1 p) v σ N K := by
  obtain ⟨vs, e, h⟩ := vO.out h
  obtain ⟨q, h⟩ := vG.out h
  rw [Bool.and_eq_true] at q
  rw [V.asTup_eq e]
  exact A_tuple q.1 (eq_of_beq q.2) (vAsL_sound he ts h)
theorem vAs_sound (he : EnvOk env) {t : Expr} {v : V} {K : Loc → Store → Nat → Prop} (h : vAs env t v l σ N K) : WAs B d env l t v σ N K := by
  cases t with
  | Name x p => exact vAsN_sound he h
  | Tuple ts k p => exact vAsT_sound he h
  | _ => exact h.elim
theorem vTs_sound (hR : Sound B d R) (he : EnvOk env) {ifs : List Expr} {Q : Post Bool} (h : vTs R env ifs l σ N Q) : WTs B d env l ifs σ N Q := by
  cases ifs with
  | nil => exact Ts_nil h
  | cons c r =>
    obtain ⟨e, h⟩ := vG.out h
    cases r with
    | nil => exact Ts_one (hR.T he h)
    | cons => cases e
theorem cloOf_go : ∀ {names : List (Str × NameKind)} {cs cl : List (Str × Nat)}, cloOf env names cs = some cl →
    (forIn names cs fun (x : Str × NameKind) (cs : List (Str × Addr)) => (if (x.2 == .free) = true then cellOf env x.1 >>= fun c => pure (ForInStep.yield ((x.1, c) :: cs)) else pure (ForInStep.yield cs) : Sem (ForInStep (List (Str × Addr))))) = pure cl
  | [], cs, cl, h => by cases h; rfl
  | (n, k) :: r, cs, cl, h => by
    rw [List.forIn_cons]
    cases k
    case free =>
      cases hc : env.cells.lookup n with
      | some c =>
        simp only [cloOf, hc] at h
        have : cellOf env n = pure c := by unfold cellOf; rw [hc]
        show ((cellOf env n >>= fun c => pure (ForInStep.yield ((n, c) :: cs))) >>= _) = _
        rw [this]
        exact cloOf_go h
      | none => simp only [cloOf, hc] at h; cases h
    all_goals exact cloOf_go (cs := cs) h
theorem cloOf_sound {scope : Scope} {cl : List (Str × Nat)} (h : cloOf env scope.names [] = some cl) : closureFor scope env = pure cl := by
  have := cloOf_go h
  unfold closureFor
  show (forIn scope.names [] _ >>= fun cs => pure cs) = _
  exact (congrArg (· >>= fun cs => pure cs) this : _)
theorem compEnvOk {scope : Scope} {cl : List (Str × Nat)} {C : Nat} (he : EnvOk env) (hk : scope.kind = .function) : EnvOk (compEnvC scope cl C env) := ⟨hk, he.glob, he.bui⟩
theorem notSet {iter : Expr} (h : isSet iter = false) : ∀ x, foldedSetIterable iter env x = pure x := fun x => by
  cases iter <;> first | rfl | cases h
theorem okScope_names {names : List (Str × NameKind)} (h : okScope names = true) : (∀ x ∈ names, x.2 = .local → names.lookup x.1 = some .local) ∧ ∀ x ∈ names, x.2 ≠ .cell := by
  have z := List.all_eq_true.mp h
  refine ⟨fun x hx e => ?_, fun x hx => ?_⟩
  · have := z x hx
    rw [Bool.and_eq_true, Bool.or_eq_true] at this
    rcases this.2 with q | q
    · exact absurd e (of_decide_eq_true q)
    · exact of_decide_eq_true q
  · have := z x hx
    rw [Bool.and_eq_true] at this
    exact of_decide_eq_true this.1
theorem vComp_sound (hR : Sound B d R) (he : EnvOk env) {vact : Env → Loc → Store → Nat → AObj → (AObj → Store → Nat → Prop) → Prop} {act : Nat → Env → Sem Unit} {acc₀ : AObj} (hact : ∀ env a l σ N o K, EnvOk env → vact env l σ N o K → WAct B d env l (act a env) a o σ N K)
    {target iter : Expr} {ifs : List Expr} {scope : Scope} {K : Post V} (h : vComp B R env vact acc₀ target iter ifs scope l σ N K) :
    ∃ cl, closureFor scope env = pure cl ∧ scope.kind = .function ∧ (∀ x ∈ scope.names, x.2 = .local → scope.names.lookup x.1 = some .local) ∧ (∀ x ∈ scope.names, x.2 ≠ .cell) ∧ (∀ x, foldedSetIterable iter env x = pure x) ∧
      WE B d env l iter σ N (CompAsk B d env scope cl target ifs act acc₀ K) := by
  obtain ⟨cl, hc, h⟩ := vO.out h
  obtain ⟨hb, h⟩ := vG.out h
  simp only [Bool.and_eq_true, Bool.not_eq_true', decide_eq_true_eq] at hb
  obtain ⟨⟨h1, h2⟩, h3⟩ := hb
  obtain ⟨o1, o2⟩ := okScope_names h1
  refine ⟨cl, cloOf_sound hc, h2, o1, o2, notSet h3, (hR.E he h).mono fun x σ₁ N₁ h => ?_⟩
  cases h with
  | mk hit h =>
    refine ⟨_, _, _, hit, fun a C q1 q3 => ?_⟩
    obtain ⟨J, j0, jd, jt, jf⟩ := h a C q1 q3
    have ke : EnvOk (compEnvC scope cl C env) := compEnvOk he h2
    refine ⟨J, j0, jd, fun i o σ N hi hJ hN => ?_, jf⟩
    refine (vAs_sound ke (jt i o σ N hi hJ hN)).mono fun l σ₁ N₁ h => (vTs_sound hR ke h).mono fun ok σ₂ N₂ h => ?_
    cases ok with
    | true => rw [if_pos rfl]; exact hact _ _ _ _ _ _ _ ke (h.t rfl)
    | false => rw [if_neg Bool.false_ne_true]; exact h.f rfl
theorem vactL_sound (hR : Sound B d R) {elt : Expr} : ∀ env a l σ N o K, EnvOk env → vactL R elt env l σ N o K → WAct B d env l (do let _ ← call (.builtin "list.append") [.ref a, ← eval elt env]) a o σ N K :=
  fun _ _ _ _ _ o _ he h => by
    cases o with
    | list ys => exact act_list h.1 (hR.E he h.2)
    | _ => exact h.elim
theorem methId_ok {T : String} {x : Str} {id : String} (h : methId T x = some id) : PlainAttrs T ∧ Slot T x id ∧ typeOf (.builtin id) = pure (.type "method_descriptor") := by
  unfold methId at h
  split at h
  · repeat' split at h
    · rename_i e; cases h; subst e; exact ⟨F.plainAttrs_list, F.slot_list_append, F.type_list_append⟩
    · rename_i e; cases h; subst e; exact ⟨F.plainAttrs_list, F.slot_list_pop, F.type_list_pop⟩
    · rename_i e; cases h; subst e; exact ⟨F.plainAttrs_list, F.slot_list_extend, F.type_list_extend⟩
    · rename_i e; cases h; subst e; exact ⟨F.plainAttrs_list, F.slot_list_count, F.type_list_count⟩
    · cases h
  · repeat' split at h
    · rename_i e; cases h; subst e; exact ⟨F.plainAttrs_dict, F.slot_dict_get, F.type_dict_get⟩
    · rename_i e; cases h; subst e; exact ⟨F.plainAttrs_dict, F.slot_dict_items, F.type_dict_items⟩
    · rename_i e; cases h; subst e; exact ⟨F.plainAttrs_dict, F.slot_dict_values, F.type_dict_values⟩
    · cases h
  · repeat' split at h
    · rename_i e; cases h; subst e; exact ⟨F.plainAttrs_str, F.slot_str_join, F.type_str_join⟩
    · rename_i e; cases h; subst e; exact ⟨F.plainAttrs_str, F.slot_str_count, F.type_str_count⟩
    · rename_i e; cases h; subst e; exact ⟨F.plainAttrs_str, F.slot_str_startswith, F.type_str_startswith⟩
    · rename_i e; cases h; subst e; exact ⟨F.plainAttrs_str, F.slot_str_endswith, F.type_str_endswith⟩
    · cases h
  · cases h
theorem notSetMark {op : CmpOp} {y : Expr} (h : isSet y = false) : behindInMarks op y = false := by cases y <;> first | rfl | cases h
theorem notSlice {i : Expr} (h : isSlice i = false) : ∀ a b : Value, subscripted i false a b = operate [a, b] (getItem a b) := fun a b => by cases i <;> first | rfl | cases h
theorem noStar_all {pos : Pos} (env : Env) : ∀ {es : List Expr}, noStar es = true → (backTo pos (starEach es env)).all (!·.1) = true
  | [], _ => rfl
  | e :: es, h => by
    obtain ⟨h1, h2⟩ := noStar_cons (env := env) h
    have := noStar_all (pos := pos) env h2
    rw [h1]
    show (!false && (backTo pos (starEach es env)).all (!·.1)) = true
    rw [this]; rfl
theorem eval_meth {o : Expr} {name : Str} {apos pos : Pos} {args : List Expr} (hb : plainBase o = true) (hl : (apos.endLine == pos.line) = true) (hn : noStar args = true) (hz : args.length < 30) :
    eval (.Call (.Attribute o name apos) args [] pos) env = (do
      let ov ← eval o env
      standAt apos.atName
      let (f, first) ← holding [ov] (getMethod ov name (do return (← importBound o env).getD true))
      callWith pos f first (backTo pos (starEach args env)) (backToKw pos (keywordEach [] env))) := by
  have hf : methodCallForm (args.length + ([] : List Keyword).length) (backTo pos (starEach args env)) (backToKw pos (keywordEach [] env)) = true := by
    unfold methodCallForm
    rw [noStar_all env hn]
    show decide (args.length + 0 + 0 < 30) = true
    exact decide_eq_true (by exact ar181 hz)
  have hp : methodCallPos true o env apos pos = pure pos := by unfold methodCallPos; rw [hl]; rfl
  have hm : ∀ ov, methodCall o name apos pos env ov (args.length + ([] : List Keyword).length) (backTo pos (starEach args env)) (backToKw pos (keywordEach [] env)) = (do
      let (f, first) ← holding [ov] (getMethod ov name (do return (← importBound o env).getD true))
      callWith pos f first (backTo pos (starEach args env)) (backToKw pos (keywordEach [] env))) := fun ov => by
    unfold methodCall
    rw [hf, hp]
    rfl
  have ha : attributeBase o name env (eval o env) = eval o env := by cases o <;> first | rfl | cases hb
  show (attributeBase o name env (eval o env) >>= fun ov => standAt apos.atName >>= fun _ => methodCall o name apos pos env ov (args.length + ([] : List Keyword).length) (backTo pos (starEach args env)) (backToKw pos (keywordEach [] env))) = _
  rw [ha]
  congr 1
  funext ov
  congr 1
  funext _
  exact hm ov
/-- a method's function and what is bound ahead -/
noncomputable def WM (B : Cx) (d : Nat) (env : Env) (l : Loc) (pos : Pos) (name : Str) (pl : Sem Bool) (args : List Expr) (ov : V) (σ : Store) (N : Nat) (Q : Post V) : Prop :=
  ∀ A s a, Ok d A → Inv B σ N s → FRel B env l σ s.heap → VRel B σ s.heap ov a → wpAny (model B.prog B.w) A (getMethod a name pl) (fun fx s₂ => wpAny (model B.prog B.w) A (callWith pos fx.1 fx.2 (backTo pos (starEach args env)) []) (Ends B (VRel B) σ N s.heap Q) (fun _ _ => False) s₂) (fun _ _ => False) s
theorem E_methV {o : Expr} {name : Str} {apos pos : Pos} {args : List Expr} {Q : Post V} (hb : plainBase o = true) (hl : (apos.endLine == pos.line) = true) (hn : noStar args = true) (hz : args.length < 30)
    (h : WE B d env l o σ N fun ov σ₁ N₁ => WM B d env l pos name (do return (← importBound o env).getD true) args ov σ₁ N₁ Q) : WE B d env l (.Call (.Attribute o name apos) args [] pos) σ N Q :=
  fun A s k I F => methodCall_KW (h.seq (ρ' := VRel B) k I F fun a u σ₁ N₁ s₁ r I₁ F₁ S₁ n₁ h₁ => bot (h₁ A s₁ a k I₁ F₁ r) fun fx s₂ h₂ => bot h₂ fun c s₃ q => q.after S₁ n₁) (eval_meth hb hl hn hz)
theorem M_builtin {pos : Pos} {name : Str} {pl : Sem Bool} {args : List Expr} {ov : V} {T id : String} {Q : Post V} (pa : PlainAttrs T) (slot : Slot T name id) (hty : typeOf (.builtin id) = pure (.type "method_descriptor")) (ht : TypeV σ ov T)
    (h : CW B d env l pos (.lit (.builtin id)) [ov] args σ N Q) : WM B d env l pos name pl args ov σ N Q :=
  fun A s a k I F r => getMethod_builtin (ht.is I r).1 pa slot hty (ht.is I r).2 (h A s _ [a] k I F (.lit _) (.cons r .nil))
theorem VMeth.sound {pos : Pos} {name : Str} {pl : Sem Bool} {args : List Expr} {ov : V} {Q : Post V} {K : V → List V → Prop} (hK : ∀ f first, K f first → CW B d env l pos f first args σ N Q) (h : VMeth B σ name K ov) : WM B d env l pos name pl args ov σ N Q := by
  cases h with
  | builtin ht hm h => obtain ⟨a, b, c⟩ := methId_ok hm; exact M_builtin a b c ht (hK _ _ h)
  | inst hx hD hm hl h => exact M_inst hx hD hm hl (hK _ _ h)
  | fn hl hx hc hd hf hD hv hh h => exact M_fn hl hx hc hd hf hD hv hh (hK _ _ h)
theorem vPs_sound (hR : Sound B d R) (he : EnvOk env) {pos : Pos} : ∀ {ps : List (Expr × Expr)} {σ : Store} {N : Nat} {Q : Post (List (V × V))}, vPs R env ps l σ N Q → WPs B d env l pos ps σ N Q
  | [], _, _, _, h => Ps_nil h
  | (_, _) :: _, _, _, _, h => Ps_cons ((hR.E he h).mono fun _ _ _ h => (hR.E he h).mono fun _ _ _ h => vPs_sound hR he h)
theorem vDict_sound (hR : Sound B d R) (he : EnvOk env) {pos : Pos} {ps : List (Expr × Expr)} {Q : Post V} (h : vDict R env ps l σ N Q) : WE B d env l (.Dict (ps.map fun p => some p.1) (ps.map (·.2)) pos) σ N Q := by
  cases ps with
  | nil => exact WE_dict0 h
  | cons p ps =>
    obtain ⟨hz, h⟩ := vG.out h
    exact WE_dict (ps := p :: ps) (by nofun) (of_decide_eq_true hz) fun a ha => vPs_sound hR he (h a ha)
theorem vactD_sound (hR : Sound B d R) {kx vx : Expr} : ∀ env a l σ N o K, EnvOk env → vactD R kx vx env l σ N o K → WAct B d env l (dictAct kx vx a env) a o σ N K :=
  fun _ _ _ _ _ o _ he h => by
    cases o with
    | dict es ep => exact act_dict h.1 ((hR.E he h.2).mono fun _ _ _ h => hR.E he h)
    | _ => exact h.elim
theorem nil_of {α : Type} {l : List α} (h : l.isEmpty = true) : l = [] := by cases l with | nil => rfl | cons => cases h
theorem vPart_sound (hR : Sound B d R) (he : EnvOk env) {o : Option Expr} {K : Option Int → Store → Nat → Prop} (h : vPart R env o l σ N K) : WF B d env l (fun _ _ p v => IsPart v p) (evalPart o env) σ N K := by
  cases o with
  | none => exact fun A s k I F => wpAny_pure (.here I (.refl _ _) .none h)
  | some e =>
    intro A s k I F
    refine (hR.E he h).seq (ρ' := VRel B) k I F fun a u σ₁ N₁ s₁ r I₁ F₁ S₁ n₁ h₁ => ?_
    obtain ⟨i, e1, h₁⟩ := vO.out h₁
    cases V.asInt_eq e1
    obtain ⟨_, rfl⟩ := r.inv
    exact ⟨some i, σ₁, N₁, .int _ _, I₁, S₁, n₁, h₁⟩
theorem vSlice_sound (hR : Sound B d R) (he : EnvOk env) {o : Expr} {a b c : Option Expr} {p pos : Pos} {Q : Post V}
    (h : R.E env o l σ N fun u σ₁ N₁ => vPart R env a l σ₁ N₁ fun lo σ₂ N₂ => vPart R env b l σ₂ N₂ fun hi σ₃ N₃ => vPart R env c l σ₃ N₃ fun st σ₄ N₄ => Need (WSlice B d u lo hi st σ₄ N₄ Q)) : WE B d env l (.Subscript o (.Slice a b c p) pos) σ N Q :=
  fun A s k I F => Subscript_ ((hR.E he h).seq (ρ' := VRel B) k I F fun x u σ₁ N₁ s₁ r I₁ F₁ S₁ n₁ h₁ => wpAny_Slice ((vPart_sound hR he h₁).seq (ρ' := VRel B) k I₁ F₁ fun vl lo σ₂ N₂ s₂ r₂ I₂ F₂ S₂ n₂ h₂ =>
    (vPart_sound hR he h₂).seq (ρ' := VRel B) k I₂ F₂ fun vu hi σ₃ N₃ s₃ r₃ I₃ F₃ S₃ n₃ h₃ => (vPart_sound hR he h₃).seq (ρ' := VRel B) k I₃ F₃ fun vk st σ₄ N₄ s₄ r₄ I₄ F₄ S₄ n₄ h₄ => by
      obtain ⟨⟨T, id, ht, hl⟩, h₄⟩ := Need.h h₄
      have S := (S₁.trans (S₂.trans (S₃.trans S₄))).trans (Step.push (o := { cls := .type "slice", data := .fields #[vl, vu, vk] }))
      have rx := (((r.mono S₂).mono S₃).mono S₄).mono (Step.push (o := { cls := .type "slice", data := .fields #[vl, vu, vk] }))
      have I5 := I₄.push (o := { cls := .type "slice", data := .fields #[vl, vu, vk] })
      have g : wpAny (model B.prog B.w) A (getItem x (.ref s₄.heap.objs.size)) (Ends B (VRel B) σ N s.heap Q) (fun _ _ => False) { s₄ with heap := s₄.heap.push { cls := .type "slice", data := .fields #[vl, vu, vk] } } :=
        bot (h₄ A _ x _ vl vu vk k I5 rx (Heap.IsSliceOf.new ..) r₂ r₃ r₄) fun _ _ e => e.after S (Nat.le_trans n₁ (Nat.le_trans n₂ (Nat.le_trans n₃ n₄)))
      cases c with
      | none => exact tail_any (ht.is I5 rx) hl g rfl
      | some c => exact tail_any (ht.is I5 rx) hl g rfl))
theorem OffL.rel {s : Shared} {σ : Store} {vs : List V} {σ' : Store} {vs' : List V} (h : OffL σ vs σ' vs') : ∀ {as : List Value}, Inv B σ N s → VRelL B σ s.heap vs as → VRelL B σ' s.heap vs' as ∧ Inv B σ' N s ∧ Sub σ' σ := by
  induction h with
  | refl => exact fun I r => ⟨r, I, .refl _⟩
  | cons h t ih =>
    intro as I r
    obtain ⟨y, as, rfl, r, rs⟩ := r.cons'
    obtain ⟨a, b, c⟩ := ih (I.sub h.store) (rs.sub h.store)
    exact ⟨.cons ((h.rel I r).sub c) a, b, ⟨fun x o e => h.store.sub x o (c.sub x o e), c.fr.trans h.store.fr⟩⟩
theorem WE_tupleV {es : List Expr} {k : Nat} {pos : Pos} {Q : Post V} (h : WA B d env l pos es σ N fun vs σ₁ N₁ => ∃ σ₂ vs', OffL σ₁ vs σ₂ vs' ∧ vs.length ≤ sizeLine ∧ Q (.tup vs') σ₂ N₁) : WE B d env l (.Tuple es k pos) σ N Q :=
  fun A s k I F => Tuple_ (h.seq (ρ' := VRel B) k I F fun as us σ₁ N₁ s₁ r I₁ F₁ S₁ n₁ ⟨σ₂, vs', o, hz, h₁⟩ => by
    obtain ⟨r2, I2, u⟩ := o.rel I₁ r
    have hz' : vs'.length ≤ sizeLine := by rw [r2.length, ← r.length]; exact hz
    exact bot (WN_newTuple h₁ hz' A s₁ as k I2 r2) fun _ s₂ ⟨b, σ', N', q1, q2, q3, q4, q5⟩ => ⟨b, σ', N', q1, q2, S₁.trans ((Step.sub (.refl _ _) u).trans q3), Nat.le_trans n₁ q4, q5⟩)
theorem WN_newListF {xs : List V} {Q : Post V} (hz : xs.length ≤ sizeLine) (h : ∀ N', N ≤ N' → Q (.lst xs) σ N') : WN B d (VRel B) newList xs σ N Q :=
  fun A s as k I r => wpAny_newObj_type (.here I.push .push (.lst (n := 0) (items := as.toArray) (Heap.get?_push_size _ rfl) I.free (r.mono .push)) (h N (Nat.le_refl _))) (by show as.toArray.size ≤ sizeLine; rw [List.size_toArray, ← r.length]; exact hz)
theorem WE_listV {es : List Expr} {pos : Pos} {Q : Post V} (h : WA B d env l pos es σ N fun vs σ₁ N₁ => VList σ₁ N₁ Q vs) : WE B d env l (.List es pos) σ N Q :=
  fun A s k I F => List_ (h.seq (ρ' := VRel B) k I F fun as us σ₁ N₁ s₁ r I₁ F₁ S₁ n₁ h₁ => by
    cases h₁ with
    | «mut» hz h => exact bot (WN_newList h hz A s₁ as k I₁ r) fun _ s₂ e => e.after S₁ n₁
    | froz hz h => exact bot (WN_newListF hz h A s₁ as k I₁ r) fun _ s₂ e => e.after S₁ n₁)
theorem vE_sound (ht : TabOk B tb) (hR : Sound B d R) (he : EnvOk env) {e : Expr} {Q : Post V} (h : vE B tb d R env e l σ N Q) : WE B d env l e σ N Q := by
  cases e with
  | Constant c k p =>
    cases c with
    | int i => exact WE_int h
    | str i => exact WE_str h
    | bool i => exact WE_bool h
    | none => exact WE_none h
    | _ => exact h.elim
  | Name x p => obtain ⟨hx, h⟩ := vG.out h; exact vName_sound ht he hx h
  | BinOp x op y p => exact WE_bin ((hR.E he h).mono fun _ _ _ h => (hR.E he h).mono fun _ _ _ h => vOp_sound h)
  | Compare x ops ys p =>
    obtain ⟨op, e1, h1⟩ := vO.out h
    obtain ⟨y, e2, h2⟩ := vO.out h1
    obtain ⟨hs, h3⟩ := vG.out h2
    clear h h1 h2
    cases one_eq e1; cases one_eq e2
    exact WE_cmp ((hR.E he h3).mono fun _ _ _ h => (hR.E he h).mono fun _ _ _ h => vCmp_sound h) (notSetMark (Bool.not_eq_true' _ ▸ hs))
  | UnaryOp op x p =>
    obtain ⟨hs, h⟩ := vG.out h
    cases (eq_of_beq hs)
    exact WE_una ((hR.E he h).mono fun _ _ _ h => O_not (vTr_sound h))
  | BoolOp op vs p =>
    obtain ⟨⟨x, y⟩, e1, h⟩ := vO.out h
    cases two_eq e1
    cases op with
    | And => exact WE_and ((hR.E he h).mono fun _ _ _ h => (vTr_sound h).mono fun b _ _ h => by
        cases b with
        | true => rw [if_pos rfl]; exact hR.E he (VIf.t h rfl)
        | false => rw [if_neg Bool.false_ne_true]; exact VIf.f h rfl)
    | Or => exact WE_or ((hR.E he h).mono fun _ _ _ h => (vTr_sound h).mono fun b _ _ h => by
        cases b with
        | true => rw [if_pos rfl]; exact VIf.t h rfl
        | false => rw [if_neg Bool.false_ne_true]; exact hR.E he (VIf.f h rfl))
  | IfExp t x y p => exact WE_ifexp ((hR.T he h).mono fun b _ _ h => by
      cases b with
      | true => exact hR.E he (h.t rfl)
      | false => exact hR.E he (h.f rfl))
  | Subscript o i p =>
    have pl : vG (!isSlice i) (R.E env o l σ N fun u σ₁ N₁ => R.E env i l σ₁ N₁ fun v σ₂ N₂ => Need (WItem B d u v σ₂ N₂ Q)) → WE B d env l (.Subscript o i p) σ N Q := fun h => by
      obtain ⟨hs, h⟩ := vG.out h
      exact WE_sub ((hR.E he h).mono fun _ _ _ h => (hR.E he h).mono fun _ _ _ h => let ⟨⟨T, id, ht, hl⟩, g⟩ := Need.h h; U_of ht hl (notSlice (Bool.not_eq_true' _ ▸ hs)) g)
    cases i with
    | Slice a b c q => exact vSlice_sound hR he h
    | _ => exact pl h
  | List es p => obtain ⟨hs, h⟩ := vG.out h; exact WE_listV (eA_sound hR he hs h)
  | Tuple es k p => obtain ⟨hs, h⟩ := vG.out h; exact WE_tupleV (eA_sound hR he hs h)
  | Call f args ks pos =>
    obtain ⟨hs, h1⟩ := vG.out h
    clear h
    rw [Bool.and_eq_true] at hs
    cases nil_of hs.2
    cases f with
    | Name x p => obtain ⟨hx, h⟩ := vG.out h1; exact E_call ((vName_sound ht he hx h).mono fun _ _ _ h => cw_sound ht hR he hs.1 h)
    | Attribute o name apos =>
      obtain ⟨hx, h⟩ := vG.out h1
      simp only [Bool.and_eq_true, decide_eq_true_eq] at hx
      exact E_methV hx.1.1 hx.1.2 hs.1 hx.2 ((hR.E he h).mono fun _ _ _ h => h.sound fun f first h => cw_sound ht hR he hs.1 h)
    | _ => exact h1.elim
  | ListComp elt gens scope pos =>
    obtain ⟨g, e1, h⟩ := vO.out h
    obtain ⟨cl, h1, h2, h3, h4, h5, h⟩ := vComp_sound hR he (vactL_sound hR) h
    rw [genOf_eq e1]
    exact comp_value (ck_list _ _ _ _ _ _) mk_list rfl h1 h2 h3 h4 h5 h
  | DictComp kx vx gens scope pos =>
    obtain ⟨g, e1, h⟩ := vO.out h
    obtain ⟨cl, h1, h2, h3, h4, h5, h⟩ := vComp_sound hR he (vactD_sound hR) h
    rw [genOf_eq e1]
    exact comp_value (ck_dict _ _ _ _ _ _ _) mk_dict rfl h1 h2 h3 h4 h5 h
  | Dict ks vs pos =>
    obtain ⟨ps, e1, h⟩ := vO.out h
    obtain ⟨e2, e3⟩ := pairsOf_eq e1
    rw [e2, e3]
    exact vDict_sound hR he h
  | Attribute o name pos =>
    obtain ⟨hb, h⟩ := vG.out h
    exact WE_attr (by cases o <;> first | rfl | cases hb) ((hR.E he h).mono fun _ _ _ h => h.h)
  | _ => exact h.elim
theorem vBoolT_sound (hR : Sound B d R) (he : EnvOk env) {op : BoolOp} : ∀ {vs : List Expr} {σ : Store} {N : Nat} {Q : Post Bool}, vBoolT R env op vs l σ N Q → WF B d env l BRel (isTrue (.BoolOp op vs ⟨0, 0, 0, 0⟩) env (eval (.BoolOp op vs ⟨0, 0, 0, 0⟩) env)) σ N Q
  | [], _, _, _, h => h.elim
  | [x], σ, N, Q, h => fun A s k I F => by
    cases op with
    | And =>
      refine isTrue_and ((hR.T he h).seq (ρ' := VRel B) k I F fun a u σ₁ N₁ s₁ e I₁ F₁ S₁ n₁ h₁ => ?_)
      cases (show u = a from e)
      cases a with
      | false => exact ⟨false, σ₁, N₁, rfl, I₁, S₁, n₁, h₁⟩
      | true => exact isTrue_and_nil ⟨true, σ₁, N₁, rfl, I₁, S₁, n₁, h₁⟩
    | Or =>
      refine isTrue_or ((hR.T he h).seq (ρ' := VRel B) k I F fun a u σ₁ N₁ s₁ e I₁ F₁ S₁ n₁ h₁ => ?_)
      cases (show u = a from e)
      cases a with
      | true => exact ⟨true, σ₁, N₁, rfl, I₁, S₁, n₁, h₁⟩
      | false => exact isTrue_or_nil ⟨false, σ₁, N₁, rfl, I₁, S₁, n₁, h₁⟩
  | x :: y :: r, σ, N, Q, h => fun A s k I F => by
    cases op with
    | And =>
      refine isTrue_and ((hR.T he h).seq (ρ' := VRel B) k I F fun a u σ₁ N₁ s₁ e I₁ F₁ S₁ n₁ h₁ => ?_)
      cases (show u = a from e)
      cases a with
      | false => exact ⟨false, σ₁, N₁, rfl, I₁, S₁, n₁, VIf.f h₁ rfl⟩
      | true => exact bot (vBoolT_sound hR he (VIf.t h₁ rfl) A s₁ k I₁ F₁) fun _ _ q => q.after S₁ n₁
    | Or =>
      refine isTrue_or ((hR.T he h).seq (ρ' := VRel B) k I F fun a u σ₁ N₁ s₁ e I₁ F₁ S₁ n₁ h₁ => ?_)
      cases (show u = a from e)
      cases a with
      | true => exact ⟨true, σ₁, N₁, rfl, I₁, S₁, n₁, VIf.t h₁ rfl⟩
      | false => exact bot (vBoolT_sound hR he (VIf.f h₁ rfl) A s₁ k I₁ F₁) fun _ _ q => q.after S₁ n₁
theorem vT_sound (hR : Sound B d R) (he : EnvOk env) {e : Expr} {Q : Post Bool} (h : vT B d R env e l σ N Q) : WB B d env l e σ N Q := by
  cases e with
  | UnaryOp op x p => obtain ⟨hs, h⟩ := vG.out h; cases (eq_of_beq hs); exact WB_not (hR.T he h)
  | BoolOp op vs p => exact vBoolT_sound hR he h
  | Compare x ops ys p =>
    obtain ⟨op, e1, h1⟩ := vO.out h
    obtain ⟨y, e2, h2⟩ := vO.out h1
    obtain ⟨hs, h3⟩ := vG.out h2
    clear h h1 h2
    cases one_eq e1; cases one_eq e2
    exact WB_cmp ((hR.E he h3).mono fun _ _ _ h => (hR.E he h).mono fun _ _ _ h => (vCmp_sound h).mono fun _ _ _ h => vTr_sound h) (notSetMark (Bool.not_eq_true' _ ▸ hs))
  | Name x p => exact WB_plain ((hR.E he h).mono fun _ _ _ h => vTr_sound h) rfl
  | Attribute o x p => exact WB_plain ((hR.E he h).mono fun _ _ _ h => vTr_sound h) rfl
  | Subscript o x p => exact WB_plain ((hR.E he h).mono fun _ _ _ h => vTr_sound h) rfl
  | Call f as ks p => exact WB_plain ((hR.E he h).mono fun _ _ _ h => vTr_sound h) rfl
  | _ => exact h.elim
end
end
noncomputable section
section
variable {B : Cx} {tb : Tb} {d : Nat} {env : Env} {l : Loc} {σ : Store} {N : Nat} {R : Rec} {rest : List Stmt} {Q : PostS}
theorem notComp {e : Expr} {t : Option Expr} {n : Nat} (h : isComp e = false) : swapsWith e t n env = pure false := by cases e <;> first | rfl | cases h
theorem X_assignN (he : EnvOk env) {x : Str} {p pos : Pos} {e : Expr} (h : WE B d env l e σ N fun v σ₁ N₁ => vAsN env x v l σ₁ N₁ fun l σ₂ N₂ => WX B d env l rest σ₂ N₂ Q) (hs : swapsWith e (some (.Name x p)) pos.line env = pure false) : WX B d env l (.Assign [.Name x p] e pos :: rest) σ N Q :=
  X_cons fun A s k I F => wpAny_Assign_Name (h.seq (ρ' := VRel B) k I F fun a v σ₁ N₁ s₁ r I₁ F₁ S₁ n₁ h₁ => by
    obtain ⟨kd, e, h₁⟩ := vO.out h₁
    cases kd with
    | «local» => exact store_local I₁ F₁ r e he.kind fun s₂ I₂ F₂ S₂ => ⟨.next, _, σ₁, N₁, .next, I₂, (S₁.toL _).trans S₂, F₂, n₁, h₁⟩
    | cell => obtain ⟨c, ec, ⟨v₀, h0⟩, h₁⟩ := vO.out h₁; exact store_cell I₁ F₁ r e he.kind ec h0 fun s₂ I₂ F₂ S₂ => ⟨.next, _, _, N₁, .next, I₂, (S₁.trans S₂).toL _, F₂, n₁, h₁⟩
    | _ => exact h₁.elim) hs
theorem vAsN.mono {x : Str} {v : V} {K K' : Loc → Store → Nat → Prop} (h : vAsN env x v l σ N K) (k : ∀ l σ N, K l σ N → K' l σ N) : vAsN env x v l σ N K' := by
  obtain ⟨kd, e, h⟩ := vO.out h
  unfold vAsN
  rw [e]
  cases kd with
  | «local» => exact k _ _ _ h
  | cell => obtain ⟨c, ec, h0, h⟩ := vO.out h; show vO (env.cells.lookup x) _; rw [ec]; exact ⟨h0, k _ _ _ h⟩
  | _ => exact h.elim
theorem CompAsk.mono {scope : Scope} {cl : List (Str × Nat)} {target : Expr} {ifs : List Expr} {act : Nat → Env → Sem Unit} {acc₀ : AObj} {K K' : Post V} {x : V} {σ₁ : Store} {N₁ : Nat} (h : CompAsk B d env scope cl target ifs act acc₀ K x σ₁ N₁) (k : ∀ v σ N, K v σ N → K' v σ N) : CompAsk B d env scope cl target ifs act acc₀ K' x σ₁ N₁ := by
  obtain ⟨n, item, Dep, hit, h⟩ := h
  refine ⟨n, item, Dep, hit, fun a C q1 q2 => ?_⟩
  obtain ⟨J, j0, jd, jt, jf⟩ := h a C q1 q2
  exact ⟨J, j0, jd, jt, fun o σ N a b => let ⟨v, hd, hk⟩ := jf o σ N a b; ⟨v, hd, k _ _ _ hk⟩⟩
theorem X_assignComp {e target iter : Expr} {ifs : List Expr} {act : Nat → Env → Sem Unit} {scope : Scope} {x : Str} {p pos spos : Pos} {cl : List (Str × Nat)} {mk : Sem Value} {acc₀ : AObj} (ck : CK e target iter ifs act)
    (hmk : ∀ {σ : Store} {N : Nat} {Q : Post V}, (∀ a, N ≤ a → Q (.ref a) (pt σ a acc₀) (a + 1)) → W0 B d (VRel B) mk σ N Q)
    (he : ∀ use, evalThenUse e env use = (do let _ ← comprehension e scope env pos mk false (eval iter env) (some use)))
    (h : WE B d env l iter σ N (CompAsk B d env scope cl target ifs act acc₀ fun v σ' N' => WX B d env (upd l x v) rest σ' N' Q)) (hsw : swapsWith e (some (.Name x p)) spos.line env = pure true) (hl : env.kindOf x = some .local) (hk : env.scope.kind = .function)
    (hclos : closureFor scope env = pure cl) (hkind : scope.kind = .function) (hnames : ∀ x ∈ scope.names, x.2 = .local → scope.names.lookup x.1 = some .local) (hcell : ∀ x ∈ scope.names, x.2 ≠ .cell) (hs : ∀ x, foldedSetIterable iter env x = pure x) :
    WX B d env l (.Assign [.Name x p] e spos :: rest) σ N Q :=
  X_cons fun A s k I F => by
    rw [exec_Assign_Name_used _ _ _ _ hsw]
    refine wpAny_bind (wpAny_standAt (wpAny_bind ?_))
    rw [he]
    exact wpAny_bind (comp_use ck hmk hl hk hclos hkind hnames hcell hs k I F h fun v u s' σ' N' hK I' S' F' n' => wpAny_pure (wpAny_pure ⟨.next, _, σ', N', .next, I', S', F', n', hK⟩))
theorem vThen_to (hR : Sound B d R) (he : EnvOk env) : ∀ x l σ N', N ≤ N' → vThen R env rest Q x l σ N' → Then B d env rest Q x l σ N' := fun x l σ N' _ h => by
  cases x with
  | next => exact hR.S he h
  | brk => exact h
  | cont => exact h
  | ret v => exact h
theorem vJoin_to {J : Loc → Store → Nat → Prop} : ∀ x l σ N', N ≤ N' → vJoin Q J x l σ N' → Joined Q J x l σ N' := fun x l σ N' n h => by
  cases x with
  | next => exact h
  | brk => exact h
  | cont => exact h
  | ret v => exact h
theorem not_of_bnot {b : Bool} (h : (!b) = true) : b = false := by cases b with | true => cases h | false => rfl
theorem vAssignC_sound (hR : Sound B d R) (he : EnvOk env) {x : Str} {p cpos pos : Pos} {e target iter : Expr} {ifs : List Expr} {scope : Scope} {vact : Env → Loc → Store → Nat → AObj → (AObj → Store → Nat → Prop) → Prop} {act : Nat → Env → Sem Unit} {mk : Sem Value} {acc₀ : AObj} (ck : CK e target iter ifs act)
    (hmk : ∀ {σ : Store} {N : Nat} {Q : Post V}, (∀ a, N ≤ a → Q (.ref a) (pt σ a acc₀) (a + 1)) → W0 B d (VRel B) mk σ N Q) {ppos : Pos}
    (hev : eval e env = comprehension e scope env ppos mk false (eval iter env) none) (heu : ∀ use, evalThenUse e env use = (do let _ ← comprehension e scope env ppos mk false (eval iter env) (some use)))
    (hsw : swapsWith e (some (.Name x p)) pos.line env = pure (swaps env x p cpos scope)) (hact : ∀ env a l σ N o K, EnvOk env → vact env l σ N o K → WAct B d env l (act a env) a o σ N K)
    (h : vAssignC B R env x p vact acc₀ target iter ifs scope cpos rest l σ N Q) : WX B d env l (.Assign [.Name x p] e pos :: rest) σ N Q := by
  cases hq : swaps env x p cpos scope with
  | true =>
    have h : vComp B R env vact acc₀ target iter ifs scope l σ N fun v σ₁ N₁ => R.S env rest (upd l x v) σ₁ N₁ Q := by
      have := h
      unfold vAssignC at this
      rw [hq] at this
      exact this
    obtain ⟨cl, h1, h2, h3, h4, h5, h⟩ := vComp_sound hR he hact h
    have hl := hq
    unfold swaps at hl
    simp only [Bool.and_eq_true, beq_iff_eq] at hl
    exact X_assignComp ck hmk heu (h.mono fun _ _ _ h => h.mono fun _ _ _ h => hR.S he h) (by rw [hsw, hq]) hl.1.1.2 he.kind h1 h2 h3 h4 h5
  | false =>
    have h : vComp B R env vact acc₀ target iter ifs scope l σ N fun v σ₁ N₁ => vAsN env x v l σ₁ N₁ fun l σ₂ N₂ => R.S env rest l σ₂ N₂ Q := by
      have := h
      unfold vAssignC at this
      rw [hq] at this
      exact this
    obtain ⟨cl, h1, h2, h3, h4, h5, h⟩ := vComp_sound hR he hact h
    exact X_assignN he (comp_value ck hmk hev h1 h2 h3 h4 h5 (h.mono fun _ _ _ h => h.mono fun _ _ _ h => h.mono fun _ _ _ h => hR.S he h)) (by rw [hsw, hq])
theorem X_assignTuple {ts : List Expr} {x1 : Nat} {p pos : Pos} {e : Expr} (h : WE B d env l e σ N fun v σ₁ N₁ => WAs B d env l (.Tuple ts x1 p) v σ₁ N₁ fun l σ₂ N₂ => WX B d env l rest σ₂ N₂ Q)
    (hs : swapsWith e (some (.Tuple ts x1 p)) pos.line env = pure false) (hw : swappedStores [.Tuple ts x1 p] e env = pure none) : WX B d env l (.Assign [.Tuple ts x1 p] e pos :: rest) σ N Q :=
  X_cons fun A s k I F => Assign_Tuple (h.seq (ρ' := VRel B) k I F fun a v σ₁ N₁ s₁ r I₁ F₁ S₁ n₁ h₁ => h₁ A s₁ a _ _ k I₁ F₁ r fun s₂ l₂ σ₂ N₂ I₂ S₂ F₂ n₂ h₂ =>
    ⟨.next, l₂, σ₂, N₂, .next, I₂, (S₁.toL _).trans S₂, F₂, Nat.le_trans n₁ n₂, h₂⟩) hs hw
theorem notSwap {ts : List Expr} {x1 : Nat} {p : Pos} {e : Expr} (h : (!isComp e && !isMany e) = true) : swappedStores [.Tuple ts x1 p] e env = pure none := by cases e <;> first | rfl | cases h
theorem vAssign_sound (hR : Sound B d R) (he : EnvOk env) {t e : Expr} {pos : Pos} (h : vAssign B d R env t e rest l σ N Q) : WX B d env l (.Assign [t] e pos :: rest) σ N Q := by
  cases t with
  | Name x p =>
    have pl : vG (!isComp e) (R.E env e l σ N fun v σ₁ N₁ => vAsN env x v l σ₁ N₁ fun l σ₂ N₂ => R.S env rest l σ₂ N₂ Q) → WX B d env l (.Assign [.Name x p] e pos :: rest) σ N Q := fun h => by
      obtain ⟨hs, h⟩ := vG.out h
      exact X_assignN he ((hR.E he h).mono fun _ _ _ h => h.mono fun _ _ _ h => hR.S he h) (notComp (not_of_bnot hs))
    cases e with
    | ListComp elt gens scope cpos =>
      obtain ⟨g, e1, h⟩ := vO.out h
      rw [genOf_eq e1]
      exact vAssignC_sound hR he (ck_list _ _ _ _ _ _) mk_list rfl (fun _ => rfl) rfl (vactL_sound hR) h
    | DictComp kx vx gens scope cpos =>
      obtain ⟨g, e1, h⟩ := vO.out h
      rw [genOf_eq e1]
      exact vAssignC_sound hR he (ck_dict _ _ _ _ _ _ _) mk_dict rfl (fun _ => rfl) rfl (vactD_sound hR) h
    | _ => exact pl h
  | Subscript o i p =>
    obtain ⟨hs, h⟩ := vG.out h
    exact X_assignSub ((hR.E he h).mono fun _ _ _ h => (hR.E he h).mono fun _ _ _ h => (hR.E he h).mono fun _ _ _ h => (Need.h h).mono fun _ _ _ h => hR.S he h) (notComp (not_of_bnot hs))
  | Attribute o name p =>
    obtain ⟨hs, h⟩ := vG.out h
    exact X_assignAttr ((hR.E he h).mono fun _ _ _ h => (hR.E he h).mono fun _ _ _ h => (Need.h h).mono fun _ _ _ h => hR.S he h) (notComp (not_of_bnot hs))
  | Tuple ts x1 p =>
    obtain ⟨hs, h⟩ := vG.out h
    exact X_assignTuple ((hR.E he h).mono fun _ _ _ h => (vAsT_sound he h).mono fun _ _ _ h => hR.S he h) (notComp (not_of_bnot ((Bool.and_eq_true _ _ ▸ hs).1))) (notSwap hs)
  | _ => exact h.elim
theorem vInp_sound {op : Operator} {u v : V} {Q : Post V} (h : vInp op u v σ N Q) : W2 B d (VRel B) (inplaceOp op) u v σ N Q := by
  obtain ⟨e, h⟩ := vG.out h
  cases (eq_of_beq e)
  cases u with
  | int a => obtain ⟨b, hb, h⟩ := vO.out h; cases V.asInt_eq hb; exact IP_int h
  | str a => obtain ⟨b, hb, h⟩ := vO.out h; cases V.asStr_eq hb; exact IP_str h.1 h.2
  | _ => exact h.elim
theorem augStore_plain {i : Expr} (h : isSlice i = false) : ∀ ov iv new, augStore i ov iv new = (do holding [new, ov, iv] (setItem ov iv new); release [new, ov, iv] []; pure .next) := fun _ _ _ => by cases i <;> first | rfl | cases h
theorem vAug_sound (hR : Sound B d R) (he : EnvOk env) {t e : Expr} {op : Operator} {pos : Pos} (h : vAug B d R env t op e rest l σ N Q) : WX B d env l (.AugAssign t op e pos :: rest) σ N Q := by
  cases t with
  | Name x p =>
    obtain ⟨hk, h⟩ := vG.out h
    obtain ⟨old, hl, h⟩ := vO.out h
    exact X_augName hl he.kind (eq_of_beq hk) ((hR.E he h).mono fun _ _ _ h => (vInp_sound h).mono fun _ _ _ h => hR.S he h)
  | Attribute o name p =>
    exact X_augAttr ((hR.E he h).mono fun _ _ _ h => (Need.h h).mono fun _ _ _ h => (hR.E he h).mono fun _ _ _ h => (vInp_sound h).mono fun _ _ _ h => (Need.h h).mono fun _ _ _ h => hR.S he h)
  | Subscript o i p =>
    obtain ⟨hs, h⟩ := vG.out h
    exact X_augSub (augStore_plain (not_of_bnot hs)) ((hR.E he h).mono fun _ _ _ h => (hR.E he h).mono fun _ _ _ h => (Need.h h).mono fun _ _ _ h => (hR.E he h).mono fun _ _ _ h => (vInp_sound h).mono fun _ _ _ h => (Need.h h).mono fun _ _ _ h => hR.S he h)
  | _ => exact h.elim
theorem vFor_sound (hR : Sound B d R) (he : EnvOk env) {target iter : Expr} {body : List Stmt} {pos : Pos} (hs : ∀ x, foldedSetIterable iter env x = pure x) (h : R.E env iter l σ N fun x σ₁ N₁ => VFor B d R env target body rest Q l σ₁ N₁ x) : WX B d env l (.For target iter body [] pos :: rest) σ N Q := by
  have tt : ∀ (J : Loc → Store → Nat → Prop) x l σ N, vTurn R env rest Q J x l σ N → ForTurn B d env rest Q J x l σ N := fun J x l σ N h => by
    cases x with
    | next => exact h
    | cont => exact h
    | brk => exact hR.S he h
    | ret v => exact h
  refine X_for ((hR.E he h).mono fun x σ₁ N₁ h => ?_) hs
  cases h with
  | items hi J l₀ hl h0 hd ht hf =>
    exact For_items ⟨_, _, _, hi, J, l₀, hl, h0, hd, fun i l σ N' hin hj hn => (vAs_sound he (ht i l σ N' hin hj hn)).mono fun l σ N h => WS.post (hR.S he h) fun x l σ N _ h => tt _ x l σ N h, fun l σ N' hj hn => hR.S he (hf l σ N' hj hn)⟩
  | calls hd hm J n l₀ hl h0 ht =>
    obtain ⟨d', rfl⟩ : ∃ d', d = d' + 1 := ⟨d - 1, by exact ar182 hd⟩
    rename_i it' bm' f' x' y' t'
    refine For_calls (bm := bm') (f := f') (x := x') (y := y') (t := t') J (notMany hm) hl h0 fun n l σ N' hj hn => ?_
    obtain ⟨c, w⟩ := ht n l σ N' hj hn
    refine ⟨c, fun A s as k I r => codeAny_mono (w A s as k I r) fun r s' q => ?_⟩
    rcases r with e | (v | _ | _ | _) <;> first | exact q | skip
    obtain ⟨b, σ₁, N₁, rb, I₁, S₁, n₁, z, e, c₁, h1, h2⟩ := q
    refine ⟨b, σ₁, N₁, rb, I₁, S₁, n₁, z, e, c₁, ?_⟩
    by_cases hz : z = y'
    · rw [if_pos hz]; exact hR.S he (h1 hz)
    · rw [if_neg hz]; exact (vAs_sound he (h2 hz)).mono fun l σ N h => WS.post (hR.S he h) fun x l σ N _ h => tt _ x l σ N h
theorem vSt_sound (hR : Sound B d R) (he : EnvOk env) {st : Stmt} (h : vSt B d R env st rest l σ N Q) : WX B d env l (st :: rest) σ N Q := by
  cases st with
  | Assign ts e pos =>
    obtain ⟨t, e1, h1⟩ := vO.out h
    rw [one_eq e1]
    exact vAssign_sound hR he h1
  | AugAssign t op e pos => exact vAug_sound hR he h
  | Expr e pos => obtain ⟨hs, h⟩ := vG.out h; exact X_expr ((hR.E he h).mono fun _ _ _ h => hR.S he h) he.inter (notComp (not_of_bnot hs))
  | Return o pos => obtain ⟨e, e1, h1⟩ := vO.out h; rw [e1]; exact X_return (hR.E he h1)
  | Break pos => exact X_break h
  | Continue pos => exact X_continue h
  | If t b e pos =>
    cases h with
    | plain h =>
      refine X_if ((hR.T he h).mono fun b σ₁ N₁ h => ?_)
      cases b with
      | true => exact WS.post (hR.S he (h.t rfl)) (vThen_to hR he)
      | false => exact WS.post (hR.S he (h.f rfl)) (vThen_to hR he)
    | join J h =>
      refine X_ifJ J (fun l σ N' n h' => hR.S he (h.1 l σ N' n h')) ((hR.T he h.2).mono fun b σ₁ N₁ h => ?_)
      cases b with
      | true => exact WS.post (hR.S he (h.t rfl)) vJoin_to
      | false => exact WS.post (hR.S he (h.f rfl)) vJoin_to
  | While t b o pos =>
    obtain ⟨ho, J, n, l₀, hl, h0, h1⟩ := vG.out h
    rw [nil_of ho]
    refine X_while J n hl h0 fun n l σ N' hj hn => (hR.T he (h1 n l σ N' hj hn)).mono fun c σ₁ N₁ h => ?_
    cases c with
    | true =>
      refine WS.post (hR.S he (h.t rfl)) fun x l σ N _ h => ?_
      cases x with
      | next => obtain ⟨l', a, m, b, c⟩ := h; exact ⟨m, l', b, a, c⟩
      | cont => obtain ⟨l', a, m, b, c⟩ := h; exact ⟨m, l', b, a, c⟩
      | brk => exact hR.S he h
      | ret v => exact h
    | false => exact hR.S he (h.f rfl)
  | For target iter body o pos =>
    obtain ⟨hs, h1⟩ := vG.out h
    rw [Bool.and_eq_true, Bool.not_eq_true'] at hs
    rw [nil_of hs.1]
    exact vFor_sound hR he (notSet hs.2) h1
  | _ => exact h.elim
theorem vS_sound (hR : Sound B d R) (he : EnvOk env) {ss : List Stmt} (h : vS B d R env ss l σ N Q) : WX B d env l ss σ N Q := by
  cases ss with
  | nil => exact X_nil h
  | cons st rest => exact vSt_sound hR he h
theorem vRun_sound (ht : TabOk B tb) : ∀ n, Sound B d (vRun B tb d n)
  | 0 => ⟨fun _ h => h.elim, fun _ h => h.elim, fun _ h => h.elim⟩
  | n + 1 => ⟨fun he h => vE_sound ht (vRun_sound ht n) he h, fun he h => vT_sound (vRun_sound ht n) he h, fun he h => vS_sound (vRun_sound ht n) he h⟩
/-- a call of a plain function -/
theorem K_fun (ht : TabOk B tb) {a : Nat} {fd : FuncData} {body : List Stmt} {names : List Str} {xs : List V} {Q : Post V} (hf : FnAt B σ a fd) (hc : CodeAt B σ fd) (hlim : B.h₀.NoLimit) (hb : fd.body = .stmts body)
    (hbind : ∀ s (as : List Value), as.length = xs.length → BindsTo s fd ⟨as, []⟩ (names.zip as)) (hcell : ∀ x ∈ fd.scope.names, x.2 ≠ .cell) (hloc : ∀ x ∈ names, fd.scope.names.lookup x = some .local)
    (he : fd.scope.isCoroutine = false ∧ fd.scope.isGenerator = false ∧ fd.scope.kind = .function ∧ fd.globals = mainGlobals ∧ fd.builtins = builtinsNs)
    (h : ∀ L, N ≤ L → σ L = none → (∀ a, N ≤ a → σ a = none) → (vRun B tb d 200).S (callEnv fd L a) body (locs names xs) (σ.add L) N (Back σ.fr Q)) : WK B (d + 1) (.ref a) xs σ N Q :=
  K_def hf hc hlim hb hbind hcell hloc (fun L h1 h2 h3 => (vRun_sound ht 200).S ⟨he.2.2.1, he.2.2.2.1, he.2.2.2.2⟩ (h L h1 h2 h3)) he.1 he.2.1 he.2.2.1
theorem C_fun (ht : TabOk B tb) {a : Nat} {fd : FuncData} {body : List Stmt} {names : List Str} {xs : List V} {Q : Post V} (hf : FnAt B σ a fd) (hc : CodeAt B σ fd) (hlim : B.h₀.NoLimit) (hb : fd.body = .stmts body)
    (hbind : ∀ s (as : List Value), as.length = xs.length → BindsTo s fd ⟨as, []⟩ (names.zip as)) (hcell : ∀ x ∈ fd.scope.names, x.2 ≠ .cell) (hloc : ∀ x ∈ names, fd.scope.names.lookup x = some .local)
    (he : fd.scope.isCoroutine = false ∧ fd.scope.isGenerator = false ∧ fd.scope.kind = .function ∧ fd.globals = mainGlobals ∧ fd.builtins = builtinsNs)
    (h : ∀ L, N ≤ L → σ L = none → (∀ a, N ≤ a → σ a = none) → (vRun B tb d 200).S (callEnv fd L a) body (locs names xs) (σ.add L) N (Back σ.fr Q)) : WC B (d + 1) (.ref a) xs σ N Q :=
  (K_fun ht hf hc hlim hb hbind hcell hloc he h).c
/-- a call of a function with names in cells -/
theorem K_funC (ht : TabOk B tb) {a : Nat} {fd : FuncData} {body : List Stmt} {names : List Str} {xs : List V} {Q : Post V} (hf : FnAt B σ a fd) (hc : CodeAt B σ fd) (hlim : B.h₀.NoLimit) (hb : fd.body = .stmts body) (hclo : fd.closure = [])
    (hbind : ∀ (as : List Value), as.length = xs.length → bindArgs fd ⟨as, []⟩ = pure (names.zip as))
    (hkind : ∀ n, ∀ x ∈ names, fd.scope.names.lookup x = some .local ∨ (fd.scope.names.lookup x = some .cell ∧ ((cellsFrom n fd.scope.names []).lookup x).isSome = true))
    (hnd : ∀ n, ((cellsFrom n fd.scope.names []).map (·.1)).Nodup)
    (he : fd.scope.isCoroutine = false ∧ fd.scope.isGenerator = false ∧ fd.scope.kind = .function ∧ fd.globals = mainGlobals ∧ fd.builtins = builtinsNs)
    (h : ∀ L N₁, N ≤ L → σ L = none → (∀ a, N ≤ a → σ a = none) → L < N₁ → (∀ p ∈ cellsFrom (L + 1) fd.scope.names [], p.2 < N₁) →
      (vRun B tb d 200).S (callEnvC fd L a) body (bL (kinds fd) (names.zip xs) []) (ptCells (bC (kinds fd) (names.zip xs) []) (cellsFrom (L + 1) fd.scope.names []) (σ.add L)) N₁ (Back σ.fr Q)) : WK B (d + 1) (.ref a) xs σ N Q :=
  K_cells hf hc hlim hb hclo hbind hkind hnd (fun L N₁ h1 h2 h3 h4 h5 => (vRun_sound ht 200).S ⟨he.2.2.1, he.2.2.2.1, he.2.2.2.2⟩ (h L N₁ h1 h2 h3 h4 h5)) he.1 he.2.1 he.2.2.1
theorem C_funC (ht : TabOk B tb) {a : Nat} {fd : FuncData} {body : List Stmt} {names : List Str} {xs : List V} {Q : Post V} (hf : FnAt B σ a fd) (hc : CodeAt B σ fd) (hlim : B.h₀.NoLimit) (hb : fd.body = .stmts body) (hclo : fd.closure = [])
    (hbind : ∀ (as : List Value), as.length = xs.length → bindArgs fd ⟨as, []⟩ = pure (names.zip as))
    (hkind : ∀ n, ∀ x ∈ names, fd.scope.names.lookup x = some .local ∨ (fd.scope.names.lookup x = some .cell ∧ ((cellsFrom n fd.scope.names []).lookup x).isSome = true))
    (hnd : ∀ n, ((cellsFrom n fd.scope.names []).map (·.1)).Nodup)
    (he : fd.scope.isCoroutine = false ∧ fd.scope.isGenerator = false ∧ fd.scope.kind = .function ∧ fd.globals = mainGlobals ∧ fd.builtins = builtinsNs)
    (h : ∀ L N₁, N ≤ L → σ L = none → (∀ a, N ≤ a → σ a = none) → L < N₁ → (∀ p ∈ cellsFrom (L + 1) fd.scope.names [], p.2 < N₁) →
      (vRun B tb d 200).S (callEnvC fd L a) body (bL (kinds fd) (names.zip xs) []) (ptCells (bC (kinds fd) (names.zip xs) []) (cellsFrom (L + 1) fd.scope.names []) (σ.add L)) N₁ (Back σ.fr Q)) : WC B (d + 1) (.ref a) xs σ N Q :=
  (K_funC ht hf hc hlim hb hclo hbind hkind hnd he h).c
end
end
noncomputable section
/-! the rules, as a walk asks for them -/
section
variable {B : Cx} {d : Nat} {σ : Store} {N : Nat} {u v : V} {xs : List V} {es : Dk} {Q : Post V}
theorem iList {i : Int} (hs : ListV σ u xs) (h0 : 0 ≤ i) (hi : i < 2 ^ 60) (hx : xs[i.toNat]? = some v) (h : Q v σ N) : Need (WItem B d u (.int i) σ N Q) := ⟨⟨_, _, .list hs, slot_list_getitem.lookup⟩, G_list hs h0 hi hx h⟩
theorem iLst {i : Int} (h0 : 0 ≤ i) (hi : i < 2 ^ 60) (hx : xs[i.toNat]? = some v) (h : Q v σ N) : Need (WItem B d (.lst xs) (.int i) σ N Q) := iList (.lst xs) h0 hi hx h
theorem iTup {i : Int} (h0 : 0 ≤ i) (hi : i < 2 ^ 60) (hx : xs[i.toNat]? = some v) (h : Q v σ N) : Need (WItem B d (.tup xs) (.int i) σ N Q) := ⟨⟨_, _, .tup _, F.slot_tuple_getitem.lookup⟩, G_tup h0 hi hx h⟩
theorem iDict {k : Kx} (hs : DictV σ u es) (hv : dget es k = some v) (h : Q v σ N) : Need (WItem B d u k.v σ N Q) := ⟨⟨_, _, .dict hs, F.slot_dict_getitem.lookup⟩, D_get hs hv h⟩
theorem pList {a : Nat} {i : Int} {Q : Post Unit} (hs : σ a = some (.list xs)) (h0 : 0 ≤ i) (hi : i < xs.length) (hz : xs.length < 2 ^ 40) (h : Q () (pt σ a (.list (xs.set i.toNat v))) N) : Need (W3 B d URel setItem (.ref a) (.int i) v σ N Q) := ⟨S_setList hs h0 hi hz h⟩
theorem pDict {a ep : Nat} {k : Kx} {Q : Post Unit} (hs : σ a = some (.dict es ep)) (hz : es.length < 2 ^ 20) (h : ∀ ep', Q () (pt σ a (.dict (dset es k v) ep')) N) : Need (W3 B d URel setItem (.ref a) k.v v σ N Q) := ⟨D_set hs hz h⟩
theorem bLen (hs : ListV σ u xs) (hz : xs.length < 2 ^ 40) (h : Q (.int xs.length) σ N) : Need (WC B d (.builtin "len") [u] σ N Q) := ⟨C_lenList hs hz h⟩
theorem bPop {a : Nat} {ys : List V} (hs : σ a = some (.list (ys ++ [v]))) (hz : ys.length < 2 ^ 20) (h : Q v (pt σ a (.list ys)) N) : Need (WC B d (.builtin "list.pop") [.ref a] σ N Q) := ⟨L_popLast hs hz h⟩
theorem bPop0 {a : Nat} {ys : List V} (hs : σ a = some (.list (v :: ys))) (hz : ys.length < 2 ^ 20) (h : Q v (pt σ a (.list ys)) N) : Need (WC B d (.builtin "list.pop") [.ref a, .int 0] σ N Q) := ⟨L_pop0 hs hz h⟩
theorem WC.off {f : Value} {a : Nat} {v' : V} {σ' : Store} (o : Off σ v σ' v') (h : WC B d f [.ref a, v'] σ' N Q) : WC B d f [.ref a, v] σ N Q := fun A s as k I r => by
  cases r with | cons r1 r2 => cases r2 with | cons r2 r3 =>
  cases r3; cases r1
  exact bot (h A s _ k (I.sub o.store) (.cons (.ref a) (.cons (o.rel I r2) .nil))) fun _ s' ⟨b, σ₂, N₂, q1, q2, q3, q4, q5⟩ => ⟨b, σ₂, N₂, q1, q2, (Step.sub (.refl _ _) o.store).trans q3, q4, q5⟩
theorem bAppend {a : Nat} {v' : V} {σ' : Store} (o : Off σ v σ' v') (hs : σ' a = some (.list xs)) (hz : xs.length < 2 ^ 20) (h : Q .none (pt σ' a (.list (xs ++ [v']))) N) : Need (WC B d (.builtin "list.append") [.ref a, v] σ N Q) := ⟨WC.off o (L_append hs hz h)⟩
theorem bExtend {a : Nat} {ys : List V} (hs : σ a = some (.list xs)) (hb : ListV σ v ys) (hz : xs.length + ys.length < 2 ^ 20) (h : Q .none (pt σ a (.list (xs ++ ys))) N) : Need (WC B d (.builtin "list.extend") [.ref a, v] σ N Q) := ⟨L_extend hs hb hz h⟩
theorem bGet {k : Kx} (hs : DictV σ u es) (h : Q ((dget es k).getD v) σ N) : Need (WC B d (.builtin "dict.get") [u, k.v, v] σ N Q) := ⟨D_getD hs h⟩
theorem bItems (h : Q (.view "dict_items" es) σ N) : Need (WC B d (.builtin "dict.items") [.dct es] σ N Q) := ⟨C_itemsF h⟩
theorem bValues (h : Q (.view "dict_values" es) σ N) : Need (WC B d (.builtin "dict.values") [.dct es] σ N Q) := ⟨C_valuesF h⟩
theorem bRange {n : Int} (h : ∀ t u v, Q (.imm (rangeObj n t u v)) σ N) : Need (WC B d (.type "range") [.int n] σ N Q) := ⟨C_range h⟩
theorem aGet {x C D : Nat} {at' : Loc} {name : Str} {e : Bool} (hx : σ x = some (.obj (instObj C D))) (hD : σ D = some (.ns at')) (ha : AttrAt B C name) (hl : at'.lookup name = some v) (hv : handV v = true) (h : Q v σ N) : Need (W1 B d (VRel B) (fun o => getAttr o name e) (.ref x) σ N Q) := ⟨A_get hx hD ha hl hv h⟩
theorem aBound {x C D f : Nat} {at' : Loc} {name : Str} {e : Bool} (hx : σ x = some (.obj (instObj C D))) (hD : σ D = some (.ns at')) (ha : BoundAt B C name f) (hl : at'.lookup name = none) (h : ∀ q, N ≤ q → Q (.ref q) (pt σ q (.obj (methodObj (.ref f) (.ref x)))) (q + 1)) : Need (W1 B d (VRel B) (fun o => getAttr o name e) (.ref x) σ N Q) := ⟨A_bound hx hD ha hl h⟩
theorem aSet {x C D : Nat} {at' : Loc} {name : Str} {Q : Post Unit} (hx : σ x = some (.obj (instObj C D))) (hD : σ D = some (.ns at')) (ha : SetAt B C name) (hz : at'.length < 1000) (h : Q () (pt σ D (.ns (putA at' name v))) N) : Need (W2 B d URel (fun o u => setAttr o name u) (.ref x) v σ N Q) := ⟨A_set hx hD ha hz h⟩
theorem nLt {xs ys : List V} (k : LexOk xs ys) (h : Q (.bool (lexLt xs ys)) σ N) : Need (W2 B d (VRel B) (compareOp .Lt) (.tup xs) (.tup ys) σ N Q) := ⟨P_lt k h⟩
theorem tList {a : Nat} {Q : Post Bool} (hs : σ a = some (.list xs)) (hz : xs.length < 2 ^ 40) (h : Q (!xs.isEmpty) σ N) : Need (W1 B d BRel truthy (.ref a) σ N Q) := ⟨T_list (.ref hs) hz h⟩
/-- what a body hands back -/
theorem Back.of {f : Nat → Prop} {l : Loc} {σ' : Store} {v' : V} (o : Off σ v σ' v') (h : Q v' (σ'.reset f) N) : Back f Q (.ret v) l σ N := ⟨σ', v', o, h⟩
theorem Back.next {f : Nat → Prop} {l : Loc} {σ' : Store} (o : Sub σ' σ) (h : Q .none (σ'.reset f) N) : Back f Q .next l σ N := ⟨σ', o, h⟩
theorem sub_pt {σ' : Store} {a : Nat} {o : AObj} (h : Sub σ' σ) (ha : σ' a = none) : Sub σ' (Mine.pt σ a o) := ⟨fun b x e => by
  have ne : b ≠ a := fun z => by rw [z, ha] at e; cases e
  rw [pt_ne ne]; exact h.sub b x e, h.fr⟩
end
end
noncomputable section
/-! built-in calls on strs and lists -/
section
variable {B : Cx} {d : Nat} {σ : Store} {N : Nat} {u v : V} {xs ys : List V} {es : Dk} {Q : Post V}
theorem VRelL.strs {h : Heap} : ∀ {ss : List Str} {vs : List Value}, VRelL B σ h (ss.map V.str) vs → StrsAre vs ss
  | [], _, .nil => .nil
  | s :: r, _, .cons a b => by cases a; exact .cons _ _ b.strs
theorem bLenS {x : Str} (hz : x.length < 2 ^ 40) (h : Q (.int x.length) σ N) : Need (WC B d (.builtin "len") [.str x] σ N Q) := ⟨fun A s as k I r => by
  obtain ⟨_, _, rfl, r1, r2⟩ := r.cons'
  obtain rfl := r2.nil'; obtain ⟨_, rfl⟩ := r1.inv
  exact PySem.P.len_str (by exact ar53 hz) (.here I.toks (.refl _ _) (.int _ _) h)⟩
theorem iStr {x : Str} {i : Int} {c : Nat} (h0 : 0 ≤ i) (hi : i < 2 ^ 60) (hx : x.cps[i.toNat]? = some c) (h : Q (.str ⟨#[c]⟩) σ N) : Need (WItem B d (.str x) (.int i) σ N Q) := ⟨⟨_, _, .str _, F.slot_str_getitem.lookup⟩, fun A s a b k I r r' => by
  obtain ⟨_, rfl⟩ := r.inv; obtain ⟨_, rfl⟩ := r'.inv
  have hlt : i.toNat < x.length := by have := (Array.getElem?_eq_some_iff.mp hx).1; exact this
  exact PySem.P.getItem_str (c := c) (by rw [Bool.or_eq_false_iff]; exact ⟨decide_eq_false (by exact ar183 h0), decide_eq_false (by exact ar184 hi)⟩) (by rw [seqIndex_nat h0 hlt]; exact hx) (.here I.toks (.refl _ _) (.str _ _) h)⟩
theorem sStr {x : Str} {lo hi : Option Int} (hz : x.length ≤ sizeLine) (h : Q (.str (Txt.slice x lo hi)) σ N) : Need (WSlice B d (.str x) lo hi none σ N Q) := ⟨⟨_, _, .of (.str _), F.slot_str_getitem.lookup⟩, fun A s a sl vl vu vk k I r hs pl pu pk => by
  cases r with | str _ t =>
  have key : ∀ (l u : Option (Int × Tok)), lo = l.map (·.1) → hi = u.map (·.1) → vl = partValue l → vu = partValue u → vk = .none → wpAny (model B.prog B.w) A (getItem (.str x t) (.ref sl)) (Ends B (VRel B) σ N s.heap Q) (fun _ _ => False) s := by
    intro l u e1 e2 e3 e4 e5
    subst e1; subst e2; subst e3; subst e4; subst e5
    refine wpAny_getItem_str_slice (l := l) (u := u) (st := none) hs rfl ?_
    have : (if ((1 : Int) == 1 && (Builtin.Str.strSliceIndices (l.map (·.1)) (u.map (·.1)) 1 x.length).length == x.length) = true then Made.val (.str x t) else Made.str ⟨((Builtin.Str.strSliceIndices (l.map (·.1)) (u.map (·.1)) 1 x.length).filterMap (x.cps[·]?)).toArray⟩).post (Ends B (VRel B) σ N s.heap Q) s :=
      post_val_or_str ⟨Nat.le_trans (Txt.slice_le x (l.map (·.1)) (u.map (·.1))) hz, fun t' k' => .here (s := s) (s' := { s with toks := k' }) I.toks (.refl _ _) (.str (Txt.slice x (l.map (·.1)) (u.map (·.1))) _) h⟩
    exact this
  cases pl with
  | none => cases pu with
    | none => cases pk; exact key none none rfl rfl rfl rfl rfl
    | int j t => cases pk; exact key none (some (j, t)) rfl rfl rfl rfl rfl
  | int i t' => cases pu with
    | none => cases pk; exact key (some (i, t')) none rfl rfl rfl rfl rfl
    | int j t => cases pk; exact key (some (i, t')) (some (j, t)) rfl rfl rfl rfl rfl⟩
noncomputable def lpick (xs : List V) (lo hi st : Option Int) : List V := (sliceRange (sliceBounds lo hi st xs.length).1 (sliceBounds lo hi st xs.length).2.1 (sliceBounds lo hi st xs.length).2.2).filterMap (xs[·]?)
theorem VRelL.pick {h : Heap} {items : List Value} (r : VRelL B σ h xs items) : ∀ is : List Nat, VRelL B σ h (is.filterMap (xs[·]?)) (is.filterMap (items[·]?))
  | [] => .nil
  | i :: is => by
    rw [List.filterMap_cons, List.filterMap_cons]
    cases q : xs[i]? with
    | none =>
      have : items[i]? = none := by
        rw [List.getElem?_eq_none_iff] at q ⊢; rw [← r.length]; exact q
      rw [this]; exact r.pick is
    | some a => obtain ⟨b, e, rb⟩ := r.get q; rw [e]; exact .cons rb (r.pick is)
theorem sList {lo hi st : Option Int} (hs : ListV σ u xs) (h0 : st ≠ some 0) (hz : xs.length ≤ sizeLine) (h : Q (.lst (lpick xs lo hi st)) σ N) : Need (WSlice B d u lo hi st σ N Q) := ⟨⟨_, _, .of (.list hs), slot_list_getitem.lookup⟩, fun A s a sl vl vu vk k I r hs' pl pu pk => by
  obtain ⟨a', items, n, rfl, ho, rl⟩ := hs.at I r
  have hl := rl.size
  refine wpAny_getItem_list_slice (items := items) ⟨_, ho, rfl, n, rfl⟩ hs' pl pu pk h0 (.here I.push .push (.lst (n := 0) (items := slicePick items lo hi st) (Heap.get?_push_size _ rfl) I.free ?_) h) (by rw [← hl]; exact hz)
  unfold slicePick lpick
  rw [hl]
  have : ∀ is : List Nat, is.filterMap (items[·]?) = is.filterMap (items.toList[·]?) := fun is => by congr 1; funext i; rw [Array.getElem?_toList]
  simp only [this]
  exact (rl.mono .push).pick _⟩
theorem ints_rel {h : Heap} : ∀ {vs : List Value} {ns : List Int}, PyProof.Rows.IntsAre vs ns → VRelL B σ h (ns.map V.int) vs
  | _, _, .nil => .nil
  | _, _, .cons n t r => .cons (.int n t) (ints_rel r)
/-- the script: a list of ints that nobody changes, known by its class and its items alone -/
structure Scr (o : Obj) (ns : List Int) : Prop where
  cls : o.cls = .type "list"
  data : ∃ items n, o.data = .seq items n ∧ PyProof.Rows.IntsAre items.toList ns
theorem sScr {o : Obj} {ns : List Int} {lo hi st : Option Int} (ho : Scr o ns) (h0 : st ≠ some 0) (hz : ns.length ≤ sizeLine) (h : Q (.lst (lpick (ns.map V.int) lo hi st)) σ N) : Need (WSlice B d (.imm o) lo hi st σ N Q) := ⟨⟨_, _, .imm ho.cls, slot_list_getitem.lookup⟩, fun A s a sl vl vu vk k I r hs' pl pu pk => by
  obtain ⟨hc, items, n, hd, hia⟩ := ho
  obtain ⟨_, rfl, ho, hs, hf⟩ := r.inv
  have rl : VRelL B σ s.heap (ns.map V.int) items.toList := ints_rel hia
  have hl := rl.size
  refine wpAny_getItem_list_slice (items := items) ⟨_, ho, hc, n, hd⟩ hs' pl pu pk h0 (.here I.push .push (.lst (n := 0) (items := slicePick items lo hi st) (Heap.get?_push_size _ rfl) I.free ?_) h) (by rw [← hl, List.length_map]; exact hz)
  unfold slicePick lpick
  rw [hl]
  have : ∀ is : List Nat, is.filterMap (items[·]?) = is.filterMap (items.toList[·]?) := fun is => by congr 1; funext i; rw [Array.getElem?_toList]
  simp only [this]
  exact (rl.mono .push).pick _⟩
theorem bJoin {x : Str} {ss : List Str} (hs : ListV σ u (ss.map V.str)) (hok : (ss.map (·.length)).sum + ss.length * x.length ≤ 16777216) (h : Q (.str (Txt.join x ss)) σ N) : Need (WC B d (.builtin "str.join") [.str x, u] σ N Q) := ⟨fun A s as k I r => by
  cases r with | cons r1 r2 => cases r2 with | cons r2 r3 =>
  cases r3; cases r1
  obtain ⟨a, items, n, rfl, ho, rl⟩ := hs.at I r2
  exact PyProof.Rows.join_list (items := items) ⟨_, ho, rfl, n, rfl⟩ rl.strs hok fun t' k' => .here (s' := { s with toks := k' }) I.toks (.refl _ _) (.str _ _) h⟩
theorem bCountS {x y : Str} (h : Q (.int (Txt.count x y)) σ N) : Need (WC B d (.builtin "str.count") [.str x, .str y] σ N Q) := ⟨fun A s as k I r => by
  cases r with | cons r1 r2 => cases r2 with | cons r2 r3 =>
  cases r3; cases r1; cases r2
  exact PySem.SC.count (.here I.toks (.refl _ _) (.int _ _) h)⟩
theorem countIn_strs (x : Str) : ∀ ss : List Str, Spec.countIn (.str x) (ss.map PyData.str) = ((ss.count x : Nat) : Int)
  | [] => rfl
  | s :: r => by
    rw [List.map_cons, Spec.countIn, countIn_strs x r, List.count_cons]
    have : Spec.same (.str s) (.str x) = (s == x) := by
      rw [Spec.same]
    rw [this]
    by_cases e : s = x
    · simp [e]; exact ar185
    · have : (s == x) = false := beq_eq_false_iff_ne.mpr e
      simp [this]
theorem bCountL {x : Str} {ss : List Str} (hs : ListV σ u (ss.map V.str)) (h : Q (.int (ss.count x)) σ N) : Need (WC B d (.builtin "list.count") [u, .str x] σ N Q) := ⟨fun A s as k I r => by
  cases r with | cons r1 r2 => cases r2 with | cons r2 r3 =>
  cases r3; cases r2
  obtain ⟨a, items, n, rfl, ho, rl⟩ := hs.at I r1
  exact count_list_strs (vs := items.toList) (by exact ⟨_, ho, rfl, n, rfl⟩) rl.strs (by rw [countIn_strs]; exact .here (s' := { s with toks := s.toks + 1 }) I.toks (.refl _ _) (.int _ _) h)⟩
theorem bStrI {i : Int} (hi : i.natAbs.log2 < 1920) (h : Q (.str (toString i)) σ N) : Need (WC B d (.type "str") [.int i] σ N Q) := ⟨fun A s as k I r => by
  obtain ⟨_, _, rfl, r1, r2⟩ := r.cons'
  obtain rfl := r2.nil'; obtain ⟨_, rfl⟩ := r1.inv
  exact PySem.P.str_of_int hi (.here (s' := { s with toks := s.toks + 1 }) I.toks (.refl _ _) (.str _ _) h)⟩
theorem bIsTup {i : Int} (h : Q (.bool false) σ N) : Need (WC B d (.builtin "isinstance") [.int i, .lit (.type "tuple")] σ N Q) := ⟨fun A s as k I r => by
  cases r with | cons r1 r2 => cases r2 with | cons r2 r3 =>
  cases r3; cases r1; cases r2
  exact PySem.IsiPair.int_tuple (.here (s' := { s with toks := s.toks + 1 }) I.toks (.refl _ _) (.bool _) h)⟩
theorem nAddL {u v : V} (hu : ListV σ u xs) (hv : ListV σ v ys) (hz : xs.length + ys.length ≤ sizeLine) (h : Q (.lst (xs ++ ys)) σ N) : Need (W2 B d (VRel B) (binaryOp .Add) u v σ N Q) := ⟨fun A s a b k I r r' => by
  obtain ⟨a, items, n, rfl, ho, rl⟩ := hu.at I r
  obtain ⟨b, items', n', rfl, ho', rl'⟩ := hv.at I r'
  refine PySem.P.add_list ho ho' (.here I.push .push (.lst (n := 0) (items := items ++ items') (Heap.get?_push_size _ rfl) I.free ?_) h) (by rw [← rl.size, ← rl'.size]; exact hz)
  rw [Array.toList_append]
  exact (rl.mono .push).app (rl'.mono .push)⟩
theorem nNotInL {x : Str} {ss : List Str} {Q : Post V} (hs : ListV σ u (ss.map V.str)) (h : Q (.bool (!ss.any (· == x))) σ N) : Need (W2 B d (VRel B) (compareOp .NotIn) (.str x) u σ N Q) := ⟨fun A s a b k I r r' => by
  obtain ⟨_, rfl⟩ := r.inv
  obtain ⟨a, items, n, rfl, ho, rl⟩ := hs.at I r'
  exact notin_list_strs (vs := items.toList) (by exact ⟨_, ho, rfl, n, rfl⟩) rl.strs (.here I (.refl _ _) (.bool _) h)⟩
theorem nInD {k : Kx} (hs : DictV σ u es) (h : Q (.bool (dget es k).isSome) σ N) : Need (W2 B d (VRel B) (compareOp .In) k.v u σ N Q) := ⟨D_in hs h⟩
theorem bDict (hs : DictV σ u es) (hz : es.length ≤ sizeLine) (h : ∀ a ep, N ≤ a → Q (.ref a) (pt σ a (.dict es ep)) (a + 1)) : Need (WC B d (.type "dict") [u] σ N Q) := ⟨fun A s as k I r => by
  obtain ⟨_, _, rfl, r1, r2⟩ := r.cons'
  obtain rfl := r2.nil'
  obtain ⟨a, kvs, ep, rfl, hn, ho, rd⟩ := hs.at I r1
  refine kt_call_dict (knd := kxKind B.prog B.w) hn ho.dictOf (by rw [← rd.length]; exact hz) fun h' hd hsb => ?_
  obtain ⟨ep', hd'⟩ := hd.dictAt
  have hx : Heap.ExtBut s.heap.objs.size s.heap h' := fun b o hb e => hsb.extBut b o hb (Heap.get?_push_of_some _ e)
  have hz' : s.heap.objs.size + 1 ≤ h'.objs.size := by have := hsb.1; rw [Heap.size_push] at this; exact ar186 this
  have ha : σ s.heap.objs.size ≠ none ∨ (s.heap.get? s.heap.objs.size = none ∧ s.heap.objs.size ≤ s.heap.objs.size) := .inr ⟨get_fresh _, Nat.le_refl _⟩
  have S : Step σ s.heap (pt σ s.heap.objs.size (.dict es ep')) h' := .put hx ha
  refine ⟨.ref _, _, s.heap.objs.size + 1, .ref _, Inv.put (s' := { s with heap := h' }) (o := .dict es ep') I hx ha ⟨kvs, hd', rd.mono S⟩ (Nat.le_trans I.size (Nat.le_succ _)) (Nat.lt_succ_self _) hz' (Nat.le_trans (Nat.le_succ _) hz') rfl rfl, S, Nat.le_trans I.size (Nat.le_succ _), h _ _ I.size⟩⟩
end
end
noncomputable section
/-! the signs of a str, one after the other -/
section
variable {B : Cx} {d : Nat} {σ : Store} {N : Nat} {u v : V} {xs ys : List V} {es : Dk} {Q : Post V}
noncomputable abbrev sign (x : Str) (i : Nat) : Str := ⟨#[x.cps.getD i 0]⟩
theorem iter_strOf {many : Bool} {x : Str} {T : String} (hT : ownTypes.contains T = false) (hF : T ∉ ["tuple", "range", "slice", "dict_items", "dict_values", "list", "dict"]) (W : ∀ A I t, A.handled = none → Walks B.prog B.w A I [I] [I] x.cps.size (SignAt x) (fun i h => h.IsStrIter I T x t i))
    (slf : ∀ {A : Around} {E : Value → Shared → Prop} {s : Shared} {it : Nat} {t : Tok} {i : Nat} {Q : Value → Shared → Prop}, s.heap.IsStrIter it T x t i → Q (.ref it) s → wpAny (model B.prog B.w) A (pyIter (.ref it)) Q E s)
    (mk : ∀ {A : Around} {E : Value → Shared → Prop} {s : Shared} {t : Tok} {Q : Value → Shared → Prop}, Q (.ref s.heap.objs.size) { s with heap := s.heap.push { cls := .type T, data := .fields #[.str x t, .int 0 0] } } → wpAny (model B.prog B.w) A (pyIter (.str x t)) Q E s) :
    IterOk B many (.str x) σ x.cps.size (fun i => .str (sign x i)) (fun _ => True) :=
  ⟨trivial, fun A s N v R E hh I r k => by
    cases r with | str _ t =>
    have self0 : ∀ it h i t, Heap.IsStrIter h it T x t i → NoFz it h ∧ ∃ o, h.get? it = some o := fun it h i t ⟨o, e, hc, _⟩ => ⟨fun o' e' f => by rw [e] at e'; cases e'; exact not_frozen hc hF f, o, e⟩
    refine mk (k _ (fun i h => h.IsStrIter s.heap.objs.size T x t i) ⟨?_, ?_, ?_, ?_, ?_⟩ ⟨_, Heap.get?_push_size _ rfl, rfl, rfl⟩)
    · exact fun i h h' ⟨o, e, r⟩ k => ⟨o, k o e, r⟩
    · exact fun i h e => self0 _ _ _ _ e
    · exact fun i A' s R E st q => slf st q
    · intro target _ i A' s' σ' N' R E hi hh hd I' rx hou st q
      refine (W A' _ t hh).item i s' _ E hi st fun v h' tk ⟨c, u, hc, hv⟩ st' hx => ⟨v, rfl, ?_⟩
      obtain ⟨o, e, hc', _⟩ := id st'
      refine go_any (Q := R v) e hc' hT (q v h' tk ?_ st' fun b o hb e => hx b o (by simpa using hb) e)
      subst hv
      have : sign x i = ⟨#[c]⟩ := by unfold sign; rw [Array.getD_eq_getD_getElem?, hc]; rfl
      show VRel B σ' h' (.str (sign x i)) _
      rw [this]; exact .str _ _
    · intro A' s' σ' N' R E hh hd I' rx st q
      exact (W A' _ t hh).done s' R E st fun h' tk hx => q h' tk fun b o hb e => hx b o (by simpa using hb) e⟩
theorem iter_str {many : Bool} {x : Str} : IterOk B many (.str x) σ x.cps.size (fun i => .str (sign x i)) (fun _ => True) := by
  cases ha : x.cps.all (· < 128)
  · exact iter_strOf (by decide) (by decide) (fun A I t hh => Walks.strWide hh I x t) (fun st q => wpAny_pyIter_striter_wide st q) (fun q => wpAny_pyIter_wide ha q)
  · exact iter_strOf (by decide) (by decide) (fun A I t hh => Walks.strAscii hh I x t) (fun st q => wpAny_pyIter_striter_ascii st q) (fun q => wpAny_pyIter_ascii ha q)
end
end
noncomputable section
/-! '%s:%d(%s)' % (a, n, c) -/
section
theorem fmt_meets {a c : Str} {n : Int} {t t1 t2 t3 : Tok} {b : Addr} (ha : a.length ≤ 1000000) (hc : c.length ≤ 1000000) (hn : n.natAbs < 2 ^ 30) (hn0 : 0 ≤ n) :
    Meets (Builtin.«str.__mod__» ⟨[.str ⟨#[37, 115, 58, 37, 100, 40, 37, 115, 41]⟩ t, .ref b], []⟩) (fun _ R s => IsTup s.heap b #[.str a t1, .int n t2, .str c t3] ∧ ∀ t' k, R (.ok (.ret (.str (a ++ ⟨#[58]⟩ ++ Str.ofString (toString n) ++ ⟨#[40]⟩ ++ c ++ ⟨#[41]⟩) t'))) { s with toks := k }) := by
  have h1 : n < 1073741824 := by exact ar187 hn hn0
  kpt_run
end
end
noncomputable section
/-! what compares equal -/
mutual
inductive PEq : Nat → V → V → Prop
  | int (n : Nat) (i : Int) : PEq n (.int i) (.int i)
  | str (n : Nat) (x : Str) : PEq n (.str x) (.str x)
  | tup {n : Nat} {xs ys : List V} (h : PEqL n xs ys) : PEq (n + 1) (.tup xs) (.tup ys)
  | lst {n : Nat} {xs ys : List V} (h : PEqL n xs ys) : PEq (n + 1) (.lst xs) (.lst ys)
inductive PEqL : Nat → List V → List V → Prop
  | nil (n : Nat) : PEqL n [] []
  | cons {n : Nat} {x y : V} {xs ys : List V} (h : PEq n x y) (r : PEqL n xs ys) : PEqL n (x :: xs) (y :: ys)
end
section
variable {B : Cx} {σ : Store} {h : Heap} {s : Shared}
theorem all_true (n : Nat) : (List.range n).all (fun _ => true) = true := by simp
mutual
theorem PEq.at {n : Nat} {u v : V} (p : PEq n u v) : ∀ {A : Around} {x y : Value}, VRel B σ s.heap u x → VRel B σ s.heap v y → A.units + 4 * n < cLine → SeqAt.EqAt A s x y true := by
  cases p with
  | int n i => intro A x y r r' hu; obtain ⟨_, rfl⟩ := r.inv; obtain ⟨_, rfl⟩ := r'.inv; exact fun prog w E Q q => wpAny_eqBool_int (by simpa using q)
  | str n i => intro A x y r r' hu; obtain ⟨_, rfl⟩ := r.inv; obtain ⟨_, rfl⟩ := r'.inv; exact fun prog w E Q q => wpAny_eqBool_str (by simpa using q)
  | tup q =>
    intro A x y r r' hu
    obtain ⟨_, _, _, rfl, ho, hs, hl⟩ := r.inv
    rename_i a n' items
    obtain ⟨_, _, _, rfl, ho', hs', hl'⟩ := r'.inv
    rename_i b n'' items'
    by_cases e : a = b
    · subst e; exact SeqAt.EqAt.same _
    · obtain ⟨hn, hall⟩ := PEqL.at q (A := A.in1) hl hl' (by show A.units + 1 + _ < _; exact ar15 hu)
      have := SeqAt.RcAt.tuples (A := A) (e := fun _ => true) ⟨_, ho, rfl, n', rfl⟩ ⟨_, ho', rfl, n'', rfl⟩ (by exact ar16 hu) fun j h1 h2 => by
        have := hall j (by simpa using h1) (by simpa using h2)
        simpa using this
      rw [all_true, show items.size = items'.size from by simpa using hn, beq_self_eq_true, Bool.true_and] at this
      exact SeqAt.EqAt.of_refs e this
  | lst q =>
    intro A x y r r' hu
    obtain ⟨_, _, _, rfl, ho, hs, hl⟩ := r.inv
    rename_i a n' items
    obtain ⟨_, _, _, rfl, ho', hs', hl'⟩ := r'.inv
    rename_i b n'' items'
    by_cases e : a = b
    · subst e; exact SeqAt.EqAt.same _
    · obtain ⟨hn, hall⟩ := PEqL.at q (A := A.in1) hl hl' (by show A.units + 1 + _ < _; exact ar15 hu)
      have := SeqAt.RcAt.lists (A := A) (e := fun _ => true) ⟨_, ho, rfl, n', rfl⟩ ⟨_, ho', rfl, n'', rfl⟩ (by simpa using hn) (by exact ar16 hu) fun j h1 h2 => by
        have := hall j (by simpa using h1) (by simpa using h2)
        simpa using this
      rw [all_true] at this
      exact SeqAt.EqAt.of_refs e this
theorem PEqL.at {n : Nat} {xs ys : List V} (p : PEqL n xs ys) : ∀ {A : Around} {us vs : List Value}, VRelL B σ s.heap xs us → VRelL B σ s.heap ys vs → A.units + 4 * n < cLine → us.length = vs.length ∧ ∀ j (h1 : j < us.length) (h2 : j < vs.length), SeqAt.EqAt A s us[j] vs[j] true := by
  cases p with
  | nil n => intro A us vs r r' hu; obtain rfl := r.nil'; obtain rfl := r'.nil'; exact ⟨rfl, fun j h1 _ => absurd h1 (Nat.not_lt_zero _)⟩
  | cons p q =>
    intro A us vs r r' hu
    obtain ⟨_, _, rfl, r1, r2⟩ := r.cons'
    obtain ⟨_, _, rfl, r1', r2'⟩ := r'.cons'
    obtain ⟨hn, hall⟩ := PEqL.at q r2 r2' hu
    refine ⟨congrArg (· + 1) hn, fun j h1 h2 => ?_⟩
    cases j with
    | zero => exact PEq.at p r1 r1' hu
    | succ j => exact hall j (Nat.lt_of_succ_lt_succ h1) (Nat.lt_of_succ_lt_succ h2)
end
theorem PEqL.strs (n : Nat) : ∀ ss : List Str, PEqL n (ss.map V.str) (ss.map V.str)
  | [] => .nil n
  | s :: r => .cons (.str n s) (PEqL.strs n r)
theorem PEqL.ints (n : Nat) : ∀ ss : List Int, PEqL n (ss.map V.int) (ss.map V.int)
  | [] => .nil n
  | s :: r => .cons (.int n s) (PEqL.ints n r)
theorem PEqL.rows (n : Nat) : ∀ ss : List (List Str), PEqL (n + 1) (ss.map fun r => V.lst (r.map V.str)) (ss.map fun r => V.lst (r.map V.str))
  | [] => .nil _
  | s :: r => .cons (.lst (PEqL.strs n s)) (PEqL.rows n r)
end
section
variable {B : Cx} {d : Nat} {σ : Store} {N : Nat} {u v : V} {xs ys : List V} {Q : Post V}
theorem Ok.room {A : Around} (k : Ok d A) : A.units ≤ 9000 := by have := k.units; exact ar188 this
/-- `xs != ys` of equal lists -/
theorem nNeL {n : Nat} (hu : ListV σ u xs) (hv : ListV σ v ys) (p : PEqL n xs ys) (hn : n ≤ 50) (h : Q (.bool false) σ N) : Need (W2 B d (VRel B) (compareOp .NotEq) u v σ N Q) := ⟨fun A s a b k I r r' => by
  obtain ⟨a, items, n', rfl, ho, rl⟩ := hu.at I r
  obtain ⟨b, items', n'', rfl, ho', rl'⟩ := hv.at I r'
  have room := k.room
  obtain ⟨hl, hall⟩ := p.at (A := A.in1) rl rl' (by show A.units + 1 + _ < 9900; exact ar31 hn room)
  have key := SeqAt.RcNeAt.lists (A := A) (e := fun _ => true) ⟨_, ho, rfl, n', rfl⟩ ⟨_, ho', rfl, n'', rfl⟩ (by simpa using hl) (show A.units < 9900 by exact ar4 room) (fun j h1 h2 => by
    have := hall j (by simpa using h1) (by simpa using h2)
    simpa using this)
  rw [all_true] at key
  exact key B.prog B.w _ _ (.here I (.refl _ _) (.bool false) h)⟩
theorem nEqL0 (hu : ListV σ u (v :: xs)) {w : V} (hv : ListV σ w []) (h : Q (.bool false) σ N) : Need (W2 B d (VRel B) (compareOp .Eq) u w σ N Q) := ⟨fun A s a b k I r r' => by
  obtain ⟨a, items, n', rfl, ho, rl⟩ := hu.at I r
  obtain ⟨b, items', n'', rfl, ho', rl'⟩ := hv.at I r'
  have room := k.room
  have h1 := rl.size
  have h2 := rl'.size
  exact SeqAt.RcAt.lists_lengths (A := A) ⟨_, ho, rfl, n', rfl⟩ ⟨_, ho', rfl, n'', rfl⟩ (by rw [← h1, ← h2]; simp) (show A.units < 9900 by exact ar4 room) B.prog B.w _ _ (.here I (.refl _ _) (.bool false) h)⟩
theorem nEq {n : Nat} (p : PEq n (.lst xs) (.lst ys)) (hn : n ≤ 50) (h : Q (.bool true) σ N) : Need (W2 B d (VRel B) (compareOp .Eq) (.lst xs) (.lst ys) σ N Q) := ⟨fun A s a b k I r r' => by
  cases p with | lst p =>
  rename_i n
  obtain ⟨_, _, _, rfl, ho, hs, hl⟩ := r.inv
  obtain ⟨_, _, _, rfl, ho', hs', hl'⟩ := r'.inv
  rename_i n1 items _ n2 items'
  have room := k.room
  obtain ⟨hn', hall⟩ := p.at (A := A.in1) hl hl' (by show A.units + 1 + _ < 9900; exact ar189 hn room)
  have key := SeqAt.RcAt.lists (A := A) (e := fun _ => true) ⟨_, ho, rfl, _, rfl⟩ ⟨_, ho', rfl, _, rfl⟩ (by simpa using hn') (show A.units < 9900 by exact ar4 room) (fun j h1 h2 => by
    have := hall j (by simpa using h1) (by simpa using h2)
    simpa using this)
  rw [all_true] at key
  exact key B.prog B.w _ _ (.here I (.refl _ _) (.bool true) h)⟩
/-- tuples of ints and strs -/
inductive EqS : List V → List V → Bool → Prop
  | nil : EqS [] [] true
  | cons {x y : V} {xs ys : List V} {b : Bool} (h : SameS x y) (r : EqS xs ys b) : EqS (x :: xs) (y :: ys) (eqS x y && b)
theorem eqAt_S {x y : V} {h : Heap} {a b : Value} {A : Around} {s : Shared} (k : SameS x y) (ra : VRel B σ h x a) (rb : VRel B σ h y b) : SeqAt.EqAt A s a b (eqS x y) := fun prog w E Q q => by
  cases k with
  | int i j => obtain ⟨_, rfl⟩ := ra.inv; obtain ⟨_, rfl⟩ := rb.inv; exact wpAny_eqBool_int q
  | str i j => obtain ⟨_, rfl⟩ := ra.inv; obtain ⟨_, rfl⟩ := rb.inv; exact wpAny_eqBool_str q
theorem EqS.at {h : Heap} {A : Around} {s : Shared} {b : Bool} (p : EqS xs ys b) : ∀ {us vs : List Value}, VRelL B σ h xs us → VRelL B σ h ys vs → us.length = vs.length ∧ ∃ e : Nat → Bool, (∀ j (h1 : j < us.length) (h2 : j < vs.length), SeqAt.EqAt A s us[j] vs[j] (e j)) ∧ (List.range us.length).all e = b := by
  induction p with
  | nil => intro us vs r r'; obtain rfl := r.nil'; obtain rfl := r'.nil'; exact ⟨rfl, fun _ => true, fun j h1 _ => absurd h1 (Nat.not_lt_zero _), rfl⟩
  | cons k p ih =>
    rename_i x y xs ys b
    intro us vs r r'
    obtain ⟨_, _, rfl, r1, r2⟩ := r.cons'
    obtain ⟨_, _, rfl, r1', r2'⟩ := r'.cons'
    obtain ⟨hn, e, hall, he⟩ := ih r2 r2'
    refine ⟨congrArg (· + 1) hn, fun j => match j with | 0 => eqS x y | j + 1 => e j, fun j h1 h2 => ?_, ?_⟩
    · cases j with
      | zero => exact eqAt_S k r1 r1'
      | succ j => exact hall j (Nat.lt_of_succ_lt_succ h1) (Nat.lt_of_succ_lt_succ h2)
    · rw [List.length_cons, List.range_succ_eq_map, List.all_cons, List.all_map, ← he]
      rfl
theorem nEqT {b : Bool} (p : EqS xs ys b) (h : Q (.bool b) σ N) : Need (W2 B d (VRel B) (compareOp .Eq) (.tup xs) (.tup ys) σ N Q) := ⟨fun A s x y k I r r' => by
  obtain ⟨_, _, _, rfl, ho, hs, hl⟩ := r.inv
  obtain ⟨_, _, _, rfl, ho', hs', hl'⟩ := r'.inv
  have room := k.room
  obtain ⟨hn', e, hall, he⟩ := p.at (A := A.in1) (s := s) hl hl'
  have key := SeqAt.RcAt.tuples (A := A) (e := e) ⟨_, ho, rfl, _, rfl⟩ ⟨_, ho', rfl, _, rfl⟩ (show A.units < 9900 by exact ar4 room) (fun j h1 h2 => by
    have := hall j (by simpa using h1) (by simpa using h2)
    simpa using this)
  rename_i n1 items _ n2 items'
  have e1 : items.size = items'.size := by simpa using hn'
  rw [← e1, Nat.min_self, beq_self_eq_true, Bool.and_true, show (List.range items.size).all e = b from by rw [← he, Array.length_toList]] at key
  exact key B.prog B.w _ _ (.here I (.refl _ _) (.bool b) h)⟩
end
end
noncomputable section
section
variable {B : Cx} {d : Nat} {σ : Store} {N : Nat} {u v : V} {xs ys : List V} {es : Dk} {Q : Post V}
/-- the first two of three -/
theorem sTup2 {x y z : V} (h : Q (.tup [x, y]) σ N) : Need (WSlice B d (.tup [x, y, z]) none (some 2) none σ N Q) := ⟨⟨_, _, .of (.tup _), F.slot_tuple_getitem.lookup⟩, fun A s a sl vl vu vk k I r hs pl pu pk => by
  cases pl; cases pk
  cases pu with | int _ t =>
  obtain ⟨_, _, _, rfl, ho, hs', hl⟩ := r.inv
  rename_i t' n items
  obtain ⟨c, e⟩ : ∃ c, items = ⟨c⟩ := ⟨_, rfl⟩
  subst e
  cases hl with | cons h1 hl =>
  cases hl with | cons h2 hl =>
  cases hl with | cons h3 hl =>
  cases hl
  rename_i v1 v2 v3
  have ht : IsTup s.heap t' #[v1, v2, v3] := ⟨_, ho, rfl, _, rfl⟩
  obtain ⟨os, hos, hcs, hds⟩ := id hs
  have hTs : s.TypeIs (.ref sl) "slice" := ⟨os, hos, hcs⟩
  unfold getItem
  refine wpAny_holding ?_
  refine wpAny_bind (wpAny_sequenceKey ht.typeIs (by decide) ?_)
  refine wpAny_bind (wpAny_callSpecial?_slot (name := Str.ofString "__getitem__") ht.typeIs slot_tuple_getitem
    (wpAny_call_entry slot_tuple_getitem ht.typeIs entry_tuple_getitem ?_ (args_tuple_getitem _ _)))
  show wpAny _ _ (Builtin.Tuple.tupleItemsOf (.ref t') >>= _) _ _ s
  refine wpAny_bind (tupleItemsOf_ ht ?_)
  refine wpAny_bind (wpAny_typeOf hTs ?_)
  rw [if_pos (by decide)]
  refine wpAny_bind (?_ : wpAny _ _ (Builtin.Slice.sliceApplied (.ref sl) (pure ((3 : Nat) : Int))) _ _ _)
  unfold Builtin.Slice.sliceApplied Builtin.Slice.sliceFields
  refine wpAny_bind (wpAny_bind (wpAny_field hos hds (x := .none) rfl (wpAny_bind (wpAny_field hos hds (x := .int 2 t) rfl (wpAny_bind (wpAny_field hos hds (x := .none) rfl (wpAny_pure ?_)))))))
  refine wpAny_bind (slicePart_none ?_)
  show wpAny _ _ (if ((1 : Int) == 0) = true then _ else _) _ _ s
  rw [if_neg (by decide)]
  refine wpAny_bind (slicePart_none (wpAny_bind (slicePart_int (wpAny_bind (wpAny_pure ?_)))))
  refine (?_ : wpAny _ _ (pure ((0 : Int), (1 : Int), 2)) _ _ _)
  refine wpAny_pure ?_
  show wpAny _ _ (if ((0 : Int) == 0 && (1 : Int) == 1 && (2 : Nat) == 3) = true then _ else _) _ _ s
  rw [if_neg (by decide)]
  have fin : Ends B (VRel B) σ N s.heap Q (.ref s.heap.objs.size) { s with heap := s.heap.push { cls := .type "tuple", data := .seq #[v1, v2] } } :=
    .here I.push .push (.tup (n := 0) (items := #[v1, v2]) (Heap.get?_push_size _ rfl) I.free (.cons (h1.mono .push) (.cons (h2.mono .push) .nil))) h
  first
    | exact wpAny_bind (m := Builtin.Tuple.tupleExact #[v1, v2]) (wpAny_newObj_type (wpAny_pure ⟨_, rfl, wpAny_pure fin⟩) (by show 2 ≤ sizeLine; decide))
    | exact wpAny_bind (m := Builtin.Tuple.tupleExact #[v1, v2]) (wpAny_newObj_type (wpAny_bind (wpAny_pure (wpAny_pure ⟨_, rfl, wpAny_pure fin⟩))) (by show 2 ≤ sizeLine; decide))
    | exact wpAny_bind (wpAny_bind (m := Builtin.Tuple.tupleExact #[v1, v2]) (wpAny_newObj_type (wpAny_pure (wpAny_pure ⟨_, rfl, wpAny_pure fin⟩)) (by show 2 ≤ sizeLine; decide)))
    | exact wpAny_bind (wpAny_bind (m := Builtin.Tuple.tupleExact #[v1, v2]) (wpAny_newObj_type (wpAny_pure ⟨_, rfl, wpAny_pure fin⟩) (by show 2 ≤ sizeLine; decide)))⟩
theorem nFmt {a c : Str} {n : Int} (ha : a.length ≤ 1000000) (hc : c.length ≤ 1000000) (hn : n.natAbs < 2 ^ 30) (hn0 : 0 ≤ n)
    (h : Q (.str (a ++ ⟨#[58]⟩ ++ Str.ofString (toString n) ++ ⟨#[40]⟩ ++ c ++ ⟨#[41]⟩)) σ N) : Need (W2 B d (VRel B) (binaryOp .Mod) (.str "%s:%d(%s)") (.tup [.str a, .int n, .str c]) σ N Q) := ⟨fun A s x y k I r r' => by
  cases r with | str _ t =>
  obtain ⟨_, _, _, rfl, ho, hs', hl⟩ := r'.inv
  rename_i b m items
  obtain ⟨l, e⟩ : ∃ l, items = ⟨l⟩ := ⟨_, rfl⟩
  subst e
  cases hl with | cons h1 hl =>
  cases hl with | cons h2 hl =>
  cases hl with | cons h3 hl =>
  cases hl; cases h1; cases h2; cases h3
  have ht : IsTup s.heap b _ := ⟨_, ho, rfl, _, rfl⟩
  exact KPt.bin_left (T := "str") (U := "tuple") (op := .Mod) (by decide) (typeIs_str s _ t) ⟨_, ho, rfl⟩ F.fills_str_mod KPt.fills_tuple F.slot_str_mod
    (call_meets F.slot_str_mod (typeIs_str s _ t) F.entry_str_mod (F.args_str_mod_2 _ _) (fmt_meets (t := t) (b := b) ha hc hn hn0) ⟨ht, fun t' k => ⟨(fun e => nomatch e), .here (s' := { s with toks := k }) I.toks (.refl _ _) (.str _ _) h⟩⟩)⟩
/-- sum of a list of ints -/
theorem VRelL.ints {h : Heap} {ns : List Int} {vs : List Value} (r : VRelL B σ h (ns.map V.int) vs) : ∀ (i : Nat) (v : Value), vs[i]? = some v → ∃ t, v = .int (ns.getD i 0) t := fun i v e => by
  obtain ⟨a, ha, ra⟩ := r.get' e
  rw [List.getElem?_map] at ha
  cases q : ns[i]? with
  | none => rw [q] at ha; cases ha
  | some n =>
    rw [q] at ha
    cases ha
    obtain ⟨_, rfl⟩ := ra.inv
    rw [List.getD_eq_getElem?_getD, q]
    exact ⟨_, rfl⟩
theorem bSum {ns : List Int} (hs : ListV σ u (ns.map V.int)) (h : Q (.int ns.sum) σ N) : Need (WC B d (.builtin "sum") [u] σ N Q) := ⟨fun A s as k I r => by
  obtain ⟨_, _, rfl, r1, r2⟩ := r.cons'
  obtain rfl := r2.nil'
  obtain ⟨a, items, n, rfl, ho, rl⟩ := hs.at I r1
  have hsz : items.size = ns.length := by rw [← rl.size, List.length_map]
  have hne : a ≠ s.heap.objs.size := Nat.ne_of_lt (Heap.lt_size ho)
  have core : wpAny (model B.prog B.w) A (call (.builtin "sum") [.ref a]) (fun v s' => (∃ t, v = .int ns.sum t) ∧ (∀ b o, s.heap.get? b = some o → s'.heap.get? b = some o) ∧ s'.gens = s.gens ∧ s'.os = s.os) (fun _ _ => False) s := by
    refine call_sum_walkG (wpAny_pyIter_list (items := items) ⟨_, ho, rfl, n, rfl⟩ ⟨_, _, _, _, _, _, fun i => ns.getD i 0, rfl, Walks.list (A := A.in1) k.handled s.heap.objs.size a hne items, ⟨⟨_, Heap.get?_push_size _ rfl, rfl, rfl⟩, (⟨_, Heap.get?_push_of_some _ ho, rfl, n, rfl⟩)⟩, ?_, ?_, ?_⟩)
    · intro b hb
      have hlt := Heap.lt_size ho
      simp only [List.mem_cons, List.not_mem_nil, or_false] at hb
      rw [Heap.size_push]
      rcases hb with rfl | rfl
      · exact Nat.lt_succ_self _
      · exact Nat.lt_succ_of_lt hlt
    · exact fun i v e => rl.ints i v (by rw [Array.getElem?_toList]; exact e)
    · intro h' tk t' hk
      rw [preSum_getD, hsz, List.take_length]
      exact ⟨⟨t', rfl⟩, fun b o e => hk b o (fun q => by have := Heap.lt_size e; rw [List.mem_singleton] at q; rw [q] at this; exact absurd this (Nat.lt_irrefl _)) (Heap.get?_push_of_some _ e), rfl, rfl⟩
  refine bot (any_grow core) fun v s' ⟨⟨⟨t, e⟩, hx, hg, hos⟩, hz⟩ => ?_
  subst e
  exact .here (I.grow hx hz hg hos) (.grow hx) (.int _ _) h⟩
end
end
noncomputable section
/-! dicts, and tuples that hold dicts, compared: what is equal -/
mutual
inductive VEq : Nat → V → V → Prop
  | plain {n : Nat} {u v : V} (p : PEq n u v) : VEq n u v
  | tup {n : Nat} {xs ys : List V} (h : VEqL n xs ys) : VEq (n + 1) (.tup xs) (.tup ys)
  | dct {n : Nat} {es fs : Dk} (hl : es.length = fs.length) (h : VEqD n fs es) : VEq (n + 1) (.dct es) (.dct fs)
inductive VEqL : Nat → List V → List V → Prop
  | nil (n : Nat) : VEqL n [] []
  | cons {n : Nat} {x y : V} {xs ys : List V} (h : VEq n x y) (r : VEqL n xs ys) : VEqL n (x :: xs) (y :: ys)
inductive VEqD : Nat → Dk → Dk → Prop
  | nil (n : Nat) (fs : Dk) : VEqD n fs []
  | cons {n : Nat} {fs es : Dk} {k : Kx} {v w : V} (hk : dget fs k = some w) (h : VEq n v w) (r : VEqD n fs es) : VEqD n fs ((k, v) :: es)
end
noncomputable def EqIn (B : Cx) (A : Around) (s : Shared) (x y : Value) : Prop := ∀ (E : Value → Shared → Prop) (Q : Bool → Shared → Prop), Q true s → wpAny (model B.prog B.w) A (eqBool x y) Q E s
section
variable {B : Cx} {σ : Store} {s : Shared} {A : Around} {E : Value → Shared → Prop}
theorem EqIn.refs {a b : Nat} (h : a ≠ b → ∀ (E : Value → Shared → Prop) (Q : Value → Shared → Prop), Q (.bool true) s → wpAny (model B.prog B.w) A (richCompare .Eq (.ref a) (.ref b)) Q E s) : EqIn B A s (.ref a) (.ref b) := fun E Q q => by
  by_cases e : a = b
  · subst e; exact SeqAt.EqAt.same (A := A) (s := s) (.ref a) B.prog B.w E Q q
  · unfold eqBool
    refine wpAny_holding ?_
    rw [if_neg (fun z => e (by have := eq_of_beq z; injection this))]
    exact wpAny_bind (h e E _ (wpAny_truthy_bool q))
theorem tuple_eq_tree {xs ys : List Value} {a b na nb : Nat} {P : Fin → Shared → Prop} (ha : s.heap.get? a = some ⟨.type "tuple", none, .seq xs.toArray na, #[]⟩) (hb : s.heap.get? b = some ⟨.type "tuple", none, .seq ys.toArray nb, #[]⟩)
    (hn : xs.length = ys.length) (hall : ∀ p ∈ List.zip xs ys, EqIn B A s p.1 p.2) (q : P (.done (.ret (.bool true))) s) : wpAny (model B.prog B.w) A (Builtin.«tuple.__eq__» ⟨[.ref a, .ref b], []⟩) P E s := by
  show wpAny _ _ (isInstance (.ref b) (.type "tuple") >>= _) _ _ s
  refine wpAny_bind (wpAny_isInstance ⟨_, hb, rfl⟩ isSubtype_tuple_tuple ?_)
  simp only [Bool.not_true, Bool.false_eq_true, if_false]
  refine wpAny_bind (wpAny_tupleItemsOf ha rfl ?_)
  refine wpAny_bind (wpAny_tupleItemsOf hb rfl ?_)
  refine wpAny_bind ?_
  refine wpAny_forIn_list _ (fun rest r s' => r.1 = none ∧ s' = s ∧ ∀ p ∈ rest, EqIn B A s p.1 p.2) _ ?_ ?_ _ _ ⟨rfl, rfl, hall⟩
  · rintro ⟨u, v⟩ rest r s' ⟨hr, rfl, hall⟩
    refine wpAny_bind (hall _ (.head _) _ _ ?_)
    simp only [Bool.not_true, Bool.false_eq_true, if_false]
    exact wpAny_pure ⟨rfl, rfl, fun p hp => hall p (.tail _ hp)⟩
  · rintro ⟨r1, r2⟩ s' ⟨hr, rfl, _⟩
    simp only at hr
    subst hr
    refine wpAny_pure ?_
    show P (.done (.ret (.bool (xs.toArray.size == ys.toArray.size)))) s'
    rw [List.size_toArray, List.size_toArray, hn, beq_self_eq_true]
    exact q
theorem same_pairs {nm : String} {a b : Nat} {ka kb : List (Kx × Value)} {Q : Bool → Shared → Prop} (ha : (a == sysModules) = false) (hb : (b == sysModules) = false) (da : s.heap.DictOf (kxKind B.prog B.w) a ka) (db : s.heap.DictOf (kxKind B.prog B.w) b kb)
    (hn : ka.length = kb.length) (hall : ∀ k v, (k, v) ∈ ka → ∃ y, valueAt kb k = some y ∧ EqIn B A s v y) (q : Q true s) : wpAny (model B.prog B.w) A (Builtin.Dict.samePairs nm a b) Q E s := by
  obtain ⟨oa, es, ep, hoa, _, hda, hka, hpa, _⟩ := da
  obtain ⟨ob, fs, ep', hob, _, hdb, hkb, hpb, _⟩ := db
  have hla : ka.length = es.size := by rw [← hpa.length]; exact Array.length_toList
  have hlb : kb.length = fs.size := by rw [← hpb.length]; exact Array.length_toList
  unfold Builtin.Dict.samePairs Builtin.Dict.showsAll
  rw [ha, hb, if_neg Bool.false_ne_true]
  refine wpAny_bind (wpAny_pure (wpAny_bind (wpAny_pure (wpAny_bind (wpAny_dictEntries hoa hda ?_)))))
  refine wpAny_bind (wpAny_dictEntries hob hdb ?_)
  rw [if_neg (by rw [← hla, ← hlb, hn]; simp)]
  refine wpAny_bind (wpAny_dictEpoch hoa hda (wpAny_bind ?_))
  rw [Std.Legacy.Range.forIn_eq_forIn_range']
  simp only [Std.Legacy.Range.size, Nat.sub_zero, Nat.add_sub_cancel, Nat.div_one]
  refine wpAny_forIn_list _ (fun rest r s' => s' = s ∧ r = (none, ()) ∧ ∀ i ∈ rest, i < es.size) _ ?_ ?_ _ _ ⟨rfl, rfl, fun i hi => by have := (List.mem_range'_1.mp hi).2; exact ar190 this⟩
  · rintro i rest r s' ⟨rfl, rfl, hr⟩
    have hlt : i < es.size := hr i (.head _)
    refine wpAny_bind (wpAny_dictEntries hoa hda ?_)
    rw [Array.getElem?_eq_getElem hlt]
    obtain ⟨k, v, hkv⟩ : ∃ k v, ka[i]? = some (k, v) := ⟨_, _, List.getElem?_eq_getElem (by rw [hla]; exact hlt)⟩
    obtain ⟨hkey, hval⟩ := hpa.get? (i := i) (e := es[i]) (k := k) (v := v) (by rw [Array.getElem?_toList]; exact Array.getElem?_eq_getElem hlt) hkv
    obtain ⟨k', hk', hh⟩ := hka es[i] (Array.getElem_mem hlt)
    obtain rfl : k' = k := (kxKind B.prog B.w).inj _ _ _ hk' hkey
    obtain ⟨y, hy, heq⟩ := hall k' v (List.mem_of_getElem? hkv)
    show wpAny _ _ (holding [es[i].key, es[i].val] _ >>= _) _ _ _
    rw [hh]
    refine wpAny_bind (wpAny_holding (wpAny_bind (wpAny_dictFind_of hkey hob hdb hkb ?_)))
    have hfy : (fs.toList.find? fun e => (kxKind B.prog B.w).is k' e.key).map (·.val) = some y := (hpb.find k').trans hy
    cases hj : fs.findIdx? fun e => (kxKind B.prog B.w).is k' e.key with
    | none =>
      rw [Array.findIdx?_eq_none_iff] at hj
      cases z : fs.toList.find? fun e => (kxKind B.prog B.w).is k' e.key with
      | none => rw [z] at hfy; cases hfy
      | some e => have := hj e (by simpa using List.mem_of_find?_eq_some z); rw [List.find?_some z] at this; cases this
    | some j =>
      obtain ⟨hjlt, hj1, hj2⟩ := Array.findIdx?_eq_some_iff_getElem.mp hj
      have hv' : fs[j].val = y := by
        have : findBy (kxKind B.prog B.w).is fs k' = some fs[j].val := by rw [findBy_of_findIdx?, hj]; simp [Array.getElem?_eq_getElem hjlt]
        have h2 : findBy (kxKind B.prog B.w).is fs k' = some y := by
          rw [← hfy]
          obtain ⟨l⟩ := fs
          simp [findBy]
        exact Option.some.inj (this.symm.trans h2)
      refine wpAny_bind (wpAny_dictEntries hob hdb ?_)
      rw [Array.getElem?_eq_getElem hjlt]
      rw [← hv', ← hval] at heq
      refine wpAny_holding (heq _ _ ?_)
      show wpAny _ _ (if (!true) = true then _ else _) _ _ _
      rw [if_neg (by decide)]
      refine wpAny_bind (wpAny_dictEpoch hoa hda ?_)
      rw [if_neg (by simp)]
      exact wpAny_pure ⟨rfl, rfl, fun i hi => hr i (.tail _ hi)⟩
  · rintro r s' ⟨rfl, rfl, _⟩
    exact wpAny_pure q
theorem dict_eq_tree {a b : Nat} {ka kb : List (Kx × Value)} {P : Fin → Shared → Prop} (ha : (a == sysModules) = false) (hb : (b == sysModules) = false) (da : s.heap.DictOf (kxKind B.prog B.w) a ka) (db : s.heap.DictOf (kxKind B.prog B.w) b kb)
    (hn : ka.length = kb.length) (hall : ∀ k v, (k, v) ∈ ka → ∃ y, valueAt kb k = some y ∧ EqIn B A s v y) (q : P (.done (.ret (.bool true))) s) : wpAny (model B.prog B.w) A (Builtin.«dict.__eq__» ⟨[.ref a, .ref b], []⟩) P E s := by
  show wpAny _ _ (Builtin.Dict.dictSlotArgs "__eq__" ⟨[.ref a, .ref b], []⟩ >>= _) _ _ s
  refine wpAny_bind ?_
  unfold Builtin.Dict.dictSlotArgs
  refine wpAny_bind (wpAny_notOrdered_dict da.typeIs ?_)
  show wpAny _ _ (pure (Value.ref a, Value.ref b)) _ _ s
  refine wpAny_pure ?_
  refine wpAny_bind (wpAny_isInstance (T := "dict") db.typeIs PySem.F.sub_dict_dict ?_)
  simp only [Bool.not_true, Bool.false_eq_true, if_false]
  refine wpAny_bind (wpAny_pure (wpAny_bind (wpAny_pure ?_)))
  exact wpAny_bind (same_pairs ha hb da db hn hall (wpAny_pure q))
theorem dict_ne_tree {a b : Nat} {ka kb : List (Kx × Value)} {P : Fin → Shared → Prop} (ha : (a == sysModules) = false) (hb : (b == sysModules) = false) (da : s.heap.DictOf (kxKind B.prog B.w) a ka) (db : s.heap.DictOf (kxKind B.prog B.w) b kb)
    (hn : ka.length = kb.length) (hall : ∀ k v, (k, v) ∈ ka → ∃ y, valueAt kb k = some y ∧ EqIn B A s v y) (q : P (.done (.ret (.bool false))) s) : wpAny (model B.prog B.w) A (Builtin.«dict.__ne__» ⟨[.ref a, .ref b], []⟩) P E s := by
  show wpAny _ _ (Builtin.Dict.dictSlotArgs "__ne__" ⟨[.ref a, .ref b], []⟩ >>= _) _ _ s
  refine wpAny_bind ?_
  unfold Builtin.Dict.dictSlotArgs
  refine wpAny_bind (wpAny_notOrdered_dict da.typeIs ?_)
  show wpAny _ _ (pure (Value.ref a, Value.ref b)) _ _ s
  refine wpAny_pure ?_
  refine wpAny_bind (wpAny_isInstance (T := "dict") db.typeIs PySem.F.sub_dict_dict ?_)
  simp only [Bool.not_true, Bool.false_eq_true, if_false]
  refine wpAny_bind (wpAny_pure (wpAny_bind (wpAny_pure ?_)))
  exact wpAny_bind (same_pairs ha hb da db hn hall (wpAny_pure q))
mutual
theorem VEq.at {n : Nat} {u v : V} (p : VEq n u v) : ∀ {A : Around} {x y : Value}, VRel B σ s.heap u x → VRel B σ s.heap v y → A.units + 4 * n < cLine → EqIn B A s x y := by
  cases p with
  | plain p => exact fun r r' hu E Q q => p.at r r' hu B.prog B.w E Q q
  | tup p =>
    intro A x y r r' hu
    obtain ⟨_, _, _, rfl, ho, hs, hl⟩ := r.inv
    obtain ⟨_, _, _, rfl, ho', hs', hl'⟩ := r'.inv
    rename_i a n1 items b n2 items'
    obtain ⟨l1⟩ := items
    obtain ⟨l2⟩ := items'
    obtain ⟨hn, hall⟩ := VEqL.at p (A := A.in1) hl hl' (by show A.units + 1 + _ < _; exact ar15 hu)
    refine .refs fun _ E Q q => wpAny_richCompare_same_room (op := .Eq) ⟨_, ho, rfl⟩ ⟨_, ho', rfl⟩ F.slot_tuple_eq (wpAny_call_entry F.slot_tuple_eq ⟨_, ho, rfl⟩ F.entry_tuple_eq (tuple_eq_tree ho ho' hn hall ⟨_, rfl, (fun x => nomatch x), q⟩) (F.args_tuple_eq_2 _ _)) (by exact ar16 hu)
  | dct hl p =>
    intro A x y r r' hu
    obtain ⟨_, _, _, rfl, hm, ho, hs, hd⟩ := r.inv
    obtain ⟨_, _, _, rfl, hm', ho', hs', hd'⟩ := r'.inv
    have hall := VEqD.at p (A := A.in1) hd' hd (by show A.units + 1 + _ < _; exact ar15 hu)
    refine .refs fun _ E Q q => wpAny_richCompare_same_room (op := .Eq) ho.dictOf.typeIs ho'.dictOf.typeIs F.slot_dict_eq (wpAny_call_entry F.slot_dict_eq ho.dictOf.typeIs F.entry_dict_eq (dict_eq_tree hm hm' ho.dictOf ho'.dictOf (by rw [← hd.length, ← hd'.length]; exact hl) hall ⟨_, rfl, (fun x => nomatch x), q⟩) (F.args_dict_eq_2 _ _)) (by exact ar16 hu)
theorem VEqL.at {n : Nat} {xs ys : List V} (p : VEqL n xs ys) : ∀ {A : Around} {us vs : List Value}, VRelL B σ s.heap xs us → VRelL B σ s.heap ys vs → A.units + 4 * n < cLine → us.length = vs.length ∧ ∀ p ∈ List.zip us vs, EqIn B A s p.1 p.2 := by
  cases p with
  | nil n => intro A us vs r r' hu; obtain rfl := r.nil'; obtain rfl := r'.nil'; exact ⟨rfl, fun _ h => nomatch h⟩
  | cons p q =>
    intro A us vs r r' hu
    obtain ⟨_, _, rfl, r1, r2⟩ := r.cons'
    obtain ⟨_, _, rfl, r1', r2'⟩ := r'.cons'
    obtain ⟨hn, hall⟩ := VEqL.at q r2 r2' hu
    refine ⟨congrArg (· + 1) hn, fun z hz => ?_⟩
    cases hz with
    | head => exact VEq.at p r1 r1' hu
    | tail _ hz => exact hall z hz
theorem VEqD.at {n : Nat} {fs es : Dk} (p : VEqD n fs es) : ∀ {A : Around} {kb ka : List (Kx × Value)}, DRel B σ s.heap fs kb → DRel B σ s.heap es ka → A.units + 4 * n < cLine → ∀ k v, (k, v) ∈ ka → ∃ y, valueAt kb k = some y ∧ EqIn B A s v y := by
  cases p with
  | nil n fs => intro A kb ka r r' hu; cases r'; exact fun k v h => nomatch h
  | cons hk p q =>
    intro A kb ka r r' hu
    cases r' with | cons r1 r2 =>
    have := VEqD.at q r r2 hu
    intro k v hm
    cases hm with
    | head => obtain ⟨y, hy, ry⟩ := r.some_of hk; exact ⟨y, hy, VEq.at p r1 ry hu⟩
    | tail _ hm => exact this k v hm
end
end
section
variable {B : Cx} {d : Nat} {σ : Store} {N : Nat} {es fs : Dk} {Q : Post V}
theorem nEqD {n : Nat} (hl : es.length = fs.length) (p : VEqD n fs es) (hn : n ≤ 50) (h : Q (.bool true) σ N) : Need (W2 B d (VRel B) (compareOp .Eq) (.dct es) (.dct fs) σ N Q) := ⟨fun A s x y k I r r' => by
  obtain ⟨_, _, _, rfl, hm, ho, hs, hd⟩ := r.inv
  obtain ⟨_, _, _, rfl, hm', ho', hs', hd'⟩ := r'.inv
  have room := k.room
  have hall := p.at (A := A.in1) hd' hd (by show A.units + 1 + _ < 9900; exact ar31 hn room)
  exact wpAny_richCompare_same_room (op := .Eq) ho.dictOf.typeIs ho'.dictOf.typeIs F.slot_dict_eq (wpAny_call_entry F.slot_dict_eq ho.dictOf.typeIs F.entry_dict_eq (dict_eq_tree hm hm' ho.dictOf ho'.dictOf (by rw [← hd.length, ← hd'.length]; exact hl) hall ⟨_, rfl, (fun x => nomatch x), .here I (.refl _ _) (.bool true) h⟩) (F.args_dict_eq_2 _ _)) (show A.units < 9900 by exact ar4 room)⟩
theorem nNeD {n : Nat} (hl : es.length = fs.length) (p : VEqD n fs es) (hn : n ≤ 50) (h : Q (.bool false) σ N) : Need (W2 B d (VRel B) (compareOp .NotEq) (.dct es) (.dct fs) σ N Q) := ⟨fun A s x y k I r r' => by
  obtain ⟨_, _, _, rfl, hm, ho, hs, hd⟩ := r.inv
  obtain ⟨_, _, _, rfl, hm', ho', hs', hd'⟩ := r'.inv
  have room := k.room
  have hall := p.at (A := A.in1) hd' hd (by show A.units + 1 + _ < 9900; exact ar31 hn room)
  exact wpAny_richCompare_same_room (op := .NotEq) ho.dictOf.typeIs ho'.dictOf.typeIs F.slot_dict_ne (wpAny_call_entry F.slot_dict_ne ho.dictOf.typeIs F.entry_dict_ne (dict_ne_tree hm hm' ho.dictOf ho'.dictOf (by rw [← hd.length, ← hd'.length]; exact hl) hall ⟨_, rfl, (fun x => nomatch x), .here I (.refl _ _) (.bool false) h⟩) (F.args_dict_ne_2 _ _)) (show A.units < 9900 by exact ar4 room)⟩
end
end
noncomputable section
/-! sorting: what the questions of a sort lead to -/
section
variable {α : Type} {O : KeyOrd} {key : Nat → O.α} {n : Nat}
noncomputable def ok (n : Nat) (lt : Nat → Nat → Bool) : KasT α → (α → Prop) → Prop
  | .ret a, G => G a
  | .ask i j k, G => i < n ∧ j < n ∧ ok n lt (k (lt i j)) G
theorem ok_bind {β : Type} {lt : Nat → Nat → Bool} {f : α → KasT β} {G : β → Prop} : ∀ (t : KasT α), ok n lt t (fun a => ok n lt (f a) G) → ok n lt (t.bind f) G
  | .ret _, h => h
  | .ask _ _ k, h => ⟨h.1, h.2.1, ok_bind (k _) h.2.2⟩
noncomputable def Pm (n : Nat) (p : Array Nat) : Prop := p.toList.Perm (List.range n)
theorem Pm.size {p : Array Nat} (h : Pm n p) : p.size = n := by have := h.length_eq; simpa using this
theorem Pm.lt {p : Array Nat} (h : Pm n p) {i : Nat} (hi : i < n) : p.getD i 0 < n := by
  have hz : i < p.size := by rw [h.size]; exact hi
  have : p.getD i 0 ∈ p.toList := by simp [Array.getD, hz]
  exact List.mem_range.mp (h.mem_iff.mp this)
noncomputable abbrev kk (key : Nat → O.α) (p : Array Nat) (i : Nat) : O.α := key (p.getD i 0)
noncomputable def Chn (key : Nat → O.α) (R : O.α → O.α → Prop) (p : Array Nat) (m : Nat) : Prop := ∀ i j, i ≤ j → j < m → R (kk key p i) (kk key p j)
theorem Chn.one {R : O.α → O.α → Prop} (hr : ∀ a, R a a) {p : Array Nat} {m : Nat} (h : m ≤ 1) : Chn key R p m := fun i j h1 h2 => by
  have : i = j := by exact ar191 h h1 h2
  subst this; exact hr _
theorem Chn.succ {R : O.α → O.α → Prop} (hr : ∀ a, R a a) (ht : ∀ a b c, R a b → R b c → R a c) {p : Array Nat} {m : Nat} (c : Chn key R p m) (h1 : 1 ≤ m) (h : R (kk key p (m - 1)) (kk key p m)) : Chn key R p (m + 1) := fun i j hij hj => by
  by_cases e : j < m
  · exact c i j hij e
  · have : j = m := by exact ar192 hj e
    subst this
    by_cases e2 : i = j
    · subst e2; exact hr _
    · exact ht _ _ _ (c i (j - 1) (by exact ar193 hij h1 e2) (by exact ar61 h1)) h
theorem getD_of {p q : Array Nat} {i j : Nat} (h : p[i]? = q[j]?) : kk key p i = kk key q j := by unfold kk; rw [Array.getD_eq_getD_getElem?, Array.getD_eq_getD_getElem?, h]
theorem kk_rev {p : Array Nat} {i j : Nat} (hj : j ≤ p.size) (k : Nat) : kk key (kas_rev p i j) k = if i ≤ k ∧ k < j then kk key p (i + j - 1 - k) else kk key p k := by
  have e := getElem?_mirror_all (i := i) hj k
  by_cases h : i ≤ k ∧ k < j
  · rw [if_pos h] at e ⊢; exact getD_of e
  · rw [if_neg h] at e ⊢; exact getD_of e
theorem kk_bub {p : Array Nat} {s d : Nat} (hs : s < p.size) (hd : d ≤ s) (k : Nat) : kk key (bubble p s d) k = if k = s - d then kk key p s else if s - d < k ∧ k ≤ s then kk key p (k - 1) else kk key p k := by
  have e := getElem?_bubble hs d hd k
  by_cases h : k = s - d
  · rw [if_pos h] at e ⊢; exact getD_of e
  · rw [if_neg h] at e ⊢
    by_cases h2 : s - d < k ∧ k ≤ s
    · rw [if_pos h2] at e ⊢; exact getD_of e
    · rw [if_neg h2] at e ⊢; exact getD_of e
theorem Pm.rev {p : Array Nat} (h : Pm n p) (i j : Nat) : Pm n (kas_rev p i j) := (Array.perm_iff_toList_perm.mp (mirror_perm ..)).trans h
theorem Pm.bub {p : Array Nat} (h : Pm n p) (s d : Nat) : Pm n (bubble p s d) := (Array.perm_iff_toList_perm.mp (bubble_perm ..)).trans h
noncomputable abbrev ltK (key : Nat → O.α) : Nat → Nat → Bool := fun i j => O.blt (key i) (key j)
noncomputable abbrev geK (O : KeyOrd) : O.α → O.α → Prop := fun a b => O.kle b a
theorem asc_ok {p : Array Nat} {G : Nat → Prop} (hp : Pm n p) : ∀ (f m : Nat), 1 ≤ m → m + f ≤ n → Chn key O.kle p m → (∀ r, m ≤ r → r ≤ m + f → Chn key O.kle p r → (r = m + f ∨ O.klt (kk key p r) (kk key p (r - 1))) → G r) → ok n (ltK key) (kas_asc p f m) G := by
  intro f
  induction f with
  | zero => intro m h1 hm c h; exact h m (Nat.le_refl _) (Nat.le_refl _) c (.inl rfl)
  | succ f ih =>
    intro m h1 hm c h
    refine ⟨hp.lt (by exact ar32 hm), hp.lt (by exact ar33 h1 hm), ?_⟩
    show ok n (ltK key) (if O.blt (kk key p m) (kk key p (m - 1)) = true then KasT.ret m else kas_asc p f (m + 1)) G
    cases e : O.blt (kk key p m) (kk key p (m - 1)) with
    | true => rw [if_pos rfl]; exact h m (Nat.le_refl _) (by exact ar62) c (.inr e)
    | false =>
      rw [if_neg Bool.false_ne_true]
      exact ih (m + 1) (by exact ar9) (by exact ar17 hm) (c.succ KeyOrd.kle_refl (fun _ _ _ => KeyOrd.kle_trans) h1 e) fun r a b c d => h r (by exact ar5 a) (by exact ar18 b) c (d.imp (fun d => by exact ar194 d) id)
theorem kk_rev_eq {p : Array Nat} {m q : Nat} (hm : m ≤ p.size) (he : ∀ i, m - (q + 1) ≤ i → i < m → kk key p i = kk key p (m - 1)) (k : Nat) : kk key (kas_rev p (m - (q + 1)) m) k = kk key p k := by
  rw [kk_rev hm]
  split
  · rename_i h; rw [he _ (by exact ar195 h) (by exact ar196 h), he k h.1 h.2]
  · rfl
theorem Chn.of_eq {R : O.α → O.α → Prop} {p p' : Array Nat} {m : Nat} (h : ∀ k, kk key p' k = kk key p k) (c : Chn key R p m) : Chn key R p' m := fun i j a b => by rw [h, h]; exact c i j a b
theorem desc_ok {G : Array Nat × Nat × Nat → Prop} : ∀ (f : Nat) (p : Array Nat) (m q : Nat), Pm n p → 1 ≤ m → m + f ≤ n → Chn key (geK O) p m → q + 1 ≤ m → (∀ i, m - (q + 1) ≤ i → i < m → kk key p i = kk key p (m - 1)) →
    (∀ p' m' q', Pm n p' → m ≤ m' → m' ≤ m + f → Chn key (geK O) p' m' → q' + 1 ≤ m' → (∀ i, m' - (q' + 1) ≤ i → i < m' → kk key p' i = kk key p' (m' - 1)) → G (p', m', q')) → ok n (ltK key) (kas_desc f p m q) G := by
  intro f
  induction f with
  | zero => intro p m q hp h1 hm c hq he h; exact h p m q hp (Nat.le_refl _) (Nat.le_refl _) c hq he
  | succ f ih =>
    intro p m q hp h1 hm c hq he h
    have up : ∀ p', (∀ k, kk key p' k = kk key p k) → O.kle (kk key p m) (kk key p (m - 1)) → Chn key (geK O) p' (m + 1) := fun p' e l => (c.succ (R := geK O) KeyOrd.kle_refl (fun _ _ _ a b => KeyOrd.kle_trans b a) h1 l).of_eq e
    have one : ∀ p' : Array Nat, ∀ i, m + 1 - (0 + 1) ≤ i → i < m + 1 → kk key p' i = kk key p' (m + 1 - 1) := fun p' i a b => by congr 1; exact ar63 a b
    refine ⟨hp.lt (by exact ar32 hm), hp.lt (by exact ar33 h1 hm), ?_⟩
    show ok n (ltK key) (if O.blt (kk key p m) (kk key p (m - 1)) = true then (if q > 0 then kas_desc f (kas_rev p (m - (q + 1)) m) (m + 1) 0 else kas_desc f p (m + 1) 0) else .ask (p.getD (m - 1) 0) (p.getD m 0) fun d => if d = true then .ret (p, m, q) else kas_desc f p (m + 1) (q + 1)) G
    cases e : O.blt (kk key p m) (kk key p (m - 1)) with
    | true =>
      rw [if_pos rfl]
      by_cases hq0 : q > 0
      · rw [if_pos hq0]
        exact ih _ _ _ (hp.rev _ _) (by exact ar9) (by exact ar17 hm) (up _ (kk_rev_eq (by rw [hp.size]; exact ar197 hm) he) (KeyOrd.kle_of_klt e)) (by exact ar34) (one _) fun p' m' q' a b c' d e' f' => h p' m' q' a (by exact ar5 b) (by exact ar18 c') d e' f'
      · rw [if_neg hq0]
        exact ih _ _ _ hp (by exact ar9) (by exact ar17 hm) (up _ (fun _ => rfl) (KeyOrd.kle_of_klt e)) (by exact ar34) (one _) fun p' m' q' a b c' d e' f' => h p' m' q' a (by exact ar5 b) (by exact ar18 c') d e' f'
    | false =>
      rw [if_neg Bool.false_ne_true]
      refine ⟨hp.lt (by exact ar33 h1 hm), hp.lt (by exact ar32 hm), ?_⟩
      show ok n (ltK key) (if O.blt (kk key p (m - 1)) (kk key p m) = true then .ret (p, m, q) else kas_desc f p (m + 1) (q + 1)) G
      cases e2 : O.blt (kk key p (m - 1)) (kk key p m) with
      | true => rw [if_pos rfl]; exact h p m q hp (Nat.le_refl _) (by exact ar62) c hq he
      | false =>
        rw [if_neg Bool.false_ne_true]
        have heq : kk key p m = kk key p (m - 1) := KeyOrd.kle_antisymm e2 e
        refine ih _ _ _ hp (by exact ar9) (by exact ar17 hm) (up _ (fun _ => rfl) e2) (by exact ar198 hq) (fun i a b => ?_) fun p' m' q' a b c' d e' f' => h p' m' q' a (by exact ar5 b) (by exact ar18 c') d e' f'
        show _ = kk key p m
        by_cases hi : i = m
        · rw [hi]
        · rw [heq]; exact he i (by exact ar199 a) (by exact ar35 b hi)
theorem tail_ok {G : Nat × Array Nat → Prop} {p : Array Nat} {m : Nat} (hp : Pm n p) (h1 : 1 ≤ m) (hm : m ≤ n) (c : Chn key (geK O) p m) (h : ∀ r p', Pm n p' → 1 ≤ r → r ≤ n → Chn key O.kle p' r → G (r, p')) : ok n (ltK key) (kas_tail3 m n p) G := by
  refine ok_bind _ (asc_ok (hp.rev 0 m) _ _ h1 (by exact ar200 hm) (fun i j hij hj => ?_) fun r a b c _ => h r _ (hp.rev 0 m) (by exact ar201 h1 a) (by exact ar202 hm b) c)
  rw [kk_rev (by rw [hp.size]; exact hm), kk_rev (by rw [hp.size]; exact hm), if_pos (by exact ar203 hij hj), if_pos (by exact ar204 hj)]
  exact c _ _ (by exact ar205 hij hj) (by exact ar64 h1)
theorem part_ok {G : Nat × Array Nat → Prop} {p : Array Nat} {m : Nat} (hp : Pm n p) (hm : m + 1 ≤ n) (c : Chn key (geK O) p (m + 1)) (h : ∀ r p', Pm n p' → 1 ≤ r → r ≤ n → Chn key O.kle p' r → G (r, p')) : ok n (ltK key) (kas_descPart m n p) G := by
  refine ok_bind _ (desc_ok _ _ _ _ hp (by exact ar9) (by exact ar206 hm) c (by exact ar34) (fun i a b => by congr 1; exact ar63 a b) fun p' m' q' a b c' d e f => ?_)
  dsimp only
  by_cases hq : q' > 0
  · rw [if_pos hq]; exact tail_ok (a.rev _ _) (by exact ar65 b) (by exact ar36 hm c') (d.of_eq (kk_rev_eq (by rw [a.size]; exact ar36 hm c') f)) h
  · rw [if_neg hq]; exact tail_ok a (by exact ar65 b) (by exact ar36 hm c') d h
theorem count_ok {G : Nat × Array Nat → Prop} {p : Array Nat} (hp : Pm n p) (hn : 1 ≤ n) (h : ∀ r p', Pm n p' → 1 ≤ r → r ≤ n → Chn key O.kle p' r → G (r, p')) : ok n (ltK key) (kas_count n p) G := by
  refine ok_bind _ (asc_ok hp _ _ (Nat.le_refl _) (by exact ar207 hn) (.one KeyOrd.kle_refl (Nat.le_refl _)) fun r a b c d => ?_)
  by_cases hr : r = n
  · rw [if_pos (by simpa using hr)]; exact h r p hp a (by exact ar19 hr) c
  rw [if_neg (by simpa using hr)]
  have d : O.klt (kk key p r) (kk key p (r - 1)) := d.resolve_left (by exact ar208 hn hr)
  by_cases h1 : r > 1
  · rw [if_pos h1]
    refine ⟨hp.lt (by exact ar209 hn), hp.lt (by exact ar210 hn a b hr), ?_⟩
    show ok n (ltK key) (if O.blt (kk key p 0) (kk key p (r - 1)) = true then KasT.ret (r, p) else kas_descPart r n (kas_rev p 0 r)) G
    cases e : O.blt (kk key p 0) (kk key p (r - 1)) with
    | true => rw [if_pos rfl]; exact h r p hp a (by exact ar66 hn b hr) c
    | false =>
      rw [if_neg Bool.false_ne_true]
      have all : ∀ k, k < r → kk key p k = kk key p (r - 1) := fun k hk => KeyOrd.kle_antisymm (c k (r - 1) (by exact ar211 a hk) (by exact ar61 a)) (KeyOrd.kle_trans e (c 0 k (Nat.zero_le _) hk))
      have er : ∀ k, kk key (kas_rev p 0 r) k = kk key p k := fun k => by
        rw [kk_rev (by rw [hp.size]; exact ar66 hn b hr)]
        split
        · rename_i z; rw [all _ (by exact ar64 a), all k z.2]
        · rfl
      refine part_ok (hp.rev _ _) (by exact ar212 hn b hr) (Chn.of_eq er (Chn.succ (R := geK O) KeyOrd.kle_refl (fun _ _ _ a b => KeyOrd.kle_trans b a) (fun i j _ hj => ?_) (by exact ar67 a) (KeyOrd.kle_of_klt d))) h
      rw [all i (by lia), all j hj]; exact KeyOrd.kle_refl _
  · rw [if_neg h1]
    have : r = 1 := by exact ar213 a h1
    subst this
    exact part_ok hp (by exact ar214 hn hr) (Chn.succ (R := geK O) KeyOrd.kle_refl (fun _ _ _ a b => KeyOrd.kle_trans b a) (Chn.one (R := geK O) KeyOrd.kle_refl (Nat.le_refl _)) (Nat.le_refl _) (KeyOrd.kle_of_klt d)) h
theorem place_ok {p : Array Nat} {k : Nat} (hp : Pm n p) (hk : k < n) (c : Chn key O.kle p k) {G : Nat → Prop} : ∀ (f l r : Nat), l ≤ r → r ≤ k → r ≤ l + f → (∀ x, x < l → O.kle (kk key p x) (kk key p k)) → (∀ x, r ≤ x → x < k → O.kle (kk key p k) (kk key p x)) →
    (∀ l, l ≤ k → (∀ x, x < l → O.kle (kk key p x) (kk key p k)) → (∀ x, l ≤ x → x < k → O.kle (kk key p k) (kk key p x)) → G l) → ok n (ltK key) (kas_place p k f l r) G := by
  intro f
  induction f with
  | zero => intro l r a b d u v h; have : l = r := by exact ar215 a d
            subst this; exact h l b u v
  | succ f ih =>
    intro l r a b d u v h
    unfold kas_place
    by_cases e : l ≥ r
    · rw [if_pos e]; have : l = r := by exact ar216 a e
      subst this; exact h l b u v
    · rw [if_neg e]
      refine ⟨hp.lt hk, hp.lt (by exact ar217 hk b e), ?_⟩
      show ok n (ltK key) (if O.blt (kk key p k) (kk key p ((l + r) / 2)) = true then kas_place p k f l ((l + r) / 2) else kas_place p k f ((l + r) / 2 + 1) r) G
      cases z : O.blt (kk key p k) (kk key p ((l + r) / 2)) with
      | true => rw [if_pos rfl]; exact ih _ _ (by exact ar218 e) (by exact ar219 b e) (by exact ar220 a d e) u (fun x h1 h2 => KeyOrd.kle_trans (KeyOrd.kle_of_klt z) (c _ x h1 h2)) h
      | false => rw [if_neg Bool.false_ne_true]; exact ih _ _ (by exact ar221 a e) b (by exact ar222 d) (fun x hx => KeyOrd.kle_trans (c x _ (by exact ar223 hx) (by exact ar224 b e)) z) v h
theorem bin_ok : ∀ (f : Nat) (p : Array Nat) (k : Nat), Pm n p → 1 ≤ k → k + f = n → Chn key O.kle p k → ok n (ltK key) (kas_bin f p k) (fun p' => Pm n p' ∧ Chn key O.kle p' n) := by
  intro f
  induction f with
  | zero => intro p k hp h1 hn c; have : k = n := by exact ar225 hn
            subst this; exact ⟨hp, c⟩
  | succ f ih =>
    intro p k hp h1 hn c
    refine ok_bind _ (place_ok hp (by exact ar68 hn) c _ _ _ (Nat.zero_le _) (Nat.le_refl _) (by exact ar37) (fun x h => absurd h (Nat.not_lt_zero _)) (fun x h h' => absurd h (by exact ar226 h h')) fun l hl u v => ih _ _ (hp.bub _ _) (by exact ar9) (by exact ar227 hn) fun i j hij hj => ?_)
    have hz : k < p.size := by rw [hp.size]; exact ar68 hn
    rw [kk_bub hz (by exact ar69 h1), kk_bub hz (by exact ar69 h1), show k - (k - l) = l from by exact ar228 hl]
    by_cases i1 : i = l
    · rw [if_pos i1]
      by_cases j1 : j = l
      · rw [if_pos j1]; exact KeyOrd.kle_refl _
      · rw [if_neg j1, if_pos (by exact ar229 hij hj i1 j1)]; exact v _ (by exact ar230 hij i1 j1) (by exact ar38 h1 hj)
    · rw [if_neg i1]
      by_cases j1 : j = l
      · rw [if_pos j1, if_neg (by exact ar231 hij i1 j1)]; exact u _ (by exact ar232 hij i1 j1)
      · rw [if_neg j1]
        by_cases i2 : l < i ∧ i ≤ k
        · rw [if_pos i2, if_pos (by exact ar233 hij hj j1 i2)]; exact c _ _ (by exact ar234 hij i1 i2) (by exact ar38 h1 hj)
        · rw [if_neg i2]
          by_cases j2 : l < j ∧ j ≤ k
          · rw [if_pos j2]; exact c _ _ (by exact ar235 hij hj i1 i2 j2) (by exact ar38 h1 hj)
          · rw [if_neg j2]; exact c _ _ (by exact ar2 hij) (by exact ar236 hl hj j1 j2)
theorem sort_ok (hn : 1 ≤ n) : ok n (ltK key) (kas_sort n) (fun p => Pm n p ∧ Chn key O.kle p n) := by
  refine ok_bind _ (count_ok (by unfold Pm; exact .refl _) hn fun r p hp h1 h2 c => ?_)
  dsimp only
  by_cases h : r < n
  · rw [if_pos h, show max r 1 = r from by exact ar237 h1]; exact bin_ok _ _ _ hp h1 (by exact ar238 h) c
  · rw [if_neg h]
    have : r = n := by exact ar30 h2 h
    subst this; exact ⟨hp, c⟩
end
end
noncomputable section
/-! sorted: tuples of ints and strs, lists of strs -/
@[reducible] def LL : KeyOrd where
  α := List (List Nat)
  blt a b := decide (a < b)
  irrefl a := decide_eq_false (List.lt_irrefl a)
  trans a b c h1 h2 := by simp only [decide_eq_true_eq] at *; exact List.lt_trans h1 h2
  negTrans a b c h := by
    simp only [decide_eq_true_eq] at *
    by_cases hab : a < b
    · exact .inl hab
    · exact .inr (List.lt_of_le_of_lt (List.not_lt.mp hab) h)
  total a b h1 h2 := by simp only [decide_eq_false_iff_not] at *; exact List.le_antisymm (List.not_lt.mp h2) (List.not_lt.mp h1)
noncomputable def kv : V → List Nat
  | .str s => s.cps.toList
  | .int i => [i.toNat]
  | _ => []
noncomputable def kl : V → List (List Nat)
  | .tup xs => xs.map kv
  | .lst xs => xs.map kv
  | .str x => [x.cps.toList]
  | _ => []
noncomputable def NonNeg : V → Prop
  | .int i => 0 ≤ i
  | _ => True
theorem eqS_kv {x y : V} (h : SameS x y) (hx : NonNeg x) (hy : NonNeg y) : eqS x y = decide (kv x = kv y) := by
  cases h with
  | int a b =>
    have hx : 0 ≤ a := hx
    have hy : 0 ≤ b := hy
    show decide (a = b) = decide ([a.toNat] = [b.toNat])
    rw [decide_eq_decide]
    exact ⟨fun e => by rw [e], fun e => by have := List.singleton_inj.mp e; exact arb54 hx hy this⟩
  | str a b =>
    show decide (a = b) = decide (a.cps.toList = b.cps.toList)
    rw [decide_eq_decide]
    exact ⟨fun e => by rw [e], fun e => by cases a; cases b; exact congrArg _ (Array.toList_inj.mp e)⟩
theorem ltS_kv {x y : V} (h : SameS x y) (hx : NonNeg x) (hy : NonNeg y) : ltS x y = decide (kv x < kv y) := by
  cases h with
  | int a b =>
    have hx : 0 ≤ a := hx
    have hy : 0 ≤ b := hy
    show decide (a < b) = decide ([a.toNat] < [b.toNat])
    rw [decide_eq_decide, List.cons_lt_cons_iff]
    refine ⟨fun e => .inl (by exact ar239 hx hy e), fun e => ?_⟩
    rcases e with e | ⟨_, e⟩
    · exact ar240 hx hy e
    · exact absurd e (List.lt_irrefl _)
  | str a b => rfl
theorem lexLt_kl {xs ys : List V} (h : LexOk xs ys) (hx : ∀ x ∈ xs, NonNeg x) (hy : ∀ x ∈ ys, NonNeg x) : lexLt xs ys = decide (xs.map kv < ys.map kv) := by
  induction h with
  | nil => rfl
  | cons h r ih =>
    rename_i x y xs ys
    have ih := ih (fun a m => hx a (.tail _ m)) (fun a m => hy a (.tail _ m))
    rw [lexLt, List.map_cons, List.map_cons, eqS_kv h (hx _ (.head _)) (hy _ (.head _)), ltS_kv h (hx _ (.head _)) (hy _ (.head _))]
    by_cases e : kv x = kv y
    · rw [if_pos (decide_eq_true e), ih, e, decide_eq_decide, List.cons_lt_cons_iff]
      exact ⟨fun z => .inr ⟨rfl, z⟩, fun z => z.elim (fun z => absurd z (List.lt_irrefl _)) (·.2)⟩
    · rw [if_neg (by rw [decide_eq_false e]; exact Bool.false_ne_true), decide_eq_decide, List.cons_lt_cons_iff]
      exact ⟨.inl, fun z => z.elim id fun z => absurd z.1 e⟩
section
variable {B : Cx} {σ : Store} {s : Shared} {A : Around} {E : Value → Shared → Prop} {h : Heap}
theorem bool_back {b : Bool} {Q : Bool → Shared → Prop} {s : Shared} (q : Q b s) : PySem.W.BoolBack Q (.bool b) s := q
theorem oneLt_S {x y : V} {a b : Value} {c : Bool} {Q : Bool → Shared → Prop} (k : SameS x y) (ra : VRel B σ h x a) (rb : VRel B σ h y b) (q : Q (ltS x y) s) : wpAny (model B.prog B.w) A (oneLt' c a b) Q E s := by
  cases c with
  | true =>
    cases k with
    | int i j => obtain ⟨_, rfl⟩ := ra.inv; obtain ⟨_, rfl⟩ := rb.inv; exact oneLt_int q
    | str i j => obtain ⟨_, rfl⟩ := ra.inv; obtain ⟨_, rfl⟩ := rb.inv; exact oneLt_str q
  | false =>
    refine kat_one _ _ ?_
    cases k with
    | int i j => obtain ⟨_, rfl⟩ := ra.inv; obtain ⟨_, rfl⟩ := rb.inv; exact PyProof.Rows.lt_int (bool_back q)
    | str i j => obtain ⟨_, rfl⟩ := ra.inv; obtain ⟨_, rfl⟩ := rb.inv; exact PyProof.Rows.lt_str (bool_back q)
theorem katlex_ok {xs ys : List V} (k : LexOk xs ys) {c : Bool} {Q : Bool → Shared → Prop} : ∀ {us vs : List Value} (i : Nat), VRelL B σ h xs us → VRelL B σ h ys vs → Q (lexLt xs ys) s → KatLex B.prog B.w A c false Q (us.zip vs) i s := by
  induction k with
  | nil => intro us vs i r r' q; obtain rfl := r.nil'; obtain rfl := r'.nil'; exact kat_nil q
  | cons k r ih =>
    intro us vs i ra rb q
    obtain ⟨_, _, rfl, a1, a2⟩ := ra.cons'
    obtain ⟨_, _, rfl, b1, b2⟩ := rb.cons'
    rename_i x y xs ys _ _ _ _
    rw [lexLt] at q
    refine kat_cons (eqBool_S k a1 b1 ?_)
    cases e : eqS x y with
    | true => rw [if_pos e] at q; exact kat_yes (ih _ a2 b2 q)
    | false => rw [if_neg (by rw [e]; exact Bool.false_ne_true)] at q; exact kat_no (oneLt_S k a1 b1 q)
theorem LexOk.len {xs ys : List V} (k : LexOk xs ys) : xs.length = ys.length := by
  induction k with
  | nil => rfl
  | cons _ _ ih => exact congrArg (· + 1) ih
theorem key_tup {xs ys : List V} {a b : Value} {c : Bool} {Q : Bool → Shared → Prop} (k : LexOk xs ys) (ra : VRel B σ s.heap (.tup xs) a) (rb : VRel B σ s.heap (.tup ys) b) (q : Q (lexLt xs ys) s) : wpAny (model B.prog B.w) A (keyLt' (tuples' c) a b) Q E s := by
  obtain ⟨_, _, _, rfl, ho, hs, hl⟩ := ra.inv
  obtain ⟨_, _, _, rfl, ho', hs', hl'⟩ := rb.inv
  refine kat_lt ho rfl ho' rfl ?_
  rename_i items _ _ items'
  rw [show decide (items.size < items'.size) = false from decide_eq_false (by have := k.len; rw [hl.length, hl'.length] at this; simp only [Array.length_toList] at this; exact ar241 this)]
  exact katlex_ok k 0 hl hl' q
theorem lt_loop {a b na nb : Nat} {ia ib : Array Value} (ha : s.heap.get? a = some (listObj ia na)) (hb : s.heap.get? b = some (listObj ib nb)) {R : Result → Shared → Prop} {xs ys : List V} (k : LexOk xs ys) :
    ∀ i : Nat, ia.size = ib.size → VRelL B σ h xs (ia.toList.drop i) → VRelL B σ h ys (ib.toList.drop i) → R (.ok (.ret (.bool (lexLt xs ys)))) s → codeAny (model B.prog B.w) A (.builtin "list.__eq__.loop" ⟨[.ref a, .ref b, rawInt i, rawInt 0], []⟩) R s := by
  induction k with
  | nil =>
    intro i hz ra rb q
    have h1 : ia.size ≤ i := by have := ra.length; simp only [List.length_nil, List.length_drop, Array.length_toList] at this; exact ar242 this
    refine codeAny_builtin PySem.MeetsSeq3.entry_eq_loop ?_
    rw [Around.under_plainId PySem.MeetsSeq3.plain_eq_loop _]
    show wpAny _ A.in1 (Builtin.List.listItems (.ref a) >>= _) _ _ s
    refine wpAny_bind (listItems_at ha rfl (wpAny_bind (listItems_at hb rfl ?_)))
    rw [show ia[((i : Nat) : Int).toNat]? = none from by simp; exact ar2 h1, show ib[((i : Nat) : Int).toNat]? = none from by simp; exact ar243 hz h1]
    refine wpAny_bind (listItems_at ha rfl (wpAny_bind (listItems_at hb rfl (wpAny_pure ?_))))
    show R (.ok (.ret (.bool (decide (ia.size < ib.size))))) s
    rw [hz, show decide (ib.size < ib.size) = false from decide_eq_false (Nat.lt_irrefl _)]
    exact q
  | cons k r ih =>
    rename_i x y xs ys
    intro i hz ra rb q
    have hlt : i < ia.size := by have := ra.length; simp only [List.length_cons, List.length_drop, Array.length_toList] at this; exact ar244 this
    have hlt2 : i < ib.size := by exact ar39 hz hlt
    rw [List.drop_eq_getElem_cons (by simpa using hlt)] at ra
    rw [List.drop_eq_getElem_cons (by simpa using hlt2)] at rb
    cases ra with | cons a1 a2 =>
    cases rb with | cons b1 b2 =>
    rw [Array.getElem_toList] at a1 b1
    refine codeAny_builtin PySem.MeetsSeq3.entry_eq_loop ?_
    rw [Around.under_plainId PySem.MeetsSeq3.plain_eq_loop _]
    show wpAny _ A.in1 (Builtin.List.listItems (.ref a) >>= _) _ _ s
    refine wpAny_bind (listItems_at ha rfl (wpAny_bind (listItems_at hb rfl ?_)))
    have g1 : ia[((i : Nat) : Int).toNat]? = some ia[i] := by simp [hlt]
    have g2 : ib[((i : Nat) : Int).toNat]? = some ib[i] := by simp [hlt2]
    rw [g1, g2]
    refine wpAny_bind (eqBool_S k a1 b1 ?_)
    rw [lexLt] at q
    cases e : eqS x y with
    | true =>
      rw [if_pos e] at q
      rw [if_pos rfl]
      refine wpAny_pure ⟨plainId_quiet PySem.MeetsSeq3.plain_eq_loop _, ?_⟩
      have := ih (i + 1) hz a2 b2 q
      rw [show ((i : Int) + 1) = ((i + 1 : Nat) : Int) from by exact ar13]
      exact this
    | false =>
      rw [if_neg (by rw [e]; exact Bool.false_ne_true)] at q
      rw [if_neg Bool.false_ne_true]
      refine wpAny_bind (listItems_at ha rfl (wpAny_bind (listItems_at hb rfl ?_)))
      rw [g1, g2]
      exact wpAny_bind (lt_S k a1 b1 (wpAny_pure q))
theorem key_lst {xs ys : List V} {a b : Value} {Q : Bool → Shared → Prop} (k : LexOk xs ys) (ra : VRel B σ s.heap (.lst xs) a) (rb : VRel B σ s.heap (.lst ys) b) (hu : A.units < cLine) (q : Q (lexLt xs ys) s) : wpAny (model B.prog B.w) A (keyLt' oneType' a b) Q E s := by
  obtain ⟨_, _, _, rfl, ho, hs, hl⟩ := ra.inv
  obtain ⟨_, _, _, rfl, ho', hs', hl'⟩ := rb.inv
  rename_i a n items b n' items'
  rw [keyLt'_oneType, oneLt'_eq]
  simp only [if_true]
  refine wpAny_bind (wpAny_cRoomFor hu ?_)
  refine wpAny_bind (wpAny_callSpecialIfBound?_slot (T := "list") ⟨_, ho, rfl⟩ PySem.F.slot_list_lt (wpAny_call (codeAny_call_builtin PySem.F.slot_list_lt.plain PySem.F.entry_list_lt (PySem.F.slot_list_lt.check _ _ _ _ _ _ _ _ ⟨_, ho, rfl⟩ (PySem.F.args_list_lt_2 _ _) ?_))))
  show wpAny _ _ (isInstance (.ref b) (.type "list") >>= _) _ _ s
  refine wpAny_bind (wpAny_isInstance ⟨_, ho', rfl⟩ AutoSeq1.sub_list_list ?_)
  simp only [Bool.not_true, Bool.false_eq_true, if_false]
  refine wpAny_pure ⟨plainId_quiet PySem.MeetsSeq3.plain_eq_loop _, ?_⟩
  exact lt_loop ho ho' k 0 (by have := k.len; rw [hl.length, hl'.length] at this; simpa using this) hl hl' (wpAny_truthy_bool q)
end
end
noncomputable section
/-! sorted(xs) -/
section
variable {B : Cx} {σ : Store} {s : Shared} {A : Around} {E : Value → Shared → Prop}
theorem ok_ask {α : Type} {n : Nat} {lt : Nat → Nat → Bool} {cmp : Nat → Nat → (Bool → Shared → Prop) → Shared → Prop} {s : Shared} {G : α → Prop} {Q : α → Shared → Prop} (hc : ∀ i j C, i < n → j < n → C (lt i j) s → cmp i j C s) (hG : ∀ a, G a → Q a s) : ∀ t : KasT α, ok n lt t G → t.kasWp cmp Q s
  | .ret a, h => hG a h
  | .ask i j k, h => hc i j _ h.1 h.2.1 (ok_ask hc hG (k _) h.2.2)
theorem lsort_tree {O : KeyOrd} {key : Nat → O.α} {κ : SortKind} {a n : Nat} {vs : List Value} {P : Fin → Shared → Prop} (ho : s.heap.get? a = some (seqObj "list" vs.toArray n)) (h1 : 1 ≤ vs.length) (h64 : vs.length < 64)
    (kind : ∀ s' : Shared, (∀ b o, b ≠ a → s.heap.get? b = some o → s'.heap.get? b = some o) → 2 ≤ vs.length → ∀ Q, Q κ s' → wpAny (model B.prog B.w) A (keyKind' vs.toArray) Q E s')
    (lt : ∀ s' : Shared, (∀ b o, b ≠ a → s.heap.get? b = some o → s'.heap.get? b = some o) → ∀ i j C, i < vs.length → j < vs.length → C (ltK key i j) s' → wpAny (model B.prog B.w) A (keyLt' κ (vs.getD i .none) (vs.getD j .none)) C (fun _ _ => False) s')
    (h : ∀ p, Pm vs.length p → Chn key O.kle p vs.length → P (.done (.ret .none)) { s with heap := sortedHeap s.heap a vs (p.map (fun i => vs.getD i .none)) }) :
    wpAny (model B.prog B.w) A (Builtin.«list.sort» ⟨[.ref a], []⟩) P E s := by
  rw [list_sort_plain]
  have ha : a < s.heap.objs.size := Heap.lt_size ho
  have hsz : vs.toArray.size = vs.length := by simp
  refine wpAny_bind (listItems_at ho rfl (wpAny_bind (listUpdate_at ho rfl ?_ (by rw [hsz, sizeLine_eq]; exact ar20 h64) (Nat.zero_le _))))
  obtain ⟨e1, ho1⟩ : ∃ e1, (s.heap.update a (Obj.mapSeq fun _ => #[])).get? a = some (seqObj "list" #[] e1) := ⟨_, get?_update_seq ho (fun _ => #[])⟩
  refine wpAny_bind (seqEpoch_at ho1 rfl (wpAny_bind (wpAny_newTuple ?_ (by show vs.length ≤ _; rw [sizeLine_eq]; exact ar20 h64))))
  refine wpAny_bind (wpAny_newList ?_ (Nat.zero_le _))
  refine wpAny_holding ?_
  have ho6 : (((s.heap.update a (Obj.mapSeq fun _ => #[])).push (seqObj "tuple" vs.toArray 0)).push (seqObj "list" #[] 0)).get? a = some (seqObj "list" #[] e1) := Heap.get?_push_of_some _ (Heap.get?_push_of_some _ ho1)
  have hx : ∀ b o, b ≠ a → s.heap.get? b = some o → (((s.heap.update a (Obj.mapSeq fun _ => #[])).push (seqObj "tuple" vs.toArray 0)).push (seqObj "list" #[] 0)).get? b = some o := fun b o hb e => Heap.get?_push_of_some _ (Heap.get?_push_of_some _ ((Heap.get?_update_ne _ _ _ _ hb).trans e))
  show wpAny (model B.prog B.w) A _ P E { s with heap := ((s.heap.update a (Obj.mapSeq fun _ => #[])).push (seqObj "tuple" vs.toArray 0)).push (seqObj "list" #[] 0) }
  dsimp only
  have fin : ∀ (st' : SortSt) (p : Array Nat), Pm vs.length p → Chn key O.kle p vs.length → arrOf st' = p.map (kas_item (PyProof.Rows.pairsOf vs)) → P (.done (.ret .none)) { s with heap := sortedHeap s.heap a vs ((arrOf st').map (·.2)) } := by
    intro st' p hp c e
    rw [e, Array.map_map]
    have : (Prod.snd ∘ kas_item (PyProof.Rows.pairsOf vs)) = fun i => vs.getD i .none := funext fun i => by show (kas_item (PyProof.Rows.pairsOf vs) i).2 = _; rw [kas_item_eq]
    rw [this]
    exact h p hp c
  have outsz : ∀ (st' : SortSt) (p : Array Nat), Pm vs.length p → arrOf st' = p.map (kas_item (PyProof.Rows.pairsOf vs)) → ((arrOf st').map (·.2)).size ≤ sizeLine + 1 := by
    intro st' p hp e
    rw [e, Array.size_map, Array.size_map, hp.size, sizeLine_eq]; exact ar245 h64
  have hr : List.toArray (List.range (PyProof.Rows.pairsOf vs).size) = List.toArray (List.range vs.length) := by rw [PyProof.Rows.pairsOf_size]
  by_cases h2 : vs.toArray.size < 2
  · rw [if_pos h2, if_pos h2]
    refine wpAny_bind (wpAny_pure ?_)
    rw [StateT.run_pure]
    refine wpAny_bind (wpAny_pure ?_)
    dsimp only
    have hp : Pm vs.length (List.toArray (List.range vs.length)) := by unfold Pm; exact .refl _
    have e : arrOf (SortSt.mk' general' (vs.toArray.zip vs.toArray) #[] 7 none) = (List.toArray (List.range vs.length)).map (kas_item (PyProof.Rows.pairsOf vs)) := by rw [← hr]; exact (kas_range (PyProof.Rows.pairsOf vs)).symm
    refine wpAny_bind (seqEpoch_at ho6 rfl ?_)
    refine wpAny_bind (listUpdate_at ho6 rfl ?_ (Nat.zero_le _) (outsz _ _ hp e))
    simp only [bne_self_eq_false, Bool.false_eq_true, if_false]
    exact wpAny_pure (fin _ _ hp (.one KeyOrd.kle_refl (by exact ar246 h1 hsz h2)) e)
  · rw [if_neg h2, if_neg h2]
    refine wpAny_bind (kind _ hx (by exact ar70 h1 hsz h2) _ ?_)
    have est : SortSt.mk' κ (vs.toArray.zip vs.toArray) #[] 7 none = kas_st κ (PyProof.Rows.pairsOf vs) (List.toArray (List.range vs.length)) := by
      show SortSt.mk' κ (PyProof.Rows.pairsOf vs) #[] 7 none = SortSt.mk' κ ((List.toArray (List.range vs.length)).map (kas_item (PyProof.Rows.pairsOf vs))) #[] 7 none
      rw [← hr, kas_range]
    have run := kas_runs (prog := B.prog) (w := B.w) (A := A) (E := E) (κ := κ) (it := PyProof.Rows.pairsOf vs) (n := vs.length) (s := { s with heap := ((s.heap.update a (Obj.mapSeq fun _ => #[])).push (seqObj "tuple" vs.toArray 0)).push (seqObj "list" #[] 0) })
      (Q := fun _ st' s' => s' = { s with heap := ((s.heap.update a (Obj.mapSeq fun _ => #[])).push (seqObj "tuple" vs.toArray 0)).push (seqObj "list" #[] 0) } ∧ failedOf st' = none ∧ ∃ p : Array Nat, Pm vs.length p ∧ Chn key O.kle p vs.length ∧ arrOf st' = p.map (kas_item (PyProof.Rows.pairsOf vs)))
      (G := fun p s' => s' = { s with heap := ((s.heap.update a (Obj.mapSeq fun _ => #[])).push (seqObj "tuple" vs.toArray 0)).push (seqObj "list" #[] 0) } ∧ Pm vs.length p ∧ Chn key O.kle p vs.length)
      (by exact ar70 h1 hsz h2) h64 (fun p' st' s' a1 a2 a3 a4 => ⟨a4.1, a3, p', a4.2.1, a4.2.2, a2⟩) (by
        rw [← kas_ask_eq]
        exact ok_ask (fun i j C hi hj hC => lt _ hx i j C hi hj hC) (fun p hp => ⟨rfl, hp⟩) _ (sort_ok h1))
    rw [← est] at run
    refine wpAny_bind (wpAny_mono run ?_ fun _ _ e => e)
    rintro ⟨⟨⟩, st'⟩ s' ⟨rfl, hf, p, hp, c, e⟩
    dsimp only
    refine wpAny_bind (seqEpoch_at ho6 rfl ?_)
    refine wpAny_bind (listUpdate_at ho6 rfl ?_ (Nat.zero_le _) (outsz _ _ hp e))
    rw [hf]
    simp only [bne_self_eq_false, Bool.false_eq_true, if_false]
    exact wpAny_pure (fin _ _ hp c e)
theorem sorted_call {O : KeyOrd} {key : Nat → O.α} {κ : SortKind} {l : Nat} {vs : List Value} {Q : Value → Shared → Prop} (hl : s.heap.IsList l vs.toArray) (h1 : 1 ≤ vs.length) (h64 : vs.length < 64)
    (kind : ∀ s' : Shared, (∀ b o, s.heap.get? b = some o → s'.heap.get? b = some o) → 2 ≤ vs.length → ∀ Q, Q κ s' → wpAny (model B.prog B.w) A.in1.in1 (keyKind' vs.toArray) Q E s')
    (lt : ∀ s' : Shared, (∀ b o, s.heap.get? b = some o → s'.heap.get? b = some o) → ∀ i j C, i < vs.length → j < vs.length → C (ltK key i j) s' → wpAny (model B.prog B.w) A.in1.in1 (keyLt' κ (vs.getD i .none) (vs.getD j .none)) C (fun _ _ => False) s')
    (h : ∀ p, Pm vs.length p → Chn key O.kle p vs.length → Q (.ref (s.heap.objs.size + 1)) { s with heap := sortedAll s.heap vs (p.map (fun i => vs.getD i .none)) }) :
    wpAny (model B.prog B.w) A (call (.builtin "sorted") [.ref l]) Q E s := by
  refine Calls.call_function_entry kind_sorted plain_sorted entry_sorted (args_sorted1 _) ?_
  unfold Builtin.«sorted»
  refine wpAny_bind (m := checkCount "sorted" 1 1 _) (wpAny_pure (wpAny_bind (collect_list hl ?_ (by rw [sizeLine_eq]; exact ar20 h64))))
  refine wpAny_bind (wpAny_newList ?_ (by show vs.length ≤ _; rw [sizeLine_eq]; exact ar20 h64))
  have hsz : ((s.heap.push (seqObj "list" #[] 0)).update s.heap.objs.size (Obj.mapSeq (· ++ vs.toArray))).objs.size = s.heap.objs.size + 1 := by rw [Heap.size_update, size_push']
  have hoL : (((s.heap.push (seqObj "list" #[] 0)).update s.heap.objs.size (Obj.mapSeq (· ++ vs.toArray))).push (seqObj "list" vs.toArray 0)).get? (s.heap.objs.size + 1) = some (seqObj "list" vs.toArray 0) := by
    rw [← hsz]; exact Heap.get?_push_size _ rfl
  have hx : ∀ b o, s.heap.get? b = some o → (((s.heap.push (seqObj "list" #[] 0)).update s.heap.objs.size (Obj.mapSeq (· ++ vs.toArray))).push (seqObj "list" vs.toArray 0)).get? b = some o := fun b o e =>
    Heap.get?_push_of_some _ ((Heap.get?_update_ne _ _ _ _ (Nat.ne_of_lt (Heap.lt_size e))).trans (Heap.get?_push_of_some _ e))
  show wpAny _ _ _ _ _ { s with heap := ((s.heap.push (seqObj "list" #[] 0)).update s.heap.objs.size (Obj.mapSeq (· ++ vs.toArray))).push (seqObj "list" vs.toArray 0) }
  rw [hsz]
  refine wpAny_bind (wpAny_holding (wpAny_call_entry slot_list_sort ⟨_, hoL, rfl⟩ entry_list_sort (lsort_tree hoL h1 h64 (fun s' k => kind s' fun b o e => k b o (Nat.ne_of_lt (Nat.lt_succ_of_lt (Heap.lt_size e))) (hx b o e)) (fun s' k => lt s' fun b o e => k b o (Nat.ne_of_lt (Nat.lt_succ_of_lt (Heap.lt_size e))) (hx b o e)) fun p a1 a2 => ⟨_, rfl, ?_⟩) (args_list_sort _)))
  exact wpAny_pure ⟨_, rfl, h p a1 a2⟩
theorem size_sortedAll (h : Heap) (vs : List Value) (out : Array Value) : h.objs.size ≤ (sortedAll h vs out).objs.size := by
  unfold sortedAll sortedHeap
  simp only [Heap.size_update, size_push']
  exact ar247
end
section
variable {B : Cx} {d : Nat} {σ : Store} {N : Nat} {u : V} {xs : List V} {Q : Post V}
/-- what `sorted` makes of `xs` -/
noncomputable def IsSorted (xs zs : List V) : Prop := zs.Perm xs ∧ zs.Pairwise (fun a b => ¬ kl b < kl a)
theorem perm_map {n : Nat} {p : Array Nat} (hp : Pm n p) {α : Type} (f : Nat → α) : (p.toList.map f).Perm ((List.range n).map f) := List.Perm.map f hp
theorem map_range {α : Type} (l : List α) (d : α) : (List.range l.length).map (fun i => l.getD i d) = l := by
  apply List.ext_getElem (by simp)
  intro i h1 h2
  simp [h2]
theorem VRelL.mapAt {h : Heap} {vs : List Value} (r : VRelL B σ h xs vs) : ∀ is : List Nat, (∀ i ∈ is, i < xs.length) → VRelL B σ h (is.map fun i => xs.getD i .none) (is.map fun i => vs.getD i .none)
  | [], _ => .nil
  | i :: is, k => by
    have hi := k i (.head _)
    obtain ⟨b, e, rb⟩ := r.get (List.getElem?_eq_getElem hi)
    refine .cons ?_ (r.mapAt is fun j hj => k j (.tail _ hj))
    show VRel B σ h (xs.getD i .none) (vs.getD i .none)
    rw [List.getD_eq_getElem?_getD, List.getD_eq_getElem?_getD, e, List.getElem?_eq_getElem hi]
    exact rb
theorem bSorted {κ : SortKind} (hs : ListV σ u xs) (h1 : 1 ≤ xs.length) (h64 : xs.length < 64)
    (kind : ∀ (s' : Shared) (vs : List Value) A E Q, VRelL B σ s'.heap xs vs → 2 ≤ vs.length → Q κ s' → wpAny (model B.prog B.w) A (keyKind' vs.toArray) Q E s')
    (lt : ∀ (s' : Shared) A x y a b Q, x ∈ xs → y ∈ xs → VRel B σ s'.heap x a → VRel B σ s'.heap y b → A.units < cLine → Q (decide (kl x < kl y)) s' → wpAny (model B.prog B.w) A (keyLt' κ a b) Q (fun _ _ => False) s')
    (h : ∀ zs, IsSorted xs zs → Q (.lst zs) σ N) : Need (WC B d (.builtin "sorted") [u] σ N Q) := ⟨fun A s as k I r => by
  obtain ⟨_, _, rfl, r1, r2⟩ := r.cons'
  obtain rfl := r2.nil'
  obtain ⟨a, items, n, rfl, ho, rl⟩ := hs.at I r1
  obtain ⟨vs⟩ := items
  have rl : VRelL B σ s.heap xs vs := rl
  have hlen := rl.length
  have room := k.room
  refine sorted_call (O := LL) (key := fun i => kl (xs.getD i .none)) (κ := κ) (vs := vs) ⟨_, ho, rfl, n, rfl⟩ (by exact ar248 h1 hlen) (by exact ar249 h64 hlen) ?_ ?_ ?_
  · intro s' hx h2 Q q
    exact kind s' vs _ _ Q (rl.mono (.grow hx)) h2 q
  · intro s' hx i j C hi hj hC
    have g : ∀ i, i < vs.length → (xs.getD i .none) ∈ xs ∧ VRel B σ s'.heap (xs.getD i .none) (vs.getD i .none) := fun i hi => by
      have hi' : i < xs.length := by exact ar40 hlen hi
      obtain ⟨b, e, rb⟩ := (rl.mono (.grow hx : Step σ s.heap σ s'.heap)).get (List.getElem?_eq_getElem hi')
      rw [List.getD_eq_getElem?_getD, List.getD_eq_getElem?_getD, e, List.getElem?_eq_getElem hi']
      exact ⟨List.getElem_mem .., rb⟩
    exact lt s' _ _ _ _ _ C (g i hi).1 (g j hj).1 (g i hi).2 (g j hj).2 (by show A.units + 1 + 1 < 9900; exact ar250 room) hC
  · intro p hp c
    have hx : ∀ b o, s.heap.get? b = some o → (sortedAll s.heap vs (p.map fun i => vs.getD i .none)).get? b = some o := fun b o e => sortedAll_old e
    have I' : Inv B σ N { s with heap := sortedAll s.heap vs (p.map fun i => vs.getD i .none) } := I.grow hx (size_sortedAll ..) rfl rfl
    obtain ⟨e, he⟩ := sortedAll_at s.heap vs (p.map fun i => vs.getD i .none)
    have lt_n : ∀ i ∈ p.toList, i < xs.length := fun i hi => by rw [hlen]; exact List.mem_range.mp (hp.mem_iff.mp hi)
    have fr : Free σ (s.heap.objs.size + 1) := ⟨by
        cases q : σ (s.heap.objs.size + 1) with
        | none => rfl
        | some o => have := I.top _ _ q; have := I.size; lia, fun q => by have := (I.marks _ q).1; exact ar251 this⟩
    refine .here I' (.grow hx) (.lst (n := e) (items := p.map fun i => vs.getD i .none) he fr ?_) (h (p.toList.map fun i => xs.getD i .none) ⟨?_, ?_⟩)
    · rw [Array.toList_map]
      exact (rl.mono (.grow hx)).mapAt _ lt_n
    · have := perm_map hp (fun i => xs.getD i V.none)
      rw [← hlen, map_range] at this
      exact this
    · rw [List.pairwise_map, List.pairwise_iff_getElem]
      intro i j hi hj hij
      have hz := hp.size
      simp only [Array.length_toList] at hi hj
      have := c i j (Nat.le_of_lt hij) (by exact ar252 hlen hj hz)
      have e1 : p.getD i 0 = p.toList[i] := by simp [Array.getD, hi]
      have e2 : p.getD j 0 = p.toList[j] := by simp [Array.getD, hj]
      unfold KeyOrd.kle kk at this
      rw [e1, e2] at this
      exact of_decide_eq_false this⟩
theorem bSortS {ss : List Str} (hs : ListV σ u (ss.map V.str)) (h1 : 1 ≤ ss.length) (h64 : ss.length < 64) (h : ∀ zs, IsSorted (ss.map V.str) zs → Q (.lst zs) σ N) : Need (WC B d (.builtin "sorted") [u] σ N Q) := by
  refine bSorted (κ := oneType') hs (by simpa using h1) (by simpa using h64) ?_ ?_ h
  · intro s' vs A E Q r h2 q
    have := r.strs
    obtain ⟨v₁, v₂, rest, rfl⟩ : ∃ v₁ v₂ rest, vs = v₁ :: v₂ :: rest := by
      match vs, h2 with
      | v₁ :: v₂ :: rest, _ => exact ⟨v₁, v₂, rest, rfl⟩
    exact wpAny_of_eq (keyKind_strs this) q
  · intro s' A x y a b Q hx hy ra rb hu q
    obtain ⟨x, _, rfl⟩ := List.mem_map.mp hx
    obtain ⟨y, _, rfl⟩ := List.mem_map.mp hy
    obtain ⟨_, rfl⟩ := ra.inv; obtain ⟨_, rfl⟩ := rb.inv
    rw [keyLt'_oneType]
    refine oneLt_str ?_
    have : decide (kl (.str x) < kl (.str y)) = decide (x.cps.toList < y.cps.toList) := by
      show decide ([x.cps.toList] < [y.cps.toList]) = _
      rw [decide_eq_decide, List.cons_lt_cons_iff]
      exact ⟨fun e => e.elim id fun e => absurd e.2 (List.lt_irrefl _), .inl⟩
    rw [this] at q; exact q
theorem bSortL {rows : List (List V)} (hs : ListV σ u (rows.map V.lst)) (hk : ∀ x ∈ rows, ∀ y ∈ rows, LexOk x y) (hp : ∀ x ∈ rows, ∀ y ∈ x, NonNeg y) (h1 : 1 ≤ rows.length) (h64 : rows.length < 64) (h : ∀ zs, IsSorted (rows.map V.lst) zs → Q (.lst zs) σ N) : Need (WC B d (.builtin "sorted") [u] σ N Q) := by
  refine bSorted (κ := oneType') hs (by simpa using h1) (by simpa using h64) ?_ ?_ h
  · intro s' vs A E Q r h2 q
    refine kas_kind (T := .type "list") h2 (fun v hv => ?_) (by decide) (by decide) q
    obtain ⟨i, hi, rfl⟩ := List.getElem_of_mem hv
    obtain ⟨a, ea, ra⟩ := r.get' (List.getElem?_eq_getElem hi)
    obtain ⟨row, _, rfl⟩ := List.mem_map.mp (List.mem_of_getElem? ea)
    generalize vs[i] = v at ra
    cases ra with | lst ho _ _ =>
    exact (Looks.ld ho).andThen .now
  · intro s' A x y a b Q hx hy ra rb hu q
    obtain ⟨x, mx, rfl⟩ := List.mem_map.mp hx
    obtain ⟨y, my, rfl⟩ := List.mem_map.mp hy
    exact key_lst (hk _ mx _ my) ra rb hu (by rw [lexLt_kl (hk _ mx _ my) (hp _ mx) (hp _ my)]; exact q)
theorem katTups {h : Heap} : ∀ {rows : List (V × List V)} {vs : List Value}, VRelL B σ h (rows.map fun p => V.tup (p.1 :: p.2)) vs → ∃ fs, KatTups h vs fs ∧ VRelL B σ h (rows.map (·.1)) fs
  | [], _, .nil => ⟨[], .nil, .nil⟩
  | p :: r, _, .cons a b => by
    obtain ⟨fs, k, rf⟩ := katTups b
    cases a with | tup ho hs2 hl =>
    rename_i ad n items
    obtain ⟨l⟩ := items
    have hl : VRelL B σ h (p.1 :: p.2) l := hl
    cases hl with | cons h1 h2 => exact ⟨_, .cons ho rfl rfl rfl k, .cons h1 rf⟩
theorem bSortT {T : String} {rows : List (V × List V)} (hs : ListV σ u (rows.map fun p => V.tup (p.1 :: p.2))) (hT : T ≠ "tuple" ∧ ∀ p ∈ rows, ∀ (h : Heap) v, VRel B σ h p.1 v → typeOf v = pure (.type T)) (hk : ∀ x ∈ rows, ∀ y ∈ rows, LexOk (x.1 :: x.2) (y.1 :: y.2)) (hp : ∀ x ∈ rows, ∀ y ∈ x.1 :: x.2, NonNeg y) (h1 : 1 ≤ rows.length) (h64 : rows.length < 64)
    (h : ∀ zs, IsSorted (rows.map fun p => V.tup (p.1 :: p.2)) zs → Q (.lst zs) σ N) : Need (WC B d (.builtin "sorted") [u] σ N Q) := by
  refine bSorted (κ := tuples' (Value.type T != Value.type "tuple")) hs (by simpa using h1) (by simpa using h64) ?_ ?_ h
  · intro s' vs A E Q r h2 q
    obtain ⟨fs, k, rf⟩ := katTups r
    have hl := rf.length
    have hl2 := r.length
    simp only [List.length_map] at hl hl2
    refine kat_kind (T := .type T) k (by exact ar253 h1 hl) (fun v hv => ?_) (by simp) q
    obtain ⟨i, hi, rfl⟩ := List.getElem_of_mem hv
    obtain ⟨a, ea, ra⟩ := rf.get' (List.getElem?_eq_getElem hi)
    obtain ⟨p, mp, rfl⟩ := List.mem_map.mp (List.mem_of_getElem? ea)
    exact Looks.of_pure (hT.2 p mp _ _ ra)
  · intro s' A x y a b Q hx hy ra rb hu q
    obtain ⟨x, mx, rfl⟩ := List.mem_map.mp hx
    obtain ⟨y, my, rfl⟩ := List.mem_map.mp hy
    exact key_tup (hk _ mx _ my) ra rb (by rw [lexLt_kl (hk _ mx _ my) (hp _ mx) (hp _ my)]; exact q)
end
end
noncomputable section
/-! comprehensions that change nothing -/
section
variable {B : Cx} {R : Rec} {env : Env} {target : Expr} {ifs : List Expr} {scope : Scope} {cl : List (Str × Nat)} {σ₁ : Store} {N₁ : Nat} {K : Post V} {x : V}
theorem VComp.list {elt : Expr} {n : Nat} {item : Nat → V} {Dep : Store → Prop} (it : IterOk B (isMany target) x σ₁ n item Dep) (hD : ∀ a C, Dep ((σ₁.add a).add C)) (f : Nat → List V) (h0 : f 0 = [])
    (turn : ∀ a C i N', i < n → N₁ ≤ N' → vAs (compEnvC scope cl C env) target (item i) [] ((σ₁.add a).add C) N' fun l σ' N' => vTs R (compEnvC scope cl C env) ifs l σ' N' fun ok σ₂ N₂ =>
      VIf ok (vactL R elt (compEnvC scope cl C env) l σ₂ N₂ (.list (f i)) fun o σ _ => o = .list (f (i + 1)) ∧ σ = (σ₁.add a).add C) (AObj.list (f i) = .list (f (i + 1)) ∧ σ₂ = (σ₁.add a).add C))
    (fin : ∀ N', N₁ ≤ N' → K (.lst (f n)) σ₁ N') : VComp B R env (vactL R elt) (.list []) target ifs scope cl σ₁ N₁ K x :=
  .mk it fun a C ha hC => ⟨fun i o σ _ => o = .list (f i) ∧ σ = (σ₁.add a).add C, ⟨by rw [h0], rfl⟩, fun i o σ N h => by rw [h.2]; exact hD a C, fun i o σ N hi h hN => by obtain ⟨rfl, rfl⟩ := h; exact turn a C i N hi hN,
    fun o σ N h hN => by obtain ⟨rfl, rfl⟩ := h; exact ⟨_, .list _, fin N hN⟩⟩
theorem VComp.dict {kx vx : Expr} {n : Nat} {item : Nat → V} {Dep : Store → Prop} (it : IterOk B (isMany target) x σ₁ n item Dep) (hD : ∀ a C, Dep ((σ₁.add a).add C)) (f : Nat → Dk) (h0 : f 0 = [])
    (turn : ∀ a C i N' ep, i < n → N₁ ≤ N' → vAs (compEnvC scope cl C env) target (item i) [] ((σ₁.add a).add C) N' fun l σ' N' => vTs R (compEnvC scope cl C env) ifs l σ' N' fun ok σ₂ N₂ =>
      VIf ok (vactD R kx vx (compEnvC scope cl C env) l σ₂ N₂ (.dict (f i) ep) fun o σ _ => (∃ ep', o = .dict (f (i + 1)) ep') ∧ σ = (σ₁.add a).add C) ((∃ ep', AObj.dict (f i) ep = .dict (f (i + 1)) ep') ∧ σ₂ = (σ₁.add a).add C))
    (fin : ∀ N', N₁ ≤ N' → K (.dct (f n)) σ₁ N') : VComp B R env (vactD R kx vx) (.dict [] 0) target ifs scope cl σ₁ N₁ K x :=
  .mk it fun a C ha hC => ⟨fun i o σ _ => (∃ ep, o = .dict (f i) ep) ∧ σ = (σ₁.add a).add C, ⟨⟨0, by rw [h0]⟩, rfl⟩, fun i o σ N h => by rw [h.2]; exact hD a C, fun i o σ N hi h hN => by obtain ⟨⟨ep, rfl⟩, rfl⟩ := h; exact turn a C i N ep hi hN,
    fun o σ N h hN => by obtain ⟨⟨ep, rfl⟩, rfl⟩ := h; exact ⟨_, .dict _ _, fin N hN⟩⟩
end
end
noncomputable section
/-! what slices pick -/
theorem range_one {a b : Nat} : sliceRange (a : Int) (b : Int) 1 = (List.range (b - a)).map fun k => a + k := by
  have e : (if (1 : Int) > 0 then (if (a : Int) < b then ((b : Int) - a + 1 - 1) / 1 else 0) else (if (a : Int) > b then ((a : Int) - b - 1 - 1) / (-1) else 0)).toNat = b - a := by
    rw [if_pos (by decide)]
    split <;> simp <;> lia
  unfold sliceRange
  dsimp only
  rw [e]
  refine List.map_congr_left fun k _ => ?_
  exact ar254
theorem fm_take {α : Type} (xs : List α) (a m : Nat) : ((List.range m).map fun k => a + k).filterMap (xs[·]?) = (xs.drop a).take m := by
  rw [List.filterMap_map]
  induction m generalizing a with
  | zero => simp
  | succ m ih =>
    rw [List.range_succ, List.filterMap_append, ih, List.take_add_one, List.getElem?_drop]
    congr 1
theorem lpick_is (xs : List V) (lo hi : Option Int) : lpick xs lo hi none = (xs.drop (kms_lo lo xs.length)).take (kms_hi hi xs.length - kms_lo lo xs.length) := by
  unfold lpick
  rw [kms_bounds, range_one, fm_take]
theorem kms_nat (a n : Nat) : kms_lo (some (a : Int)) n = min a n ∧ kms_hi (some (a : Int)) n = min a n := by
  have h : ¬ ((a : Int) < 0) := by exact ar255
  unfold kms_lo kms_hi
  simp only [h, if_false, Int.toNat_natCast, and_self]
theorem lpick_from (xs : List V) (a : Nat) : lpick xs (some a) none none = xs.drop a := by
  rw [lpick_is, (kms_nat a _).1]
  by_cases h : a ≤ xs.length
  · rw [Nat.min_eq_left h]; exact List.take_of_length_le (by rw [List.length_drop]; exact Nat.le_refl _)
  · rw [Nat.min_eq_right (by exact ar21 h), List.drop_length, List.drop_of_length_le (by exact ar21 h), List.take_nil]
theorem lpick_to (xs : List V) (a : Nat) : lpick xs none (some a) none = xs.take a := by
  rw [lpick_is, (kms_nat a _).2]
  show (xs.drop 0).take (min a xs.length - 0) = _
  rw [List.drop_zero, Nat.sub_zero]
  by_cases h : a ≤ xs.length
  · rw [Nat.min_eq_left h]
  · rw [Nat.min_eq_right (by exact ar21 h), List.take_of_length_le (Nat.le_refl _), List.take_of_length_le (by exact ar21 h)]
theorem slice_is (x : Str) (lo hi : Option Int) : (Txt.slice x lo hi).cps.toList = (x.cps.toList.drop (kms_lo lo x.length)).take (kms_hi hi x.length - kms_lo lo x.length) := by
  have e : Builtin.Str.strSliceIndices lo hi 1 x.length = (List.range (kms_hi hi x.length - kms_lo lo x.length)).map fun k => kms_lo lo x.length + k := by
    rw [← range_one]
    have : Builtin.Str.strSliceIndices lo hi 1 x.length = sliceRange (sliceBounds lo hi none x.length).1 (sliceBounds lo hi none x.length).2.1 1 := by cases lo <;> cases hi <;> rfl
    rw [this, kms_bounds]
  have g : ∀ is : List Nat, is.filterMap (x.cps[·]?) = is.filterMap (x.cps.toList[·]?) := fun is => by congr 1; funext i; rw [Array.getElem?_toList]
  have main : (x.cps.toList.drop (kms_lo lo x.length)).take (kms_hi hi x.length - kms_lo lo x.length) = (Builtin.Str.strSliceIndices lo hi 1 x.length).filterMap (x.cps[·]?) := by rw [g, e, fm_take]
  unfold Txt.slice
  split
  · rename_i h
    have h : (Builtin.Str.strSliceIndices lo hi 1 x.length).length = x.length := by simpa using h
    have hk : kms_hi hi x.length - kms_lo lo x.length = x.length := by rw [e] at h; simpa using h
    have hle : kms_hi hi x.length ≤ x.length := by
      unfold kms_hi
      split
      · exact Nat.le_refl _
      · split <;> lia
    by_cases h0 : x.length = 0
    · have : x.cps.toList = [] := List.eq_nil_of_length_eq_zero (by rw [Array.length_toList]; exact h0)
      rw [this, List.drop_nil, List.take_nil]
    rw [hk, show kms_lo lo x.length = 0 by exact ar256 hk hle h0, List.drop_zero, List.take_of_length_le (by rw [Array.length_toList]; exact Nat.le_refl _)]
  · rw [main]
end
noncomputable section
/-! what the heap's functions compute -/
noncomputable def ltT : V → V → Bool
  | .tup a, .tup b => lexLt a b
  | _, _ => false
/-- `_siftdown`'s turns -/
noncomputable def sdGo (lt : V → V → Bool) (new : V) (start : Nat) : Nat → Nat → List V → List V
  | 0, pos, xs => xs.set pos new
  | f + 1, pos, xs => if start < pos then
      match xs[(pos - 1) / 2]? with
      | some p => if lt new p = true then sdGo lt new start f ((pos - 1) / 2) (xs.set pos p) else xs.set pos new
      | none => xs
    else xs.set pos new
noncomputable def sd (xs : List V) (start pos : Nat) : List V := match xs[pos]? with
  | some new => sdGo ltT new start pos pos xs
  | none => xs
/-- `_siftup`'s first loop: the hole goes down to a leaf -/
noncomputable def suGo (lt : V → V → Bool) : Nat → Nat → List V → Nat × List V
  | 0, pos, xs => (pos, xs)
  | f + 1, pos, xs => if 2 * pos + 1 < xs.length then
      let c := if 2 * pos + 2 < xs.length ∧ lt (xs.getD (2 * pos + 1) .none) (xs.getD (2 * pos + 2) .none) = false then 2 * pos + 2 else 2 * pos + 1
      suGo lt f c (xs.set pos (xs.getD c .none))
    else (pos, xs)
noncomputable def su (xs : List V) (new : V) : List V := sd ((suGo ltT xs.length 0 xs).2.set (suGo ltT xs.length 0 xs).1 new) 0 (suGo ltT xs.length 0 xs).1
/-- `heappop`: what is handed out, what is left -/
noncomputable def hpop (xs : List V) : V × List V := match xs.dropLast with
  | [] => (xs.getLastD .none, [])
  | x :: r => (x, su (xs.getLastD .none :: r) (xs.getLastD .none))
end
noncomputable section
/-! the heap's functions keep a heap -/
noncomputable abbrev gd (xs : List V) (i : Nat) : V := xs.getD i .none
theorem gd_set (xs : List V) (i j : Nat) (v : V) (h : i < xs.length) : gd (xs.set i v) j = if i = j then v else gd xs j := by
  unfold gd
  rw [List.getD_eq_getElem?_getD, List.getD_eq_getElem?_getD, List.getElem?_set]
  by_cases e : i = j
  · rw [if_pos e, if_pos e, if_pos (e ▸ h)]; rfl
  · rw [if_neg e, if_neg e]
theorem get_gd {xs : List V} {i : Nat} (h : i < xs.length) : xs[i]? = some (gd xs i) := by unfold gd; rw [List.getD_eq_getElem?_getD, List.getElem?_eq_getElem h]; rfl
theorem swap_perm (xs : List V) {p q : Nat} (v : V) (hp : p < xs.length) (hq : q < xs.length) (h : p ≠ q) : ((xs.set p (gd xs q)).set q v).Perm (xs.set p v) := by
  have := List.set_set_perm (as := xs.set p v) (i := p) (j := q) (by simpa using hp) (by simpa using hq)
  rw [List.set_set, List.getElem_set_ne h, List.getElem_set_self] at this
  have e : gd xs q = xs[q] := by unfold gd; rw [List.getD_eq_getElem?_getD, List.getElem?_eq_getElem hq]; rfl
  rw [e]; exact this
noncomputable def le (x y : V) : Prop := ¬ kl y < kl x
theorem le_refl (x : V) : le x x := List.lt_irrefl _
theorem le_trans {x y z : V} (h : le x y) (k : le y z) : le x z := KeyOrd.kle_trans (O := LL) (a := kl x) (b := kl y) (c := kl z) (decide_eq_false h) (decide_eq_false k) |> of_decide_eq_false
theorem le_of_lt {x y : V} (h : kl x < kl y) : le x y := List.lt_asymm h
/-- of one kind -/
noncomputable def Kind (xs : List V) : Prop := ∀ x ∈ xs, ∀ y ∈ xs, ltT x y = decide (kl x < kl y)
theorem Kind.perm {xs ys : List V} (k : Kind xs) (p : ys.Perm xs) : Kind ys := fun x hx y hy => k x (p.mem_iff.mp hx) y (p.mem_iff.mp hy)
theorem Kind.gd {xs : List V} (k : Kind xs) {i j : Nat} (hi : i < xs.length) (hj : j < xs.length) : ltT (gd xs i) (gd xs j) = decide (kl (gd xs i) < kl (gd xs j)) := k _ (List.mem_of_getElem? (get_gd hi)) _ (List.mem_of_getElem? (get_gd hj))
/-- a heap, but for what stands above the place `p` -/
structure HB (xs : List V) (p : Nat) : Prop where
  a : ∀ i, 0 < i → i < xs.length → i ≠ p → le (gd xs ((i - 1) / 2)) (gd xs i)
  b : ∀ c, 0 < c → c < xs.length → (c - 1) / 2 = p → 0 < p → le (gd xs ((p - 1) / 2)) (gd xs c)
noncomputable def Hp (xs : List V) : Prop := ∀ i, 0 < i → i < xs.length → le (gd xs ((i - 1) / 2)) (gd xs i)
theorem sdGo_ok (new : V) : ∀ (f p : Nat) (xs : List V), p ≤ f → p < xs.length → Kind (xs.set p new) → HB (xs.set p new) p → (sdGo ltT new 0 f p xs).Perm (xs.set p new) ∧ Hp (sdGo ltT new 0 f p xs) := by
  intro f
  induction f with
  | zero => intro p xs hf hp k h; have : p = 0 := by exact ar257 hf
            subst this; exact ⟨.refl _, fun i h0 hi => h.a i h0 hi (by exact ar258 h0)⟩
  | succ f ih =>
    intro p xs hf hp k h
    rw [sdGo]
    by_cases h0 : 0 < p
    case neg =>
      rw [if_neg h0]
      exact ⟨.refl _, fun i a hi => h.a i a hi (by exact ar259 h0 a)⟩
    rw [if_pos h0]
    have hq : (p - 1) / 2 < xs.length := by exact ar260 hp h0
    have hne : (p - 1) / 2 ≠ p := by exact ar261 h0
    rw [get_gd hq]
    dsimp only
    have e1 : gd (xs.set p new) p = new := by rw [gd_set _ _ _ _ hp, if_pos rfl]
    have e2 : gd (xs.set p new) ((p - 1) / 2) = gd xs ((p - 1) / 2) := by rw [gd_set _ _ _ _ hp, if_neg (Ne.symm hne)]
    have hlt : ltT new (gd xs ((p - 1) / 2)) = decide (kl new < kl (gd xs ((p - 1) / 2))) := by
      have := k.gd (i := p) (j := (p - 1) / 2) (by simpa using hp) (by simpa using hq)
      rwa [e1, e2] at this
    by_cases c : kl new < kl (gd xs ((p - 1) / 2))
    · rw [if_pos (by rw [hlt]; exact decide_eq_true c)]
      have sw := swap_perm xs new hp hq (Ne.symm hne)
      have hq' : (p - 1) / 2 < (xs.set p (gd xs ((p - 1) / 2))).length := by simpa using hq
      have g : ∀ i, gd ((xs.set p (gd xs ((p - 1) / 2))).set ((p - 1) / 2) new) i = if (p - 1) / 2 = i then new else if p = i then gd xs ((p - 1) / 2) else gd xs i := fun i => by rw [gd_set _ _ _ _ hq', gd_set _ _ _ _ hp]
      have g0 : ∀ i, gd (xs.set p new) i = if p = i then new else gd xs i := fun i => gd_set _ _ _ _ hp
      have r := ih ((p - 1) / 2) (xs.set p (gd xs ((p - 1) / 2))) (by exact ar262 hf h0 hne) (by simpa using hq) (k.perm sw) ⟨?_, ?_⟩
      · exact ⟨r.1.trans sw, r.2⟩
      · intro i hi hl hip
        have hl : i < (xs.set p new).length := by simpa using hl
        rw [g, g, if_neg (Ne.symm hip)]
        by_cases ei : p = i
        · rw [if_pos ei, ← ei, if_pos rfl]; exact le_of_lt c
        · rw [if_neg ei]
          have ha := h.a i hi hl (Ne.symm ei)
          rw [g0, g0, if_neg ei] at ha
          by_cases e3 : (p - 1) / 2 = (i - 1) / 2
          · rw [if_pos e3]
            rw [← e3, if_neg (Ne.symm hne)] at ha
            exact le_trans (le_of_lt c) ha
          · rw [if_neg e3]
            by_cases e4 : p = (i - 1) / 2
            · rw [if_pos e4]
              have hb := h.b i hi hl e4.symm h0
              rw [g0, g0, if_neg ei, if_neg (Ne.symm hne)] at hb
              exact hb
            · rw [if_neg e4]; rw [if_neg e4] at ha; exact ha
      · intro j hj hl hjp hpp
        have hl : j < (xs.set p new).length := by simpa using hl
        rw [g, g, if_neg (by exact ar263 hpp), if_neg (by exact ar71 h0 hpp), if_neg (by exact ar264 hjp hpp)]
        have hpar := h.a ((p - 1) / 2) hpp (by simpa using hq) hne
        rw [g0, g0, if_neg (by exact ar71 h0 hpp), if_neg (Ne.symm hne)] at hpar
        by_cases ej : p = j
        · rw [if_pos ej]; exact hpar
        · rw [if_neg ej]
          have ha := h.a j hj hl (Ne.symm ej)
          rw [g0, g0, if_neg ej, hjp, if_neg (Ne.symm hne)] at ha
          exact le_trans hpar ha
    · rw [if_neg (by rw [hlt, decide_eq_false c]; exact Bool.false_ne_true)]
      refine ⟨.refl _, fun i hi hl => ?_⟩
      by_cases ei : i = p
      · subst ei; rw [e1, e2]; exact c
      · exact h.a i hi hl ei
theorem sd_ok {xs : List V} {p : Nat} (hp : p < xs.length) (k : Kind xs) (h : HB xs p) : (sd xs 0 p).Perm xs ∧ Hp (sd xs 0 p) := by
  have e : xs.set p (gd xs p) = xs := by
    apply List.ext_getElem? 
    intro i
    rw [List.getElem?_set]
    split
    · rename_i z; subst z; first | exact (get_gd hp).symm | (rw [if_pos hp]; exact (get_gd hp).symm)
    · rfl
  unfold sd
  rw [get_gd hp]
  have := sdGo_ok (gd xs p) p p xs (Nat.le_refl _) hp (by rw [e]; exact k) (by rw [e]; exact h)
  rwa [e] at this
theorem gd_app {xs : List V} {v : V} {i : Nat} (h : i < xs.length) : gd (xs ++ [v]) i = gd xs i := by
  unfold gd; rw [List.getD_eq_getElem?_getD, List.getD_eq_getElem?_getD, List.getElem?_append_left h]
theorem push_ok {xs : List V} {v : V} (k : Kind (xs ++ [v])) (h : Hp xs) : (sd (xs ++ [v]) 0 xs.length).Perm (xs ++ [v]) ∧ Hp (sd (xs ++ [v]) 0 xs.length) := by
  refine sd_ok (by simp) k ⟨fun i h0 hl hi => ?_, fun c h0 hl hc _ => ?_⟩
  · have hl : i < xs.length := by simp at hl; exact ar265 hi hl
    rw [gd_app hl, gd_app (by exact ar266 h0 hl)]
    exact h i h0 hl
  · simp at hl; lia
/-- the hole goes down -/
structure HH (xs : List V) (p : Nat) : Prop where
  a : ∀ i, 0 < i → i < xs.length → i ≠ p → (i - 1) / 2 ≠ p → le (gd xs ((i - 1) / 2)) (gd xs i)
  b : ∀ c, 0 < c → c < xs.length → (c - 1) / 2 = p → 0 < p → le (gd xs ((p - 1) / 2)) (gd xs c)
theorem suGo_ok (new : V) : ∀ (f p : Nat) (xs : List V), xs.length ≤ p + f → p < xs.length → Kind (xs.set p new) → (∀ i, i < xs.length → i ≠ p → gd xs i ∈ xs.set p new) → HH xs p →
    (suGo ltT f p xs).1 < xs.length ∧ ((suGo ltT f p xs).2.set (suGo ltT f p xs).1 new).Perm (xs.set p new) ∧ HB ((suGo ltT f p xs).2.set (suGo ltT f p xs).1 new) (suGo ltT f p xs).1 ∧ (suGo ltT f p xs).2.length = xs.length := by
  intro f
  induction f with
  | zero => intro p xs hf hp; lia
  | succ f ih =>
    intro p xs hf hp k hm h
    rw [suGo]
    by_cases hc : 2 * p + 1 < xs.length
    · rw [if_pos hc]
      dsimp only
      generalize hcc : (if 2 * p + 2 < xs.length ∧ ltT (xs.getD (2 * p + 1) .none) (xs.getD (2 * p + 2) .none) = false then 2 * p + 2 else 2 * p + 1) = c
      have hcl : c < xs.length ∧ (c - 1) / 2 = p ∧ p < c ∧ ∀ i, i < xs.length → 0 < i → (i - 1) / 2 = p → le (gd xs c) (gd xs i) := by
        by_cases h2 : 2 * p + 2 < xs.length
        · have hk : ltT (gd xs (2 * p + 1)) (gd xs (2 * p + 2)) = decide (kl (gd xs (2 * p + 1)) < kl (gd xs (2 * p + 2))) := k _ (hm _ hc (by exact ar267)) _ (hm _ h2 (by exact ar268))
          by_cases z : kl (gd xs (2 * p + 1)) < kl (gd xs (2 * p + 2))
          · rw [if_neg (fun q => by have := hk.symm.trans q.2; rw [decide_eq_true z] at this; cases this)] at hcc
            subst hcc
            refine ⟨hc, by exact ar72, by exact ar41, fun i hi h0 hip => ?_⟩
            rcases (show i = 2 * p + 1 ∨ i = 2 * p + 2 by exact ar73 h0 hip) with e | e
            · rw [e]; exact le_refl _
            · rw [e]; exact le_of_lt z
          · rw [if_pos ⟨h2, hk.trans (decide_eq_false z)⟩] at hcc
            subst hcc
            refine ⟨h2, by exact ar269, by exact ar74, fun i hi h0 hip => ?_⟩
            rcases (show i = 2 * p + 1 ∨ i = 2 * p + 2 by exact ar73 h0 hip) with e | e
            · rw [e]; exact z
            · rw [e]; exact le_refl _
        · rw [if_neg (fun q => h2 q.1)] at hcc
          subst hcc
          refine ⟨hc, by exact ar72, by exact ar41, fun i hi h0 hip => ?_⟩
          rw [show i = 2 * p + 1 by exact ar270 hc h2 hi h0 hip]; exact le_refl _
      obtain ⟨hcl, hcp, hpc, hmin⟩ := hcl
      have sw := swap_perm xs new hp hcl (by exact ar42 hpc)
      have g : ∀ i, gd (xs.set p (gd xs c)) i = if p = i then gd xs c else gd xs i := fun i => gd_set _ _ _ _ hp
      have r := ih c (xs.set p (gd xs c)) (by simp; exact ar75 hf hpc) (by simpa using hcl) (k.perm sw) (fun i hi hic => ?_) ⟨?_, ?_⟩
      · simp only [List.length_set] at r
        exact ⟨r.1, r.2.1.trans sw, r.2.2⟩
      · have hi : i < xs.length := by simpa using hi
        rw [sw.mem_iff, g]
        by_cases e : p = i
        · rw [if_pos e]; exact hm c hcl (by exact ar271 hpc)
        · rw [if_neg e]; exact hm i hi (Ne.symm e)
      · intro i h0 hl hic hpc'
        have hl : i < xs.length := by simpa using hl
        rw [g, g]
        by_cases e : p = i
        · rw [if_pos e, if_neg (by exact ar272 h0 e), ← e]; exact h.b c (by exact ar273 hpc) hcl hcp (by exact ar274 h0 e)
        · rw [if_neg e]
          by_cases e2 : p = (i - 1) / 2
          · rw [if_pos e2]; exact hmin i hl h0 e2.symm
          · rw [if_neg e2]; exact h.a i h0 hl (Ne.symm e) (Ne.symm e2)
      · intro j h0 hl hjc hc0
        have hl : j < xs.length := by simpa using hl
        rw [g, g, hcp, if_pos rfl, if_neg (by exact ar275 hpc h0 hjc)]
        have := h.a j h0 hl (by exact ar276 hpc h0 hjc) (by exact ar277 hpc hjc)
        rwa [hjc] at this
    · rw [if_neg hc]
      refine ⟨hp, .refl _, ⟨fun i h0 hl hip => ?_, fun j h0 hl hjp _ => ?_⟩, rfl⟩
      · have hl : i < xs.length := by simpa using hl
        rw [gd_set _ _ _ _ hp, gd_set _ _ _ _ hp, if_neg (Ne.symm hip), if_neg (by exact ar278 hc h0 hl)]
        exact h.a i h0 hl hip (by exact ar279 hc h0 hl)
      · simp at hl; lia
theorem su_ok {new : V} {r : List V} (k : Kind (new :: r)) (h : ∀ i, 0 < i → i < (new :: r).length → (i - 1) / 2 ≠ 0 → le (gd (new :: r) ((i - 1) / 2)) (gd (new :: r) i)) : (su (new :: r) new).Perm (new :: r) ∧ Hp (su (new :: r) new) := by
  have g := suGo_ok new (new :: r).length 0 (new :: r) (by exact ar37) (by simp) k (fun i hi _ => List.mem_of_getElem? (get_gd hi)) ⟨fun i a b _ d => h i a b d, fun c _ _ _ z => absurd z (Nat.lt_irrefl _)⟩
  have e : (new :: r).set 0 new = new :: r := rfl
  rw [e] at g
  unfold su
  have s := sd_ok (xs := (suGo ltT (new :: r).length 0 (new :: r)).2.set (suGo ltT (new :: r).length 0 (new :: r)).1 new) (p := (suGo ltT (new :: r).length 0 (new :: r)).1) (by rw [List.length_set, g.2.2.2]; exact g.1) (k.perm g.2.1) g.2.2.1
  exact ⟨s.1.trans g.2.1, s.2⟩
theorem hp_min {xs : List V} (h : Hp xs) : ∀ i, i < xs.length → le (gd xs 0) (gd xs i) := by
  intro i
  induction i using Nat.strongRecOn with
  | _ i ih =>
    intro hi
    by_cases h0 : i = 0
    · subst h0; exact le_refl _
    · exact le_trans (ih ((i - 1) / 2) (by exact ar280 h0) (by exact ar281 hi h0)) (h i (by exact ar282 h0) hi)
theorem pop_ok {xs : List V} (k : Kind xs) (h : Hp xs) (h0 : 0 < xs.length) : ((hpop xs).1 :: (hpop xs).2).Perm xs ∧ Hp (hpop xs).2 ∧ ∀ y ∈ xs, le (hpop xs).1 y := by
  have hne : xs ≠ [] := fun z => by rw [z] at h0; exact absurd h0 (by decide)
  have hx : xs = xs.dropLast ++ [xs.getLastD .none] := by
    rw [List.getLastD_eq_getLast?, List.getLast?_eq_some_getLast hne]
    exact (List.dropLast_concat_getLast hne).symm
  have min : ∀ y ∈ xs, le (gd xs 0) y := fun y hy => by
    obtain ⟨i, hi, rfl⟩ := List.getElem_of_mem hy
    have := hp_min h i hi
    have e : gd xs i = xs[i] := by unfold gd; rw [List.getD_eq_getElem?_getD, List.getElem?_eq_getElem hi]; rfl
    rwa [e] at this
  unfold hpop
  cases q : xs.dropLast with
  | nil =>
    rw [q] at hx
    rw [hx] at min
    dsimp only
    rw [hx]
    exact ⟨.refl _, fun i _ hl => absurd hl (by simp), min⟩
  | cons x r =>
    rw [q] at hx
    dsimp only
    generalize xs.getLastD .none = last at hx
    have px : (x :: last :: r).Perm xs := by rw [hx]; exact (List.perm_append_singleton last r).symm.cons x
    have kk : Kind (last :: r) := fun a ha b hb => k a (px.mem_iff.mp (.tail _ ha)) b (px.mem_iff.mp (.tail _ hb))
    have s := su_ok kk fun i h0 hl hp => by
      have hl' : i < (x :: r).length := hl
      have hl2 : i < xs.length := by rw [hx]; simp at hl ⊢; exact ar283 hl
      have e : ∀ j, 0 < j → j < (x :: r).length → gd (last :: r) j = gd xs j := fun j h0 hj => by
        rw [hx, gd_app hj]
        cases j with
        | zero => lia
        | succ j => rfl
      rw [e _ h0 hl', e _ (by exact ar284 hp) (by exact ar285 h0 hp hl')]
      exact h i h0 hl2
    have e0 : gd xs 0 = x := by rw [hx]; rfl
    rw [e0] at min
    exact ⟨(s.1.cons x).trans px, s.2, min⟩
end
noncomputable section
structure Base (B : Cx) : Prop where
  K : (KK B.w.params).In B.h₀
  lim : B.h₀.NoLimit
  quals : ∀ c ∈ csP, ∃ o vs, B.h₀.get? c.1 = some o ∧ o.data = .fields vs ∧ vs[1]? = some c.2
  top : ∃ mg mb, B.h₀.Ns mainGlobals mg ∧ B.h₀.Ns builtinsNs mb ∧ (∀ x ∈ nsP, mg x.1 = x.2) ∧ ∀ x : Str, x ≠ "__name__" → mb x = bootBuiltins x
  nest : Nest B 118 114
theorem lookup_mem {α : Type} {x : Str} {v : α} : ∀ {l : List (Str × α)}, l.lookup x = some v → (x, v) ∈ l
  | [], h => by cases h
  | (n, u) :: r, h => by
    rw [List.lookup_cons] at h
    cases q : x == n with
    | true => rw [q] at h; cases h; rw [eq_of_beq q]; exact .head _
    | false => rw [q] at h; exact .tail _ (lookup_mem h)
theorem mem_of_look {α β : Type} [BEq α] [LawfulBEq α] {x : α} {v : β} : ∀ {l : List (α × β)}, l.lookup x = some v → (x, v) ∈ l
  | [], h => by cases h
  | (n, u) :: r, h => by
    rw [List.lookup_cons] at h
    cases q : x == n with
    | true => rw [q] at h; cases h; rw [eq_of_beq q]; exact .head _
    | false => rw [q] at h; exact .tail _ (mem_of_look h)
theorem Base.fn {B : Cx} {σ : Store} (b : Base B) {a : Nat} {fd : FuncData} (e : (KK B.w.params).lookup a = some (fnObj fd)) : FnAt B σ a fd := ⟨_, .inl (b.K _ _ e), rfl⟩
theorem Base.code {B : Cx} {σ : Store} (b : Base B) {fd : FuncData} {c : Nat} {t : Tok} (e : fd.code = .ref c) (e2 : csP.lookup c = some (.str fd.qualname t)) : CodeAt B σ fd :=
  let ⟨o, vs, h1, h2, h3⟩ := b.quals _ (mem_of_look e2); ⟨c, o, vs, t, e, .inl h1, h2, h3⟩
theorem keeps_cls {B : Cx} (b : Base B) : Keeps B 80 := fun σ N s I => keeps_K (by kernel_rfl) _ (b.K.keeps I.keep)
noncomputable def tb : Tb := ⟨tbNames, tbFns⟩
theorem Base.tabOk {B : Cx} (b : Base B) : TabOk B tb := by
  refine ⟨fun x v h => ?_, fun a h => ?_⟩
  · obtain ⟨mg, mb, h1, h2, h3, h4⟩ := b.top
    have hm := lookup_mem h
    revert hm
    have g : ∀ (i : Nat) (x : Str) (v : Value), nsP[i]? = some (x, some v) → Glo B x v ∨ Bui B x v := fun i x v q => .inl ⟨mg, h1, h3 _ (List.mem_of_getElem? q)⟩
    have u : ∀ (i : Nat) (x : Str) (v : Value), nsP[i]? = some (x, none) → bootBuiltins x = some v → x ≠ "__name__" → Glo B x v ∨ Bui B x v := fun i x v q e n => .inr ⟨mg, mb, h1, h3 _ (List.mem_of_getElem? q), h2, (h4 x n).trans e⟩
    have all : ∀ p ∈ tbNames, Glo B p.1 p.2 ∨ Bui B p.1 p.2 := by
      unfold tbNames
      simp only [List.forall_mem_cons, List.not_mem_nil, false_imp_iff, implies_true, and_true]
      refine ⟨g 0 _ _ rfl, g 1 _ _ rfl, g 2 _ _ rfl, g 3 _ _ rfl, g 4 _ _ rfl, g 5 _ _ rfl, g 6 _ _ rfl, g 7 _ _ rfl, g 8 _ _ rfl, g 9 _ _ rfl, g 10 _ _ rfl, g 11 _ _ rfl, g 12 _ _ rfl, g 13 _ _ rfl, g 14 _ _ rfl, g 15 _ _ rfl, g 16 _ _ rfl, g 17 _ _ rfl, g 18 _ _ rfl, g 19 _ _ rfl, g 20 _ _ rfl, g 21 _ _ rfl, u 22 _ _ rfl (by boot_by_name) (by decide), u 23 _ _ rfl (by boot_by_name) (by decide), u 24 _ _ rfl (by boot_by_name) (by decide), u 25 _ _ rfl (by boot_by_name) (by decide), u 26 _ _ rfl (by boot_by_name) (by decide), u 27 _ _ rfl (by boot_by_name) (by decide), u 28 _ _ rfl (by boot_by_name) (by decide), u 29 _ _ rfl (by boot_by_name) (by decide), u 30 _ _ rfl (by boot_by_name) (by decide)⟩
    exact fun q => all _ q
  · have hm : a ∈ tbFns := List.contains_iff_mem.mp h
    revert hm
    have k : ∀ (a : Nat) (fd : FuncData), (KK B.w.params).lookup a = some (fnObj fd) → Keeps B a := fun a fd e σ N s I => let ⟨o, a, b⟩ := (b.fn (σ := σ) e).get I; keeps_fn a b
    have all : ∀ a ∈ tbFns, Keeps B a := by
      unfold tbFns
      simp only [List.forall_mem_cons, List.not_mem_nil, false_imp_iff, implies_true, and_true]
      refine ⟨k _ fd21 rfl, k _ fd28 rfl, k _ fd35 rfl, k _ fd42 rfl, k _ fd56 rfl, k _ fd63 rfl, k _ fd70 rfl, k _ fd77 rfl, k _ fd91 rfl, k _ fd98 rfl, k _ fd105 rfl, k _ fd112 rfl, k _ fd119 rfl, k _ fd124 rfl, k _ fd131 rfl, k _ fd136 rfl, k _ fd141 rfl, k _ fd146 rfl, k _ fd151 rfl, k _ fd156 rfl, k _ fd161 rfl, k _ fd166 rfl, k _ fd171 rfl, k _ fd176 rfl, k _ fd181 rfl, keeps_cls b⟩
    exact fun q => all _ q

theorem len1 {α : Type} {as : List α} {x : V} (h : as.length = [x].length) : ∃ a, as = [a] := by
  match as, h with | [a], _ => exact ⟨a, rfl⟩
theorem len2 {α : Type} {as : List α} {x y : V} (h : as.length = [x, y].length) : ∃ a b, as = [a, b] := by
  match as, h with | [a, b], _ => exact ⟨a, b, rfl⟩
theorem len3 {α : Type} {as : List α} {x y z : V} (h : as.length = [x, y, z].length) : ∃ a b c, as = [a, b, c] := by
  match as, h with | [a, b, c], _ => exact ⟨a, b, c, rfl⟩
end
noncomputable section
section
variable {B : Cx} {d : Nat} {σ : Store} {N : Nat} {a : Nat}
noncomputable def SdJ (σ : Store) (a : Nat) (P : V → Prop) (xs : List V) (new : V) (start : Nat) (r : List V) : Nat → Loc → Store → Nat → Prop := fun f l σ' _ =>
  ∃ (p : Nat) (ys : List V), l = ([("heap", .ref a), ("startpos", .int start), ("pos", .int p), ("newitem", new)] : Loc) ∧ σ' = pt σ a (.list ys) ∧ ys.length = xs.length ∧ (∀ x ∈ ys, P x) ∧ p < xs.length ∧ p ≤ f ∧ sdGo ltT new start f p ys = r
theorem siftdown_ok (b : Base B) {xs : List V} {start pos : Nat} {P : V → Prop} (hP : ∀ x y, P x → P y → ∃ a b, x = .tup a ∧ y = .tup b ∧ LexOk a b) (hs : σ a = some (.list xs)) (hall : ∀ x ∈ xs, P x) (h2 : pos < xs.length) (hlen : xs.length < 2 ^ 20)
    {Q : Post V} (h : ∀ N', N ≤ N' → Q .none (pt σ a (.list (sd xs start pos))) N') : WC B (d + 1) (.ref 35) [.ref a, .int start, .int pos] σ N Q := by
  refine C_fun b.tabOk (names := ["heap", "startpos", "pos"]) (b.fn rfl) (b.code rfl rfl) b.lim rfl (fun s as hl => ?_) (by decide) (by decide) ⟨rfl, rfl, rfl, rfl, rfl⟩ (fun L hL hσL hab => ?_)
  · obtain ⟨x, y, z, rfl⟩ := len3 hl
    exact .of_eq rfl
  obtain ⟨new, hnew⟩ : ∃ v, xs[pos]? = some v := ⟨_, List.getElem?_eq_getElem h2⟩
  have hsd : sd xs start pos = sdGo ltT new start pos pos xs := by unfold sd; rw [hnew]
  refine iList (.ref hs) (by exact ar0) (by exact ar286 h2 hlen) (by simpa using hnew) ?_
  refine ⟨SdJ (σ.add L) a P xs new start (sd xs start pos), pos, [("heap", .ref a), ("startpos", .int start), ("pos", .int pos), ("newitem", new)], .cons rfl (.cons rfl (.cons rfl (.cons rfl (.nil _)))), ⟨pos, xs, rfl, (pt_id (σ := σ.add L) hs).symm, rfl, hall, h2, Nat.le_refl _, hsd.symm⟩, ?_⟩
  rintro f l σ' N' ⟨p, ys, rfl, rfl, hl, hy, hp2, hpf, he⟩ hN'
  have hsa : pt (σ.add L) a (.list ys) a = some (.list ys) := pt_same _ _ _
  have hnP : P new := hall _ (List.mem_of_getElem? hnew)
  refine ⟨fun hlt => ?_, fun hlt => ?_⟩
  · have hlt : start < p := by have := of_decide_eq_true hlt; exact ar478 this
    have e0 : ((p : Int) - 1).fdiv (2 ^ Int.toNat 1) = (((p - 1) / 2 : Nat) : Int) := by
      have : (2 : Int) ^ Int.toNat 1 = 2 := by decide
      rw [this, Int.fdiv_eq_ediv_of_nonneg _ (by exact ar287)]
      exact arb17 hlt
    have hpp : (p - 1) / 2 < ys.length := by exact arb18 hl hp2 hlt e0
    obtain ⟨pv, hpv⟩ : ∃ v, ys[(p - 1) / 2]? = some v := ⟨_, List.getElem?_eq_getElem hpp⟩
    have hpP : P pv := hy _ (List.mem_of_getElem? hpv)
    obtain ⟨f', rfl⟩ : ∃ f', f = f' + 1 := ⟨f - 1, by exact arb19 hpf hlt⟩
    rw [sdGo, if_pos hlt, hpv] at he
    refine ⟨by decide, ?_⟩
    rw [e0]
    refine iList (.ref hsa) (by exact ar288 e0) (by exact ar289 hlen hp2 e0) hpv ?_
    refine .plain ?_
    obtain ⟨ta, tb, ea, eb, hlex⟩ := hP new pv hnP hpP
    have elt : ltT new pv = lexLt ta tb := by rw [ea, eb]; rfl
    refine (?_ : vCmp .Lt new pv _ _ _ _)
    rw [ea, eb]
    refine nLt hlex ?_
    rw [← ea, ← eb, ← elt]
    refine ⟨fun hc => ?_, fun hc => ?_⟩
    · simp only [hc, if_true] at he
      refine pList hsa (by exact ar0) (by exact ar22 hl hp2) (by exact ar43 hlen hl) ?_
      refine ⟨[("heap", .ref a), ("startpos", .int start), ("pos", .int (((p - 1) / 2 : Nat) : Int)), ("newitem", new)], .cons rfl (.cons rfl (.cons rfl (.cons rfl (.nil _)))), f', by exact ar14, (p - 1) / 2, ys.set p pv, rfl, ?_, by simpa using hl, ?_, by exact arb20 hp2 hlt e0, by exact ar290 e0 hpf, he⟩
      · rw [pt_pt]; rfl
      · intro x hx
        rcases List.mem_or_eq_of_mem_set hx with hx | rfl
        · exact hy x hx
        · exact hpP
    · simp only [hc, Bool.false_eq_true, if_false] at he
      refine pList hsa (by exact ar0) (by exact ar22 hl hp2) (by exact ar43 hlen hl) ?_
      rw [pt_pt]
      refine ⟨_, .refl _, ?_⟩
      show Q .none (pt σ a _) _
      rw [show (p : Int).toNat = p from rfl, he]
      exact h _ hN'
  · have hlt : ¬ start < p := by have := of_decide_eq_false hlt; exact arb21 this
    refine pList hsa (by exact ar0) (by exact ar22 hl hp2) (by exact ar43 hlen hl) ?_
    rw [pt_pt]
    refine ⟨_, .refl _, ?_⟩
    show Q .none (pt σ a _) _
    have : sdGo ltT new start f p ys = ys.set p new := by
      cases f with
      | zero => rfl
      | succ f => rw [sdGo, if_neg hlt]
    rw [show (p : Int).toNat = p from rfl, ← this, he]
    exact h _ hN'
end
end
noncomputable section
section
variable {B : Cx} {d : Nat} {σ : Store} {N : Nat} {a : Nat}
theorem heappush_ok (b : Base B) {xs : List V} {v : V} {P : V → Prop} (hP : ∀ x y, P x → P y → ∃ a b, x = .tup a ∧ y = .tup b ∧ LexOk a b) (hs : σ a = some (.list xs)) (hall : ∀ x ∈ xs, P x) (hv : P v) (hlen : xs.length < 2 ^ 19)
    {Q : Post V} (h : ∀ N', N ≤ N' → Q .none (pt σ a (.list (sd (xs ++ [v]) 0 xs.length))) N') : WC B (d + 2) (.ref 21) [.ref a, v] σ N Q := by
  refine C_fun b.tabOk (names := ["heap", "item"]) (b.fn rfl) (b.code rfl rfl) b.lim rfl (fun s as hl => ?_) (by decide) (by decide) ⟨rfl, rfl, rfl, rfl, rfl⟩ (fun L hL hσL hab => ?_)
  · obtain ⟨x, y, rfl⟩ := len2 hl
    exact .of_eq rfl
  refine VMeth.builtin (.list (.ref hs)) rfl ?_
  refine bAppend .refl hs (by exact ar76 hlen) ?_
  refine bLen (xs := xs ++ [v]) (.ref (pt_same _ _ _)) (by rw [List.length_append, List.length_singleton]; exact ar291 hlen) ?_
  refine ⟨?_⟩
  show WC B (d + 1) (.ref 35) [.ref a, .int 0, .int (((xs ++ [v]).length : Nat) - 1 : Int)] _ _ _
  rw [show (((xs ++ [v]).length : Nat) : Int) - 1 = (xs.length : Nat) from by rw [List.length_append, List.length_singleton]; exact ar292]
  refine siftdown_ok (xs := xs ++ [v]) (start := 0) b hP (pt_same _ _ _) ?_ (by rw [List.length_append, List.length_singleton]; exact ar14) (by rw [List.length_append, List.length_singleton]; exact ar293 hlen) fun N' hN' => ?_
  · intro x hx
    rcases List.mem_append.mp hx with hx | hx
    · exact hall x hx
    · rw [List.mem_singleton.mp hx]; exact hv
  rw [pt_pt]
  exact ⟨_, .refl _, h N' hN'⟩

noncomputable def SuJ (σ : Store) (a : Nat) (P : V → Prop) (len : Nat) (new : V) (r : Nat × List V) : Nat → Loc → Store → Nat → Prop := fun f l σ' _ =>
  ∃ (p : Nat) (ys : List V), l = ([("heap", .ref a), ("pos", .int p), ("endpos", .int len), ("startpos", .int 0), ("newitem", new), ("childpos", .int ((2 * p + 1 : Nat) : Int))] : Loc) ∧ σ' = pt σ a (.list ys) ∧ ys.length = len ∧ (∀ x ∈ ys, P x) ∧ p < len ∧ len ≤ p + f ∧ suGo ltT f p ys = r
noncomputable def SuK (σ : Store) (a : Nat) (len : Nat) (new : V) (r : Nat × List V) (f p : Nat) (ys : List V) : Loc → Store → Nat → Prop := fun l σ' _ =>
  ∃ c : Nat, l = ([("heap", .ref a), ("pos", .int p), ("endpos", .int len), ("startpos", .int 0), ("newitem", new), ("childpos", .int (c : Int))] : Loc) ∧ σ' = pt σ a (.list ys) ∧ p < c ∧ c < ys.length ∧ suGo ltT f c (ys.set p (ys.getD c .none)) = r
theorem siftup_ok (b : Base B) {xs : List V} {new : V} {P : V → Prop} (hP : ∀ x y, P x → P y → ∃ a b, x = .tup a ∧ y = .tup b ∧ LexOk a b) (hs : σ a = some (.list xs)) (hall : ∀ x ∈ xs, P x) (hnew : xs[0]? = some new) (hlen : xs.length < 2 ^ 19)
    {Q : Post V} (h : ∀ N', N ≤ N' → Q .none (pt σ a (.list (su xs new))) N') : WC B (d + 2) (.ref 42) [.ref a, .int 0] σ N Q := by
  have hpos : 0 < xs.length := (List.getElem?_eq_some_iff.mp hnew).1
  have hnP : P new := hall _ (List.mem_of_getElem? hnew)
  refine C_fun b.tabOk (names := ["heap", "pos"]) (b.fn rfl) (b.code rfl rfl) b.lim rfl (fun s as hl => ?_) (by decide) (by decide) ⟨rfl, rfl, rfl, rfl, rfl⟩ (fun L hL hσL hab => ?_)
  · obtain ⟨x, y, rfl⟩ := len2 hl
    exact .of_eq rfl
  refine bLen (.ref hs) (by exact ar44 hlen) ?_
  refine iList (.ref hs) (by exact ar294) (by exact ar295) hnew ?_
  refine ⟨IntMulOk.of_left (by decide), ?_⟩
  refine ⟨SuJ (σ.add L) a P xs.length new (suGo ltT xs.length 0 xs), xs.length, [("heap", .ref a), ("pos", .int 0), ("endpos", .int xs.length), ("startpos", .int 0), ("newitem", new), ("childpos", .int ((2 * 0 + 1 : Nat) : Int))], .cons rfl (.cons rfl (.cons rfl (.cons rfl (.cons rfl (.cons rfl (.nil _)))))), ⟨0, xs, rfl, (pt_id (σ := σ.add L) hs).symm, rfl, hall, hpos, by exact ar37, rfl⟩, ?_⟩
  rintro f l σ' N' ⟨p, ys, rfl, rfl, hl, hy, hp, hpf, he⟩ hN'
  have hsa : pt (σ.add L) a (.list ys) a = some (.list ys) := pt_same _ _ _
  have get : ∀ i, i < ys.length → ys[i]? = some (ys.getD i .none) := fun i hi => by rw [List.getD_eq_getElem?_getD, List.getElem?_eq_getElem hi]; rfl
  have getP : ∀ i, i < ys.length → P (ys.getD i .none) := fun i hi => hy _ (List.mem_of_getElem? (get i hi))
  refine ⟨fun hlt => ?_, fun hlt => ?_⟩
  · have hlt : 2 * p + 1 < xs.length := by have := of_decide_eq_true hlt; exact arb22 this
    obtain ⟨f', rfl⟩ : ∃ f', f = f' + 1 := ⟨f - 1, by exact arb23 hpf hlt⟩
    rw [suGo, if_pos (by exact arb6 hl hlt)] at he
    refine .join (SuK (σ.add L) a xs.length new (suGo ltT xs.length 0 xs) f' p ys) ⟨?_, ?_⟩
    · rintro l' σ₂ N₂ hN₂ ⟨c, rfl, rfl, hc1, hc2, hc3⟩
      refine iList (.ref hsa) (by exact ar296 hc1) (by exact ar297 hlen hl hc2) (get c hc2) ?_
      refine pList hsa (by exact ar0) (by exact arb24 hpos hl hlt) (by exact ar77 hlen hl) ?_
      refine ⟨IntMulOk.of_left (by decide), ?_⟩
      refine ⟨[("heap", .ref a), ("pos", .int c), ("endpos", .int xs.length), ("startpos", .int 0), ("newitem", new), ("childpos", .int ((2 * c + 1 : Nat) : Int))], (.cons rfl (.cons rfl (.cons rfl (.cons rfl (.cons rfl (.cons ?_ (.nil _))))))), f', by exact ar14, c, ys.set p (ys.getD c .none), rfl, ?_, by simpa using hl, ?_, by exact ar39 hl hc2, by exact ar75 hpf hc1, hc3⟩
      · show some (V.int (2 * (c : Int) + 1)) = _
        rw [show 2 * (c : Int) + 1 = ((2 * c + 1 : Nat) : Int) from by exact ar298]
      · rw [pt_pt]; rfl
      · intro x hx
        rcases List.mem_or_eq_of_mem_set hx with hx | rfl
        · exact hy x hx
        · exact getP c hc2
    have left : ∀ N₂, ¬ (2 * p + 2 < ys.length ∧ ltT (ys.getD (2 * p + 1) .none) (ys.getD (2 * p + 2) .none) = false) → SuK (σ.add L) a xs.length new (suGo ltT xs.length 0 xs) f' p ys [("heap", .ref a), ("pos", .int p), ("endpos", .int xs.length), ("startpos", .int 0), ("newitem", new), ("childpos", .int ((2 * p + 1 : Nat) : Int))] (pt (σ.add L) a (.list ys)) N₂ := fun N₂ z =>
      ⟨2 * p + 1, rfl, rfl, by exact ar41, by exact arb6 hl hlt, by rw [if_neg z] at he; exact he⟩
    refine ⟨fun hr => ?_, fun hr => ?_⟩
    · have hr : 2 * p + 2 < xs.length := by have := of_decide_eq_true hr; exact arb25 hlt this
      refine iList (.ref hsa) (by exact ar299) (by exact arb26 hlen hr) (get (2 * p + 1) (by exact arb7 hl hr)) ?_
      refine iList (.ref hsa) (by exact ar300) (by exact arb27 hlen hr) (by rw [show (((2 * p + 1 : Nat) : Int) + 1).toNat = 2 * p + 2 from by exact ar301]; exact get (2 * p + 2) (by exact arb0 hl hlt hr)) ?_
      obtain ⟨ta, tb, ea, eb, hlex⟩ := hP _ _ (getP (2 * p + 1) (by exact arb7 hl hr)) (getP (2 * p + 2) (by exact arb0 hl hlt hr))
      have elt : ltT (ys.getD (2 * p + 1) .none) (ys.getD (2 * p + 2) .none) = lexLt ta tb := by rw [ea, eb]; rfl
      refine (?_ : vCmp .Lt (ys.getD (2 * p + 1) .none) (ys.getD (2 * p + 2) .none) _ _ _ _)
      rw [ea, eb]
      refine nLt hlex ?_
      rw [← elt]
      refine ⟨fun hc => ?_, fun hc => ?_⟩
      · have hc : ltT (ys.getD (2 * p + 1) .none) (ys.getD (2 * p + 2) .none) = false := not_of_bnot hc
        refine ⟨[("heap", .ref a), ("pos", .int p), ("endpos", .int xs.length), ("startpos", .int 0), ("newitem", new), ("childpos", .int ((2 * p + 2 : Nat) : Int))], (.cons rfl (.cons rfl (.cons rfl (.cons rfl (.cons rfl (.cons ?_ (.nil _))))))), 2 * p + 2, rfl, rfl, by exact ar74, by exact arb0 hl hlt hr, by rw [if_pos ⟨by exact arb0 hl hlt hr, hc⟩] at he; exact he⟩
        show some (V.int (((2 * p + 1 : Nat) : Int) + 1)) = _
        rw [show ((2 * p + 1 : Nat) : Int) + 1 = ((2 * p + 2 : Nat) : Int) from by exact ar302]
      · refine ⟨_, (.cons rfl (.cons rfl (.cons rfl (.cons rfl (.cons rfl (.cons rfl (.nil _))))))), left _ (fun z => ?_)⟩
        rw [z.2] at hc; cases hc
    · have hr : ¬ 2 * p + 2 < xs.length := by have := of_decide_eq_false hr; exact arb28 hlt this
      refine ⟨fun hc => (nomatch hc), fun _ => ⟨_, (.cons rfl (.cons rfl (.cons rfl (.cons rfl (.cons rfl (.cons rfl (.nil _))))))), left _ (fun z => by lia)⟩⟩
  · have hlt : ¬ 2 * p + 1 < xs.length := by have := of_decide_eq_false hlt; exact arb29 this
    have hfin : (p, ys) = suGo ltT xs.length 0 xs := by
      rw [← he]
      cases f with
      | zero => rfl
      | succ f => rw [suGo, if_neg (by exact arb30 hl hlt)]
    refine pList hsa (by exact ar0) (by exact ar22 hl hp) (by exact ar77 hlen hl) ?_
    refine ⟨?_⟩
    rw [pt_pt]
    refine siftdown_ok (xs := ys.set p new) (start := 0) b hP (pt_same _ _ _) ?_ (by simpa using by exact ar40 hl hp) (by simpa using by exact ar303 hlen hl) fun N'' hN'' => ?_
    · intro x hx
      rcases List.mem_or_eq_of_mem_set hx with hx | rfl
      · exact hy x hx
      · exact hnP
    rw [pt_pt]
    have := h N'' (Nat.le_trans hN' hN'')
    unfold su at this
    rw [← hfin] at this
    exact ⟨_, .refl _, this⟩
theorem heappop_ok (b : Base B) {xs : List V} {P : V → Prop} (hP : ∀ x y, P x → P y → ∃ a b, x = .tup a ∧ y = .tup b ∧ LexOk a b) (hs : σ a = some (.list xs)) (hall : ∀ x ∈ xs, P x) (h0 : 0 < xs.length) (hlen : xs.length < 2 ^ 19)
    {Q : Post V} (h : ∀ N', N ≤ N' → Q (hpop xs).1 (pt σ a (.list (hpop xs).2)) N') : WC B (d + 3) (.ref 28) [.ref a] σ N Q := by
  refine C_fun b.tabOk (names := ["heap"]) (b.fn rfl) (b.code rfl rfl) b.lim rfl (fun s as hl => ?_) (by decide) (by decide) ⟨rfl, rfl, rfl, rfl, rfl⟩ (fun L hL hσL hab => ?_)
  · obtain ⟨x, rfl⟩ := len1 hl
    exact .of_eq rfl
  have hne : xs ≠ [] := fun z => by rw [z] at h0; exact absurd h0 (by decide)
  have hx : xs = xs.dropLast ++ [xs.getLastD .none] := by
    rw [List.getLastD_eq_getLast?, List.getLast?_eq_some_getLast hne]
    exact (List.dropLast_concat_getLast hne).symm
  have hlast : P (xs.getLastD .none) := hall _ (by rw [hx]; exact List.mem_append.mpr (.inr (by rw [← hx]; exact .head _)))
  have hin : ∀ x ∈ xs.dropLast, P x := fun x q => hall x (List.dropLast_subset _ q)
  have hdl : xs.dropLast.length < 2 ^ 19 := by rw [List.length_dropLast]; exact ar304 h0 hlen
  unfold hpop at h
  refine VMeth.builtin (.list (.ref hs)) rfl ?_
  refine bPop (ys := xs.dropLast) (v := xs.getLastD .none) (hs.trans (congrArg (fun z => some (AObj.list z)) hx)) (by exact ar76 hdl) ?_
  refine .plain (tList (xs := xs.dropLast) (pt_same _ _ _) (by exact ar44 hdl) ⟨fun hc => ?_, fun hc => ?_⟩)
  · cases q : xs.dropLast with
    | nil => rw [q] at hc; cases hc
    | cons x r =>
      rw [q] at hdl hin h
      have hs1 : pt (σ.add L) a (.list (x :: r)) a = some (.list (x :: r)) := pt_same _ _ _
      refine iList (.ref hs1) (by decide) (by decide) rfl ?_
      refine pList hs1 (by decide) (by rw [List.length_cons]; exact ar305) (by exact ar44 hdl) ?_
      refine ⟨?_⟩
      rw [pt_pt]
      refine siftup_ok (xs := xs.getLastD .none :: r) b hP (pt_same _ _ _) (fun y hy => ?_) rfl hdl fun N' hN' => ?_
      · cases hy with
        | head => exact hlast
        | tail _ hy => exact hin y (.tail _ hy)
      rw [pt_pt]
      exact ⟨_, _, .refl, h N' hN'⟩
  · cases q : xs.dropLast with
    | nil => rw [q] at h; exact ⟨_, _, .refl, h N (Nat.le_refl _)⟩
    | cons x r => rw [q] at hc; cases hc
end
end
noncomputable section
section
variable {B : Cx} {d : Nat} {σ : Store} {N : Nat}
/-- a str of these signs -/
noncomputable def st (l : List Nat) : Str := ⟨l.toArray⟩
theorem st_app (a b : List Nat) : st a ++ st b = st (a ++ b) := by show Str.mk (a.toArray ++ b.toArray) = _; unfold st; rw [List.append_toArray]
theorem st_len (a : List Nat) : (st a).length = a.length := rfl
noncomputable def esc (l : List Nat) : List Nat := l.flatMap fun c => if c = 34 ∨ c = 92 then [92, c] else [c]
noncomputable def gl (g : List Nat) : List (List Nat) → List Nat
  | [] => []
  | x :: xs => x ++ xs.flatMap (g ++ ·)
noncomputable def wr (l : List Nat) : Nat → List Nat
  | 0 => gl [] (l.map fun c => [92, c])
  | _ => 34 :: (esc l ++ [34])
theorem take_snoc (l : List Nat) {i : Nat} (h : i < l.length) : l.take (i + 1) = l.take i ++ [l.getD i 0] := by
  rw [List.take_add_one, List.getElem?_eq_getElem h, List.getD_eq_getElem?_getD, List.getElem?_eq_getElem h]; rfl
theorem esc_len (l : List Nat) : (esc l).length ≤ 2 * l.length := by
  induction l with
  | nil => exact Nat.le_refl _
  | cons c l ih =>
    have : esc (c :: l) = (if c = 34 ∨ c = 92 then [92, c] else [c]) ++ esc l := rfl
    rw [this, List.length_append, List.length_cons]
    split <;> simp <;> lia
theorem sum_len (k : Nat) (l : List (List Nat)) (h : ∀ x ∈ l, x.length = k) : ((l.map st).map (·.length)).sum = l.length * k := by
  induction l with
  | nil => simp
  | cons x l ih =>
    rw [List.map_cons, List.map_cons, List.sum_cons, ih fun y hy => h y (.tail _ hy), st_len, h x (.head _), List.length_cons, Nat.succ_mul, Nat.add_comm]
theorem join_st (g : List Nat) (xs : List (List Nat)) : Txt.join (st g) (xs.map st) = st (gl g xs) := by
  have go : ∀ (ys : List (List Nat)) (acc : List Nat), (ys.map st).foldl (fun (acc : Array Nat) (p : Str) => acc ++ (st g).cps ++ p.cps) acc.toArray = (acc ++ ys.flatMap (g ++ ·)).toArray := by
    intro ys
    induction ys with
    | nil => intro acc; simp
    | cons y ys ih =>
      intro acc
      have := ih (acc ++ g ++ y)
      rw [List.map_cons, List.foldl_cons, List.flatMap_cons, ← List.append_assoc, ← List.append_assoc, ← this]
      simp [st]
  cases xs with
  | nil => rfl
  | cons x xs => exact congrArg Str.mk (go xs x)
theorem sign_st (l : List Nat) (i : Nat) : sign (st l) i = st [l.getD i 0] := by unfold sign st; simp [Array.getD_eq_getD_getElem?, List.getD_eq_getElem?_getD]
theorem s0 : ("" : Str) = st [] := by kernel_rfl
theorem s34 : ("\"" : Str) = st [34] := by kernel_rfl
theorem s92 : ("\\" : Str) = st [92] := by kernel_rfl
theorem st_inj {a b : List Nat} : st a = st b ↔ a = b := ⟨fun h => by have := congrArg (fun x : Str => x.cps.toList) h; exact this, fun h => by rw [h]⟩
theorem written_ok (b : Base B) {w : List Nat} {q : Nat} (hw : w.length ≤ 1000) {Q : Post V} (h : ∀ N', N ≤ N' → Q (.str (st (wr w q))) σ N') : WC B (d + 1) (.ref 124) [.str (st w), .int q] σ N Q := by
  refine C_fun b.tabOk (names := ["word", "quoted"]) (b.fn rfl) (b.code rfl rfl) b.lim rfl (fun s as hl => ?_) (by decide) (by decide) ⟨rfl, rfl, rfl, rfl, rfl⟩ (fun L hL hσL hab => ?_)
  · obtain ⟨x, y, rfl⟩ := len2 hl
    exact .of_eq rfl
  refine .plain ⟨fun hq => ?_, fun hq => ?_⟩
  · have hq : q = 0 := by have := of_decide_eq_true hq; exact arb31 this
    subst hq
    refine VMeth.builtin (.str _) rfl (VComp.list iter_str (fun _ _ => trivial) (fun i => ((w.take i).map fun c => [92, c]).map fun x => V.str (st x)) rfl (fun a C i N' hi hN => ?_) (fun N' hN => ?_))
    · have hi : i < w.length := hi
      refine .pos rfl ⟨by simp; exact ar306 hw hi, (by show 2 ≤ sizeLine; decide), ?_, rfl⟩
      rw [sign_st, s92, st_app, take_snoc w hi, List.map_append, List.map_append]
      rfl
    · refine bJoin (ss := (w.map fun c => [92, c]).map st) (?_ : ListV _ (V.lst _) _) ?_ ?_
      · have : ((w.take (st w).cps.size).map fun c => [92, c]).map (fun x => V.str (st x)) = ((w.map fun c => [92, c]).map st).map V.str := by
          rw [show (st w).cps.size = w.length from rfl, List.take_length]; simp
        rw [this]; exact .lst _
      · rw [show ("" : Str).length = 0 from rfl, Nat.mul_zero, Nat.add_zero, sum_len 2 _ (fun x hx => by obtain ⟨c, _, rfl⟩ := List.mem_map.mp hx; rfl), List.length_map]
        exact ar307 hw
      · rw [s0, join_st]
        exact ⟨_, _, .refl, h N' hN⟩
  · have hq : q ≠ 0 := fun z => by subst z; cases hq
    refine .items iter_str (fun i l σ' _ => l = ([("word", .str (st w)), ("quoted", .int q), ("inner", .str (st (esc (w.take i))))] : Loc) ∧ σ' = σ.add L) [("word", .str (st w)), ("quoted", .int q), ("inner", .str (st []))] (.cons rfl (.cons rfl (.cons rfl (.nil _)))) ⟨rfl, rfl⟩ (fun _ _ _ _ _ _ => trivial) ?_ ?_
    · rintro i l σ' N' hi ⟨rfl, rfl⟩ hN
      have hi : i < w.length := hi
      rw [sign_st]
      have e := take_snoc w hi
      have ee : esc (w.take (i + 1)) = esc (w.take i) ++ esc [w.getD i 0] := by rw [e]; unfold esc; rw [List.flatMap_append]
      have el : (esc (w.take i)).length ≤ 2000 := by have := esc_len (w.take i); rw [List.length_take] at this; exact ar308 hw hi this
      have esc1 : ∀ c : Nat, (c = 34 ∨ c = 92) → esc [c] = [92] ++ [c] := fun c h => by unfold esc; simp [h]
      have esc2 : ∀ c : Nat, ¬ (c = 34 ∨ c = 92) → esc [c] = [c] := fun c h => by unfold esc; simp [h]
      have one : ∀ c : Nat, decide (st [w.getD i 0] = st [c]) = decide (w.getD i 0 = c) := fun c => by rw [decide_eq_decide, st_inj]; simp
      have fin1 : ∀ {x : V}, (w.getD i 0 = 34 ∨ w.getD i 0 = 92) → LSub [("word", .str (st w)), ("quoted", .int q), ("inner", .str (st (esc (w.take (i + 1)))))] (upd (upd (upd [("word", .str (st w)), ("quoted", .int q), ("inner", .str (st (esc (w.take i))))] "sign" (.str (st [w.getD i 0]))) "inner" x) "inner" (.str ((st (esc (w.take i)) ++ st [92]) ++ st [w.getD i 0]))) := fun h => by
        rw [ee, esc1 _ h, st_app, st_app, List.append_assoc]
        exact .cons rfl (.cons rfl (.cons rfl (.nil _)))
      have b1 : (st (esc (w.take i))).length + (st [92]).length ≤ sizeLine := by rw [st_len, st_len, sizeLine_eq]; simp; exact ar78 el
      have b2 : (st (esc (w.take i)) ++ st [92]).length + (st [w.getD i 0]).length ≤ sizeLine := by rw [st_app, st_len, st_len, sizeLine_eq]; simp; exact ar79 el
      have b3 : (st (esc (w.take i))).length + (st [w.getD i 0]).length ≤ sizeLine := by rw [st_len, st_len, sizeLine_eq]; simp; exact ar78 el
      refine .plain ⟨fun h1 => ?_, fun h1 => ⟨fun h2 => ?_, fun h2 => ?_⟩⟩
      · rw [s34, one] at h1
        exact .pos rfl ⟨b1, b2, _, fin1 (.inl (of_decide_eq_true h1)), rfl, rfl⟩
      · rw [s92, one] at h2
        exact ⟨b1, b2, _, fin1 (.inr (of_decide_eq_true h2)), rfl, rfl⟩
      · rw [s34, one] at h1
        rw [s92, one] at h2
        refine ⟨b3, _, ?_, rfl, rfl⟩
        rw [ee, esc2 _ (fun z => z.elim (of_decide_eq_false h1) (of_decide_eq_false h2)), ← st_app]
        exact .cons rfl (.cons rfl (.cons rfl (.nil _)))
    · rintro l σ' N' ⟨rfl, rfl⟩ hN
      rw [show (st w).cps.size = w.length from rfl, List.take_length]
      have el : (esc w).length ≤ 2000 := by have := esc_len w; exact ar309 hw this
      refine ⟨?_, ?_, _, _, .refl, ?_⟩
      · rw [s34, st_len, st_len, sizeLine_eq]; simp; exact ar310 el
      · rw [s34, st_app, st_len, st_len, sizeLine_eq]; simp; exact ar79 el
      · rw [s34, st_app, st_app]
        have := h N' hN
        cases q with
        | zero => exact absurd rfl hq
        | succ q => exact this
end
end
noncomputable section
section
variable {B : Cx} {d : Nat} {σ : Store} {N : Nat}
theorem lpick_map {α : Type} (f : α → V) (l : List α) (lo hi st : Option Int) : ∃ m : List α, lpick (l.map f) lo hi st = m.map f := by
  refine ⟨(sliceRange (sliceBounds lo hi st l.length).1 (sliceBounds lo hi st l.length).2.1 (sliceBounds lo hi st l.length).2.2).filterMap (l[·]?), ?_⟩
  unfold lpick
  rw [List.length_map, List.map_filterMap]
  congr 1
  funext i
  rw [List.getElem?_map]
theorem numbers_ok (b : Base B) {o : Obj} {ns : List Int} (ho : Scr o ns) (hz : ns.length ≤ sizeLine) {Q : Post V} (h : ∀ (N' : Nat) (ms : List Int), N ≤ N' → ms.length = 7 → Q (.lst (ms.map V.int)) σ N') : WC B (d + 1) (.ref 131) [.imm o] σ N Q := by
  refine C_fun b.tabOk (names := ["script"]) (b.fn rfl) (b.code rfl rfl) b.lim rfl (fun s as hl => ?_) (by decide) (by decide) ⟨rfl, rfl, rfl, rfl, rfl⟩ (fun L hL hσL hab => ?_)
  · obtain ⟨x, rfl⟩ := len1 hl
    exact .of_eq rfl
  refine .mut (by decide) fun a ha => ?_
  refine bRange fun t u v => ?_
  refine .items (iter_range (n := 7) (by decide)) (fun i l σ' N' => ∃ ms : List Int, l = ([("script", .imm o), ("numbers", .ref a)] : Loc) ∧ σ' = pt (σ.add L) a (.list (ms.map V.int)) ∧ ms.length = i) [("script", .imm o), ("numbers", .ref a)] (.cons rfl (.cons rfl (.nil _))) ⟨[], rfl, rfl, rfl⟩ (fun _ _ _ _ _ _ => trivial) ?_ ?_
  · rintro i l σ' N' hi ⟨ms, rfl, rfl, hm⟩ hN
    refine VMeth.builtin (.list (.ref (pt_same _ _ _))) rfl ?_
    refine .froz (by decide) fun N₁ _ => ?_
    obtain ⟨c, hc⟩ : ∃ c : Int, ([1, 15, 31, 45, 4, 17, 33].map V.int)[((i : Nat) : Int).toNat]? = some (.int c) := by
      rw [show ((i : Nat) : Int).toNat = i from rfl, List.getElem?_map]
      exact ⟨_, by rw [List.getElem?_eq_getElem (by exact hi)]; rfl⟩
    refine iLst (v := .int c) (by exact ar0) (by exact ar80 hi) hc ?_
    obtain ⟨qs, hq⟩ := lpick_map V.int ns (some (i : Int)) none (some 7)
    refine sScr ho (by decide) hz ?_
    rw [hq]
    refine bSum (.lst _) ?_
    refine bAppend .refl (pt_same _ _ _) (by simp; exact ar311 hi hm) ?_
    rw [pt_pt]
    refine ⟨_, .cons rfl (.cons rfl (.nil _)), ms ++ [c + qs.sum], rfl, ?_, by simp; exact ar81 hm⟩
    rw [List.map_append]; rfl
  · rintro l σ' N' ⟨ms, rfl, rfl, hm⟩ hN
    exact ⟨σ.add L, _, .list (pt_same _ _ _) (sub_pt (.refl _) (hab a ha)) (hab a ha), h N' ms (by exact ar3 ha hN) hm⟩
/-- where a row falls -/
noncomputable def falls {α : Type} (gt : α → α → Bool) (d : α) (xs : List α) (n : Nat) : List Nat := ((List.range n).filter fun k => gt (xs.getD k d) (xs.getD (k + 1) d)).map (· + 1)
theorem falls_ok (b : Base B) {α : Type} {f : α → V} {gt : α → α → Bool} {xs : List α} (dflt : α) (hc : ∀ x y (σ : Store) N (Q : Post V) other, Q (.bool (gt x y)) σ N → vCmp .Gt (f x) (f y) σ N Q other) (h0 : 1 ≤ xs.length) (hz : xs.length < 1000) {Q : Post V}
    (h : ∀ N', N ≤ N' → Q (.lst ((falls gt dflt xs (xs.length - 1)).map fun k => .int (k : Nat))) σ N') : WC B (d + 1) (.ref 146) [.lst (xs.map f)] σ N Q := by
  refine C_funC b.tabOk (names := ["row"]) (b.fn rfl) (b.code rfl rfl) b.lim rfl rfl (fun s hl => ?_) (fun n x hx => by cases hx with | head => exact .inr ⟨rfl, rfl⟩ | tail _ h => cases h) (fun n => by show (["row"] : List Str).Nodup; decide) ⟨rfl, rfl, rfl, rfl, rfl⟩ (fun L N₁ hL hσL hab hLN hcs => ?_)
  · obtain ⟨x, rfl⟩ := len1 hl
    rfl
  have hc1 : L + 1 < N₁ := hcs ("row", L + 1) (.head _)
  show (vRun B tb d 200).S (callEnvC fd146 L 146) (stmtsOf (at_ bodyP 18)) [] (pt (σ.add L) (L + 1) (.cell (some (.lst (xs.map f))))) N₁ (Back σ.fr Q)
  have cell : pt (σ.add L) (L + 1) (.cell (some (.lst (xs.map f)))) (L + 1) = some (.cell (some (.lst (xs.map f)))) := pt_same _ _ _
  have sb : Sub (σ.add L) (pt (σ.add L) (L + 1) (.cell (some (.lst (xs.map f))))) := sub_pt (.refl _) (hab _ (by exact ar6 hL))
  refine ⟨_, cell, bLen (.lst _) (by simp; exact ar82 hz) (bRange fun t u v => ?_)⟩
  have get : ∀ i, i < xs.length → (xs.map f)[i]? = some (f (xs.getD i dflt)) := fun i hi => by rw [List.getElem?_map, List.getElem?_eq_getElem hi, List.getD_eq_getElem?_getD, List.getElem?_eq_getElem hi]; rfl
  rw [List.length_map, show ((xs.length : Nat) : Int) - 1 = ((xs.length - 1 : Nat) : Int) from by exact ar312 h0]
  refine VComp.list (iter_range (by exact ar313 h0 hz)) (fun _ _ => trivial) (fun i => (falls gt dflt xs i).map fun k => .int (k : Nat)) rfl (fun a C i N' hi hN => ?_) (fun N' hN => ⟨σ.add L, _, .sub sb, h N' (by exact ar83 hL hc1 hN)⟩)
  refine ⟨_, cell, iLst (by exact ar0) (by exact ar314 h0 hz hi) (get i (by exact ar315 h0 hi)) ?_⟩
  refine ⟨_, cell, iLst (by exact ar316) (by exact ar317 h0 hz hi) (get (i + 1) (by exact ar318 h0 hi)) ?_⟩
  refine hc _ _ _ _ _ _ ?_
  have e : falls gt dflt xs (i + 1) = falls gt dflt xs i ++ if gt (xs.getD i dflt) (xs.getD (i + 1) dflt) then [i + 1] else [] := by
    unfold falls
    rw [List.range_succ, List.filter_append, List.map_append]
    congr 1
    rw [List.filter_cons]
    split <;> simp
  refine ⟨fun q => ⟨?_, ?_, rfl⟩, fun q => ⟨?_, rfl⟩⟩
  · have : (falls gt dflt xs i).length ≤ i := by
      unfold falls
      have := List.length_filter_le (fun k => gt (xs.getD k dflt) (xs.getD (k + 1) dflt)) (List.range i)
      simpa using this
    simp; exact ar319 h0 hz hi this
  · rw [e, q, List.map_append]; rfl
  · rw [e, q, List.map_append]; simp
end
end
noncomputable section
section
variable {B : Cx} {d : Nat} {σ : Store} {N : Nat}
theorem look_at {α : Type} {f : α → V} {xs : List α} (dflt : α) {i : Nat} (hi : i < xs.length) : (xs.map f)[i]? = some (f (xs.getD i dflt)) := by rw [List.getElem?_map, List.getElem?_eq_getElem hi, List.getD_eq_getElem?_getD, List.getElem?_eq_getElem hi]; rfl
/-- pairs out of order that begin at `k` -/
noncomputable def inv1 (xs : List Int) (k : Nat) : Nat := ((xs.drop (k + 1)).filter fun p => p < xs.getD k 0).length
noncomputable def inv (xs : List Int) : Nat → Nat
  | 0 => 0
  | n + 1 => inv xs n + inv1 xs n
theorem filter_take {α : Type} {p : α → Bool} (l : List α) (d : α) {i : Nat} (h : i < l.length) : (l.take (i + 1)).filter p = (l.take i).filter p ++ if p (l.getD i d) then [l.getD i d] else [] := by
  rw [List.take_add_one, List.getElem?_eq_getElem h, List.getD_eq_getElem?_getD, List.getElem?_eq_getElem h, List.filter_append]
  congr 1
  simp only [Option.toList_some, Option.getD_some, List.filter_cons, List.filter_nil]
theorem pairs_ok (b : Base B) {xs : List Int} (hz : xs.length < 1000) {Q : Post V} (h : ∀ N', N ≤ N' → Q (.int (inv xs xs.length : Nat)) σ N') : WC B (d + 1) (.ref 151) [.lst (xs.map V.int)] σ N Q := by
  refine C_funC b.tabOk (names := ["places"]) (b.fn rfl) (b.code rfl rfl) b.lim rfl rfl (fun s hl => ?_) (fun n x hx => by cases hx with | head => exact .inr ⟨rfl, rfl⟩ | tail _ h => cases h) (fun n => by show (["k", "places"] : List Str).Nodup; decide) ⟨rfl, rfl, rfl, rfl, rfl⟩ (fun L N₁ hL hσL hab hLN hcs => ?_)
  · obtain ⟨x, rfl⟩ := len1 hl
    rfl
  have hc1 : L + 2 < N₁ := hcs ("k", L + 2) (.head _)
  show (vRun B tb d 200).S (callEnvC fd151 L 151) (stmtsOf (at_ bodyP 19)) [] (pt (pt (σ.add L) (L + 1) (.cell (some (.lst (xs.map V.int))))) (L + 2) (.cell none)) N₁ (Back σ.fr Q)
  have cell : ∀ o, pt (pt (σ.add L) (L + 1) (.cell (some (.lst (xs.map V.int))))) (L + 2) o (L + 1) = some (.cell (some (.lst (xs.map V.int)))) := fun o => (pt_ne (by exact ar7)).trans (pt_same _ _ _)
  have sb : ∀ o, Sub (σ.add L) (pt (pt (σ.add L) (L + 1) (.cell (some (.lst (xs.map V.int))))) (L + 2) o) := fun o => sub_pt (sub_pt (.refl _) (hab _ (by exact ar6 hL))) (hab _ (by exact ar23 hL))
  refine ⟨_, cell _, bLen (.lst _) (by simp; exact ar82 hz) (bRange fun t u v => ?_)⟩
  rw [List.length_map]
  refine .items (iter_range (by exact ar320 hz)) (fun i l σ' N' => ∃ o, l = ([("pairs", .int (inv xs i : Nat))] : Loc) ∧ σ' = pt (pt (σ.add L) (L + 1) (.cell (some (.lst (xs.map V.int))))) (L + 2) (.cell o)) [("pairs", .int (inv xs 0 : Nat))] (.cons rfl (.nil _)) ⟨_, rfl, rfl⟩ (fun _ _ _ _ _ _ => trivial) ?_ ?_
  · rintro i l σ' N' hi ⟨o, rfl, rfl⟩ hN
    refine ⟨⟨_, pt_same _ _ _⟩, ?_⟩
    rw [pt_pt]
    have kc : pt (pt (σ.add L) (L + 1) (.cell (some (.lst (xs.map V.int))))) (L + 2) (.cell (some (.int (i : Nat)))) (L + 2) = some (.cell (some (.int (i : Nat)))) := pt_same _ _ _
    refine ⟨_, cell _, _, kc, ?_⟩
    refine sList (.lst _) (by decide) (by simp; rw [sizeLine_eq]; exact ar321 hz) ?_
    rw [show ((i : Int) + 1) = ((i + 1 : Nat) : Int) from by exact ar13, lpick_from, ← List.map_drop]
    refine VComp.list (iter_list (.lst _)) (fun _ _ => .lst _) (fun j => (((xs.drop (i + 1)).take j).filter fun p => p < xs.getD i 0).map V.int) rfl (fun a C j N₂ hj hN₂ => ?_) (fun N₂ hN₂ => ?_)
    · have hj : j < (xs.drop (i + 1)).length := by simpa using hj
      have e := filter_take (p := fun p => decide (p < xs.getD i 0)) (xs.drop (i + 1)) 0 hj
      have ej : ((xs.drop (i + 1)).map V.int).getD j .none = .int ((xs.drop (i + 1)).getD j 0) := by rw [List.getD_eq_getElem?_getD, look_at 0 hj]; rfl
      rw [ej]
      refine ⟨_, cell _, _, kc, iLst (by exact ar0) (by exact ar322 hz hi) (look_at 0 hi) ?_⟩
      refine (?_ : VIf (decide ((xs.drop (i + 1)).getD j 0 < xs.getD i 0)) _ _)
      refine ⟨fun q => ⟨?_, ?_, rfl⟩, fun q => ⟨?_, rfl⟩⟩
      · have := List.length_filter_le (fun p => decide (p < xs.getD i 0)) ((xs.drop (i + 1)).take j)
        rw [List.length_map]
        have h2 : ((xs.drop (i + 1)).take j).length ≤ xs.length := by rw [List.length_take, List.length_drop]; exact ar84 hi
        exact ar323 hz this h2
      · rw [e, if_pos q, List.map_append]; rfl
      · rw [e, if_neg (by rw [q]; exact Bool.false_ne_true), List.append_nil]
    · refine bLen (.lst _) ?_ ?_
      · have := List.length_filter_le (fun p => decide (p < xs.getD i 0)) ((xs.drop (i + 1)).take ((xs.drop (i + 1)).map V.int).length)
        rw [List.length_map]
        have h2 : ((xs.drop (i + 1)).take ((xs.drop (i + 1)).map V.int).length).length ≤ xs.length := by rw [List.length_take, List.length_drop]; exact ar84 hi
        exact ar324 hz this h2
      · refine ⟨_, .cons ?_ (.nil _), _, rfl, rfl⟩
        rw [List.length_map, List.length_map, List.take_length]
        show some (V.int _) = some (V.int _)
        congr 2
  · rintro l σ' N' ⟨o, rfl, rfl⟩ hN
    exact ⟨σ.add L, _, .sub (sb _), h N' (by exact ar325 hL hc1 hN)⟩
end
end
noncomputable section
theorem perm_map_inv {α : Type} {f : α → V} {zs ys : List V} (p : zs.Perm ys) : ∀ l : List α, ys = l.map f → ∃ l' : List α, l'.Perm l ∧ zs = l'.map f := by
  induction p with
  | nil => intro l e; exact ⟨l, .refl _, e⟩
  | cons x p ih =>
    intro l e
    cases l with
    | nil => cases e
    | cons a l =>
      rw [List.map_cons] at e
      injection e with e1 e2
      obtain ⟨l', p', e'⟩ := ih l e2
      exact ⟨a :: l', p'.cons a, by rw [List.map_cons, e', e1]⟩
  | swap x y r =>
    intro l e
    cases l with
    | nil => cases e
    | cons a l => cases l with
      | nil => cases e
      | cons c l =>
        rw [List.map_cons, List.map_cons] at e
        injection e with e1 e2
        injection e2 with e2 e3
        exact ⟨c :: a :: l, .swap a c l, by rw [List.map_cons, List.map_cons, e1, e2, e3]⟩
  | trans p q ihp ihq =>
    intro l e
    obtain ⟨l1, p1, e1⟩ := ihq l e
    obtain ⟨l2, p2, e2⟩ := ihp l1 e1
    exact ⟨l2, p2.trans p1, e2⟩
section
variable {B : Cx} {d : Nat} {σ : Store} {N : Nat}
noncomputable def items (xs : List Str) (n : Nat) : List (Str × Nat) := (List.range n).map fun k => (xs.getD k (st []), k)
noncomputable def pv (p : Str × Nat) : V := .tup [.str p.1, .int p.2]
/-- the words' places, in the order of the words -/
noncomputable def IsOrd (xs : List Str) (ps : List (Str × Nat)) : Prop := ps.Perm (items xs xs.length) ∧ (ps.map pv).Pairwise le
theorem pv_lex (p q : Str × Nat) : LexOk [.str p.1, .int p.2] [.str q.1, .int q.2] := .cons (.str _ _) (.cons (.int _ _) .nil)
theorem pv_nn (p : Str × Nat) : ∀ x ∈ [V.str p.1, V.int p.2], NonNeg x := fun x hx => by
  cases hx with
  | head => trivial
  | tail _ h => cases h with
    | head => show (0 : Int) ≤ _; exact ar0
    | tail _ h => cases h
theorem pv_kind (l : List (Str × Nat)) : Kind (l.map pv) := fun x hx y hy => by
  obtain ⟨p, _, rfl⟩ := List.mem_map.mp hx
  obtain ⟨q, _, rfl⟩ := List.mem_map.mp hy
  exact lexLt_kl (pv_lex p q) (pv_nn p) (pv_nn q)
theorem items_succ (xs : List Str) (n : Nat) : items xs (n + 1) = items xs n ++ [(xs.getD n (st []), n)] := by unfold items; rw [List.range_succ, List.map_append]; rfl
theorem placed_ok (b : Base B) {xs : List Str} (h1 : 1 ≤ xs.length) (h64 : xs.length < 64) {Q : Post V} (h : ∀ (N' : Nat) (ps : List (Str × Nat)), N ≤ N' → IsOrd xs ps → Q (.lst (ps.map fun p => .int p.2)) σ N') : WC B (d + 1) (.ref 156) [.lst (xs.map V.str)] σ N Q := by
  refine C_funC b.tabOk (names := ["row"]) (b.fn rfl) (b.code rfl rfl) b.lim rfl rfl (fun s hl => ?_) (fun n x hx => by cases hx with | head => exact .inr ⟨rfl, rfl⟩ | tail _ h => cases h) (fun n => by show (["row"] : List Str).Nodup; decide) ⟨rfl, rfl, rfl, rfl, rfl⟩ (fun L N₁ hL hσL hab hLN hcs => ?_)
  · obtain ⟨x, rfl⟩ := len1 hl
    rfl
  have hc1 : L + 1 < N₁ := hcs ("row", L + 1) (.head _)
  show (vRun B tb d 200).S (callEnvC fd156 L 156) (stmtsOf (at_ bodyP 20)) [] (pt (σ.add L) (L + 1) (.cell (some (.lst (xs.map V.str))))) N₁ (Back σ.fr Q)
  have cell : pt (σ.add L) (L + 1) (.cell (some (.lst (xs.map V.str)))) (L + 1) = some (.cell (some (.lst (xs.map V.str)))) := pt_same _ _ _
  have sb : Sub (σ.add L) (pt (σ.add L) (L + 1) (.cell (some (.lst (xs.map V.str))))) := sub_pt (.refl _) (hab _ (by exact ar6 hL))
  refine ⟨_, cell, bLen (.lst _) (by simp; exact ar45 h64) (bRange fun t u v => ?_)⟩
  rw [List.length_map]
  refine VComp.list (iter_range (by exact ar46 h64)) (fun _ _ => trivial) (fun i => (items xs i).map pv) rfl (fun a C i N' hi hN => ?_) (fun N' hN => ?_)
  · refine .pos rfl ⟨by unfold items; simp; exact ar326 h64 hi, _, cell, iLst (by exact ar0) (by exact ar10 h64 hi) (look_at (st []) hi) ⟨_, _, .refl, (by show 2 ≤ sizeLine; decide), ?_, rfl⟩⟩
    rw [items_succ, List.map_append]; rfl
  · have hr : (items xs xs.length).map pv = ((items xs xs.length).map fun p => (V.str p.1, [V.int (p.2 : Int)])).map fun p => V.tup (p.1 :: p.2) := by rw [List.map_map]; rfl
    have ln : (items xs xs.length).length = xs.length := by unfold items; simp
    refine bSortT (T := "str") (rows := (items xs xs.length).map fun p => (V.str p.1, [V.int (p.2 : Int)])) (by rw [hr]; exact .lst _) ⟨by decide, fun p hp h v r => ?_⟩ ?_ ?_ (by simp [ln]; exact ar67 h1) (by simp [ln]; exact ar327 h64) (fun zs hz => ?_)
    · obtain ⟨q, _, rfl⟩ := List.mem_map.mp hp
      obtain ⟨_, rfl⟩ := r.inv; rfl
    · intro x hx y hy
      obtain ⟨p, _, rfl⟩ := List.mem_map.mp hx
      obtain ⟨q, _, rfl⟩ := List.mem_map.mp hy
      exact pv_lex p q
    · intro x hx
      obtain ⟨p, _, rfl⟩ := List.mem_map.mp hx
      exact pv_nn p
    · rw [← hr] at hz
      obtain ⟨ps, hp, rfl⟩ := perm_map_inv hz.1 _ rfl
      refine VComp.list (iter_list (.lst _)) (fun _ _ => .lst _) (fun i => (ps.take i).map fun p => .int (p.2 : Int)) rfl (fun a C i N₂ hi hN₂ => ?_) (fun N₂ hN₂ => ?_)
      · have hi : i < ps.length := by simpa using hi
        have e : (ps.map pv).getD i .none = pv ps[i] := by rw [List.getD_eq_getElem?_getD, List.getElem?_map, List.getElem?_eq_getElem hi]; rfl
        rw [e]
        refine .pos rfl ⟨?_, ?_, rfl⟩
        · have := hp.length_eq
          rw [List.length_map, List.length_take]; exact ar328 h64 ln hi this
        · rw [List.take_add_one, List.getElem?_eq_getElem hi, List.map_append]; rfl
      · rw [List.length_map, List.take_length]
        exact ⟨σ.add L, _, .sub sb, h N₂ ps (by exact ar329 hL hc1 hN hN₂) ⟨hp, hz.2⟩⟩
/-- the heap after `n` pushes -/
noncomputable def pushed (xs : List Str) : Nat → List V
  | 0 => []
  | n + 1 => sd (pushed xs n ++ [pv (xs.getD n (st []), n)]) 0 (pushed xs n).length
theorem pushed_ok (xs : List Str) : ∀ n, (pushed xs n).Perm ((items xs n).map pv) ∧ Hp (pushed xs n)
  | 0 => ⟨.refl _, fun i _ h => absurd h (Nat.not_lt_zero _)⟩
  | n + 1 => by
    have ih := pushed_ok xs n
    have p : (pushed xs n ++ [pv (xs.getD n (st []), n)]).Perm ((items xs (n + 1)).map pv) := by rw [items_succ, List.map_append]; exact ih.1.append_right _
    have := push_ok ((pv_kind _).perm p) ih.2
    exact ⟨this.1.trans p, this.2⟩
inductive PopJ (xs : List Str) (S : Store) (a i : Nat) (o : AObj) (σ' : Store) (N : Nat) : Prop
  | mk (out rest : List (Str × Nat)) (eo : o = .list (out.map fun p => .int (p.2 : Int))) (len : out.length = i) (hs : List V) (es : σ' = pt S a (.list hs)) (eh : hs = rest.map pv) (hh : Hp hs) (perm : (out ++ rest).Perm (items xs xs.length)) (w : (out.map pv).Pairwise le) (all : ∀ p ∈ out, ∀ q ∈ rest, le (pv p) (pv q))
theorem taken_ok (b : Base B) {xs : List Str} (h64 : xs.length < 64) {Q : Post V} (h : ∀ (N' : Nat) (ps : List (Str × Nat)), N ≤ N' → IsOrd xs ps → Q (.lst (ps.map fun p => .int p.2)) σ N') : WC B (d + 4) (.ref 141) [.lst (xs.map V.str)] σ N Q := by
  refine C_funC b.tabOk (names := ["row"]) (b.fn rfl) (b.code rfl rfl) b.lim rfl rfl (fun s hl => ?_) (fun n x hx => by cases hx with | head => exact .inl rfl | tail _ h => cases h) (fun n => by show (["heap"] : List Str).Nodup; decide) ⟨rfl, rfl, rfl, rfl, rfl⟩ (fun L N₁ hL hσL hab hLN hcs => ?_)
  · obtain ⟨x, rfl⟩ := len1 hl
    rfl
  have hc1 : L + 1 < N₁ := hcs ("heap", L + 1) (.head _)
  show (vRun B tb (d + 3) 200).S (callEnvC fd141 L 141) (stmtsOf (at_ bodyP 17)) [("row", .lst (xs.map V.str))] (pt (σ.add L) (L + 1) (.cell none)) N₁ (Back σ.fr Q)
  refine .mut (by decide) fun a ha => ⟨⟨_, (pt_ne (by exact ar85 hLN hc1 ha)).trans (pt_same _ _ _)⟩, ?_⟩
  refine bLen (.lst _) (by simp; exact ar45 h64) (bRange fun t u v => ?_)
  rw [List.length_map]
  have hP : ∀ x y, (∃ p, x = pv p) → (∃ p, y = pv p) → ∃ a b, x = .tup a ∧ y = .tup b ∧ LexOk a b := by
    rintro _ _ ⟨p, rfl⟩ ⟨q, rfl⟩
    exact ⟨_, _, rfl, rfl, pv_lex p q⟩
  have all : ∀ n, ∀ x ∈ pushed xs n, ∃ p, x = pv p := fun n x hx => by
    obtain ⟨p, _, rfl⟩ := List.mem_map.mp ((pushed_ok xs n).1.mem_iff.mp hx)
    exact ⟨p, rfl⟩
  have len : ∀ n, (pushed xs n).length = n := fun n => by have := (pushed_ok xs n).1.length_eq; rw [this]; unfold items; simp
  have S : ∀ hs : List V, ∃ σ₀, σ₀ = pt (pt (σ.add L) (L + 1) (.cell (some (.ref a)))) a (.list hs) := fun _ => ⟨_, rfl⟩
  have e0 : pt (pt (pt (σ.add L) (L + 1) (.cell none)) a (.list [])) (L + 1) (.cell (some (.ref a))) = pt (pt (σ.add L) (L + 1) (.cell (some (.ref a)))) a (.list []) := by
    rw [pt_comm (a := a) (b := L + 1) (by exact ar330 hLN hc1 ha), pt_pt]
  rw [e0]
  have cell : ∀ o, pt (pt (σ.add L) (L + 1) (.cell (some (.ref a)))) a o (L + 1) = some (.cell (some (.ref a))) := fun o => (pt_ne (by exact ar85 hLN hc1 ha)).trans (pt_same _ _ _)
  have sb : ∀ o, Sub (σ.add L) (pt (pt (σ.add L) (L + 1) (.cell (some (.ref a)))) a o) := fun o => sub_pt (sub_pt (.refl _) (hab _ (by exact ar6 hL))) (hab _ (by exact ar83 hL hc1 ha))
  refine .items (iter_range (by exact ar46 h64)) (fun i l σ' N' => l = ([("row", .lst (xs.map V.str))] : Loc) ∧ σ' = pt (pt (σ.add L) (L + 1) (.cell (some (.ref a)))) a (.list (pushed xs i))) [("row", .lst (xs.map V.str))] (.cons rfl (.nil _)) ⟨rfl, rfl⟩ (fun _ _ _ _ _ _ => trivial) ?_ ?_
  · rintro i l σ' N' hi ⟨rfl, rfl⟩ hN
    refine ⟨_, cell _, iLst (by exact ar0) (by exact ar10 h64 hi) (look_at (st []) hi) ⟨_, _, .refl, (by show 2 ≤ sizeLine; decide), ⟨?_⟩⟩⟩
    refine heappush_ok (xs := pushed xs i) (P := fun x => ∃ p, x = pv p) b hP (pt_same _ _ _) (all i) ⟨(xs.getD i (st []), i), rfl⟩ (by rw [len]; exact ar331 h64 hi) fun N₂ hN₂ => ?_
    rw [pt_pt]
    exact ⟨_, .cons rfl (.nil _), rfl, rfl⟩
  · rintro l σ' N' ⟨rfl, rfl⟩ hN
    refine .mk (iter_list (.lst _)) fun ac C ha hC => ⟨PopJ xs ((pt (pt (σ.add L) (L + 1) (.cell (some (.ref a)))) a (.list (pushed xs xs.length))).add ac |>.add C) a, ?_, ?_, ?_, ?_⟩
    · obtain ⟨rest, hp, hr⟩ := perm_map_inv (pushed_ok xs xs.length).1 _ rfl
      exact ⟨[], rest, rfl, rfl, pushed xs xs.length, (pt_id (σ := ((pt (pt (σ.add L) (L + 1) (.cell (some (.ref a)))) a (.list (pushed xs xs.length))).add ac).add C) (pt_same _ _ _)).symm, hr, (pushed_ok xs xs.length).2, hp, .nil, fun _ h => nomatch h⟩
    · intro i o σ' N' _; exact .lst _
    · rintro i o σ' N₂ hi ⟨out, rest, rfl, hlen, hs, rfl, rfl, hh, hp, hw, hall⟩ hN₂
      have hi : i < xs.length := by simpa using hi
      have hl := hp.length_eq
      have hit : (items xs xs.length).length = xs.length := by unfold items; simp
      rw [List.length_append, hlen, hit] at hl
      have h0 : 0 < (rest.map pv).length := by rw [List.length_map]; exact ar332 hi hl
      have pk := pop_ok (pv_kind rest) hh h0
      obtain ⟨r2, hr2, er2⟩ := perm_map_inv pk.1 _ rfl
      cases r2 with
      | nil => cases er2
      | cons q r2 =>
        rw [List.map_cons] at er2
        injection er2 with ea eb
        refine .pos rfl ⟨by simp; exact ar333 h64 hlen hi, _, (pt_ne (by lia)).trans (cell _), ⟨?_⟩⟩
        refine heappop_ok (xs := rest.map pv) (P := fun x => ∃ p, x = pv p) b hP (pt_same _ _ _) (fun x hx => by obtain ⟨p, _, rfl⟩ := List.mem_map.mp hx; exact ⟨p, rfl⟩) h0 (by rw [List.length_map]; exact ar334 h64 hl) fun N₃ hN₃ => ?_
        rw [ea, eb]
        refine iTup (v := .int (q.2 : Int)) (by decide) (by decide) rfl ?_
        refine ⟨out ++ [q], r2, ?_, by simp [hlen], r2.map pv, pt_pt _ _ _ _, rfl, ?_, ?_, ?_, ?_⟩
        · rw [List.map_append]; rfl
        · rw [← eb]; exact pk.2.1
        · rw [List.append_assoc]; exact (hr2.append_left out).trans hp
        · rw [List.map_append, List.pairwise_append]
          refine ⟨hw, List.pairwise_singleton _ _, fun x hx y hy => ?_⟩
          obtain ⟨p, hp', rfl⟩ := List.mem_map.mp hx
          rw [List.map_singleton, List.mem_singleton] at hy
          rw [hy]
          exact hall p hp' q (hr2.mem_iff.mp (.head _))
        · intro p hp' z hz
          rcases List.mem_append.mp hp' with hp' | hp'
          · exact hall p hp' z (hr2.mem_iff.mp (.tail _ hz))
          · rw [List.mem_singleton.mp hp', ← ea]
            exact pk.2.2 _ (List.mem_map_of_mem (hr2.mem_iff.mp (.tail _ hz)))
    · rintro o σ' N₂ ⟨out, rest, rfl, hlen, hs, rfl, rfl, hh, hp, hw, hall⟩ hN₂
      have hl := hp.length_eq
      have hit : (items xs xs.length).length = xs.length := by unfold items; simp
      rw [List.length_append, hlen, hit, List.length_map] at hl
      have hr : rest = [] := List.eq_nil_of_length_eq_zero (by exact ar335 hl)
      subst hr
      rw [List.append_nil] at hp
      refine ⟨_, .list _, σ.add L, _, .sub ?_, h N₂ out (by lia) ⟨hp, hw⟩⟩
      exact sub_pt (⟨(sb (.list (pushed xs xs.length))).sub, rfl⟩) (hab _ (by lia))
end
end
noncomputable section
/-! dicts of ints, seen plainly -/
noncomputable def gget {α : Type} (es : List (Kx × α)) (k : Kx) : Option α := (es.find? fun kv => kv.1 = k).map (·.2)
noncomputable def gset {α : Type} (es : List (Kx × α)) (k : Kx) (v : α) : List (Kx × α) := if es.any (fun kv => kv.1 = k) then es.map (fun kv => if kv.1 = k then (kv.1, v) else kv) else es ++ [(k, v)]
noncomputable def vm {α : Type} (f : α → V) (es : List (Kx × α)) : Dk := es.map fun p => (p.1, f p.2)
section
variable {α : Type} {f : α → V}
theorem dget_vm (es : List (Kx × α)) (k : Kx) : dget (vm f es) k = (gget es k).map f := by
  unfold dget gget vm
  rw [List.find?_map]
  show ((es.find? fun p => decide (p.1 = k)).map fun p => (p.1, f p.2)).map (·.2) = _
  rw [Option.map_map, Option.map_map]
  rfl
theorem dset_vm (es : List (Kx × α)) (k : Kx) (v : α) : dset (vm f es) k (f v) = vm f (gset es k v) := by
  unfold dset gset vm
  rw [List.any_map]
  show (if es.any (fun p => decide (p.1 = k)) = true then _ else _) = _
  split
  · rw [List.map_map, List.map_map]
    refine List.map_congr_left fun p _ => ?_
    show (if p.1 = k then (p.1, f v) else (p.1, f p.2)) = _
    show _ = ((if p.1 = k then (p.1, v) else p).1, f (if p.1 = k then (p.1, v) else p).2)
    split <;> rfl
  · rw [List.map_append]; rfl
theorem gset_len (es : List (Kx × α)) (k : Kx) (v : α) : (gset es k v).length ≤ es.length + 1 := by
  unfold gset
  split
  · rw [List.length_map]; exact Nat.le_succ _
  · rw [List.length_append]; exact Nat.le_refl _
theorem vm_len (es : List (Kx × α)) : (vm f es).length = es.length := List.length_map _
theorem vm_getD {es : List (Kx × α)} {i : Nat} (hi : i < es.length) (d : Kx × V) : (vm f es).getD i d = (es[i].1, f es[i].2) := by
  unfold vm; rw [List.getD_eq_getElem?_getD, List.getElem?_map, List.getElem?_eq_getElem hi]; rfl
end
noncomputable def copied (es : List (Kx × Int)) : List (Kx × Int) := es.foldl (fun acc p => gset acc p.1 p.2) []
noncomputable def addTo (acc : List (Kx × Int)) (p : Kx × Int) : List (Kx × Int) := gset acc p.1 (match gget acc p.1 with | some x => x + p.2 | none => p.2)
noncomputable def addc (es fs : List (Kx × Int)) : List (Kx × Int) := fs.foldl addTo (copied es)
theorem fold_len {β : Type} (g : List (Kx × Int) → β → List (Kx × Int)) (h : ∀ a b, (g a b).length ≤ a.length + 1) : ∀ (l : List β) (acc : List (Kx × Int)), (l.foldl g acc).length ≤ acc.length + l.length
  | [], _ => Nat.le_refl _
  | b :: l, acc => by have := fold_len g h l (g acc b); have := h acc b; rw [List.foldl_cons, List.length_cons]; lia
theorem take_fold {β γ : Type} (g : γ → β → γ) (l : List β) (acc : γ) {i : Nat} (h : i < l.length) : (l.take (i + 1)).foldl g acc = g ((l.take i).foldl g acc) l[i] := by
  rw [List.take_add_one, List.getElem?_eq_getElem h, List.foldl_append]; rfl
section
variable {B : Cx} {d : Nat} {σ : Store} {N : Nat}
theorem vIn_k {k : Kx} {a : Nat} {Q : Post V} {p : Prop} (h : p) : vCmp .In k.v (.ref a) σ N Q p := by cases k <;> exact h
theorem std_ok (b : Base B) {a c : Str} {n : Nat} (ha : a.length ≤ 1000) (hc : c.length ≤ 1000) (hn : n < 1000) (hne : a ≠ "~") {Q : Post V} (h : ∀ N', N ≤ N' → Q (.str (a ++ ⟨#[58]⟩ ++ Str.ofString (toString (n : Int)) ++ ⟨#[40]⟩ ++ c ++ ⟨#[41]⟩)) σ N') : WC B (d + 1) (.ref 91) [.tup [.str a, .int n, .str c]] σ N Q := by
  refine C_fun b.tabOk (names := ["func_name"]) (b.fn rfl) (b.code rfl rfl) b.lim rfl (fun s as hl => ?_) (by decide) (by decide) ⟨rfl, rfl, rfl, rfl, rfl⟩ (fun L hL hσL hab => ?_)
  · obtain ⟨x, rfl⟩ := len1 hl
    exact .of_eq rfl
  refine .plain (sTup2 ⟨_, _, .refl, (by show 2 ≤ sizeLine; decide), ?_⟩)
  have hb : (eqS (.str a) (.str "~") && (eqS (.int n) (.int 0) && true)) = false := by
    rw [show eqS (.str a) (.str "~") = decide (a = "~") from rfl, decide_eq_false hne]; rfl
  refine nEqT (.cons (.str _ _) (.cons (.int _ _) .nil)) ?_
  rw [hb]
  refine .neg rfl ?_
  exact nFmt (by exact ar86 ha) (by exact ar86 hc) (by exact ar336 hn) (by exact ar0) ⟨_, _, .refl, h N (Nat.le_refl _)⟩
theorem add_callers_ok (b : Base B) {es fs : List (Kx × Int)} (hz : es.length + fs.length < 2 ^ 19) {Q : Post V} (h : ∀ N', N ≤ N' → Q (.dct (vm V.int (addc es fs))) σ N') : WC B (d + 1) (.ref 105) [.dct (vm V.int es), .dct (vm V.int fs)] σ N Q := by
  refine C_fun b.tabOk (names := ["target", "source"]) (b.fn rfl) (b.code rfl rfl) b.lim rfl (fun s as hl => ?_) (by decide) (by decide) ⟨rfl, rfl, rfl, rfl, rfl⟩ (fun L hL hσL hab => ?_)
  · obtain ⟨x, y, rfl⟩ := len2 hl
    exact .of_eq rfl
  have fl : ∀ i, ((es.take i).foldl (fun acc p => gset acc p.1 p.2) ([] : List (Kx × Int))).length ≤ es.length := fun i => by
    have := fold_len (fun acc (p : Kx × Int) => gset acc p.1 p.2) (fun a b => gset_len a _ _) (es.take i) []
    rw [List.length_take] at this
    simp only [List.length_nil] at this; exact ar337 this
  have gl : ∀ i, ((fs.take i).foldl addTo (copied es)).length ≤ es.length + fs.length := fun i => by
    have := fold_len addTo (fun a b => gset_len a _ _) (fs.take i) (copied es)
    rw [List.length_take] at this
    have h2 := fl es.length
    rw [List.take_length] at h2
    unfold copied at *; exact ar338 this h2
  intro a ha
  refine .mut fun ep => ?_
  refine VMeth.builtin (.dict (.dct _)) rfl (bItems ?_)
  refine .items (iter_items (.view _)) (fun i l σ' N' => ∃ ep, l = ([("target", .dct (vm V.int es)), ("source", .dct (vm V.int fs)), ("new_callers", .ref a)] : Loc) ∧ σ' = pt (σ.add L) a (.dict (vm V.int ((es.take i).foldl (fun acc p => gset acc p.1 p.2) [])) ep)) [("target", .dct (vm V.int es)), ("source", .dct (vm V.int fs)), ("new_callers", .ref a)] (.cons rfl (.cons rfl (.cons rfl (.nil _)))) ⟨ep, rfl, rfl⟩ (fun _ _ _ _ _ _ => trivial) ?_ ?_
  · rintro i l σ' N' hi ⟨ep, rfl, rfl⟩ hN
    rw [vm_len] at hi
    rw [vm_getD hi]
    have e := take_fold (fun (acc : List (Kx × Int)) (p : Kx × Int) => gset acc p.1 p.2) es [] hi
    refine pDict (pt_same _ _ _) (by rw [vm_len]; have := fl i; exact ar339 hz this) fun ep' => ?_
    rw [pt_pt, dset_vm]
    exact ⟨_, .cons rfl (.cons rfl (.cons rfl (.nil _))), ep', rfl, by rw [e]⟩
  · rintro l σ' N' ⟨ep, rfl, rfl⟩ hN
    rw [vm_len, List.take_length]
    refine VMeth.builtin (.dict (.dct _)) rfl (bItems ?_)
    refine .items (iter_items (.view _)) (fun i l σ' N' => ∃ ep, l = ([("target", .dct (vm V.int es)), ("source", .dct (vm V.int fs)), ("new_callers", .ref a)] : Loc) ∧ σ' = pt (σ.add L) a (.dict (vm V.int ((fs.take i).foldl addTo (copied es))) ep)) [("target", .dct (vm V.int es)), ("source", .dct (vm V.int fs)), ("new_callers", .ref a)] (.cons rfl (.cons rfl (.cons rfl (.nil _)))) ⟨ep, rfl, rfl⟩ (fun _ _ _ _ _ _ => trivial) ?_ ?_
    · rintro i l σ' N₂ hi ⟨ep, rfl, rfl⟩ hN₂
      rw [vm_len] at hi
      rw [vm_getD hi]
      have e := take_fold addTo fs (copied es) hi
      have hl := gl i
      generalize hacc : (fs.take i).foldl addTo (copied es) = acc at *
      refine .plain ?_
      refine vIn_k (nInD (.ref (pt_same _ _ _)) ?_)
      rw [dget_vm]
      cases hg : gget acc fs[i].1 with
      | some x =>
        refine .pos rfl (.plain (bIsTup (.neg rfl ?_)))
        refine ⟨D_get (v := .int x) (.ref (pt_same _ _ _)) (by rw [dget_vm, hg]; rfl) ?_⟩
        refine pDict (v := .int (x + fs[i].2)) (pt_same _ _ _) (by rw [vm_len]; exact ar87 hz hl) fun ep' => ?_
        rw [pt_pt, dset_vm]
        exact ⟨_, .cons rfl (.cons rfl (.cons rfl (.nil _))), ep', rfl, by rw [e]; unfold addTo; rw [hg]⟩
      | none =>
        refine .neg rfl ?_
        refine pDict (pt_same _ _ _) (by rw [vm_len]; exact ar87 hz hl) fun ep' => ?_
        rw [pt_pt, dset_vm]
        exact ⟨_, .cons rfl (.cons rfl (.cons rfl (.nil _))), ep', rfl, by rw [e]; unfold addTo; rw [hg]⟩
    · rintro l σ' N₂ ⟨ep, rfl, rfl⟩ hN₂
      rw [vm_len, List.take_length]
      exact ⟨σ.add L, _, .dict (pt_same _ _ _) (sub_pt (.refl _) (hab a (by exact ar2 ha))) (hab a (by exact ar2 ha)), h N₂ (by exact ar340 ha hN hN₂)⟩
noncomputable def stat (a b c e : Int) (es : List (Kx × Int)) : V := .tup [.int a, .int b, .int c, .int e, .dct (vm V.int es)]
theorem add_stats_ok (b : Base B) {a1 a2 a3 a4 b1 b2 b3 b4 : Int} {es fs : List (Kx × Int)} (hz : es.length + fs.length < 2 ^ 19) {Q : Post V} (h : ∀ N', N ≤ N' → Q (stat (b1 + a1) (b2 + a2) (b3 + a3) (b4 + a4) (addc es fs)) σ N') :
    WC B (d + 2) (.ref 98) [stat a1 a2 a3 a4 es, stat b1 b2 b3 b4 fs] σ N Q := by
  refine C_fun b.tabOk (names := ["target", "source"]) (b.fn rfl) (b.code rfl rfl) b.lim rfl (fun s as hl => ?_) (by decide) (by decide) ⟨rfl, rfl, rfl, rfl, rfl⟩ (fun L hL hσL hab => ?_)
  · obtain ⟨x, y, rfl⟩ := len2 hl
    exact .of_eq rfl
  refine ⟨?_⟩
  refine add_callers_ok b hz fun N' hN' => ?_
  exact ⟨_, _, .refl, (by show 5 ≤ sizeLine; decide), _, _, .refl, h N' hN'⟩
theorem count_ok' (b : Base B) {es : List (Kx × Int)} {Q : Post V} (h : ∀ N', N ≤ N' → Q (.int (es.map (·.2)).sum) σ N') : WC B (d + 1) (.ref 112) [.dct (vm V.int es)] σ N Q := by
  refine C_fun b.tabOk (names := ["callers"]) (b.fn rfl) (b.code rfl rfl) b.lim rfl (fun s as hl => ?_) (by decide) (by decide) ⟨rfl, rfl, rfl, rfl, rfl⟩ (fun L hL hσL hab => ?_)
  · obtain ⟨x, rfl⟩ := len1 hl
    exact .of_eq rfl
  refine VMeth.builtin (.dict (.dct _)) rfl (bValues ?_)
  refine .items (iter_values (.view _)) (fun i l σ' N' => l = ([("callers", .dct (vm V.int es)), ("nc", .int ((es.take i).map (·.2)).sum)] : Loc) ∧ σ' = σ.add L) [("callers", .dct (vm V.int es)), ("nc", .int 0)] (.cons rfl (.cons rfl (.nil _))) ⟨rfl, rfl⟩ (fun _ _ _ _ _ _ => trivial) ?_ ?_
  · rintro i l σ' N' hi ⟨rfl, rfl⟩ hN
    rw [vm_len] at hi
    rw [vm_getD hi]
    refine ⟨_, .cons rfl (.cons ?_ (.nil _)), rfl, rfl⟩
    rw [List.take_add_one, List.getElem?_eq_getElem hi, List.map_append, List.sum_append]
    show some (V.int _) = some (V.int _)
    simp
  · rintro l σ' N' ⟨rfl, rfl⟩ hN
    rw [vm_len, List.take_length]
    exact ⟨_, _, .refl, h N' hN⟩
end
end
noncomputable section
section
variable {B : Cx}
noncomputable def rv (rows : List (List Str)) : V := .lst (rows.map fun r => V.lst (r.map V.str))
noncomputable def one1 (n : Nat) (f : List Str → List (List Str)) (row : List Str) (k : Nat) : List (List Str) := if (row.take k).any (· == row.getD k (st [])) then [] else (f (row.take k ++ row.drop (k + 1))).map (row.getD k (st []) :: ·)
/-- the orders of a row's words -/
noncomputable def ords : Nat → List Str → List (List Str)
  | 0, _ => [[]]
  | n + 1, row => (List.range (n + 1)).flatMap (one1 n (ords n) row)
theorem ords_len : ∀ n row, (ords n row).length ≤ 8 ^ n ∨ 8 < n := fun n => by
  induction n with
  | zero => intro row; exact .inl (Nat.le_refl _)
  | succ n ih =>
    intro row
    by_cases h8 : 8 < n + 1
    · exact .inr h8
    left
    have one : ∀ k, (one1 n (ords n) row k).length ≤ 8 ^ n := fun k => by
      unfold one1
      split
      · exact Nat.zero_le _
      · rw [List.length_map]; exact (ih _).resolve_right (by exact ar341 h8)
    have go : ∀ m, ((List.range m).flatMap (one1 n (ords n) row)).length ≤ m * 8 ^ n := by
      intro m
      induction m with
      | zero => simp
      | succ m ih' =>
        rw [List.range_succ, List.flatMap_append, List.length_append, Nat.succ_mul]
        have := one m
        simp only [List.flatMap_cons, List.flatMap_nil, List.append_nil]
        exact ar88 ih' this
    have := go (n + 1)
    have h2 : (n + 1) * 8 ^ n ≤ 8 * 8 ^ n := Nat.mul_le_mul_right _ (by exact ar342 h8)
    show ((List.range (n + 1)).flatMap (one1 n (ords n) row)).length ≤ _
    rw [Nat.pow_succ, Nat.mul_comm (8 ^ n) 8]; exact ar343 this h2
theorem ords_mem : ∀ (n : Nat) (row r : List Str), r ∈ ords n row → r.length = n
  | 0, row, r, h => by
    have h : r ∈ [([] : List Str)] := h
    rw [List.mem_singleton.mp h]; rfl
  | n + 1, row, r, h => by
    obtain ⟨k, _, hk⟩ := List.mem_flatMap.mp h
    unfold one1 at hk
    split at hk
    · cases hk
    · obtain ⟨x, hx, rfl⟩ := List.mem_map.mp hk
      rw [List.length_cons, ords_mem n _ _ hx]
noncomputable def OrJ (S : Store) (L a : Nat) (row : List Str) (acc : List (List Str)) (l : Loc) (σ' : Store) (_ : Nat) : Prop :=
  ∃ o, l = ([("orders", .ref a)] : Loc) ∧ σ' = pt (pt (pt S (L + 1) (.cell (some (.lst (row.map V.str))))) (L + 2) (.cell o)) a (.list (acc.map fun r => V.lst (r.map V.str)))
theorem orders_ok (b : Base B) : ∀ (n : Nat) (row : List Str), row.length = n → n ≤ 4 → ∀ {d : Nat} {σ : Store} {N : Nat} {Q : Post V}, (∀ N', N ≤ N' → Q (rv (ords n row)) σ N') → WC B (d + n + 1) (.ref 161) [.lst (row.map V.str)] σ N Q := by
  intro n
  induction n with
  | zero =>
    intro row hl _ d σ N Q h
    have : row = [] := List.eq_nil_of_length_eq_zero hl
    subst this
    refine C_funC b.tabOk (names := ["row"]) (b.fn rfl) (b.code rfl rfl) b.lim rfl rfl (fun s hl => ?_) (fun n x hx => by cases hx with | head => exact .inr ⟨rfl, rfl⟩ | tail _ h => cases h) (fun n => by show (["k", "row"] : List Str).Nodup; decide) ⟨rfl, rfl, rfl, rfl, rfl⟩ (fun L N₁ hL hσL hab hLN hcs => ?_)
    · obtain ⟨x, rfl⟩ := len1 hl
      rfl
    show (vRun B tb d 200).S (callEnvC fd161 L 161) (stmtsOf (at_ bodyP 21)) [] (pt (pt (σ.add L) (L + 1) (.cell (some (.lst [])))) (L + 2) (.cell none)) N₁ (Back σ.fr Q)
    have cell : pt (pt (σ.add L) (L + 1) (.cell (some (.lst [])))) (L + 2) (.cell none) (L + 1) = some (.cell (some (.lst []))) := (pt_ne (by exact ar7)).trans (pt_same _ _ _)
    refine .plain ⟨_, cell, .froz (by decide) fun N₂ h2 => ?_⟩
    refine nEq (n := 1) (.lst (.nil _)) (by decide) (.pos rfl ?_)
    refine .froz (by decide) fun N₃ h3 => .froz (by decide) fun N₄ h4 => ?_
    exact ⟨σ.add L, _, .sub (sub_pt (sub_pt (.refl _) (hab _ (by exact ar6 hL))) (hab _ (by exact ar23 hL))), h N₄ (by exact ar344 hL hLN h2 h3 h4)⟩
  | succ n ih =>
    intro row hl hn4 d σ N Q h
    refine C_funC b.tabOk (names := ["row"]) (b.fn rfl) (b.code rfl rfl) b.lim rfl rfl (fun s hl => ?_) (fun n x hx => by cases hx with | head => exact .inr ⟨rfl, rfl⟩ | tail _ h => cases h) (fun n => by show (["k", "row"] : List Str).Nodup; decide) ⟨rfl, rfl, rfl, rfl, rfl⟩ (fun L N₁ hL hσL hab hLN hcs => ?_)
    · obtain ⟨x, rfl⟩ := len1 hl
      rfl
    have hc1 : L + 2 < N₁ := hcs ("k", L + 2) (.head _)
    show (vRun B tb (d + n + 1) 200).S (callEnvC fd161 L 161) (stmtsOf (at_ bodyP 21)) [] (pt (pt (σ.add L) (L + 1) (.cell (some (.lst (row.map V.str))))) (L + 2) (.cell none)) N₁ (Back σ.fr Q)
    have cell : ∀ o, pt (pt (σ.add L) (L + 1) (.cell (some (.lst (row.map V.str))))) (L + 2) o (L + 1) = some (.cell (some (.lst (row.map V.str)))) := fun o => (pt_ne (by exact ar7)).trans (pt_same _ _ _)
    have sb : ∀ o, Sub (σ.add L) (pt (pt (σ.add L) (L + 1) (.cell (some (.lst (row.map V.str))))) (L + 2) o) := fun o => sub_pt (sub_pt (.refl _) (hab _ (by exact ar6 hL))) (hab _ (by exact ar23 hL))
    obtain ⟨r0, rs, hr⟩ : ∃ r0 rs, row = r0 :: rs := by
      cases row with
      | nil => cases hl
      | cons a r => exact ⟨a, r, rfl⟩
    have hrow : row.map V.str = V.str r0 :: rs.map V.str := by rw [hr]; rfl
    refine .plain ⟨_, cell _, .froz (by decide) fun N₂ h2 => ?_⟩
    refine nEqL0 (v := .str r0) (xs := rs.map V.str) (by rw [hrow]; exact .lst _) (.lst _) (.neg rfl ?_)
    refine .mut (by decide) fun a ha => ?_
    refine ⟨_, (pt_ne (by exact ar89 hLN hc1 h2 ha)).trans (cell _), bLen (.lst _) (by simp; exact ar345 hl hn4) (bRange fun t u v => ?_)⟩
    rw [List.length_map, hl]
    refine .items (iter_range (by exact ar346 hn4)) (fun i => OrJ (σ.add L) L a row ((List.range i).flatMap (one1 n (ords n) row))) [("orders", .ref a)] (.cons rfl (.nil _)) ⟨none, rfl, rfl⟩ (fun _ _ _ _ _ _ => trivial) ?_ ?_
    · rintro i l σ' N' hi ⟨o, rfl, rfl⟩ hN
      refine ⟨⟨_, (pt_ne (by exact ar347 hc1 h2 ha)).trans (pt_same _ _ _)⟩, ?_⟩
      rw [pt_comm (a := a) (b := L + 2) (by exact ar348 hc1 h2 ha), pt_pt]
      generalize hacc : ((List.range i).flatMap (one1 n (ords n) row)) = acc
      have hstep : (List.range (i + 1)).flatMap (one1 n (ords n) row) = acc ++ one1 n (ords n) row i := by
        rw [List.range_succ, List.flatMap_append, hacc]; simp
      have hal : acc.length ≤ 5 * 8 ^ 4 := by
        rw [← hacc]
        have one : ∀ k, (one1 n (ords n) row k).length ≤ 8 ^ 4 := fun k => by
          unfold one1
          split
          · exact Nat.zero_le _
          · rw [List.length_map]; exact Nat.le_trans ((ords_len n _).resolve_right (by exact ar90 hn4)) (Nat.pow_le_pow_right (by decide) (by exact ar24 hn4))
        have go : ∀ m, ((List.range m).flatMap (one1 n (ords n) row)).length ≤ m * 8 ^ 4 := by
          intro m
          induction m with
          | zero => simp
          | succ m ih' =>
            rw [List.range_succ, List.flatMap_append, List.length_append, Nat.succ_mul]
            have := one m
            simp only [List.flatMap_cons, List.flatMap_nil, List.append_nil]
            exact ar349 ih' this
        have := go i
        have h5 : i * 8 ^ 4 ≤ 5 * 8 ^ 4 := Nat.mul_le_mul_right _ (by exact ar350 hn4 hi)
        lia
      have kc : ∀ X, pt (pt (pt (σ.add L) (L + 1) (.cell (some (.lst (row.map V.str))))) (L + 2) (.cell (some (.int (i : Nat))))) a X (L + 2) = some (.cell (some (.int (i : Nat)))) := fun X => (pt_ne (by exact ar352 hc1 h2 ha)).trans (pt_same _ _ _)
      have rc : ∀ X, pt (pt (pt (σ.add L) (L + 1) (.cell (some (.lst (row.map V.str))))) (L + 2) (.cell (some (.int (i : Nat))))) a X (L + 1) = some (.cell (some (.lst (row.map V.str)))) := fun X => (pt_ne (by exact ar89 hLN hc1 h2 ha)).trans (cell _)
      have hrl : (row.map V.str).length ≤ sizeLine := by rw [List.length_map, sizeLine_eq]; exact ar353 hl hn4
      refine .plain ⟨_, rc _, _, kc _, iLst (by exact ar0) (by exact ar91 hn4 hi) (look_at (st []) (by exact ar92 hl hi)) ⟨_, rc _, _, kc _, ?_⟩⟩
      refine sList (.lst _) (by decide) hrl ?_
      rw [lpick_to, ← List.map_take]
      refine nNotInL (.lst _) ?_
      show VIf (!(row.take i).any (· == row.getD i (st []))) _ _
      refine ⟨fun hq => ?_, fun hq => ?_⟩
      · have hq : (row.take i).any (· == row.getD i (st [])) = false := by simpa using hq
        have hstep : (List.range (i + 1)).flatMap (one1 n (ords n) row) = acc ++ (ords n (row.take i ++ row.drop (i + 1))).map (row.getD i (st []) :: ·) := by rw [hstep]; unfold one1; rw [hq]; rfl
        refine VMeth.builtin (.list (.ref (pt_same _ _ _))) rfl ?_
        refine ⟨_, rc _, _, kc _, sList (.lst _) (by decide) hrl ⟨_, rc _, _, kc _, ?_⟩⟩
        rw [lpick_to]
        refine sList (.lst _) (by decide) hrl ?_
        rw [show ((i : Int) + 1) = ((i + 1 : Nat) : Int) from by exact ar13, lpick_from, ← List.map_take, ← List.map_drop]
        refine nAddL (.lst _) (.lst _) (by simp; rw [sizeLine_eq]; exact ar354 hl hn4 hi) ?_
        rw [← List.map_append]
        refine ⟨?_⟩
        refine ih (row.take i ++ row.drop (i + 1)) (by simp; exact ar355 hl hi) (by exact ar24 hn4) fun N₃ hN₃ => ?_
        generalize hin : ords n (row.take i ++ row.drop (i + 1)) = inner at hstep
        have hil : inner.length ≤ 8 ^ 4 := by rw [← hin]; exact Nat.le_trans ((ords_len n _).resolve_right (by exact ar90 hn4)) (Nat.pow_le_pow_right (by decide) (by exact ar24 hn4))
        have h84 : 8 ^ 4 = 4096 := by decide
        refine VComp.list (iter_list (.lst _)) (fun _ _ => .lst _) (fun j => ((inner.take j).map (row.getD i (st []) :: ·)).map fun r => V.lst (r.map V.str)) rfl (fun a' C j N₄ hj hN₄ => ?_) (fun N₄ hN₄ => ?_)
        · have hj : j < inner.length := by simpa using hj
          have e : (inner.map fun r => V.lst (r.map V.str)).getD j .none = .lst (inner[j].map V.str) := by rw [List.getD_eq_getElem?_getD, List.getElem?_map, List.getElem?_eq_getElem hj]; rfl
          rw [e]
          refine .pos rfl ⟨by simp; exact ar356 hil hj, ?_⟩
          refine ⟨_, rc _, _, kc _, iLst (by exact ar0) (by exact ar91 hn4 hi) (look_at (st []) (by exact ar92 hl hi)) ?_⟩
          refine .froz (by show 1 ≤ sizeLine; decide) fun N₅ h5 => ?_
          refine nAddL (.lst _) (.lst _) ?_ ?_
          · have := ords_mem n (row.take i ++ row.drop (i + 1)) inner[j] (by rw [hin]; exact List.getElem_mem hj)
            rw [List.length_map, this, sizeLine_eq]; show 1 + n ≤ _; exact ar357 hn4
          · refine ⟨?_, rfl⟩
            rw [List.take_add_one, List.getElem?_eq_getElem hj, List.map_append, List.map_append]
            rfl
        · refine bExtend (pt_same _ _ _) (.lst _) (by simp; exact ar358 hal hil) ?_
          rw [pt_pt]
          refine ⟨_, .cons rfl (.nil _), some (.int (i : Nat)), rfl, ?_⟩
          rw [hstep, List.map_append, List.length_map, List.take_length]
      · have hq : (row.take i).any (· == row.getD i (st [])) = true := by simpa using hq
        refine ⟨_, .cons rfl (.nil _), some (.int (i : Nat)), rfl, ?_⟩
        rw [hstep]; unfold one1; rw [if_pos hq, List.append_nil]
    · rintro l σ' N' ⟨o, rfl, rfl⟩ hN
      exact ⟨σ.add L, _, .list (pt_same _ _ _) (sub_pt (sb _) (hab a (by exact ar93 hL hc1 h2 ha))) (hab a (by exact ar93 hL hc1 h2 ha)), h N' (by exact ar359 hL hc1 h2 ha hN)⟩
end
end
noncomputable section
structure S5 where
  a : Int
  b : Int
  c : Int
  e : Int
  es : List (Kx × Int)
noncomputable def S5.v (s : S5) : V := stat s.a s.b s.c s.e s.es
noncomputable def S5.zero : S5 := ⟨0, 0, 0, 0, []⟩
noncomputable def kxi : Kx → Int
  | .i k => k
  | .s _ => 0
/-- keys that are ints -/
noncomputable def AI (es : List (Kx × Int)) : Prop := ∀ p ∈ es, p.1 = .i (kxi p.1)
theorem gset_AI {es : List (Kx × Int)} {k v : Int} (h : AI es) : AI (gset es (.i k) v) := fun p hp => by
  unfold gset at hp
  split at hp
  · obtain ⟨q, hq, rfl⟩ := List.mem_map.mp hp
    split
    · exact h q hq
    · exact h q hq
  · rcases List.mem_append.mp hp with hp | hp
    · exact h p hp
    · rw [List.mem_singleton.mp hp]; rfl
theorem fold_AI {β : Type} {g : List (Kx × Int) → β → List (Kx × Int)} : ∀ (l : List β) (acc : List (Kx × Int)), AI acc → (∀ a, ∀ b ∈ l, AI a → AI (g a b)) → AI (l.foldl g acc)
  | [], _, h, _ => h
  | b :: l, acc, h, k => fold_AI l _ (k _ b (.head _) h) fun a c hc => k a c (.tail _ hc)
theorem addc_AI {es fs : List (Kx × Int)} (h : AI es) (k : AI fs) : AI (addc es fs) := by
  refine fold_AI fs _ (fold_AI es [] (fun _ h => nomatch h) fun a p hp ha => ?_) fun a p hp ha => ?_
  · rw [h p hp]; exact gset_AI ha
  · unfold addTo; rw [k p hp]; exact gset_AI ha
theorem addc_len (es fs : List (Kx × Int)) : (addc es fs).length ≤ es.length + fs.length := by
  have h1 := fold_len (fun acc (p : Kx × Int) => gset acc p.1 p.2) (fun a b => gset_len a _ _) es []
  have h2 := fold_len addTo (fun a b => gset_len a _ _) fs (copied es)
  unfold addc copied at *
  simp only [List.length_nil] at h1; exact ar360 h1 h2
theorem gget_at {α : Type} {es : List (Kx × α)} {p : Kx × α} (h : p ∈ es) : ∃ x, gget es p.1 = some x ∧ ∃ q ∈ es, q.2 = x := by
  unfold gget
  cases q : es.find? fun kv => decide (kv.1 = p.1) with
  | none => have := List.find?_eq_none.mp q p h; simp at this
  | some r => exact ⟨r.2, rfl, r, List.mem_of_find?_eq_some q, rfl⟩
noncomputable def shiftStep (s : Nat) (es : List (Kx × Int)) (acc : List (Kx × Int)) (p : Kx × Int) : List (Kx × Int) := gset acc (.i (kxi p.1 + s)) ((gget es p.1).getD 0)
noncomputable def shifted (s : Nat) (es : List (Kx × Int)) : List (Kx × Int) := es.foldl (shiftStep s es) []
noncomputable def widen (t : List (Kx × Int)) : Nat → List (Kx × Int)
  | 0 => []
  | c + 1 => addc (widen t c) (shifted c t)
noncomputable def tbl (book : List (Kx × S5)) (n : Nat) : List (Kx × Int) := (book.take n).foldl (fun acc p => addc acc ((gget book p.1).getD S5.zero).es) []
noncomputable def filled (book : List (Kx × S5)) (row : List Str) : Nat → List (Kx × Int)
  | 0 => tbl book book.length
  | k + 1 => widen (filled book row k) ((row.take (k + 1)).count (row.getD k (st [])))
theorem shifted_AI (s : Nat) (es : List (Kx × Int)) : AI (shifted s es) := fold_AI es [] (fun _ h => nomatch h) fun a p _ ha => gset_AI ha
theorem shifted_len (s : Nat) (es : List (Kx × Int)) : (shifted s es).length ≤ es.length := by
  have := fold_len (shiftStep s es) (fun a b => gset_len a _ _) es []
  unfold shifted; simp only [List.length_nil] at this; exact ar361 this
theorem widen_AI (t : List (Kx × Int)) : ∀ c, AI (widen t c)
  | 0 => fun _ h => nomatch h
  | c + 1 => addc_AI (widen_AI t c) (shifted_AI _ _)
theorem widen_len (t : List (Kx × Int)) : ∀ c, (widen t c).length ≤ c * t.length
  | 0 => Nat.zero_le _
  | c + 1 => by
    have := addc_len (widen t c) (shifted c t)
    have := widen_len t c
    have := shifted_len c t
    show (addc (widen t c) (shifted c t)).length ≤ _
    rw [Nat.succ_mul]; lia
/-- a book of `filled`'s kind -/
structure BookOk (book : List (Kx × S5)) : Prop where
  ai : ∀ p ∈ book, AI p.2.es
  len : ∀ p ∈ book, p.2.es.length ≤ 24
  n : book.length ≤ 24
theorem tbl_ok {book : List (Kx × S5)} (k : BookOk book) (n : Nat) : AI (tbl book n) ∧ (tbl book n).length ≤ 24 * 24 := by
  have e : ∀ p ∈ book.take n, AI ((gget book p.1).getD S5.zero).es ∧ ((gget book p.1).getD S5.zero).es.length ≤ 24 := fun p hp => by
    obtain ⟨x, hx, q, hq, rfl⟩ := gget_at (List.take_subset _ _ hp)
    rw [hx]; exact ⟨k.ai q hq, k.len q hq⟩
  refine ⟨fold_AI _ _ (fun _ h => nomatch h) fun a p hp ha => addc_AI ha (e p hp).1, ?_⟩
  have go : ∀ (l : List (Kx × S5)) (acc : List (Kx × Int)), (∀ p ∈ l, ((gget book p.1).getD S5.zero).es.length ≤ 24) → (l.foldl (fun acc p => addc acc ((gget book p.1).getD S5.zero).es) acc).length ≤ acc.length + l.length * 24 := by
    intro l
    induction l with
    | nil => intro acc _; simp
    | cons p l ih =>
      intro acc h
      have := ih (addc acc ((gget book p.1).getD S5.zero).es) fun q hq => h q (.tail _ hq)
      have := addc_len acc ((gget book p.1).getD S5.zero).es
      have := h p (.head _)
      rw [List.foldl_cons, List.length_cons]; lia
  have := go (book.take n) [] fun p hp => (e p hp).2
  have h2 := List.length_take_le n book
  have h3 := k.n
  have : (book.take n).length ≤ 24 := by rw [List.length_take]; exact ar362 h3
  unfold tbl; simp only [List.length_nil] at *; lia
theorem filled_ok' {book : List (Kx × S5)} (k : BookOk book) (row : List Str) : ∀ n, AI (filled book row n) ∧ (n ≤ 4 → row.length ≤ 4 → (filled book row n).length ≤ 24 * 24 * 4 ^ n)
  | 0 => ⟨(tbl_ok k _).1, fun _ _ => (tbl_ok k _).2⟩
  | n + 1 => ⟨widen_AI _ _, fun hn hr => by
    have ih := (filled_ok' k row n).2 (by exact ar24 hn) hr
    have := widen_len (filled book row n) ((row.take (n + 1)).count (row.getD n (st [])))
    have hc : (row.take (n + 1)).count (row.getD n (st [])) ≤ 4 := Nat.le_trans List.count_le_length (by rw [List.length_take]; exact ar363 hn)
    have := Nat.mul_le_mul_right (filled book row n).length hc
    show (widen _ _).length ≤ _
    rw [Nat.pow_succ]; lia⟩
section
variable {B : Cx} {d : Nat} {σ : Store} {N : Nat}
noncomputable def FJ (S : Store) (L : Nat) (l₀ : Loc) (T : List (Kx × Int)) (l : Loc) (σ' : Store) (_ : Nat) : Prop := ∃ s, l = l₀ ∧ σ' = pt (pt S (L + 1) (.cell (some (.dct (vm V.int T))))) (L + 2) (.cell s)
theorem fill_ok (b : Base B) {book : List (Kx × S5)} {row : List Str} (kb : BookOk book) (hr : row.length ≤ 4) {Q : Post V} (h : ∀ N', N ≤ N' → Q (.dct (vm V.int (filled book row row.length))) σ N') : WC B (d + 2) (.ref 176) [.dct (vm S5.v book), .lst (row.map V.str)] σ N Q := by
  refine C_funC b.tabOk (names := ["book", "row"]) (b.fn rfl) (b.code rfl rfl) b.lim rfl rfl (fun s hl => ?_) (fun n x hx => by cases hx with | head => exact .inl rfl | tail _ h => cases h with | head => exact .inl rfl | tail _ h => cases h) (fun n => by show (["shift", "table"] : List Str).Nodup; decide) ⟨rfl, rfl, rfl, rfl, rfl⟩ (fun L N₁ hL hσL hab hLN hcs => ?_)
  · obtain ⟨x, y, rfl⟩ := len2 hl
    rfl
  have hc1 : L + 2 < N₁ := hcs ("shift", L + 2) (.head _)
  generalize hbv : V.dct (vm S5.v book) = bv
  generalize hrw : V.lst (row.map V.str) = rw'
  show (vRun B tb (d + 1) 200).S (callEnvC fd176 L 176) (stmtsOf (at_ bodyP 24)) [("row", rw'), ("book", bv)] (pt (pt (σ.add L) (L + 1) (.cell none)) (L + 2) (.cell none)) N₁ (Back σ.fr Q)
  have tc : ∀ t s, pt (pt (σ.add L) (L + 1) (.cell t)) (L + 2) s (L + 1) = some (.cell t) := fun t s => (pt_ne (by exact ar7)).trans (pt_same _ _ _)
  have tset : ∀ t t' s, pt (pt (pt (σ.add L) (L + 1) (.cell t)) (L + 2) s) (L + 1) t' = pt (pt (σ.add L) (L + 1) t') (L + 2) s := fun t t' s => by rw [pt_comm (a := L + 2) (b := L + 1) (by exact ar94), pt_pt]
  have sb : ∀ t s, Sub (σ.add L) (pt (pt (σ.add L) (L + 1) t) (L + 2) s) := fun t s => sub_pt (sub_pt (.refl _) (hab _ (by exact ar6 hL))) (hab _ (by exact ar23 hL))
  intro a0 ha0
  refine .froz ⟨⟨_, tc _ _⟩, ?_⟩
  rw [tset]
  rw [← hbv]
  refine .items (iter_keys (.dct _)) (fun i l σ' N' => l = ([("row", rw'), ("book", .dct (vm S5.v book))] : Loc) ∧ σ' = pt (pt (σ.add L) (L + 1) (.cell (some (.dct (vm V.int (tbl book i)))))) (L + 2) (.cell none)) [("row", rw'), ("book", .dct (vm S5.v book))] (.cons rfl (.cons rfl (.nil _))) ⟨rfl, rfl⟩ (fun _ _ _ _ _ _ => trivial) ?_ ?_
  · rintro i l σ' N' hi ⟨rfl, rfl⟩ hN
    rw [vm_len] at hi
    rw [vm_getD hi]
    obtain ⟨x, hx, q, hq, hqx⟩ := gget_at (List.getElem_mem hi)
    have hstep : tbl book (i + 1) = addc (tbl book i) x.es := by
      unfold tbl
      rw [take_fold _ _ _ hi, hx]; rfl
    refine ⟨_, tc _ _, ?_⟩
    refine iDict (v := x.v) (.dct _) (by rw [dget_vm, hx]; rfl) ?_
    refine iTup (v := .dct (vm V.int x.es)) (by decide) (by decide) rfl ⟨?_⟩
    have hxl : x.es.length ≤ 24 := by rw [← hqx]; exact kb.len q hq
    refine add_callers_ok b (by have := (tbl_ok kb i).2; exact ar364 hxl this) fun N₂ h2 => ?_
    refine ⟨⟨_, tc _ _⟩, _, .cons rfl (.cons rfl (.nil _)), rfl, ?_⟩
    rw [tset, hstep]
  · rintro l σ' N' ⟨rfl, rfl⟩ hN
    rw [vm_len]
    rw [← hrw]
    refine bLen (.lst _) (by simp; exact ar365 hr) (bRange fun t u v => ?_)
    rw [List.length_map]
    refine .items (iter_range (by exact ar95 hr)) (fun i => FJ (σ.add L) L [("row", .lst (row.map V.str)), ("book", .dct (vm S5.v book))] (filled book row i)) [("row", .lst (row.map V.str)), ("book", .dct (vm S5.v book))] (.cons rfl (.cons rfl (.nil _))) ⟨none, rfl, rfl⟩ (fun _ _ _ _ _ _ => trivial) ?_ ?_
    · rintro i l σ' N₂ hi ⟨s, rfl, rfl⟩ hN₂
      have fo := filled_ok' kb row i
      have fl := fo.2 (by exact ar366 hr hi) hr
      have f4 : 4 ^ i ≤ 4 ^ 3 := Nat.pow_le_pow_right (by decide) (by exact ar367 hr hi)
      have flen : (filled book row i).length ≤ 40000 := Nat.le_trans fl (Nat.le_trans (Nat.mul_le_mul_left _ f4) (by decide))
      intro a1 ha1
      refine .froz ?_
      refine sList (.lst _) (by decide) (by rw [List.length_map, sizeLine_eq]; exact ar368 hr) ?_
      rw [show ((i : Int) + 1) = ((i + 1 : Nat) : Int) from by exact ar13, lpick_to, ← List.map_take]
      refine VMeth.builtin (.list (.lst _)) rfl ?_
      refine iLst (by exact ar0) (by exact ar369 hr hi) (look_at (st []) hi) ?_
      refine bCountL (.lst _) (bRange fun t' u' v' => ?_)
      have hc : (row.take (i + 1)).count (row.getD i (st [])) ≤ 4 := Nat.le_trans List.count_le_length (by rw [List.length_take]; exact ar370 hr hi)
      refine .items (iter_range (n := (row.take (i + 1)).count (row.getD i (st []))) (by exact ar95 hc)) (fun j => FJ (σ.add L) L [("row", .lst (row.map V.str)), ("book", .dct (vm S5.v book)), ("k", .int (i : Nat)), ("wider", .dct (vm V.int (widen (filled book row i) j)))] (filled book row i)) [("row", .lst (row.map V.str)), ("book", .dct (vm S5.v book)), ("k", .int (i : Nat)), ("wider", .dct [])] (.cons rfl (.cons rfl (.cons rfl (.cons rfl (.nil _))))) ⟨s, rfl, rfl⟩ (fun _ _ _ _ _ _ => trivial) ?_ ?_
      · rintro j l σ' N₃ hj ⟨s, rfl, rfl⟩ hN₃
        generalize hes : filled book row i = es at *
        refine ⟨⟨_, pt_same _ _ _⟩, ?_⟩
        rw [pt_pt]
        have sc : pt (pt (σ.add L) (L + 1) (.cell (some (.dct (vm V.int es))))) (L + 2) (.cell (some (.int (j : Nat)))) (L + 2) = some (.cell (some (.int (j : Nat)))) := pt_same _ _ _
        have tlen : ∀ m, ((es.take m).foldl (shiftStep j es) ([] : List (Kx × Int))).length ≤ 40000 := fun m => by
          have := fold_len (shiftStep j es) (fun a b => gset_len a _ _) (es.take m) []
          rw [List.length_take] at this; simp only [List.length_nil] at this; lia
        refine ⟨_, tc _ _, ?_⟩
        refine VComp.dict (iter_keys (.dct _)) (fun _ _ => trivial) (fun m => vm V.int ((es.take m).foldl (shiftStep j es) [])) rfl (fun a C m N₄ ep hm hN₄ => ?_) (fun N₄ hN₄ => ?_)
        · rw [vm_len] at hm
          rw [vm_getD hm]
          obtain ⟨x, hx, _⟩ := gget_at (List.getElem_mem hm)
          have ai := fo.1 es[m] (List.getElem_mem hm)
          have hstep := take_fold (shiftStep j es) es [] hm
          generalize hk : es[m] = p at *
          refine .pos rfl ⟨by rw [vm_len]; have := tlen m; exact ar372 this, ?_⟩
          show (vRun B tb (d + 1) _).E _ _ _ _ _ _
          rw [ai]
          refine ⟨_, sc, _, tc _ _, ?_⟩
          refine iDict (k := .i (kxi p.1)) (v := .int x) (.dct _) (by rw [dget_vm, ← ai, hx]; rfl) ⟨.i (kxi p.1 + j), rfl, fun ep' => ⟨⟨ep', ?_⟩, rfl⟩⟩
          rw [dset_vm, hstep]
          unfold shiftStep
          rw [hx]; rfl
        · rw [vm_len, List.take_length]
          refine ⟨?_⟩
          refine add_callers_ok b (es := widen es j) (fs := shifted j es) ?_ fun N₅ h5 => ?_
          · have := widen_len es j
            have := shifted_len j es
            have hj : j < (row.take (i + 1)).count (row.getD i (st [])) := hj
            have : j * es.length ≤ 4 * es.length := Nat.mul_le_mul_right _ (by exact ar366 hc hj)
            lia
          · exact ⟨_, .cons rfl (.cons rfl (.cons rfl (.cons rfl (.nil _)))), some (.int (j : Nat)), rfl, rfl⟩
      · rintro l σ' N₃ ⟨s, rfl, rfl⟩ hN₃
        refine ⟨⟨_, tc _ _⟩, _, .cons rfl (.cons rfl (.nil _)), s, rfl, ?_⟩
        rw [tset]; rfl
    · rintro l σ' N₂ ⟨s, rfl, rfl⟩ hN₂
      exact ⟨_, tc _ _, σ.add L, _, .sub (sb _ _), h N₂ (by exact ar373 hL hc1 ha0 hN hN₂)⟩
end
end
noncomputable section
/-! the order of a row's words -/
noncomputable def ins (p : Str × Nat) : List (Str × Nat) → List (Str × Nat)
  | [] => [p]
  | q :: r => if kl (pv q) < kl (pv p) then q :: ins p r else p :: q :: r
noncomputable def isort : List (Str × Nat) → List (Str × Nat)
  | [] => []
  | p :: r => ins p (isort r)
theorem ins_perm (p : Str × Nat) : ∀ l, (ins p l).Perm (p :: l)
  | [] => .refl _
  | q :: r => by
    unfold ins
    split
    · exact ((ins_perm p r).cons q).trans (.swap p q r)
    · exact .refl _
theorem isort_perm : ∀ l, (isort l).Perm l
  | [] => .refl _
  | p :: r => (ins_perm p _).trans ((isort_perm r).cons p)
theorem ins_srt (p : Str × Nat) : ∀ l : List (Str × Nat), (l.map pv).Pairwise le → ((ins p l).map pv).Pairwise le
  | [], _ => List.pairwise_singleton _ _
  | q :: r, h => by
    unfold ins
    rw [List.map_cons, List.pairwise_cons] at h
    split
    · rename_i z
      rw [List.map_cons, List.pairwise_cons]
      refine ⟨fun x hx => ?_, ins_srt p r h.2⟩
      rcases List.mem_cons.mp (((ins_perm p r).map pv).mem_iff.mp hx) with e | e
      · rw [e]; exact le_of_lt z
      · exact h.1 x e
    · rename_i z
      rw [List.map_cons, List.pairwise_cons]
      refine ⟨fun x hx => ?_, by rw [List.map_cons, List.pairwise_cons]; exact h⟩
      rcases List.mem_cons.mp hx with e | e
      · rw [e]; exact z
      · exact le_trans z (h.1 x e)
theorem isort_srt : ∀ l : List (Str × Nat), ((isort l).map pv).Pairwise le
  | [] => .nil
  | p :: r => ins_srt p _ (isort_srt r)
theorem pv_anti {p q : Str × Nat} (h : le (pv p) (pv q)) (k : le (pv q) (pv p)) : p = q := by
  have e : kl (pv p) = kl (pv q) := LL.total _ _ (decide_eq_false k) (decide_eq_false h)
  have e1 : [p.1.cps.toList, [p.2]] = [q.1.cps.toList, [q.2]] := e
  injection e1 with a b
  injection b with b _
  obtain ⟨⟨x⟩, n⟩ := p
  obtain ⟨⟨y⟩, m⟩ := q
  have : x = y := Array.toList_inj.mp a
  injection b with b _
  subst this; subst b; rfl
theorem srt_uniq : ∀ {a b : List (Str × Nat)}, a.Perm b → (a.map pv).Pairwise le → (b.map pv).Pairwise le → a = b
  | [], _, p, _, _ => p.nil_eq
  | x :: r, b, p, ha, hb => by
    cases b with
    | nil => exact absurd p.length_eq (by simp)
    | cons y t =>
      rw [List.map_cons, List.pairwise_cons] at ha hb
      have e : x = y := by
        rcases List.mem_cons.mp (p.mem_iff.mp (.head _)) with h | h
        · exact h
        · rcases List.mem_cons.mp (p.mem_iff.mpr (.head _)) with h' | h'
          · exact h'.symm
          · exact pv_anti (ha.1 _ (List.mem_map_of_mem h')) (hb.1 _ (List.mem_map_of_mem h))
      subst e
      rw [srt_uniq (List.Perm.cons_inv p) ha.2 hb.2]
noncomputable def placesOf (xs : List Str) : List Int := (isort (items xs xs.length)).map fun p => (p.2 : Int)
theorem IsOrd.is {xs : List Str} {ps : List (Str × Nat)} (h : IsOrd xs ps) : (ps.map fun p => V.int (p.2 : Int)) = (placesOf xs).map V.int := by
  rw [srt_uniq (h.1.trans (isort_perm _).symm) h.2 (isort_srt _)]
  unfold placesOf
  rw [List.map_map]; rfl
noncomputable def gtI (x y : Int) : Bool := decide (y < x)
noncomputable def gtS (x y : Str) : Bool := decide (y.cps.toList < x.cps.toList)
theorem isort_len (l : List (Str × Nat)) : (isort l).length = l.length := (isort_perm l).length_eq
theorem places_len (xs : List Str) : (placesOf xs).length = xs.length := by unfold placesOf; rw [List.length_map, isort_len]; unfold items; simp
noncomputable def fallsI (xs : List Int) : List Nat := falls gtI 0 xs (xs.length - 1)
noncomputable def fallsS (xs : List Str) : List Nat := falls gtS (st []) xs (xs.length - 1)
noncomputable def numStr (n : Nat) : Str := Str.ofString (toString (n : Int))
noncomputable def dots (fs : List Nat) : Str := Txt.join "." (fs.map numStr)
noncomputable def nmOf (fs : List Nat) : Str := dots fs ++ ⟨#[58]⟩ ++ numStr fs.length ++ ⟨#[40]⟩ ++ "row" ++ ⟨#[41]⟩
noncomputable def all8 : List (List Nat) := [[], [1], [2], [3], [1, 2], [1, 3], [2, 3], [1, 2, 3]]
theorem falls3 {α : Type} (gt : α → α → Bool) (d : α) (xs : List α) : falls gt d xs 3 ∈ all8 := by
  have e : falls gt d xs 3 = (([0, 1, 2] : List Nat).filter fun k => gt (xs.getD k d) (xs.getD (k + 1) d)).map (· + 1) := rfl
  rw [e, List.filter_cons, List.filter_cons, List.filter_cons, List.filter_nil]
  cases gt (xs.getD 0 d) (xs.getD (0 + 1) d) <;> cases gt (xs.getD 1 d) (xs.getD (1 + 1) d) <;> cases gt (xs.getD 2 d) (xs.getD (2 + 1) d) <;> decide
theorem all8_ok : ∀ fs ∈ all8, (dots fs).length ≤ 1000 ∧ dots fs ≠ "~" ∧ ((fs.map numStr).map (·.length)).sum + (fs.map numStr).length * ("." : Str).length ≤ 16777216 ∧ fs.length < 10 ∧ (dots fs ++ ":").length + 10 ≤ 1000 ∧ ∀ k ∈ fs, k < 10 := by decide +kernel
end
noncomputable section
section
variable {B : Cx} {d : Nat} {σ : Store} {N : Nat}
noncomputable def add5 (s t : S5) : S5 := ⟨t.a + s.a, t.b + s.b, t.c + s.c, t.e + s.e, addc s.es t.es⟩
noncomputable def pairsOf' (row : List Str) : Nat := inv (placesOf row) (placesOf row).length
noncomputable def bookStep (acc : List (Kx × S5)) (row : List Str) : List (Kx × S5) :=
  gset acc (.s (nmOf (fallsI (placesOf row)))) (add5 ((gget acc (.s (nmOf (fallsI (placesOf row))))).getD S5.zero) ⟨1, pairsOf' row, pairsOf' row * pairsOf' row, (fallsI (placesOf row)).length, [(.i (pairsOf' row), 1)]⟩)
noncomputable def bookOf (rows : List (List Str)) : List (Kx × S5) := rows.foldl bookStep []
noncomputable def majOf (row : List Str) : Int := ((fallsS row).map fun (k : Nat) => (k : Int)).sum
noncomputable def dueStep (acc : List (Kx × S5)) (row : List Str) : List (Kx × S5) :=
  let old := (gget acc (.s (nmOf (fallsI (placesOf row))))).getD S5.zero
  gset acc (.s (nmOf (fallsI (placesOf row)))) ⟨old.a + 1, old.b + majOf row, old.c + majOf row * majOf row, old.e + (fallsI (placesOf row)).length, gset old.es (.i (majOf row)) ((gget old.es (.i (majOf row))).getD 0 + 1)⟩
noncomputable def dueOf (rows : List (List Str)) : List (Kx × S5) := rows.foldl dueStep []
/-- books under way -/
structure BI (acc : List (Kx × S5)) (n : Nat) : Prop where
  sz : acc.length ≤ n
  len : ∀ p ∈ acc, p.2.es.length ≤ n
  ai : ∀ p ∈ acc, AI p.2.es
theorem BI.get {acc : List (Kx × S5)} {n : Nat} (b : BI acc n) (k : Kx) : ((gget acc k).getD S5.zero).es.length ≤ n ∧ AI ((gget acc k).getD S5.zero).es := by
  unfold gget
  cases q : acc.find? fun kv => decide (kv.1 = k) with
  | none => exact ⟨Nat.zero_le _, fun _ h => nomatch h⟩
  | some r => exact ⟨b.len r (List.mem_of_find?_eq_some q), b.ai r (List.mem_of_find?_eq_some q)⟩
theorem BI.set {acc : List (Kx × S5)} {n : Nat} (b : BI acc n) (k : Kx) {s : S5} (hl : s.es.length ≤ n + 1) (ha : AI s.es) : BI (gset acc k s) (n + 1) := by
  have mem : ∀ p ∈ gset acc k s, p.2 = s ∨ ∃ q ∈ acc, p.2 = q.2 := fun p hp => by
    unfold gset at hp
    split at hp
    · obtain ⟨q, hq, rfl⟩ := List.mem_map.mp hp
      split
      · exact .inl rfl
      · exact .inr ⟨q, hq, rfl⟩
    · rcases List.mem_append.mp hp with hp | hp
      · exact .inr ⟨p, hp, rfl⟩
      · rw [List.mem_singleton.mp hp]; exact .inl rfl
  refine ⟨Nat.le_trans (gset_len _ _ _) (Nat.succ_le_succ b.sz), fun p hp => ?_, fun p hp => ?_⟩
  · rcases mem p hp with e | ⟨q, hq, e⟩
    · rw [e]; exact hl
    · rw [e]; exact Nat.le_succ_of_le (b.len q hq)
  · rcases mem p hp with e | ⟨q, hq, e⟩
    · rw [e]; exact ha
    · rw [e]; exact b.ai q hq
theorem bookOf_BI : ∀ (rows : List (List Str)) (acc : List (Kx × S5)) (n : Nat), BI acc n → BI (rows.foldl bookStep acc) (n + rows.length)
  | [], _, _, b => b
  | row :: rows, acc, n, b => by
    have g := b.get (.s (nmOf (fallsI (placesOf row))))
    have := bookOf_BI rows (bookStep acc row) (n + 1) (b.set _ (Nat.le_trans (addc_len _ _) (by show _ + 1 ≤ _; lia)) (addc_AI g.2 fun p hp => by rw [List.mem_singleton.mp hp]; rfl))
    rw [List.foldl_cons, List.length_cons, show n + (rows.length + 1) = n + 1 + rows.length by exact ar96]; exact this
theorem dueOf_BI : ∀ (rows : List (List Str)) (acc : List (Kx × S5)) (n : Nat), BI acc n → BI (rows.foldl dueStep acc) (n + rows.length)
  | [], _, _, b => b
  | row :: rows, acc, n, b => by
    have g := b.get (.s (nmOf (fallsI (placesOf row))))
    have := dueOf_BI rows (dueStep acc row) (n + 1) (b.set _ (Nat.le_trans (gset_len _ _ _) (by lia)) (gset_AI g.2))
    rw [List.foldl_cons, List.length_cons, show n + (rows.length + 1) = n + 1 + rows.length by exact ar96]; exact this
theorem BI0 : BI [] 0 := ⟨Nat.le_refl _, (fun _ h => nomatch h), (fun _ h => nomatch h)⟩
theorem getD_dk (acc : List (Kx × S5)) (k : Kx) : (dget (vm S5.v acc) k).getD S5.zero.v = ((gget acc k).getD S5.zero).v := by
  rw [dget_vm]; cases gget acc k <;> rfl
theorem inv_le (xs : List Int) : ∀ n, inv xs n ≤ n * xs.length
  | 0 => Nat.zero_le _
  | n + 1 => by
    have := inv_le xs n
    have h1 : inv1 xs n ≤ xs.length := by unfold inv1; exact Nat.le_trans (List.length_filter_le _ _) (by rw [List.length_drop]; exact ar374)
    show inv xs n + inv1 xs n ≤ _
    rw [Nat.succ_mul]; exact ar88 this h1
theorem mul_small {a : Nat} (h : a < 2 ^ 30) (b : Int) : IntMulOk (a : Int) b := .of_left (intBits_le_iff.mpr (by exact ar375 h))
noncomputable def BkJ (σ : Store) (a : Nat) (rows : List (List Str)) (x : Str) (f : List (List Str) → List (Kx × S5)) (i : Nat) (l : Loc) (σ' : Store) (_ : Nat) : Prop :=
  ∃ ep, l = ([("rows", rv rows), (x, .ref a)] : Loc) ∧ σ' = pt σ a (.dict (vm S5.v (f (rows.take i))) ep)
theorem booked_ok (b : Base B) {rows : List (List Str)} (h4 : ∀ r ∈ rows, r.length = 4) (hn : rows.length ≤ 1000) {Q : Post V} (h : ∀ N', N ≤ N' → Q (.dct (vm S5.v (bookOf rows))) σ N') : WC B (d + 5) (.ref 166) [rv rows] σ N Q := by
  refine C_fun b.tabOk (names := ["rows"]) (b.fn rfl) (b.code rfl rfl) b.lim rfl (fun s as hl => ?_) (by decide) (by decide) ⟨rfl, rfl, rfl, rfl, rfl⟩ (fun L hL hσL hab => ?_)
  · obtain ⟨x, rfl⟩ := len1 hl
    exact .of_eq rfl
  intro a ha
  refine .mut fun ep => ?_
  refine .items (iter_list (xs := rows.map fun r => V.lst (r.map V.str)) (.lst _)) (BkJ (σ.add L) a rows "book" bookOf) [("rows", rv rows), ("book", .ref a)] (.cons rfl (.cons rfl (.nil _))) ⟨ep, rfl, rfl⟩ (fun _ _ _ _ _ _ => .lst _) ?_ ?_
  · rintro i l σ' N' hi ⟨ep, rfl, rfl⟩ hN
    rw [List.length_map] at hi
    have e : (rows.map fun r => V.lst (r.map V.str)).getD i .none = .lst (rows[i].map V.str) := by rw [List.getD_eq_getElem?_getD, List.getElem?_map, List.getElem?_eq_getElem hi]; rfl
    rw [e]
    have hb := bookOf_BI (rows.take i) [] 0 BI0
    have hstep : bookOf (rows.take (i + 1)) = bookStep (bookOf (rows.take i)) rows[i] := take_fold bookStep rows [] hi
    have hrl := h4 _ (List.getElem_mem hi)
    have hbl : (rows.take i).length ≤ i := by rw [List.length_take]; exact ar97 hi
    have hb : BI (bookOf (rows.take i)) i := ⟨Nat.le_trans hb.sz (by exact ar25 hbl), fun p hp => Nat.le_trans (hb.len p hp) (by exact ar25 hbl), hb.ai⟩
    generalize bookOf (rows.take i) = acc at *
    generalize rows[i] = row at *
    have hfs : fallsI (placesOf row) ∈ all8 := by unfold fallsI; rw [places_len, hrl]; exact falls3 ..
    have hpl := places_len row
    obtain ⟨g1, g2, g3, g4, g5, g6⟩ := all8_ok _ hfs
    have hp : pairsOf' row ≤ 16 := by have := inv_le (placesOf row) (placesOf row).length; rw [hpl, hrl] at this; unfold pairsOf'; rw [hpl, hrl]; exact this
    have hbs : bookStep acc row = gset acc (.s (nmOf (fallsI (placesOf row)))) (add5 ((gget acc (.s (nmOf (fallsI (placesOf row))))).getD S5.zero) ⟨1, pairsOf' row, pairsOf' row * pairsOf' row, (fallsI (placesOf row)).length, [(.i (pairsOf' row), 1)]⟩) := rfl
    refine ⟨?_⟩
    refine taken_ok b (by exact ar98 hrl) fun N₂ ps h2 ho => ?_
    rw [ho.is]
    refine ⟨?_⟩
    refine falls_ok b (f := V.int) (gt := gtI) 0 (fun x y σ N Q other q => q) (by exact ar99 hrl hpl) (by exact ar47 hrl hpl) fun N₃ h3 => ?_
    refine ⟨?_⟩
    refine pairs_ok b (by exact ar47 hrl hpl) fun N₄ h4' => ?_
    show (vRun B tb (d + 4) _).S _ _ (upd (upd (upd (upd [("rows", rv rows), ("book", .ref a)] "row" (.lst (row.map V.str))) "places" (.lst ((placesOf row).map V.int))) "falls" (.lst ((fallsI (placesOf row)).map fun k => .int (k : Nat)))) "pairs" (.int (pairsOf' row : Nat))) _ _ _
    generalize hfs' : fallsI (placesOf row) = fs at *
    generalize pairsOf' row = p at *
    refine VMeth.builtin (.str _) rfl (VComp.list (iter_list (.lst _)) (fun _ _ => .lst _) (fun j => ((fs.take j).map numStr).map V.str) rfl (fun ac C j N₅ hj hN₅ => ?_) (fun N₅ hN₅ => ?_))
    · have hj : j < fs.length := by simpa using hj
      have ej : (fs.map fun k => V.int (k : Nat)).getD j .none = .int (fs[j] : Nat) := by rw [List.getD_eq_getElem?_getD, List.getElem?_map, List.getElem?_eq_getElem hj]; rfl
      rw [ej]
      refine .pos rfl ⟨by simp; exact ar100 g4 hj, bStrI ?_ ⟨?_, rfl⟩⟩
      · have := g6 _ (List.getElem_mem hj)
        have h1 : ((fs[j] : Nat) : Int).natAbs = fs[j] := by exact ar101 hj
        rw [h1]
        exact Nat.lt_of_le_of_lt (Nat.log2_le_self _) (by exact ar102 hj this)
      · rw [List.take_add_one, List.getElem?_eq_getElem hj, List.map_append, List.map_append]; rfl
    · rw [List.length_map, List.take_length]
      refine bJoin (.lst _) g3 ?_
      refine bLen (.lst _) (by simp; exact ar26 g4) ?_
      rw [List.length_map]
      refine ⟨_, _, .refl, (by show 3 ≤ sizeLine; decide), ⟨?_⟩⟩
      refine std_ok b g1 (by decide) (by exact ar103 g4) g2 fun N₆ h6 => ?_
      refine ⟨mul_small (by exact ar376 hp) _, ?_⟩
      refine bLen (.lst _) (by simp; exact ar26 g4) ?_
      rw [List.length_map]
      refine fun ad had => ⟨[(.i p, .int 1)], rfl, .froz ⟨_, _, .refl, (by show 5 ≤ sizeLine; decide), ?_⟩⟩
      refine VMeth.builtin (.dict (.ref (pt_same _ _ _))) rfl fun ae hae => .froz ⟨_, _, .refl, (by show 5 ≤ sizeLine; decide), ?_⟩
      refine bGet (k := .s (nmOf fs)) (v := S5.zero.v) (.ref (pt_same _ _ _)) ?_
      rw [getD_dk]
      have gl := hb.get (.s (nmOf fs))
      generalize (gget acc (.s (nmOf fs))).getD S5.zero = old at *
      refine ⟨?_⟩
      refine add_stats_ok b (fs := [(.i p, 1)]) (by show _ + 1 < _; lia) fun N₇ h7 => ?_
      refine pDict (k := .s (nmOf fs)) (pt_same _ _ _) (by rw [vm_len]; have := hb.sz; exact ar104 hn hi this) fun ep' => ?_
      refine ⟨_, .cons rfl (.cons rfl (.nil _)), ep', rfl, ?_⟩
      show pt (pt (σ.add L) a (.dict (vm S5.v acc) ep)) a _ = _
      rw [pt_pt, hstep, hbs, ← dset_vm]; rfl
  · rintro l σ' N' ⟨ep, rfl, rfl⟩ hN
    rw [List.length_map, List.take_length]
    exact ⟨σ.add L, _, .dict (pt_same _ _ _) (sub_pt (.refl _) (hab a (by exact ar2 ha))) (hab a (by exact ar2 ha)), h N' (by exact ar3 ha hN)⟩
end
end
noncomputable section
section
variable {B : Cx} {d : Nat} {σ : Store} {N : Nat}
theorem sapp (a b c : Str) : a ++ b ++ c = a ++ (b ++ c) := by
  show Str.mk (a.cps ++ b.cps ++ c.cps) = Str.mk (a.cps ++ (b.cps ++ c.cps))
  rw [Array.append_assoc]
theorem nm_eq (fs : List Nat) : dots fs ++ ":" ++ numStr fs.length ++ "(row)" = nmOf fs := by
  have e : ("(row)" : Str) = ⟨#[40]⟩ ++ "row" ++ ⟨#[41]⟩ := by kernel_rfl
  have e2 : (":" : Str) = ⟨#[58]⟩ := by kernel_rfl
  unfold nmOf
  rw [e, e2]
  simp only [sapp]
theorem numStr_len {n : Nat} (h : n < 1000) : (numStr n).length ≤ 10 := PyProof.Rows.toString_length_le (by exact ar0) (by decide) (by exact ar377 h)
theorem due_ok (b : Base B) {rows : List (List Str)} (h4 : ∀ r ∈ rows, r.length = 4) (hn : rows.length ≤ 1000) {Q : Post V} (h : ∀ N', N ≤ N' → Q (.dct (vm S5.v (dueOf rows))) σ N') : WC B (d + 2) (.ref 171) [rv rows] σ N Q := by
  refine C_fun b.tabOk (names := ["rows"]) (b.fn rfl) (b.code rfl rfl) b.lim rfl (fun s as hl => ?_) (by decide) (by decide) ⟨rfl, rfl, rfl, rfl, rfl⟩ (fun L hL hσL hab => ?_)
  · obtain ⟨x, rfl⟩ := len1 hl
    exact .of_eq rfl
  intro a ha
  refine .mut fun ep => ?_
  refine .items (iter_list (xs := rows.map fun r => V.lst (r.map V.str)) (.lst _)) (BkJ (σ.add L) a rows "due" dueOf) [("rows", rv rows), ("due", .ref a)] (.cons rfl (.cons rfl (.nil _))) ⟨ep, rfl, rfl⟩ (fun _ _ _ _ _ _ => .lst _) ?_ ?_
  · rintro i l σ' N' hi ⟨ep, rfl, rfl⟩ hN
    rw [List.length_map] at hi
    have e : (rows.map fun r => V.lst (r.map V.str)).getD i .none = .lst (rows[i].map V.str) := by rw [List.getD_eq_getElem?_getD, List.getElem?_map, List.getElem?_eq_getElem hi]; rfl
    rw [e]
    have hb := dueOf_BI (rows.take i) [] 0 BI0
    have hstep : dueOf (rows.take (i + 1)) = dueStep (dueOf (rows.take i)) rows[i] := take_fold dueStep rows [] hi
    have hrl := h4 _ (List.getElem_mem hi)
    have hbl : (rows.take i).length ≤ i := by rw [List.length_take]; exact ar97 hi
    have hb : BI (dueOf (rows.take i)) i := ⟨Nat.le_trans hb.sz (by exact ar25 hbl), fun p hp => Nat.le_trans (hb.len p hp) (by exact ar25 hbl), hb.ai⟩
    generalize dueOf (rows.take i) = acc at *
    generalize rows[i] = row at *
    have hfs : fallsI (placesOf row) ∈ all8 := by unfold fallsI; rw [places_len, hrl]; exact falls3 ..
    have hfr : fallsS row ∈ all8 := by unfold fallsS; rw [hrl]; exact falls3 ..
    have hpl := places_len row
    obtain ⟨g1, g2, g3, g4, g5, g6⟩ := all8_ok _ hfs
    have hm : ∃ m : Nat, m < 10 ∧ majOf row = (m : Int) := by
      have : ∀ fs ∈ all8, ∃ m : Nat, m < 10 ∧ (fs.map fun (k : Nat) => (k : Int)).sum = (m : Int) := by
        have : ∀ fs ∈ all8, fs.sum < 10 ∧ (fs.map fun (k : Nat) => (k : Int)).sum = (fs.sum : Int) := by decide +kernel
        exact fun fs hfs => ⟨_, (this fs hfs).1, (this fs hfs).2⟩
      exact this _ hfr
    have hds : dueStep acc row = gset acc (.s (nmOf (fallsI (placesOf row)))) ⟨((gget acc (.s (nmOf (fallsI (placesOf row))))).getD S5.zero).a + 1, ((gget acc (.s (nmOf (fallsI (placesOf row))))).getD S5.zero).b + majOf row, ((gget acc (.s (nmOf (fallsI (placesOf row))))).getD S5.zero).c + majOf row * majOf row, ((gget acc (.s (nmOf (fallsI (placesOf row))))).getD S5.zero).e + (fallsI (placesOf row)).length, gset ((gget acc (.s (nmOf (fallsI (placesOf row))))).getD S5.zero).es (.i (majOf row)) ((gget ((gget acc (.s (nmOf (fallsI (placesOf row))))).getD S5.zero).es (.i (majOf row))).getD 0 + 1)⟩ := rfl
    refine ⟨placed_ok b (by exact ar105 hrl) (by exact ar98 hrl) fun N₂ ps h2 ho => ?_⟩
    rw [ho.is]
    refine ⟨falls_ok b (f := V.int) (gt := gtI) 0 (fun x y σ N Q other q => q) (by exact ar99 hrl hpl) (by exact ar47 hrl hpl) fun N₃ h3 => ?_⟩
    refine ⟨falls_ok b (f := V.str) (gt := gtS) (st []) (fun x y σ N Q other q => q) (by exact ar105 hrl) (by exact ar378 hrl) fun N₄ h4' => ?_⟩
    refine bSum (ns := (fallsS row).map fun (k : Nat) => (k : Int)) (by rw [List.map_map]; exact .lst _) ?_
    show (vRun B tb (d + 1) _).S _ _ (upd (upd (upd [("rows", rv rows), ("due", .ref a)] "row" (.lst (row.map V.str))) "falls" (.lst ((fallsI (placesOf row)).map fun k => .int (k : Nat)))) "major" (.int (majOf row))) _ _ _
    generalize hfs' : fallsI (placesOf row) = fs at *
    generalize majOf row = mj at *
    obtain ⟨m, hm10, rfl⟩ := hm
    refine VMeth.builtin (.str _) rfl (VComp.list (iter_list (.lst _)) (fun _ _ => .lst _) (fun j => ((fs.take j).map numStr).map V.str) rfl (fun ac C j N₅ hj hN₅ => ?_) (fun N₅ hN₅ => ?_))
    · have hj : j < fs.length := by simpa using hj
      have ej : (fs.map fun k => V.int (k : Nat)).getD j .none = .int (fs[j] : Nat) := by rw [List.getD_eq_getElem?_getD, List.getElem?_map, List.getElem?_eq_getElem hj]; rfl
      rw [ej]
      refine .pos rfl ⟨by simp; exact ar100 g4 hj, bStrI ?_ ⟨?_, rfl⟩⟩
      · have := g6 _ (List.getElem_mem hj)
        have h1 : ((fs[j] : Nat) : Int).natAbs = fs[j] := by exact ar101 hj
        rw [h1]
        exact Nat.lt_of_le_of_lt (Nat.log2_le_self _) (by exact ar102 hj this)
      · rw [List.take_add_one, List.getElem?_eq_getElem hj, List.map_append, List.map_append]; rfl
    · rw [List.length_map, List.take_length]
      have nl := numStr_len (n := fs.length) (by exact ar103 g4)
      have dl : (dots fs ++ ":").length = (dots fs).length + 1 := by show ((dots fs).cps ++ _).size = _; rw [Array.size_append]; rfl
      have dl2 : (dots fs ++ ":" ++ numStr fs.length).length = (dots fs).length + 1 + (numStr fs.length).length := by rw [← dl]; show ((dots fs ++ ":").cps ++ (numStr fs.length).cps).size = _; rw [Array.size_append]; rfl
      refine bJoin (.lst _) g3 ⟨?_, ?_⟩
      · show (dots fs).length + 1 ≤ sizeLine; rw [sizeLine_eq]; exact ar379 g5 dl
      refine bLen (.lst _) (by simp; exact ar26 g4) ?_
      rw [List.length_map]
      refine bStrI (by rw [Int.natAbs_natCast]; exact Nat.lt_of_le_of_lt (Nat.log2_le_self _) (by exact ar380 g4)) ⟨?_, ?_, ?_⟩
      · show (dots fs ++ ":").length + (numStr fs.length).length ≤ sizeLine; rw [dl, sizeLine_eq]; exact ar381 g5 nl dl
      · show (dots fs ++ ":" ++ numStr fs.length).length + 5 ≤ sizeLine; rw [dl2, sizeLine_eq]; exact ar382 g5 nl dl
      have hnm : Txt.join "." (fs.map numStr) ++ ":" ++ Str.ofString (toString (fs.length : Int)) ++ "(row)" = nmOf fs := nm_eq fs
      rw [hnm]
      refine VMeth.builtin (.dict (.ref (pt_same _ _ _))) rfl fun ae hae => .froz ⟨_, _, .refl, (by show 5 ≤ sizeLine; decide), ?_⟩
      refine bGet (k := .s (nmOf fs)) (v := S5.zero.v) (.ref (pt_same _ _ _)) ?_
      rw [getD_dk]
      have gl := hb.get (.s (nmOf fs))
      generalize (gget acc (.s (nmOf fs))).getD S5.zero = old at *
      refine iTup (v := .dct (vm V.int old.es)) (by decide) (by decide) rfl ?_
      refine bDict (.dct _) (by rw [vm_len, sizeLine_eq]; lia) fun t ept ht => ?_
      have ta : t ≠ a := by exact ar383 hN h2 h3 h4' hN₅ hae ht
      have at' : a ≠ t := by exact ar384 ta
      refine VMeth.builtin (.dict (.ref (pt_same _ _ _))) rfl ?_
      refine bGet (k := .i m) (v := .int 0) (.ref (pt_same _ _ _)) ?_
      have hg : (dget (vm V.int old.es) (.i m)).getD (.int 0) = .int ((gget old.es (.i m)).getD 0) := by rw [dget_vm]; cases gget old.es (.i m) <;> rfl
      rw [hg]
      refine pDict (k := .i m) (v := .int ((gget old.es (.i m)).getD 0 + 1)) (pt_same _ _ _) (by rw [vm_len]; lia) fun ept' => ?_
      rw [pt_pt, dset_vm]
      refine iTup (v := .int old.a) (by decide) (by decide) rfl ?_
      refine iTup (v := .int old.b) (by decide) (by decide) rfl ?_
      refine iTup (v := .int old.c) (by decide) (by decide) rfl ?_
      refine ⟨mul_small (by exact ar385 hm10) _, ?_⟩
      refine iTup (v := .int old.e) (by decide) (by decide) rfl ?_
      refine bLen (.lst _) (by simp; exact ar26 g4) ?_
      rw [List.length_map]
      refine ⟨pt (σ.add L) a (.dict (vm S5.v acc) ep), _, .cons .refl (.cons .refl (.cons .refl (.cons .refl (.cons (.dict (pt_same _ _ _) (sub_pt (.refl _) ?_) ?_) .refl)))), (by show 5 ≤ sizeLine; decide), ?_⟩
      · exact (pt_ne ta).trans (hab t (by exact ar106 ha hN h2 h3 h4' hN₅ hae ht))
      · exact (pt_ne ta).trans (hab t (by exact ar106 ha hN h2 h3 h4' hN₅ hae ht))
      refine pDict (k := .s (nmOf fs)) (pt_same _ _ _) (by rw [vm_len]; have := hb.sz; exact ar104 hn hi this) fun ep' => ?_
      refine ⟨_, .cons rfl (.cons rfl (.nil _)), ep', rfl, ?_⟩
      rw [pt_pt, hstep, hds, ← dset_vm (f := S5.v)]; rfl
  · rintro l σ' N' ⟨ep, rfl, rfl⟩ hN
    rw [List.length_map, List.take_length]
    exact ⟨σ.add L, _, .dict (pt_same _ _ _) (sub_pt (.refl _) (hab a (by exact ar2 ha))) (hab a (by exact ar2 ha)), h N' (by exact ar3 ha hN)⟩
end
end
noncomputable section
/-! the reading machine -/
structure MA where
  ct : Nat
  ca : Nat
  la : Nat
  fr : Nat
  sm : Nat
  ds : Nat
  D : Nat
  x : Nat
  p : Nat
noncomputable def lines (pre : List Nat) : Int := 1 + (pre.count 10 : Nat)
noncomputable def atOf (A : MA) (line : Int) : Loc := [("lineno", .int line), ("instream", .ref A.sm), ("whitespace", .str "\n\t\r "), ("pushback", .ref A.p)]
noncomputable def readBody : List Stmt := stmtsOf (at_ (stmtsOf (at_ bodyP 13)) 1)
noncomputable def readFd (A : MA) (qual : Str) (pm doc : Value) (c : Nat) (ctv : Value) : FuncData := fnX "_law_read_on" qual (paramsOf (at_ (stmtsOf (at_ bodyP 13)) 1)) readBody (scopeOf (at_ (stmtsOf (at_ bodyP 13)) 1)) [("text", A.ct), ("at", A.ca)] .none .none doc pm none (.ref c) ctv
structure Mach (B : Cx) (σ : Store) (A : MA) (pre rest : List Nat) (pb : List Str) : Prop where
  ne : A.ds ≠ A.D ∧ A.la ≠ A.p
  x : σ A.x = some (.obj (instObj 80 A.D))
  D : σ A.D = some (.ns (atOf A (lines pre)))
  p : σ A.p = some (.list (pb.map V.str))
  sm : ∃ o fd, σ A.sm = some (.obj o) ∧ o.cls = .type "function" ∧ o.dict = some A.ds ∧ o.data = .func fd
  ds : σ A.ds = some (.ns [("read", .ref A.fr)])
  fr : ∃ qual pm doc c ctv, FnAt B σ A.fr (readFd A qual pm doc c ctv) ∧ CodeAt B σ (readFd A qual pm doc c ctv)
  ct : σ A.ct = some (.cell (some (.str (st (pre ++ rest)))))
  ca : σ A.ca = some (.cell (some (.ref A.la)))
  la : σ A.la = some (.list [.int (pre.length : Nat)])
  len : (pre ++ rest).length ≤ 10000
/-- all stays but what a machine changes -/
structure Kp (A : MA) (σ σ' : Store) : Prop where
  kp : ∀ a o, σ a = some o → a ≠ A.D → a ≠ A.p → a ≠ A.la → σ' a = some o
  fr : σ'.fr = σ.fr
section
variable {B : Cx} {d : Nat} {σ : Store} {N : Nat} {A : MA} {pre rest : List Nat} {pb : List Str}
theorem at_pb (b : Base B) : AttrAt B 80 "pushback" := ⟨_, none, b.K, by kernel_rfl, by kernel_rfl, by kernel_rfl, by kernel_rfl⟩
theorem at_ln (b : Base B) : AttrAt B 80 "lineno" := ⟨_, none, b.K, by kernel_rfl, by kernel_rfl, by kernel_rfl, by kernel_rfl⟩
theorem at_in (b : Base B) : AttrAt B 80 "instream" := ⟨_, none, b.K, by kernel_rfl, by kernel_rfl, by kernel_rfl, by kernel_rfl⟩
theorem at_ws (b : Base B) : AttrAt B 80 "whitespace" := ⟨_, none, b.K, by kernel_rfl, by kernel_rfl, by kernel_rfl, by kernel_rfl⟩
theorem set_ln (b : Base B) : SetAt B 80 "lineno" := ⟨_, b.K, by kernel_rfl, by kernel_rfl, by kernel_rfl, by kernel_rfl⟩
theorem Kp.refl (A : MA) (σ : Store) : Kp A σ σ := ⟨fun _ _ e _ _ _ => e, rfl⟩
theorem Kp.trans {σ₁ σ₂ σ₃ : Store} (h : Kp A σ₁ σ₂) (k : Kp A σ₂ σ₃) : Kp A σ₁ σ₃ := ⟨fun a o e h1 h2 h3 => k.kp a o (h.kp a o e h1 h2 h3) h1 h2 h3, k.fr.trans h.fr⟩
theorem FnAt.keep {σ σ' : Store} {a : Nat} {fd : FuncData} (h : FnAt B σ a fd) (k : ∀ o, σ a = some o → σ' a = some o) : FnAt B σ' a fd := by
  obtain ⟨o, h1, h2⟩ := h
  exact ⟨o, h1.imp id (fun e => k _ e), h2⟩
theorem ne_of_kind {σ : Store} {a b : Nat} {o o' : AObj} (h : σ a = some o) (k : σ b = some o') (n : o ≠ o') : a ≠ b := fun e => by rw [e, k] at h; exact n (Option.some.inj h).symm
theorem Mach.step {σ' : Store} {pre' rest' : List Nat} {pb' : List Str} (m : Mach B σ A pre rest pb) (k : Kp A σ σ') (hD : σ' A.D = some (.ns (atOf A (lines pre')))) (hp : σ' A.p = some (.list (pb'.map V.str))) (hl : σ' A.la = some (.list [.int (pre'.length : Nat)])) (he : pre' ++ rest' = pre ++ rest) : Mach B σ' A pre' rest' pb' := by
  have ob : ∀ a o, σ a = some (.obj o) → σ' a = some (.obj o) := fun a o e => k.kp a _ e (ne_of_kind e m.D nofun) (ne_of_kind e m.p nofun) (ne_of_kind e m.la nofun)
  have ce : ∀ a o, σ a = some (.cell o) → σ' a = some (.cell o) := fun a o e => k.kp a _ e (ne_of_kind e m.D nofun) (ne_of_kind e m.p nofun) (ne_of_kind e m.la nofun)
  refine ⟨m.ne, ob _ _ m.x, hD, hp, ?_, ?_, ?_, ?_, ce _ _ m.ca, hl, he ▸ m.len⟩
  · obtain ⟨o, fd, h, r⟩ := m.sm; exact ⟨o, fd, ob _ _ h, r⟩
  · exact k.kp _ _ m.ds m.ne.1 (ne_of_kind m.ds m.p nofun) (ne_of_kind m.ds m.la nofun)
  · obtain ⟨q, pm, doc, c, ctv, ⟨o, h1, h2⟩, ⟨c2, o2, vs, t, e1, e2, e3⟩⟩ := m.fr
    exact ⟨q, pm, doc, c, ctv, ⟨o, h1.imp id (ob _ _), h2⟩, ⟨c2, o2, vs, t, e1, e2.imp id (ob _ _), e3⟩⟩
  · rw [he]; exact ce _ _ m.ct
/-- another machine stays -/
theorem Mach.keep {σ' : Store} {A' : MA} {pre' rest' : List Nat} {pb' : List Str} (m : Mach B σ A pre rest pb) (k : Kp A' σ σ') (m' : Mach B σ A' pre' rest' pb') (n : A.D ≠ A'.D ∧ A.p ≠ A'.p ∧ A.p ≠ A'.la ∧ A.la ≠ A'.p ∧ A.la ≠ A'.la ∧ A.ds ≠ A'.D) : Mach B σ' A pre rest pb := by
  have ob : ∀ a o, σ a = some (.obj o) → σ' a = some (.obj o) := fun a o e => k.kp a _ e (ne_of_kind e m'.D nofun) (ne_of_kind e m'.p nofun) (ne_of_kind e m'.la nofun)
  have ce : ∀ a o, σ a = some (.cell o) → σ' a = some (.cell o) := fun a o e => k.kp a _ e (ne_of_kind e m'.D nofun) (ne_of_kind e m'.p nofun) (ne_of_kind e m'.la nofun)
  obtain ⟨n1, n2, n3, n4, n5, n6⟩ := n
  refine ⟨m.ne, ob _ _ m.x, k.kp _ _ m.D n1 (ne_of_kind m.D m'.p nofun) (ne_of_kind m.D m'.la nofun), k.kp _ _ m.p (ne_of_kind m.p m'.D nofun) n2 n3, ?_, k.kp _ _ m.ds n6 (ne_of_kind m.ds m'.p nofun) (ne_of_kind m.ds m'.la nofun), ?_, ce _ _ m.ct, ce _ _ m.ca, k.kp _ _ m.la (ne_of_kind m.la m'.D nofun) n4 n5, m.len⟩
  · obtain ⟨o, fd, h, r⟩ := m.sm; exact ⟨o, fd, ob _ _ h, r⟩
  · obtain ⟨q, pm, doc, c, ctv, ⟨o, h1, h2⟩, ⟨c2, o2, vs, t, e1, e2, e3⟩⟩ := m.fr
    exact ⟨q, pm, doc, c, ctv, ⟨o, h1.imp id (ob _ _), h2⟩, ⟨c2, o2, vs, t, e1, e2.imp id (ob _ _), e3⟩⟩
theorem push_token_ok (b : Base B) {t : Str} (m : Mach B σ A pre rest pb) (hz : pb.length < 1000) {Q : Post V} (h : ∀ N' (σ' : Store), N ≤ N' → Mach B σ' A pre rest (pb ++ [t]) → Kp A σ σ' → Q .none σ' N') : WC B (d + 1) (.ref 77) [.ref A.x, .str t] σ N Q := by
  refine C_fun b.tabOk (names := ["self", "token"]) (b.fn rfl) (b.code rfl rfl) b.lim rfl (fun s as hl => ?_) (by decide) (by decide) ⟨rfl, rfl, rfl, rfl, rfl⟩ (fun L hL hσL hab => ?_)
  · obtain ⟨x, y, rfl⟩ := len2 hl
    exact .of_eq rfl
  refine aGet (σ := σ.add L) m.x m.D (at_pb b) rfl rfl ?_
  refine VMeth.builtin (.list (.ref m.p)) rfl ?_
  refine bAppend .refl (σ' := σ.add L) m.p (by simp; exact ar107 hz) ?_
  have k : Kp A σ (pt σ A.p (.list (pb.map V.str ++ [.str t]))) := ⟨fun a ob e _ h2 _ => (pt_ne h2).trans e, rfl⟩
  refine ⟨_, .refl _, h N (pt σ A.p (.list (pb.map V.str ++ [.str t]))) (Nat.le_refl _) (m.step k ((pt_ne (ne_of_kind m.D m.p nofun)).trans m.D) ((pt_same _ _ _).trans (by rw [List.map_append]; rfl)) ((pt_ne m.ne.2).trans m.la) rfl) k⟩
theorem get_pushed_ok (b : Base B) {t : Str} (m : Mach B σ A pre rest (t :: pb)) (hz : pb.length < 1000) {Q : Post V} (h : ∀ N' (σ' : Store), N ≤ N' → Mach B σ' A pre rest pb → Kp A σ σ' → Q (.str t) σ' N') : WC B (d + 1) (.ref 70) [.ref A.x] σ N Q := by
  refine C_fun b.tabOk (names := ["self"]) (b.fn rfl) (b.code rfl rfl) b.lim rfl (fun s as hl => ?_) (by decide) (by decide) ⟨rfl, rfl, rfl, rfl, rfl⟩ (fun L hL hσL hab => ?_)
  · obtain ⟨x, rfl⟩ := len1 hl
    exact .of_eq rfl
  refine .plain (aGet (σ := σ.add L) m.x m.D (at_pb b) rfl rfl (tList (σ := σ.add L) m.p (by simp; exact ar386 hz) (.pos rfl ?_)))
  refine aGet (σ := σ.add L) m.x m.D (at_pb b) rfl rfl ?_
  refine VMeth.builtin (.list (.ref m.p)) rfl ?_
  refine bPop0 (σ := σ.add L) m.p (by simp; exact ar107 hz) ?_
  have k : Kp A σ (pt σ A.p (.list (pb.map V.str))) := ⟨fun a ob e _ h2 _ => (pt_ne h2).trans e, rfl⟩
  exact ⟨_, _, .refl, h N (pt σ A.p (.list (pb.map V.str))) (Nat.le_refl _) (m.step k ((pt_ne (ne_of_kind m.D m.p nofun)).trans m.D) (pt_same _ _ _) ((pt_ne m.ne.2).trans m.la) rfl) k⟩
end
end
noncomputable section
section
variable {B : Cx} {d : Nat} {σ : Store} {N : Nat} {A : MA} {pre rest : List Nat} {pb : List Str}
theorem slice_one {pre rest : List Nat} : Txt.slice (st (pre ++ rest)) (some (pre.length : Nat)) (some ((pre.length + 1 : Nat) : Int)) = st (rest.take 1) := by
  have e := slice_is (st (pre ++ rest)) (some (pre.length : Nat)) (some ((pre.length + 1 : Nat) : Int))
  have h : (Txt.slice (st (pre ++ rest)) (some (pre.length : Nat)) (some ((pre.length + 1 : Nat) : Int))).cps.toList = rest.take 1 := by
    rw [e, (kms_nat _ _).1, (kms_nat _ _).2]
    show ((pre ++ rest).drop (min pre.length (pre ++ rest).length)).take (min (pre.length + 1) (pre ++ rest).length - min pre.length (pre ++ rest).length) = _
    rw [show min pre.length (pre ++ rest).length = pre.length from Nat.min_eq_left (by simp), List.drop_left]
    cases rest with
    | nil => simp
    | cons c r => rw [Nat.min_eq_left (by simp), Nat.add_sub_cancel_left]
  rw [← h]; rfl
theorem read_on_ok (b : Base B) (m : Mach B σ A pre rest pb) {Q : Post V} (h : ∀ N', N ≤ N' → Q (.str (st (rest.take 1))) (pt σ A.la (.list [.int ((pre ++ rest.take 1).length : Nat)])) N') : WC B (d + 1) (.ref A.fr) [.int 1] σ N Q := by
  obtain ⟨qual, pm, doc, c, ctv, hf, hc⟩ := m.fr
  refine C_fun b.tabOk (names := ["size"]) hf hc b.lim rfl (fun s as hl => ?_) (by show ∀ x ∈ (scopeOf (at_ (stmtsOf (at_ bodyP 13)) 1)).names, x.2 ≠ .cell; decide) (by show ∀ x ∈ (["size"] : List Str), (scopeOf (at_ (stmtsOf (at_ bodyP 13)) 1)).names.lookup x = some .local; decide) ⟨rfl, rfl, rfl, rfl, rfl⟩ (fun L hL hσL hab => ?_)
  · obtain ⟨x, rfl⟩ := len1 hl
    exact .of_eq rfl
  have hl := m.len
  have hpl : pre.length ≤ 10000 := by rw [List.length_append] at hl; exact ar387 hl
  refine ⟨_, m.ct, _, m.ca, iList (σ := σ.add L) (.ref m.la) (by decide) (by decide) rfl ⟨_, m.ca, iList (σ := σ.add L) (.ref m.la) (by decide) (by decide) rfl ?_⟩⟩
  show Need (WSlice B d (.str (st (pre ++ rest))) (some (pre.length : Nat)) (some ((pre.length : Int) + 1)) none _ _ _)
  rw [show (pre.length : Int) + 1 = ((pre.length + 1 : Nat) : Int) from by exact ar13]
  refine sStr (by rw [st_len, sizeLine_eq]; exact ar388 hl) ?_
  rw [slice_one]
  refine ⟨_, m.ca, iList (σ := σ.add L) (.ref m.la) (by decide) (by decide) rfl ?_⟩
  refine bLenS (by rw [st_len, List.length_take]; exact ar389) ⟨_, m.ca, ?_⟩
  refine pList (σ := σ.add L) m.la (by decide) (by show (0 : Int) < (1 : Nat); decide) (by show 1 < 2 ^ 40; decide) ?_
  refine ⟨_, _, .refl, ?_⟩
  have := h N (Nat.le_refl _)
  rw [List.length_append] at this
  show Q _ (pt σ A.la (.list [.int ((pre.length : Int) + ((rest.take 1).length : Nat))])) N
  rw [show (pre.length : Int) + ((rest.take 1).length : Nat) = ((pre.length + (rest.take 1).length : Nat) : Int) from by exact ar390]
  exact this
theorem lines_app (pre xs : List Nat) : lines (pre ++ xs) = lines pre + (xs.count 10 : Nat) := by unfold lines; rw [List.count_append]; exact ar391
theorem read_char_ok (b : Base B) (m : Mach B σ A pre rest pb) {Q : Post V} (h : ∀ N' (σ' : Store), N ≤ N' → Mach B σ' A (pre ++ rest.take 1) (rest.drop 1) pb → Kp A σ σ' → Q (.str (st (rest.take 1))) σ' N') : WK B (d + 2) (.ref 63) [.ref A.x] σ N Q := by
  refine K_fun b.tabOk (names := ["self"]) (b.fn rfl) (b.code rfl rfl) b.lim rfl (fun s as hl => ?_) (by decide) (by decide) ⟨rfl, rfl, rfl, rfl, rfl⟩ (fun L hL hσL hab => ?_)
  · obtain ⟨x, rfl⟩ := len1 hl
    exact .of_eq rfl
  refine aGet (σ := σ.add L) m.x m.D (at_in b) rfl rfl ?_
  obtain ⟨o, fd, h1, h2, h3, h4⟩ := m.sm
  refine VMeth.fn (σ := σ.add L) fn_read h1 h2 h3 h4 m.ds rfl rfl ?_
  obtain ⟨qual, pm, doc, c, ctv, hf, hc⟩ := m.fr
  refine ⟨⟨_, hf⟩, ?_⟩
  have mL : Mach B (σ.add L) A pre rest pb := ⟨m.ne, m.x, m.D, m.p, m.sm, m.ds, m.fr, m.ct, m.ca, m.la, m.len⟩
  refine read_on_ok b mL fun N' hN' => ?_
  have hx : pt (σ.add L) A.la (.list [.int ((pre ++ rest.take 1).length : Nat)]) A.x = some (.obj (instObj 80 A.D)) := (pt_ne (ne_of_kind m.x m.la nofun)).trans m.x
  have hD : pt (σ.add L) A.la (.list [.int ((pre ++ rest.take 1).length : Nat)]) A.D = some (.ns (atOf A (lines pre))) := (pt_ne (ne_of_kind m.D m.la nofun)).trans m.D
  have hp : ∀ σ' : Store, σ' = pt σ A.la (.list [.int ((pre ++ rest.take 1).length : Nat)]) → σ' A.p = some (.list (pb.map V.str)) := fun σ' e => by rw [e]; exact (pt_ne (Ne.symm m.ne.2)).trans m.p
  have s10 : ("\n" : Str) = st [10] := by kernel_rfl
  have he : (pre ++ rest.take 1) ++ rest.drop 1 = pre ++ rest := by rw [List.append_assoc, List.take_append_drop]
  have kl : Kp A σ (pt σ A.la (.list [.int ((pre ++ rest.take 1).length : Nat)])) := ⟨fun a ob e _ _ h3 => (pt_ne h3).trans e, rfl⟩
  refine .plain ⟨fun hq => ?_, fun hq => ?_⟩
  · rw [s10] at hq
    have hq : rest.take 1 = [10] := st_inj.mp (of_decide_eq_true hq)
    refine aGet hx hD (at_ln b) rfl rfl ?_
    refine aSet hx hD (set_ln b) (by show 4 < 1000; decide) ?_
    refine ⟨_, _, .refl, h N' (pt (pt σ A.la (.list [.int ((pre ++ rest.take 1).length : Nat)])) A.D (.ns (atOf A (lines pre + 1)))) hN' (m.step ⟨fun a ob e h1 _ h3 => (pt_ne h1).trans ((pt_ne h3).trans e), rfl⟩ ?_ ((pt_ne (ne_of_kind m.p m.D nofun)).trans (hp _ rfl)) ((pt_ne (ne_of_kind m.la m.D nofun)).trans (pt_same _ _ _)) he) ⟨fun a ob e h1 _ h3 => (pt_ne h1).trans ((pt_ne h3).trans e), rfl⟩⟩
    rw [lines_app, hq]; exact pt_same _ _ _
  · rw [s10] at hq
    have hq : rest.take 1 ≠ [10] := fun z => of_decide_eq_false hq (by rw [z])
    have hc0 : (rest.take 1).count 10 = 0 := by
      cases rest with
      | nil => rfl
      | cons c r =>
        have : c ≠ 10 := fun z => hq (by rw [z]; rfl)
        simp [this]
    refine ⟨_, _, .refl, h N' (pt σ A.la (.list [.int ((pre ++ rest.take 1).length : Nat)])) hN' (m.step kl ?_ (hp _ rfl) (pt_same _ _ _) he) kl⟩
    rw [lines_app, hc0]
    exact ((pt_ne (ne_of_kind m.D m.la nofun)).trans m.D).trans (by show _ = some (AObj.ns (atOf A (lines pre + 0))); rw [Int.add_zero])
end
end
noncomputable section
/-! get_token, as it reads -/
noncomputable def isW (c : Nat) : Bool := c == 32 || c == 10 || c == 9 || c == 13
noncomputable def lexQ : List Nat → List Nat → Option (List Nat × List Nat)
  | [], _ => none
  | c :: r, t => if c = 34 then some (t, r) else if c = 92 then (match r with
    | [] => none
    | e :: r' => lexQ r' (t ++ [e])) else lexQ r (t ++ [c])
noncomputable def lexU : List Nat → List Nat → Option (List Nat × List Nat)
  | [], _ => none
  | c :: r, t => if isW c = true then some (t, r) else if c = 92 then (match r with
    | [] => none
    | e :: r' => lexU r' (t ++ [e])) else lexU r (t ++ [c])
noncomputable def lexO : List Nat → Option (List Nat × List Nat)
  | [] => some ([], [])
  | c :: r => if isW c = true then lexO r else if c = 34 then lexQ r [] else if c = 92 then (match r with
    | [] => none
    | e :: r' => lexU r' [e]) else lexU r [c]
theorem ws_in : ∀ c < 128, (!(Builtin.Str.occurrences "\n\t\r " (st [c]) 0 ("\n\t\r " : Str).length 1).isEmpty) = isW c := by decide +kernel
structure Rd (B : Cx) (σ : Store) (A : MA) (q it : Nat) (t : Tok) (T rest : List Nat) (σ' : Store) : Prop where
  m : ∃ pre, pre ++ rest = T ∧ Mach B σ' A pre rest []
  c : CIt B σ' it q 63 A.x "" t
  k : Kp A σ σ'
section
variable {B : Cx} {d : Nat} {σ : Store} {N : Nat} {A : MA} {pre rest : List Nat}
theorem Rd.read (b : Base B) {σ' : Store} {q it : Nat} {t : Tok} {T : List Nat} (r : Rd B σ A q it t T rest σ') {Q : Post V} (h : ∀ N' σ'', N ≤ N' → Rd B σ A q it t T (rest.drop 1) σ'' → Q (.str (st (rest.take 1))) σ'' N') : WK B (d + 2) (.ref 63) [.ref A.x] σ' N Q := by
  obtain ⟨pre, hT, m⟩ := r.m
  refine read_char_ok b m fun N' σ'' hN' m' k => h N' σ'' hN' ⟨⟨_, by rw [List.append_assoc, List.take_append_drop]; exact hT, m'⟩, ?_, r.k.trans k⟩
  have ob : ∀ a o, σ' a = some (.obj o) → σ'' a = some (.obj o) := fun a o e => k.kp a _ e (ne_of_kind e m.D nofun) (ne_of_kind e m.p nofun) (ne_of_kind e m.la nofun)
  obtain ⟨fd, o, h1, h2⟩ := r.c.fn
  exact ⟨ob _ _ r.c.it, ob _ _ r.c.bm, fd, o, h1.imp id (ob _ _), h2⟩
theorem Rd.out {σ' : Store} {q it L : Nat} {t : Tok} {T rest : List Nat} (r : Rd B (σ.add L) A q it t T rest σ') : ∃ pre, pre ++ rest = T ∧ Mach B (σ'.reset σ.fr) A pre rest [] ∧ Kp A σ (σ'.reset σ.fr) := by
  obtain ⟨pre, hT, m⟩ := r.m
  exact ⟨pre, hT, ⟨m.ne, m.x, m.D, m.p, m.sm, m.ds, m.fr, m.ct, m.ca, m.la, m.len⟩, r.k.kp, rfl⟩
theorem lexO_cons (c : Nat) (r : List Nat) : lexO (c :: r) = if isW c = true then lexO r else if c = 34 then lexQ r [] else if c = 92 then (match r with
    | [] => none
    | e :: r' => lexU r' [e]) else lexU r [c] := by cases r <;> rfl
theorem lexQ_cons (c : Nat) (r t : List Nat) : lexQ (c :: r) t = if c = 34 then some (t, r) else if c = 92 then (match r with
    | [] => none
    | e :: r' => lexQ r' (t ++ [e])) else lexQ r (t ++ [c]) := by cases r <;> rfl
theorem lexU_cons (c : Nat) (r t : List Nat) : lexU (c :: r) t = if isW c = true then some (t, r) else if c = 92 then (match r with
    | [] => none
    | e :: r' => lexU r' (t ++ [e])) else lexU r (t ++ [c]) := by cases r <;> rfl
noncomputable def RdJ (B : Cx) (σ : Store) (A : MA) (q it : Nat) (t : Tok) (T rest : List Nat) (P : List Nat → List Nat → Prop) (n : Nat) (l : Loc) (σ' : Store) (_ : Nat) : Prop :=
  ∃ r tk x, n = r.length ∧ (∃ n, r = rest.drop n) ∧ P r tk ∧ tk.length + r.length ≤ 10000 ∧ l = ([("self", .ref A.x), ("token", .str (st tk)), ("fiter", .ref it), ("ch", x)] : Loc) ∧ Rd B σ A q it t T r σ'
noncomputable def RdO (B : Cx) (σ : Store) (A : MA) (q it : Nat) (t : Tok) (T rest tok restF : List Nat) (n : Nat) (l : Loc) (σ' : Store) (_ : Nat) : Prop :=
  ∃ r, n = r.length ∧ (∃ n, r = rest.drop n) ∧ lexO r = some (tok, restF) ∧ l = ([("self", .ref A.x), ("token", .str ""), ("fiter", .ref it)] : Loc) ∧ Rd B σ A q it t T r σ'
noncomputable def RdM (B : Cx) (σ : Store) (A : MA) (q it : Nat) (t : Tok) (T rest tok restF : List Nat) (l : Loc) (σ' : Store) (_ : Nat) : Prop :=
  ∃ r e, l = ([("self", .ref A.x), ("token", .str ""), ("fiter", .ref it), ("ch", .str (st [e]))] : Loc) ∧ (∃ n, r = rest.drop n) ∧ lexU r [e] = some (tok, restF) ∧ 1 + r.length ≤ 10000 ∧ Rd B σ A q it t T r σ'
theorem Rd.fin {pre rest0 : List Nat} {σ' : Store} {q it L : Nat} {t : Tok} {T rest : List Nat} {o : Obj} (m : Mach B σ A pre rest0 []) (r : Rd B (σ.add L) A q it t T rest σ') (hT : pre ++ rest0 = T) (hi : σ it = none) :
    ∃ pre', pre' ++ rest = T ∧ Mach B ((pt σ' it (.obj o)).reset σ.fr) A pre' rest [] ∧ Kp A σ ((pt σ' it (.obj o)).reset σ.fr) := by
  obtain ⟨pre2, hT2, m2⟩ := r.m
  have n1 : ∀ a o, σ' a = some o → (∀ o', o ≠ .obj o') → a ≠ it := fun a o e z w => by rw [w, r.c.it] at e; exact z _ (Option.some.inj e).symm
  have kk : Kp A σ ((pt σ' it (.obj o)).reset σ.fr) := ⟨fun a p e h1 h2 h3 => (pt_ne (σ := σ') (o := .obj o) (fun z => by rw [z, hi] at e; cases e)).trans (r.k.kp a p e h1 h2 h3), rfl⟩
  refine ⟨pre2, hT2, m.step kk ?_ ?_ ?_ (hT2.trans hT.symm), kk⟩
  · exact (pt_ne (σ := σ') (o := .obj o) (n1 _ _ m2.D (fun _ h => nomatch h))).trans m2.D
  · exact (pt_ne (σ := σ') (o := .obj o) (n1 _ _ m2.p (fun _ h => nomatch h))).trans m2.p
  · exact (pt_ne (σ := σ') (o := .obj o) (n1 _ _ m2.la (fun _ h => nomatch h))).trans m2.la
theorem bd_read (b : Base B) : BoundAt B 80 "_read_char" 63 := ⟨_, b.K, by kernel_rfl, by kernel_rfl, by kernel_rfl, by kernel_rfl, by kernel_rfl, by kernel_rfl, by decide +kernel⟩
theorem mt_read (b : Base B) : MethAt B 80 "_read_char" 63 := ⟨_, b.K, by kernel_rfl, by kernel_rfl, by kernel_rfl⟩
theorem st_ne {c : Nat} : st [c] ≠ "" := fun h => by rw [s0] at h; have := st_inj.mp h; cases this
theorem get_read_ok (b : Base B) {tok restF : List Nat} (m : Mach B σ A pre rest []) (hlex : lexO rest = some (tok, restF)) (hch : ∀ c ∈ rest, c < 128) {Q : Post V}
    (h : ∀ N' (σ' : Store) pre', N ≤ N' → pre' ++ restF = pre ++ rest → Mach B σ' A pre' restF [] → Kp A σ σ' → Q (.str (st tok)) σ' N') : WC B (d + 4) (.ref 70) [.ref A.x] σ N Q := by
  refine C_fun b.tabOk (names := ["self"]) (b.fn rfl) (b.code rfl rfl) b.lim rfl (fun s as hl => ?_) (by decide) (by decide) ⟨rfl, rfl, rfl, rfl, rfl⟩ (fun L hL hσL hab => ?_)
  · obtain ⟨x, rfl⟩ := len1 hl
    exact .of_eq rfl
  have mL : Mach B (σ.add L) A pre rest [] := ⟨m.ne, m.x, m.D, m.p, m.sm, m.ds, m.fr, m.ct, m.ca, m.la, m.len⟩
  refine .plain (aGet mL.x mL.D (at_pb b) rfl rfl (tList mL.p (by decide) (.neg rfl ?_)))
  refine aBound mL.x mL.D (bd_read b) rfl fun q hq => ?_
  refine ⟨C_iter2 (pt_same _ _ _) fun it t hit => ?_⟩
  generalize hσ2 : pt (pt (σ.add L) q (.obj (methodObj (.ref 63) (.ref A.x)))) it (.obj (citObj (.ref q) (.str "" t) (.bool false))) = σ2
  have none_q : (σ.add L) q = none := hab q hq
  have none_it : (σ.add L) it = none := hab it (by exact ar3 hq hit)
  have k2 : Kp A (σ.add L) σ2 := by
    rw [← hσ2]
    refine ⟨fun a o e _ _ _ => ?_, rfl⟩
    have n1 : a ≠ q := fun z => by rw [z, none_q] at e; cases e
    have n2 : a ≠ it := fun z => by rw [z, none_it] at e; cases e
    exact (pt_ne n2).trans ((pt_ne n1).trans e)
  have low : ∀ a o, (σ.add L) a = some o → σ2 a = some o := fun a o e => by
    rw [← hσ2]
    have n1 : a ≠ q := fun z => by rw [z, none_q] at e; cases e
    have n2 : a ≠ it := fun z => by rw [z, none_it] at e; cases e
    exact (pt_ne n2).trans ((pt_ne n1).trans e)
  have r0 : Rd B (σ.add L) A q it t (pre ++ rest) rest σ2 := ⟨⟨pre, rfl, mL.step k2 (low _ _ mL.D) (low _ _ mL.p) (low _ _ mL.la) rfl⟩, ⟨by rw [← hσ2]; exact pt_same _ _ _, by rw [← hσ2]; exact (pt_ne (by exact ar1 hit)).trans (pt_same _ _ _), _, b.fn rfl⟩, k2⟩
  have suf : ∀ {r : List Nat}, (∃ p, p ++ r = pre ++ rest) → (∃ n, r = rest.drop n) → ∀ c ∈ r, c < 128 := fun _ ⟨n, e⟩ c hc => hch c (List.mem_of_mem_drop (e ▸ hc))
  have hlen := m.len
  have q34 : ∀ c, decide (st [c] = "\"") = decide (c = 34) := fun c => by rw [s34, decide_eq_decide, st_inj]; simp
  have q92 : ∀ c, decide (st [c] = "\\") = decide (c = 92) := fun c => by rw [s92, decide_eq_decide, st_inj]; simp
  have tk1 : ∀ tk : List Nat, ∀ e, some (V.str (st tk ++ st [e])) = some (V.str (st (tk ++ [e]))) := fun tk e => by rw [st_app]
  have tk0 : ∀ e, some (V.str ("" ++ st [e])) = some (V.str (st [e])) := fun e => by rw [s0, st_app]; rfl
  have dr : ∀ {k : Nat} {c : Nat} {r : List Nat}, c :: r = rest.drop k → r = rest.drop (k + 1) := fun {k c r} hk => by rw [← List.drop_drop, ← hk]; rfl
  refine .calls (bm := q) (f := 63) (x := A.x) (y := "") (t := t) (Nat.succ_pos _) rfl (RdO B (σ.add L) A q it t (pre ++ rest) rest tok restF) rest.length [("self", .ref A.x), ("token", .str ""), ("fiter", .ref it)] (.cons rfl (.cons rfl (.cons rfl (.nil _)))) ⟨rest, rfl, ⟨0, rfl⟩, hlex, rfl, r0⟩ ?_
  rintro n l σ' N' ⟨r, rfl, ⟨k, hk⟩, hx, rfl, rd⟩ hN
  refine ⟨rd.c, rd.read b fun N₂ σ'' h2 rd2 => ⟨_, rfl, rd2.c, fun hz => ?_, fun hz => ?_⟩⟩
  · cases r with
    | cons c r => exact absurd hz st_ne
    | nil =>
      obtain ⟨rfl, rfl⟩ := Prod.mk.inj (Option.some.inj hx)
      obtain ⟨pre2, hT, m3, kk⟩ := rd2.fin (o := citObj .none .none (.bool true)) m rfl (hab it (by exact ar3 hq hit))
      exact ⟨_, _, .refl, h N₂ _ pre2 (by exact ar392 hq hit hN h2) hT m3 kk⟩
  · cases r with
    | nil => exact absurd s0.symm hz
    | cons c r =>
      have hc := hch c (List.mem_of_mem_drop (i := k) (by rw [← hk]; exact List.mem_cons_self ..))
      have hr := dr hk
      have hrl : (c :: r).length ≤ 10000 := by have := congrArg List.length hk; rw [List.length_drop] at this; rw [List.length_append] at hlen; exact ar393 hlen this
      obtain ⟨pre2, hT, m2⟩ := id rd2.m
      rw [lexO_cons] at hx
      refine .plain (aGet m2.x m2.D (at_ws b) rfl rfl ?_)
      refine (?_ : VIf (!(Builtin.Str.occurrences "\n\t\r " (st [c]) 0 ("\n\t\r " : Str).length 1).isEmpty) _ _)
      rw [ws_in c hc]
      refine ⟨fun hw => ?_, fun hw => ?_⟩
      · rw [if_pos hw] at hx
        exact ⟨_, .cons rfl (.cons rfl (.cons rfl (.nil _))), r.length, Nat.lt_succ_self _, r, rfl, ⟨k + 1, hr⟩, hx, rfl, rd2⟩
      · rw [if_neg (by rw [hw]; exact Bool.false_ne_true)] at hx
        refine .plain ?_
        refine (?_ : VIf (decide (st [c] = "\"")) _ _)
        rw [q34]
        refine ⟨fun h34 => ?_, fun h34 => ?_⟩
        · rw [if_pos (of_decide_eq_true h34)] at hx
          refine .calls (bm := q) (f := 63) (x := A.x) (y := "") (t := t) (Nat.succ_pos _) rfl (RdJ B (σ.add L) A q it t (pre ++ rest) rest (fun r tk => lexQ r tk = some (tok, restF))) r.length [("self", .ref A.x), ("token", .str (st [])), ("fiter", .ref it), ("ch", .str (st [c]))] (.cons rfl (.cons (by rw [← s0]; rfl) (.cons rfl (.cons rfl (.nil _))))) ⟨r, [], _, rfl, ⟨k + 1, hr⟩, hx, by simp at hrl ⊢; exact ar394 hrl, rfl, rd2⟩ ?_
          rintro n l σ₁ N₁ ⟨r, tk, x, rfl, ⟨k, hk⟩, hx, hl, rfl, rd⟩ hN₁
          refine ⟨rd.c, rd.read b fun N₂ σ₂ h2 rd2 => ⟨_, rfl, rd2.c, fun hz => ?_, fun hz => ?_⟩⟩
          · cases r with
            | cons c r => exact absurd hz st_ne
            | nil => exact nomatch hx
          · cases r with
            | nil => exact absurd s0.symm hz
            | cons c r =>
              have hr := dr hk
              rw [List.length_cons] at hl
              rw [lexQ_cons] at hx
              refine .plain ?_
              refine (?_ : VIf (decide (st [c] = "\"")) _ _)
              rw [q34]
              refine ⟨fun h34 => ?_, fun h34 => ?_⟩
              · rw [if_pos (of_decide_eq_true h34)] at hx
                obtain ⟨rfl, rfl⟩ := Prod.mk.inj (Option.some.inj hx)
                obtain ⟨pre3, hT3, m3, k3⟩ := rd2.out
                exact ⟨_, _, .refl, h N₂ _ pre3 (by lia) hT3 m3 k3⟩
              · rw [if_neg (of_decide_eq_false h34)] at hx
                refine .plain ?_
                refine (?_ : VIf (decide (st [c] = "\\")) _ _)
                rw [q92]
                refine ⟨fun h92 => ?_, fun h92 => ?_⟩
                · rw [if_pos (of_decide_eq_true h92)] at hx
                  cases r with
                  | nil => exact nomatch hx
                  | cons e r =>
                    obtain ⟨pre3, hT3, m3⟩ := id rd2.m
                    rw [List.length_cons] at hl
                    refine VMeth.inst m3.x m3.D (mt_read b) rfl ⟨(rd2.read b fun N₃ σ₃ h3 rd3 => ?_).c⟩
                    exact ⟨by show tk.length + 1 ≤ sizeLine; rw [sizeLine_eq]; exact ar108 hl, [("self", .ref A.x), ("token", .str (st (tk ++ [e]))), ("fiter", .ref it), ("ch", .str (st [e]))], .cons rfl (.cons (tk1 tk e) (.cons rfl (.cons rfl (.nil _)))), r.length, by simp only [List.length_cons]; exact ar109, r, tk ++ [e], _, rfl, ⟨_, dr hr⟩, hx, by simp; exact ar110 hl, rfl, rd3⟩
                · rw [if_neg (of_decide_eq_false h92)] at hx
                  exact ⟨by show tk.length + 1 ≤ sizeLine; rw [sizeLine_eq]; exact ar111 hl, [("self", .ref A.x), ("token", .str (st (tk ++ [c]))), ("fiter", .ref it), ("ch", .str (st [c]))], .cons rfl (.cons (tk1 tk c) (.cons rfl (.cons rfl (.nil _)))), r.length, by simp only [List.length_cons]; exact ar14, r, tk ++ [c], _, rfl, ⟨_, hr⟩, hx, by simp; exact ar112 hl, rfl, rd2⟩
        · rw [if_neg (of_decide_eq_false h34)] at hx
          refine .join (RdM B (σ.add L) A q it t (pre ++ rest) rest tok restF) ⟨?_, ?_⟩
          · rintro l σ₀ N₀ hN₀ ⟨r, e, rfl, ⟨k, hk⟩, hx, hl, rd⟩
            refine ⟨by show 0 + 1 ≤ sizeLine; rw [sizeLine_eq]; exact ar395, ?_⟩
            refine .calls (bm := q) (f := 63) (x := A.x) (y := "") (t := t) (Nat.succ_pos _) rfl (RdJ B (σ.add L) A q it t (pre ++ rest) rest (fun r tk => lexU r tk = some (tok, restF))) r.length [("self", .ref A.x), ("token", .str (st [e])), ("fiter", .ref it), ("ch", .str (st [e]))] (.cons rfl (.cons (tk0 e) (.cons rfl (.cons rfl (.nil _))))) ⟨r, [e], _, rfl, ⟨k, hk⟩, hx, by simp; exact ar396 hl, rfl, rd⟩ ?_
            rintro n l σ₁ N₁ ⟨r, tk, x, rfl, ⟨k, hk⟩, hx, hl, rfl, rd⟩ hN₁
            refine ⟨rd.c, rd.read b fun N₂ σ₂ h2 rd2 => ⟨_, rfl, rd2.c, fun hz => ?_, fun hz => ?_⟩⟩
            · cases r with
              | cons c r => exact absurd hz st_ne
              | nil => exact nomatch hx
            · cases r with
              | nil => exact absurd s0.symm hz
              | cons c r =>
                have hc := hch c (List.mem_of_mem_drop (i := k) (by rw [← hk]; exact List.mem_cons_self ..))
                have hr := dr hk
                rw [List.length_cons] at hl
                rw [lexU_cons] at hx
                obtain ⟨pre2, hT, m2⟩ := id rd2.m
                refine .plain (aGet m2.x m2.D (at_ws b) rfl rfl ?_)
                refine (?_ : VIf (!(Builtin.Str.occurrences "\n\t\r " (st [c]) 0 ("\n\t\r " : Str).length 1).isEmpty) _ _)
                rw [ws_in c hc]
                refine ⟨fun hw => ?_, fun hw => ?_⟩
                · rw [if_pos hw] at hx
                  obtain ⟨rfl, rfl⟩ := Prod.mk.inj (Option.some.inj hx)
                  obtain ⟨pre3, hT3, m3, k3⟩ := rd2.out
                  exact ⟨_, _, .refl, h N₂ _ pre3 (by lia) hT3 m3 k3⟩
                · rw [if_neg (by rw [hw]; exact Bool.false_ne_true)] at hx
                  refine .plain ?_
                  refine (?_ : VIf (decide (st [c] = "\\")) _ _)
                  rw [q92]
                  refine ⟨fun h92 => ?_, fun h92 => ?_⟩
                  · rw [if_pos (of_decide_eq_true h92)] at hx
                    cases r with
                    | nil => exact nomatch hx
                    | cons e r =>
                      obtain ⟨pre3, hT3, m3⟩ := id rd2.m
                      rw [List.length_cons] at hl
                      refine VMeth.inst m3.x m3.D (mt_read b) rfl ⟨(rd2.read b fun N₃ σ₃ h3 rd3 => ?_).c⟩
                      exact ⟨by show tk.length + 1 ≤ sizeLine; rw [sizeLine_eq]; exact ar108 hl, [("self", .ref A.x), ("token", .str (st (tk ++ [e]))), ("fiter", .ref it), ("ch", .str (st [e]))], .cons rfl (.cons (tk1 tk e) (.cons rfl (.cons rfl (.nil _)))), r.length, by simp only [List.length_cons]; exact ar109, r, tk ++ [e], _, rfl, ⟨_, dr hr⟩, hx, by simp; exact ar110 hl, rfl, rd3⟩
                  · rw [if_neg (of_decide_eq_false h92)] at hx
                    exact ⟨by show tk.length + 1 ≤ sizeLine; rw [sizeLine_eq]; exact ar111 hl, [("self", .ref A.x), ("token", .str (st (tk ++ [c]))), ("fiter", .ref it), ("ch", .str (st [c]))], .cons rfl (.cons (tk1 tk c) (.cons rfl (.cons rfl (.nil _)))), r.length, by simp only [List.length_cons]; exact ar14, r, tk ++ [c], _, rfl, ⟨_, hr⟩, hx, by simp; exact ar112 hl, rfl, rd2⟩
          · refine (?_ : VIf (decide (st [c] = "\\")) _ _)
            rw [q92]
            rw [List.length_cons] at hrl
            refine ⟨fun h92 => ?_, fun h92 => ?_⟩
            · rw [if_pos (of_decide_eq_true h92)] at hx
              cases r with
              | nil => exact nomatch hx
              | cons e r =>
                obtain ⟨pre3, hT3, m3⟩ := id rd2.m
                rw [List.length_cons] at hrl
                refine VMeth.inst m3.x m3.D (mt_read b) rfl ⟨(rd2.read b fun N₃ σ₃ h3 rd3 => ?_).c⟩
                exact ⟨_, .cons rfl (.cons rfl (.cons rfl (.cons rfl (.nil _)))), r, e, rfl, ⟨_, dr hr⟩, hx, by exact ar397 hrl, rd3⟩
            · rw [if_neg (of_decide_eq_false h92)] at hx
              exact ⟨_, .cons rfl (.cons rfl (.cons rfl (.cons rfl (.nil _)))), r, c, rfl, ⟨_, hr⟩, hx, by exact ar398 hrl, rd2⟩
end
end
noncomputable section
/-! a machine made -/
noncomputable def Rw (B : Cx) (d : Nat) : Rec := ⟨fun env e l σ N Q => WE B d env l e σ N Q, fun env e l σ N Q => WB B d env l e σ N Q, fun env ss l σ N Q => WX B d env l ss σ N Q⟩
theorem Rw_sound (B : Cx) (d : Nat) : Sound B d (Rw B d) := ⟨fun _ h => h, fun _ h => h, fun _ h => h⟩
section
variable {B : Cx} {d : Nat} {σ : Store} {N : Nat}
theorem set_pb (b : Base B) : SetAt B 80 "pushback" := ⟨_, b.K, by kernel_rfl, by kernel_rfl, by kernel_rfl, by kernel_rfl⟩
theorem set_in (b : Base B) : SetAt B 80 "instream" := ⟨_, b.K, by kernel_rfl, by kernel_rfl, by kernel_rfl, by kernel_rfl⟩
theorem set_ws (b : Base B) : SetAt B 80 "whitespace" := ⟨_, b.K, by kernel_rfl, by kernel_rfl, by kernel_rfl, by kernel_rfl⟩
theorem init_ok (b : Base B) {x D sm : Nat} (hx : σ x = some (.obj (instObj 80 D))) (hD : σ D = some (.ns [])) {Q : Post V}
    (h : ∀ p, N ≤ p → Q .none (pt (pt σ p (.list [])) D (.ns [("lineno", .int 1), ("instream", .ref sm), ("whitespace", .str "\n\t\r "), ("pushback", .ref p)])) (p + 1)) : WK B (d + 1) (.ref 56) [.ref x, .ref sm] σ N Q := by
  refine K_fun b.tabOk (names := ["self", "fp"]) (b.fn rfl) (b.code rfl rfl) b.lim rfl (fun s as hl => ?_) (by decide) (by decide) ⟨rfl, rfl, rfl, rfl, rfl⟩ (fun L hL hσL hab => ?_)
  · obtain ⟨x, y, rfl⟩ := len2 hl
    exact .of_eq rfl
  have ne : x ≠ D := ne_of_kind hx hD (fun h => nomatch h)
  have ex : ∀ l, pt (σ.add L) D (.ns l) x = some (.obj (instObj 80 D)) := fun l => (pt_ne ne).trans hx
  refine aSet (σ := σ.add L) hx hD (set_ln b) (by decide) ?_
  refine aSet (ex _) (pt_same _ _ _) (set_in b) (by show 1 < 1000; decide) ?_
  rw [pt_pt]
  refine aSet (ex _) (pt_same _ _ _) (set_ws b) (by show 2 < 1000; decide) ?_
  rw [pt_pt]
  refine .mut (by decide) fun p hp => ?_
  have hpx : p ≠ x := fun z => by rw [← z, hab p hp] at hx; cases hx
  have hpD : p ≠ D := fun z => by rw [← z, hab p hp] at hD; cases hD
  refine aSet ((pt_ne hpx.symm).trans (ex _)) ((pt_ne hpD.symm).trans (pt_same _ _ _)) (set_pb b) (by show 3 < 1000; decide) ?_
  rw [pt_comm (a := p) (b := D) hpD, pt_pt, pt_comm (a := D) (b := p) hpD.symm]
  exact ⟨_, .refl _, h p hp⟩
end
end
noncomputable section
section
variable {B : Cx} {d : Nat} {σ : Store} {N : Nat} {A : MA} {pre rest : List Nat} {pb : List Str}
theorem Mach.get {σ' : Store} (m : Mach B σ A pre rest pb) (h : σ'.get = σ.get) : Mach B σ' A pre rest pb := by
  have e : ∀ a, σ' a = σ a := fun a => congrFun h a
  refine ⟨m.ne, (e _).trans m.x, (e _).trans m.D, (e _).trans m.p, ?_, (e _).trans m.ds, ?_, (e _).trans m.ct, (e _).trans m.ca, (e _).trans m.la, m.len⟩
  · obtain ⟨o, fd, h, r⟩ := m.sm; exact ⟨o, fd, (e _).trans h, r⟩
  · obtain ⟨q, pm, doc, c, ctv, ⟨o, h1, h2⟩, ⟨c2, o2, vs, t, e1, e2, e3⟩⟩ := m.fr
    exact ⟨q, pm, doc, c, ctv, ⟨o, h1.imp id (e _).trans, h2⟩, ⟨c2, o2, vs, t, e1, e2.imp id (e _).trans, e3⟩⟩
/-- where a machine's things lie -/
structure Bd (A : MA) (lo hi : Nat) : Prop where
  la : lo ≤ A.la ∧ A.la < hi
  ds : lo ≤ A.ds ∧ A.ds < hi
  D : lo ≤ A.D ∧ A.D < hi
  p : lo ≤ A.p ∧ A.p < hi
theorem mach_tail (b : Base B) {L ct ca la f sm c : Nat} {text : List Nat} {o oc : Obj} {fd : FuncData} {qual : Str} {pm doc ctv : Value} {φ : Nat → Prop} (hct : σ ct = some (.cell (some (.str (st text))))) (hca : σ ca = some (.cell (some (.ref la)))) (hla : σ la = some (.list [.int 0]))
    (hsm : σ sm = some (.obj o)) (h1 : o.cls = .type "function") (h2 : o.dict = none) (h3 : o.data = .func fd) (hf : σ f = some (.obj (fnMade "_law_read_on" qual (paramsOf (at_ (stmtsOf (at_ bodyP 13)) 1)) readBody (scopeOf (at_ (stmtsOf (at_ bodyP 13)) 1)) [("text", ct), ("at", ca)] doc pm c ctv)))
    (hc : σ c = some (.obj oc)) (hq : CodeOb oc qual) (n1 : f ≠ sm) (n2 : c ≠ sm) (n3 : ct ≠ sm ∧ ca ≠ sm ∧ la ≠ sm) (hab : ∀ a, N ≤ a → σ a = none) (hlen : text.length ≤ 10000) {Q : Post V}
    (h : ∀ (A : MA) N' σ', N ≤ N' → A.la = la → N ≤ A.ds ∧ A.ds < N' → N ≤ A.D ∧ A.D < N' → N ≤ A.p ∧ A.p < N' → Mach B σ' A [] text [] → (∀ a o, σ a = some o → a ≠ sm → σ' a = some o) → (∀ a, N' ≤ a → σ' a = none) → σ'.fr = φ → Q (.ref A.x) σ' N') :
    (vRun B tb (d + 2) 200).S (callEnvC fd119 L 119) ((stmtsOf (at_ bodyP 13)).drop 3) [("stream", .ref sm), ("_law_read_on", .ref f)] σ N (Back φ Q) := by
  have lo : ∀ {a o}, σ a = some o → a < N := fun {a o} e => by
    rcases Nat.lt_or_ge a N with z | z
    · exact z
    · rw [hab a z] at e; cases e
  have l1 := lo hct; have l2 := lo hca; have l3 := lo hla; have l4 := lo hsm; have l5 := lo hf; have l6 := lo hc
  refine ⟨A_setFn fn_read hsm h1 h2 h3 fun D' hD' => ?_⟩
  refine ⟨C_cls b.K (fI := 56) (by kernel_rfl) (by kernel_rfl) (by kernel_rfl) fun D hD => ?_⟩
  generalize hS : (pt (pt (pt (pt σ sm (.obj { o with dict := some D' })) D' (.ns [("read", .ref f)])) D (.ns [])) (D + 1) (.obj (instObj 80 D))) = S
  have kp : ∀ a p, σ a = some p → a ≠ sm → S a = some p := fun a p e n => by
    have := lo e
    rw [← hS]
    exact (pt_ne (by exact ar399 hD' hD this)).trans ((pt_ne (by exact ar113 hD' hD this)).trans ((pt_ne (by exact ar57 hD' this)).trans ((pt_ne n).trans e)))
  have hi : ∀ a, D + 2 ≤ a → S a = none := fun a ha => by
    rw [← hS]
    exact (pt_ne (by exact ar400 ha)).trans ((pt_ne (by exact ar114 ha)).trans ((pt_ne (by exact ar401 hD ha)).trans ((pt_ne (by exact ar402 l4 hD' hD ha)).trans (hab a (by exact ar403 hD' hD ha)))))
  have eD : S D = some (.ns []) := by rw [← hS]; exact (pt_ne (by exact ar404)).trans (pt_same _ _ _)
  have ex : S (D + 1) = some (.obj (instObj 80 D)) := by rw [← hS]; exact pt_same _ _ _
  have eds : S D' = some (.ns [("read", .ref f)]) := by rw [← hS]; exact (pt_ne (by exact ar405 hD)).trans ((pt_ne (by exact ar1 hD)).trans (pt_same _ _ _))
  have esm : S sm = some (.obj { o with dict := some D' }) := by rw [← hS]; exact (pt_ne (by exact ar406 l4 hD' hD)).trans ((pt_ne (by exact ar11 l4 hD' hD)).trans ((pt_ne (by exact ar407 l4 hD')).trans (pt_same _ _ _)))
  have efr : S.fr = σ.fr := by rw [← hS]; rfl
  refine init_ok b (x := D + 1) (D := D) ex eD fun p hp => ⟨rfl, _, _, .refl, ?_⟩
  have up : ∀ {l a v}, S a = some v → a ≠ D → a ≠ p → pt (pt S p (.list [])) D (.ns l) a = some v := fun e n m => (pt_ne n).trans ((pt_ne m).trans e)
  refine h ⟨ct, ca, la, f, sm, D', D, D + 1, p⟩ (p + 1) _ (by exact ar408 hD' hD hp) rfl (by show N ≤ D' ∧ D' < p + 1; exact ar409 hD' hD hp) (by show N ≤ D ∧ D < p + 1; exact ar410 hD' hD hp) (by show N ≤ p ∧ p < p + 1; exact ar411 hD' hD hp) (Mach.get (σ := pt (pt S p (.list [])) D (.ns _)) ?_ rfl) (fun a v e n => up (kp a v e n) (by have := lo e; exact ar113 hD' hD this) (by have := lo e; exact ar412 hD' hD hp this)) (fun a ha => (pt_ne (by exact ar413 hp ha)).trans ((pt_ne (by exact ar27 ha)).trans (hi a (by exact ar414 hp ha)))) rfl
  exact ⟨⟨by show D' ≠ D; exact ar1 hD, by show la ≠ p; exact ar8 l3 hD' hD hp⟩, up ex (by dsimp only; exact ar415) (by dsimp only; exact ar416 hp), pt_same _ _ _, (pt_ne (by dsimp only; exact ar114 hp)).trans (pt_same _ _ _), ⟨_, fd, up esm (by dsimp only; exact ar11 l4 hD' hD) (by dsimp only; exact ar8 l4 hD' hD hp), h1, rfl, h3⟩, up eds (by dsimp only; exact ar1 hD) (by dsimp only; exact ar417 hD hp),
    ⟨qual, pm, doc, c, ctv, ⟨_, .inr (up (kp f _ hf n1) (by dsimp only; exact ar11 l5 hD' hD) (by dsimp only; exact ar8 l5 hD' hD hp)), rfl⟩, ⟨c, oc, _, _, rfl, .inr (up (kp c _ hc n2) (by exact ar11 l6 hD' hD) (by exact ar8 l6 hD' hD hp)), hq.choose_spec.choose_spec.1, hq.choose_spec.choose_spec.2⟩⟩,
    up (kp ct _ hct n3.1) (by dsimp only; exact ar11 l1 hD' hD) (by dsimp only; exact ar8 l1 hD' hD hp), up (kp ca _ hca n3.2.1) (by dsimp only; exact ar11 l2 hD' hD) (by dsimp only; exact ar8 l2 hD' hD hp), up (kp la _ hla n3.2.2) (by dsimp only; exact ar11 l3 hD' hD) (by dsimp only; exact ar8 l3 hD' hD hp), hlen⟩
end
end
noncomputable section
/-- the machine's table: empty, or with its two codes -/
noncomputable def tabOf (c1 c2 : Nat) : Array Value := #[rawInt 118, rawInt 4, .ref c1, rawInt 122, rawInt 13, .ref c2]
noncomputable def TabOld (B : Cx) (σ : Store) : Prop := ∃ c1 c2 oc, σ 114 = some (.obj (tabObj (tabOf c1 c2))) ∧ σ c1 = some (.obj oc) ∧ CodeOb oc "_law_machine.<locals>._law_read_on"
theorem TabOld.keep {B : Cx} {σ σ' : Store} (t : TabOld B σ) (h : ∀ a o, σ a = some (.obj o) → σ' a = some (.obj o)) : TabOld B σ' :=
  let ⟨c1, c2, oc, e, hc, hq⟩ := t; ⟨c1, c2, oc, h _ _ e, h _ _ hc, hq⟩
section
variable {B : Cx} {d : Nat} {σ : Store} {N : Nat}
theorem machine_ok (b : Base B) {text : List Nat} (hlen : text.length ≤ 10000) (ht : σ 114 = some (.obj (tabObj #[])) ∨ TabOld B σ) {Q : Post V}
    (h : ∀ (A : MA) N' σ', N ≤ N' → Bd A N N' → Mach B σ' A [] text [] → TabOld B σ' → (∀ a o, σ a = some o → a ≠ 114 ∨ TabOld B σ → σ' a = some o) → (∀ a, N' ≤ a → σ' a = none) → σ'.fr = σ.fr → Q (.ref A.x) σ' N') : WC B (d + 3) (.ref 119) [.str (st text)] σ N Q := by
  refine WK.c (K_cells (names := ["text"]) (b.fn (fd := fd119) rfl) (b.code rfl rfl) b.lim rfl rfl (fun s hl => ?_) (fun n x hx => by cases hx with | head => exact .inr ⟨rfl, rfl⟩ | tail _ h => cases h) (fun n => by show (["at", "text"] : List Str).Nodup; decide) (fun L N₁ hL hσL hab hLN hcs => ?_) rfl rfl rfl)
  · obtain ⟨x, rfl⟩ := len1 hl
    rfl
  have hc1 : L + 2 < N₁ := hcs ("at", L + 2) (.head _)
  have he : EnvOk (callEnvC fd119 L 119) := ⟨rfl, rfl, rfl⟩
  show WX B (d + 2) (callEnvC fd119 L 119) [] (stmtsOf (at_ bodyP 13)) (pt (pt (σ.add L) (L + 1) (.cell (some (.str (st text))))) (L + 2) (.cell none)) N₁ (Back σ.fr Q)
  refine vS_sound (Rw_sound B (d + 2)) he ((vRun_sound b.tabOk 200).E he (.mut (by decide) fun la hla => ⟨⟨_, (pt_ne (by exact ar418 hc1 hla)).trans (pt_same _ _ _)⟩, ?_⟩))
  show WX B (d + 2) (callEnvC fd119 L 119) [] ((stmtsOf (at_ bodyP 13)).drop 1) _ _ (Back σ.fr Q)
  generalize hS : pt (pt (pt (pt (σ.add L) (L + 1) (.cell (some (.str (st text))))) (L + 2) (.cell none)) la (.list [.int 0])) (L + 2) (.cell (some (.ref la))) = S
  have lo : ∀ {a o}, σ a = some o → a < N := fun {a o} e => by
    rcases Nat.lt_or_ge a N with z | z
    · exact z
    · rw [hab a z] at e; cases e
  have e1 : S (L + 1) = some (.cell (some (.str (st text)))) := by rw [← hS]; exact (pt_ne (by exact ar7)).trans ((pt_ne (by exact ar419 hLN hc1 hla)).trans ((pt_ne (by exact ar7)).trans (pt_same _ _ _)))
  have e2 : S (L + 2) = some (.cell (some (.ref la))) := by rw [← hS]; exact pt_same _ _ _
  have e3 : S la = some (.list [.int 0]) := by rw [← hS]; exact (pt_ne (by exact ar420 hc1 hla)).trans (pt_same _ _ _)
  have k1 : ∀ {a o}, σ a = some o → S a = some o := fun {a o} e => by
    have := lo e
    rw [← hS]
    exact (pt_ne (by exact ar115 hL this)).trans ((pt_ne (by exact ar421 hL hc1 hla this)).trans ((pt_ne (by exact ar115 hL this)).trans ((pt_ne (by exact ar28 hL this)).trans e)))
  have hi : ∀ a, la + 1 ≤ a → S a = none := fun a ha => by
    rw [← hS]
    exact (pt_ne (by exact ar116 hLN hc1 hla ha)).trans ((pt_ne (by exact ar27 ha)).trans ((pt_ne (by exact ar116 hLN hc1 hla ha)).trans ((pt_ne (by exact ar422 hc1 hla ha)).trans (hab a (by exact ar423 hL hc1 hla ha)))))
  rcases ht with e0 | ⟨c1, c2, oc, e0, hc, hq⟩
  · have l0 := lo e0
    refine X_def b.nest (clos := [("text", L + 1), ("at", L + 2)]) (cloOf_sound rfl) rfl rfl rfl (k1 e0) trivial rfl rfl rfl rfl rfl fun c f oc ctv doc pm hc hf hq => ?_
    refine X_assign (WE_lambda b.nest (clos := []) (cloOf_sound rfl) rfl rfl ((pt_ne (by exact ar424 hL hc1 hla l0 hc hf)).trans ((pt_ne (by exact ar117 hL hc1 hla l0 hc)).trans (pt_same _ _ _))) trivial rfl rfl fun c2 f2 oc2 ctv2 pm2 hc2 hf2 => ?_)
    refine (vRun_sound b.tabOk 200).S he (mach_tail b (ct := L + 1) (ca := L + 2) (la := la) (f := f) (sm := f2) (c := c) (oc := oc) (pm := pm) (doc := doc) (ctv := ctv) ?_ ?_ ?_ (pt_same _ _ _) rfl rfl rfl ?_ ?_ hq (by exact ar48 hc2 hf2) (by exact ar29 hf hc2 hf2) ⟨by exact ar118 hc1 hla hc hf hc2 hf2, by exact ar119 hc1 hla hc hf hc2 hf2, by exact ar120 hc hf hc2 hf2⟩ (fun a ha => ?_) hlen fun A N' σ' hN hlb hds hD hp m k hn hfr => ?_)
    · exact (pt_ne (by exact ar118 hc1 hla hc hf hc2 hf2)).trans ((pt_ne (by exact ar425 hc1 hla hc hf hc2)).trans ((pt_ne (by exact ar121 hL l0)).trans ((pt_ne (by exact ar426 hc1 hla hc hf)).trans ((pt_ne (by exact ar122 hc1 hla hc)).trans ((pt_ne (by exact ar121 hL l0)).trans e1)))))
    · exact (pt_ne (by exact ar119 hc1 hla hc hf hc2 hf2)).trans ((pt_ne (by exact ar427 hc1 hla hc hf hc2)).trans ((pt_ne (by exact ar123 hL l0)).trans ((pt_ne (by exact ar428 hc1 hla hc hf)).trans ((pt_ne (by exact ar124 hLN hc1 hla hc)).trans ((pt_ne (by exact ar123 hL l0)).trans e2)))))
    · exact (pt_ne (by exact ar120 hc hf hc2 hf2)).trans ((pt_ne (by exact ar429 hc hf hc2)).trans ((pt_ne (by exact ar125 hL hc1 hla l0)).trans ((pt_ne (by exact ar48 hc hf)).trans ((pt_ne (by exact ar1 hc)).trans ((pt_ne (by exact ar125 hL hc1 hla l0)).trans e3)))))
    · exact (pt_ne (by exact ar48 hc2 hf2)).trans ((pt_ne (by exact ar1 hc2)).trans ((pt_ne (by exact ar430 hL hc1 hla l0 hc hf)).trans (pt_same _ _ _)))
    · exact (pt_ne (by exact ar29 hf hc2 hf2)).trans ((pt_ne (by exact ar126 hf hc2)).trans ((pt_ne (by exact ar431 hL hc1 hla l0 hc)).trans ((pt_ne (by exact ar42 hf)).trans (pt_same _ _ _))))
    · exact (pt_ne (by exact ar27 ha)).trans ((pt_ne (by exact ar432 hf2 ha)).trans ((pt_ne (by exact ar127 hL hc1 hla l0 hc hf hc2 hf2 ha)).trans ((pt_ne (by exact ar433 hc2 hf2 ha)).trans ((pt_ne (by exact ar434 hf hc2 hf2 ha)).trans ((pt_ne (by exact ar127 hL hc1 hla l0 hc hf hc2 hf2 ha)).trans (hi a (by exact ar435 hc hf hc2 hf2 ha)))))))
    · have kk : ∀ a o, σ a = some o → a ≠ 114 → σ' a = some o := fun a o e n => by
        have := lo e
        exact k a o ((pt_ne (by exact arb8 hL hc1 hla hc hf hc2 hf2 this)).trans ((pt_ne (by exact arb34 hL hc1 hla hc hf hc2 this)).trans ((pt_ne n).trans ((pt_ne (by exact arb35 hL hc1 hla hc hf this)).trans ((pt_ne (by exact arb9 hL hc1 hla hc this)).trans ((pt_ne n).trans (k1 e))))))) (by exact arb8 hL hc1 hla hc hf hc2 hf2 this)
      refine h A N' σ' (by exact arb36 hL hc1 hla hc hf hc2 hf2 hN) ⟨⟨by exact arb10 hL hc1 hla hlb, by exact ar436 hc hf hc2 hf2 hN hlb⟩, ⟨by exact arb2 hL hc1 hla hc hf hc2 hf2 hds, by exact ar12 hds⟩, ⟨by exact arb2 hL hc1 hla hc hf hc2 hf2 hD, by exact ar12 hD⟩, ⟨by exact arb2 hL hc1 hla hc hf hc2 hf2 hp, by exact ar12 hp⟩⟩ m ⟨c, c2, oc, ?_, ?_, hq⟩ (fun a o e n => kk a o e ?_) hn hfr
      · exact (k 114 _ ((pt_ne (by exact arb11 hL hc1 hla l0 hc hf hc2 hf2)).trans ((pt_ne (by exact arb37 hL hc1 hla l0 hc hf hc2)).trans (pt_same _ _ _))) (by exact arb11 hL hc1 hla l0 hc hf hc2 hf2))
      · exact (k c _ ((pt_ne (by exact ar29 hf hc2 hf2)).trans ((pt_ne (by exact ar126 hf hc2)).trans ((pt_ne (by exact ar431 hL hc1 hla l0 hc)).trans ((pt_ne (by exact ar42 hf)).trans (pt_same _ _ _))))) (by exact ar29 hf hc2 hf2))
      · refine n.elim id ?_
        rintro ⟨c1, c2, oc, q, _⟩
        rw [q] at e0; cases e0
  · have l0 := lo e0
    have l1 := lo hc
    refine X_defHit b.nest (clos := [("text", L + 1), ("at", L + 2)]) (cloOf_sound rfl) rfl rfl rfl (k1 e0) trivial (by rfl : codeAmong _ _ = some (.ref c1)) rfl rfl rfl rfl fun f ctv doc pm hf => ?_
    refine X_assign (WE_lambdaHit b.nest (clos := []) (cloOf_sound rfl) rfl rfl ((pt_ne (by exact ar117 hL hc1 hla l0 hf)).trans (k1 e0)) trivial (by rfl : codeAmong _ _ = some (.ref c2)) rfl fun f2 ctv2 pm2 hf2 => ?_)
    refine (vRun_sound b.tabOk 200).S he (mach_tail b (ct := L + 1) (ca := L + 2) (la := la) (f := f) (sm := f2) (c := c1) (oc := oc) (pm := pm) (doc := doc) (ctv := ctv) ?_ ?_ ?_ (pt_same _ _ _) rfl rfl rfl ?_ ?_ hq (by exact ar1 hf2) (by exact ar128 hL hc1 hla l1 hf hf2) ⟨by exact ar129 hc1 hla hf hf2, by exact ar130 hc1 hla hf hf2, by exact ar131 hf hf2⟩ (fun a ha => ?_) hlen fun A N' σ' hN hlb hds hD hp m k hn hfr => ?_)
    · exact (pt_ne (by exact ar129 hc1 hla hf hf2)).trans ((pt_ne (by exact ar122 hc1 hla hf)).trans e1)
    · exact (pt_ne (by exact ar130 hc1 hla hf hf2)).trans ((pt_ne (by exact ar124 hLN hc1 hla hf)).trans e2)
    · exact (pt_ne (by exact ar131 hf hf2)).trans ((pt_ne (by exact ar1 hf)).trans e3)
    · exact (pt_ne (by exact ar1 hf2)).trans (pt_same _ _ _)
    · exact (pt_ne (by exact ar128 hL hc1 hla l1 hf hf2)).trans ((pt_ne (by exact ar437 hL hc1 hla l1 hf)).trans (k1 hc))
    · exact (pt_ne (by exact ar27 ha)).trans ((pt_ne (by exact ar438 hf2 ha)).trans (hi a (by exact ar439 hf hf2 ha)))
    · have kk : ∀ a o, σ a = some o → σ' a = some o := fun a o e => by
        have := lo e
        exact k a o ((pt_ne (by exact arb12 hL hc1 hla hf hf2 this)).trans ((pt_ne (by exact arb9 hL hc1 hla hf this)).trans (k1 e))) (by exact arb12 hL hc1 hla hf hf2 this)
      exact h A N' σ' (by exact arb38 hL hc1 hla hf hf2 hN) ⟨⟨by exact arb10 hL hc1 hla hlb, by exact ar440 hf hf2 hN hlb⟩, ⟨by exact arb3 hL hc1 hla hf hf2 hds, by exact ar12 hds⟩, ⟨by exact arb3 hL hc1 hla hf hf2 hD, by exact ar12 hD⟩, ⟨by exact arb3 hL hc1 hla hf hf2 hp, by exact ar12 hp⟩⟩ m ⟨c1, c2, oc, kk _ _ e0, kk _ _ hc, hq⟩ (fun a o e _ => kk a o e) hn hfr
end
end
noncomputable section
/-! two machines for a turn -/
structure Sep (A A' : MA) : Prop where
  n : A.D ≠ A'.D ∧ A.p ≠ A'.p ∧ A.p ≠ A'.la ∧ A.la ≠ A'.p ∧ A.la ≠ A'.la ∧ A.ds ≠ A'.D
structure Oth (A A' : MA) (a : Nat) : Prop where
  n1 : a ≠ A.D ∧ a ≠ A.p ∧ a ≠ A.la
  n2 : a ≠ A'.D ∧ a ≠ A'.p ∧ a ≠ A'.la
structure T2 (B : Cx) (S : Store) (A A' : MA) (pb pb' : List Str) (σ : Store) : Prop where
  m : Mach B σ A [] [] pb
  m' : Mach B σ A' [] [] pb'
  s : Sep A A'
  s' : Sep A' A
  kp : ∀ a o, S a = some o → Oth A A' a → σ a = some o
  fr : σ.fr = S.fr
section
variable {B : Cx} {d : Nat} {S σ : Store} {N : Nat} {A A' : MA} {pb pb' : List Str}
theorem T2.swap (t : T2 B S A A' pb pb' σ) : T2 B S A' A pb' pb σ := ⟨t.m', t.m, t.s', t.s, fun a o e n => t.kp a o e ⟨n.n2, n.n1⟩, t.fr⟩
theorem T2.step {σ' : Store} {q : List Str} (t : T2 B S A A' pb pb' σ) (m : Mach B σ' A [] [] q) (k : Kp A σ σ') : T2 B S A A' q pb' σ' :=
  ⟨m, t.m'.keep k t.m t.s'.n, t.s, t.s', fun a o e n => k.kp a o (t.kp a o e n) n.n1.1 n.n1.2.1 n.n1.2.2, k.fr.trans t.fr⟩
theorem T2.get (b : Base B) {x : Str} {r : List Str} (t : T2 B S A A' (x :: r) pb' σ) (hz : r.length < 1000) {Q : Post V} (h : ∀ N' σ', N ≤ N' → T2 B S A A' r pb' σ' → Q (.str x) σ' N') : WC B (d + 1) (.ref 70) [.ref A.x] σ N Q :=
  get_pushed_ok b t.m hz fun N' σ' hN m k => h N' σ' hN (t.step m k)
theorem T2.put (b : Base B) {x : Str} (t : T2 B S A A' pb pb' σ) (hz : pb.length < 1000) {Q : Post V} (h : ∀ N' σ', N ≤ N' → T2 B S A A' (pb ++ [x]) pb' σ' → Q .none σ' N') : WC B (d + 1) (.ref 77) [.ref A.x, .str x] σ N Q :=
  push_token_ok b t.m hz fun N' σ' hN m k => h N' σ' hN (t.step m k)
theorem mt_get (b : Base B) : MethAt B 80 "get_token" 70 := ⟨_, b.K, by kernel_rfl, by kernel_rfl, by kernel_rfl⟩
theorem mt_push (b : Base B) : MethAt B 80 "push_token" 77 := ⟨_, b.K, by kernel_rfl, by kernel_rfl, by kernel_rfl⟩
/-- a turn -/
noncomputable def tStep {α : Type} (c : α → Bool) (p : List α × List α) (w : α) : List α × List α := if c w then (p.1 ++ w :: p.2, []) else (p.1, p.2 ++ [w])
noncomputable def turnN {α : Type} (gt : α → α → Bool) (d : α) (row : List α) : Nat → List α
  | 0 => []
  | k + 1 => ((turnN gt d row k).foldl (tStep fun w => gt w (row.getD k d) == gt (row.getD (k - 1) d) (row.getD k d)) ([], [])).1 ++ [row.getD k d]
theorem tStep_len {α : Type} (c : α → Bool) : ∀ (l : List α) (p : List α × List α), (l.foldl (tStep c) p).1.length + (l.foldl (tStep c) p).2.length = p.1.length + p.2.length + l.length
  | [], p => rfl
  | w :: l, p => by
    rw [List.foldl_cons, tStep_len c l, List.length_cons]
    unfold tStep
    split <;> simp <;> exact ar441
/-- the held are none behind a word that ends a block -/
theorem tStep_end {α : Type} (c : α → Bool) (l : List α) (w : α) (p : List α × List α) (h : c w = true) : ((l ++ [w]).foldl (tStep c) p).2 = [] := by
  rw [List.foldl_append, List.foldl_cons, List.foldl_nil]
  unfold tStep
  rw [if_pos h]
theorem turnN_len {α : Type} (gt : α → α → Bool) (d : α) (row : List α) : ∀ k, (turnN gt d row k).length = k ∧ ((turnN gt d row k).foldl (tStep fun w => gt w (row.getD k d) == gt (row.getD (k - 1) d) (row.getD k d)) ([], [])).2 = []
  | 0 => ⟨rfl, rfl⟩
  | k + 1 => by
    have ih := turnN_len gt d row k
    have e := tStep_len (fun w => gt w (row.getD k d) == gt (row.getD (k - 1) d) (row.getD k d)) (turnN gt d row k) ([], [])
    rw [ih.2, ih.1] at e
    refine ⟨?_, tStep_end _ _ _ _ (beq_self_eq_true _)⟩
    show (_ ++ [_]).length = _
    rw [List.length_append]
    simp at e ⊢
    exact ar81 e
noncomputable def turned (row : List Str) : List Str := turnN gtS (st []) row row.length
theorem Mach.pt0 {c : Nat} {o : AObj} {pre rest : List Nat} (m : Mach B σ A pre rest pb) (h : σ c = some (.cell none)) : Mach B (pt σ c o) A pre rest pb := by
  have k : ∀ {a v}, σ a = some v → v ≠ .cell none → pt σ c o a = some v := fun e n => (pt_ne (ne_of_kind e h n)).trans e
  refine ⟨m.ne, k m.x (fun h => nomatch h), k m.D (fun h => nomatch h), k m.p (fun h => nomatch h), ?_, k m.ds (fun h => nomatch h), ?_, k m.ct (fun h => nomatch h), k m.ca (fun h => nomatch h), k m.la (fun h => nomatch h), m.len⟩
  · obtain ⟨o, fd, h, r⟩ := m.sm; exact ⟨o, fd, k h (fun h => nomatch h), r⟩
  · obtain ⟨q, pm, doc, c, ctv, ⟨o, h1, h2⟩, ⟨c2, o2, vs, t, e1, e2, e3⟩⟩ := m.fr
    exact ⟨q, pm, doc, c, ctv, ⟨o, h1.imp id (fun h => k h (fun h => nomatch h)), h2⟩, ⟨c2, o2, vs, t, e1, e2.imp id (fun h => k h (fun h => nomatch h)), e3⟩⟩
theorem machine0_ok (b : Base B) (ht : TabOld B σ) {Q : Post V}
    (h : ∀ (A : MA) N' σ', N ≤ N' → Bd A N N' → Mach B σ' A [] [] [] → (∀ a o, σ a = some o → σ' a = some o) → σ'.fr = σ.fr → Q (.ref A.x) σ' N') : WC B (d + 3) (.ref 119) [.str ""] σ N Q := by
  rw [s0]
  exact machine_ok b (Nat.zero_le _) (.inr ht) fun A N' σ' h1 h2 h3 h4 h5 _ h6 => h A N' σ' h1 h2 h3 (fun a o e => h5 a o e (.inr ht)) h6
noncomputable def TJ0 (B : Cx) (S : Store) (A A' : MA) (row : List Str) (i : Nat) (l : Loc) (σ : Store) (_ : Nat) : Prop := l = ([("row", .lst (row.map V.str)), ("beside", .ref A'.x)] : Loc) ∧ T2 B S A A' (turnN gtS (st []) row i) [] σ
noncomputable def TJ1 (B : Cx) (S : Store) (A A' : MA) (row old : List Str) (c : Str → Bool) (i s : Nat) (l : Loc) (σ : Store) (_ : Nat) : Prop :=
  ∃ out held, (old.take s).foldl (tStep c) ([], []) = (out, held) ∧ l = ([("row", .lst (row.map V.str)), ("beside", .ref A'.x), ("k", .int (i : Nat)), ("waiting", .int (held.length : Nat))] : Loc) ∧ T2 B S A A' (old.drop s ++ out) held σ
noncomputable def TJ2 (B : Cx) (S : Store) (A A' : MA) (row : List Str) (pb held : List Str) (i j : Nat) (l : Loc) (σ : Store) (_ : Nat) : Prop :=
  l = ([("row", .lst (row.map V.str)), ("beside", .ref A'.x), ("k", .int (i : Nat))] : Loc) ∧ T2 B S A A' (pb ++ held.take j) (held.drop j) σ
theorem turned_ok (b : Base B) {row : List Str} (hrow : row.length < 64) (ht : TabOld B σ) {Q : Post V}
    (h : ∀ N' σ', N ≤ N' → (∀ a o, σ a = some o → σ' a = some o) → σ'.fr = σ.fr → Q (.lst ((turned row).map V.str)) σ' N') : WC B (d + 4) (.ref 136) [.lst (row.map V.str)] σ N Q := by
  refine C_funC b.tabOk (names := ["row"]) (b.fn rfl) (b.code rfl rfl) b.lim rfl rfl (fun s hl => ?_) (fun n x hx => by cases hx with | head => exact .inl rfl | tail _ h => cases h) (fun n => by show (["line"] : List Str).Nodup; decide) ⟨rfl, rfl, rfl, rfl, rfl⟩ (fun L N₁ hL hσL hab hLN hcs => ?_)
  · obtain ⟨x, rfl⟩ := len1 hl
    rfl
  have hc1 : L + 1 < N₁ := hcs ("line", L + 1) (.head _)
  have lo : ∀ {a o}, σ a = some o → a < N := fun {a o} e => by
    rcases Nat.lt_or_ge a N with z | z
    · exact z
    · rw [hab a z] at e; cases e
  show (vRun B tb (d + 3) 200).S (callEnvC fd136 L 136) (stmtsOf (at_ bodyP 16)) [("row", .lst (row.map V.str))] (pt (σ.add L) (L + 1) (.cell none)) N₁ (Back σ.fr Q)
  have t1 : TabOld B (pt (σ.add L) (L + 1) (.cell none)) := ht.keep fun a o e => (pt_ne (by have := lo e; exact ar28 hL this)).trans e
  refine ⟨machine0_ok b t1 fun A N₂ σ₂ h2 bd m k fr => ⟨⟨_, k _ _ (pt_same _ _ _)⟩, ?_⟩⟩
  have m2 := m.pt0 (o := .cell (some (.ref A.x))) (k _ _ (pt_same _ _ _))
  have t2 : TabOld B (pt σ₂ (L + 1) (.cell (some (.ref A.x)))) := t1.keep fun a o e => (pt_ne (ne_of_kind e (pt_same _ _ _) (fun h => nomatch h))).trans (k _ _ e)
  have e2 : pt σ₂ (L + 1) (.cell (some (.ref A.x))) (L + 1) = some (.cell (some (.ref A.x))) := pt_same _ _ _
  have k2 : ∀ a o, σ a = some o → pt σ₂ (L + 1) (.cell (some (.ref A.x))) a = some o := fun a o e => by
    have := lo e
    exact (pt_ne (by exact ar28 hL this)).trans (k _ _ ((pt_ne (by exact ar28 hL this)).trans e))
  have f2 : (pt σ₂ (L + 1) (.cell (some (.ref A.x)))).fr = (σ.add L).fr := fr
  generalize pt σ₂ (L + 1) (.cell (some (.ref A.x))) = S₂ at *
  refine ⟨machine0_ok b t2 fun A' N₃ S h3 bd' m' k' fr' => ?_⟩
  have t : T2 B S A A' [] [] S := by
    have := bd.la; have := bd.ds; have := bd.D; have := bd.p
    have := bd'.la; have := bd'.ds; have := bd'.D; have := bd'.p
    refine ⟨m2.step ⟨fun a o e _ _ _ => k' a o e, fr'⟩ (k' _ _ m2.D) (k' _ _ m2.p) (k' _ _ m2.la) rfl, m', ⟨by lia⟩, ⟨by lia⟩, fun _ _ e _ => e, rfl⟩
  have eS : S (L + 1) = some (.cell (some (.ref A.x))) := k' _ _ e2
  have oL : Oth A A' (L + 1) := by
    have := bd.la; have := bd.D; have := bd.p; have := bd'.la; have := bd'.D; have := bd'.p
    exact ⟨by lia, by lia⟩
  have oo : ∀ a o, σ a = some o → S a = some o ∧ Oth A A' a := fun a o e => by
    have := lo e
    have := bd.la; have := bd.D; have := bd.p; have := bd'.la; have := bd'.D; have := bd'.p
    exact ⟨k' _ _ (k2 _ _ e), by lia, by lia⟩
  have fS : S.fr = (σ.add L).fr := fr'.trans f2
  clear m k m2 t1 t2 k2 f2 e2 k'
  have get : ∀ i, i < row.length → (row.map V.str)[i]? = some (.str (row.getD i (st []))) := fun i hi => by rw [List.getElem?_map, List.getElem?_eq_getElem hi, List.getD_eq_getElem?_getD, List.getElem?_eq_getElem hi]; rfl
  refine bLen (.lst _) (by simp; exact ar45 hrow) (bRange fun t₁ u v => ?_)
  rw [List.length_map]
  refine .items (iter_range (by exact ar46 hrow)) (TJ0 B S A A' row) [("row", .lst (row.map V.str)), ("beside", .ref A'.x)] (.cons rfl (.cons rfl (.nil _))) ⟨rfl, t⟩ (fun _ _ _ _ _ _ => trivial) ?_ ?_
  · rintro i l σ' N' hi ⟨rfl, t⟩ hN
    obtain ⟨hlen, hend⟩ := turnN_len gtS (st []) row i
    have hnext : turnN gtS (st []) row (i + 1) = ((turnN gtS (st []) row i).foldl (tStep fun w => gtS w (row.getD i (st [])) == gtS (row.getD (i - 1) (st [])) (row.getD i (st []))) ([], [])).1 ++ [row.getD i (st [])] := rfl
    generalize turnN gtS (st []) row i = old at *
    generalize hcc : (fun w => gtS w (row.getD i (st [])) == gtS (row.getD (i - 1) (st [])) (row.getD i (st []))) = c at *
    refine bRange fun t₂ u₂ v₂ => ?_
    refine .items (iter_range (n := i) (by exact ar10 hrow hi)) (TJ1 B S A A' row old c i) [("row", .lst (row.map V.str)), ("beside", .ref A'.x), ("k", .int (i : Nat)), ("waiting", .int 0)] (.cons rfl (.cons rfl (.cons rfl (.cons rfl (.nil _))))) ⟨[], [], rfl, rfl, by simpa using t⟩ (fun _ _ _ _ _ _ => trivial) ?_ ?_
    · rintro s l σ₁ N₄ hs ⟨out, held, hf, rfl, t⟩ hN'
      have hs : s < old.length := by exact ar40 hlen hs
      have hol : out.length + held.length = s := by
        have := tStep_len c (old.take s) ([], [])
        rw [hf] at this
        simpa [Nat.min_eq_left (Nat.le_of_lt hs)] using this
      have hd : old.drop s = old[s] :: old.drop (s + 1) := List.drop_eq_getElem_cons hs
      have hft : (old.take (s + 1)).foldl (tStep c) ([], []) = tStep c (out, held) old[s] := by
        rw [List.take_add_one, List.getElem?_eq_getElem hs, List.foldl_append, hf]; rfl
      have hdl : (old.drop (s + 1)).length < 64 := by rw [List.length_drop]; exact ar442 hrow hi hlen
      rw [hd, List.cons_append] at t
      generalize old[s] = w at *
      refine ⟨_, t.kp _ _ eS oL, VMeth.inst t.m.x t.m.D (mt_get b) rfl ⟨t.get b (by rw [List.length_append]; exact arb13 hrow hi hlen hs hol hdl) fun N₅ σ₅ h5 t => ?_⟩⟩
      refine .plain (iLst (by exact ar0) (by exact ar10 hrow hi) (get i hi) ?_)
      refine iLst (v := .str (row.getD (i - 1) (st []))) (by exact arb39 hlen hs) (by exact ar443 hrow hi) (by rw [show ((i : Int) - 1).toNat = i - 1 by exact arb40 hlen hs]; exact get (i - 1) (by exact arb41 hi hlen hs)) ?_
      refine iLst (by exact ar0) (by exact ar10 hrow hi) (get i hi) ?_
      refine ⟨fun hc => ?_, fun hc => ?_⟩
      · have hc : c w = true := by rw [← hcc]; exact hc
        refine ⟨_, t.kp _ _ eS oL, VMeth.inst t.m.x t.m.D (mt_push b) rfl ⟨t.put b (by rw [List.length_append]; exact arb13 hrow hi hlen hs hol hdl) fun N₆ σ₆ h6 t => ?_⟩⟩
        refine bRange fun t₃ u₃ v₃ => ?_
        refine .items (iter_range (n := held.length) (by exact arb42 hrow hi hlen hs hol)) (TJ2 B S A A' row (old.drop (s + 1) ++ out ++ [w]) held i) [("row", .lst (row.map V.str)), ("beside", .ref A'.x), ("k", .int (i : Nat))] (.cons rfl (.cons rfl (.cons rfl (.nil _)))) ⟨rfl, by rw [List.take_zero, List.append_nil, List.drop_zero]; exact t⟩ (fun _ _ _ _ _ _ => trivial) ?_ ?_
        · rintro j l σ₇ N₇ hj ⟨rfl, t⟩ hN7
          have hd' : held.drop j = held[j] :: held.drop (j + 1) := List.drop_eq_getElem_cons hj
          have ht' : held.take (j + 1) = held.take j ++ [held[j]] := by rw [List.take_add_one, List.getElem?_eq_getElem hj]; rfl
          have hl1 : (held.drop (j + 1)).length < 64 := by rw [List.length_drop]; exact arb43 hrow hi hlen hs hol
          have hl2 : (held.take j).length ≤ held.length := by rw [List.length_take]; exact arb44 hol hj
          rw [hd'] at t
          generalize held[j] = x at *
          refine ⟨_, t.kp _ _ eS oL, VMeth.inst t.m.x t.m.D (mt_push b) rfl (VMeth.inst t.m'.x t.m'.D (mt_get b) rfl ⟨t.swap.get b (by exact ar444 hl1) fun N₈ σ₈ h8 t => ⟨t.swap.put b (by simp only [List.length_append, List.length_singleton]; exact arb45 hrow hi hlen hs hol hdl hl2) fun N₉ σ₉ h9 t => ?_⟩⟩)⟩
          exact ⟨_, .cons rfl (.cons rfl (.cons rfl (.nil _))), rfl, by rw [ht', ← List.append_assoc]; exact t⟩
        · rintro l σ₇ N₇ ⟨rfl, t⟩ hN7
          rw [List.take_length, List.drop_length] at t
          refine ⟨[("row", .lst (row.map V.str)), ("beside", .ref A'.x), ("k", .int (i : Nat)), ("waiting", .int 0)], .cons rfl (.cons rfl (.cons rfl (.cons rfl (.nil _)))), out ++ w :: held, [], ?_, rfl, ?_⟩
          · rw [hft]; unfold tStep; rw [if_pos hc]
          · rw [show old.drop (s + 1) ++ (out ++ w :: held) = old.drop (s + 1) ++ out ++ [w] ++ held by simp]; exact t
      · have hc : ¬ c w = true := by rw [← hcc]; intro z; exact absurd (hc.symm.trans z) (by decide)
        refine VMeth.inst t.m'.x t.m'.D (mt_push b) rfl ⟨t.swap.put b (by exact arb46 hrow hi hlen hs hol) fun N₆ σ₆ h6 t => ?_⟩
        refine ⟨[("row", .lst (row.map V.str)), ("beside", .ref A'.x), ("k", .int (i : Nat)), ("waiting", .int ((held.length : Nat) + 1))], .cons rfl (.cons rfl (.cons rfl (.cons rfl (.nil _)))), out, held ++ [w], ?_, ?_, t.swap⟩
        · rw [hft]; unfold tStep; rw [if_neg hc]
        · rw [List.length_append, List.length_singleton]; rfl
    · rintro l σ₁ N₄ ⟨out, held, hf, rfl, t⟩ hN'
      rw [List.take_of_length_le (by exact ar19 hlen)] at hf
      rw [List.drop_of_length_le (by exact ar19 hlen), List.nil_append] at t
      rw [hf] at hend
      have hend : held = [] := hend
      subst hend
      have hol : out.length = i := by
        have := tStep_len c old ([], [])
        rw [hf, hlen] at this
        simpa using this
      refine ⟨_, t.kp _ _ eS oL, VMeth.inst t.m.x t.m.D (mt_push b) rfl (iLst (by exact ar0) (by exact ar10 hrow hi) (get i hi) ⟨t.put b (by exact ar445 hrow hi hol) fun N₆ σ₆ h6 t => ?_⟩)⟩
      exact ⟨_, .cons rfl (.cons rfl (.nil _)), rfl, by rw [hnext, hf]; exact t⟩
  · rintro l σ' N' ⟨rfl, t⟩ hN
    have htl : (turned row).length = row.length := (turnN_len gtS (st []) row row.length).1
    have t : T2 B S A A' (turned row) [] σ' := t
    have eC := t.kp _ _ eS oL
    have kC : ∀ a o, σ a = some o → σ' a = some o := fun a o e => t.kp _ _ (oo a o e).1 (oo a o e).2
    refine .mk (iter_list (.lst _)) fun ac C ha hC => ⟨fun i o σ'' N'' => o = .list (((turned row).take i).map V.str) ∧ T2 B ((σ'.add ac).add C) A A' ((turned row).drop i) [] σ'', ?_, ?_, ?_, ?_⟩
    · exact ⟨rfl, ⟨t.m.get rfl, t.m'.get rfl, t.s, t.s', fun _ _ e _ => e, rfl⟩⟩
    · intro i o σ' N' _; exact .lst _
    · rintro i o σ₁ N₄ hi ⟨rfl, t⟩ hN4
      have hi : i < (turned row).length := by rw [htl]; simpa using hi
      have hd : (turned row).drop i = (turned row)[i] :: (turned row).drop (i + 1) := List.drop_eq_getElem_cons hi
      have ht' : (turned row).take (i + 1) = (turned row).take i ++ [(turned row)[i]] := by rw [List.take_add_one, List.getElem?_eq_getElem hi]; rfl
      rw [hd] at t
      have hi' : i < row.length := by exact ar39 htl hi
      have e : (row.map V.str).getD i .none = .str (row.getD i (st [])) := by rw [List.getD_eq_getElem?_getD, get i hi']; rfl
      rw [e]
      refine .pos rfl ⟨by simp; exact ar446 hrow htl hi, _, t.kp _ _ eC oL, VMeth.inst t.m.x t.m.D (mt_get b) rfl ⟨t.get b (by rw [List.length_drop]; exact ar447 hrow htl) fun N₅ σ₅ h5 t => ?_⟩⟩
      exact ⟨by rw [ht', List.map_append]; rfl, t⟩
    · rintro o σ₁ N₄ ⟨rfl, t⟩ hN4
      refine ⟨_, .list _, _, _, .refl, ?_⟩
      rw [List.length_map, List.take_of_length_le (by exact ar19 htl)]
      exact h N₄ _ (by exact ar448 hL hc1 h2 h3 hN hN4) (fun a o e => t.kp a o (kC a o e) (oo a o e).2) rfl
end
end
noncomputable section
/-! plain facts for the law: what is read -/
theorem count_nl (T : List Nat) : Txt.count (st T) "\n" = (T.count 10 : Nat) := by
  have e : ("\n" : Str) = ⟨#[10]⟩ := by kernel_rfl
  have s : ∀ l : List Nat, (l.map fun n => PyData.str ⟨#[n]⟩) = (l.map fun n => (⟨#[n]⟩ : Str)).map PyData.str := fun l => by rw [List.map_map]; rfl
  rw [e, PyProof.Rows.count_is, s, Mine.countIn_strs]
  show (((T.map fun n => (⟨#[n]⟩ : Str)).count ⟨#[10]⟩ : Nat) : Int) = _
  congr 1
  induction T with
  | nil => rfl
  | cons c T ih =>
    rw [List.map_cons, List.count_cons, List.count_cons, ih]
    have : ((⟨#[c]⟩ : Str) == ⟨#[10]⟩) = (c == 10) := by
      by_cases h : c = 10
      · subst h; simp
      · rw [beq_eq_false_iff_ne.mpr h, beq_eq_false_iff_ne.mpr fun z => h (by injection z with z; simpa using z)]
    rw [this]
/-- the words -/
noncomputable def wdN : List (List Nat) := [[34], [35, 32], [97], [97, 92], [98, 32, 99]]
noncomputable def wd (i : Nat) : List Nat := wdN.getD i []
structure Piece where
  w : List Nat
  q : Nat
  s : Nat
noncomputable def Piece.ok (p : Piece) : Prop := p.w ∈ wdN ∧ p.q < 2 ∧ (p.s = 32 ∨ p.s = 10)
noncomputable def Piece.t (p : Piece) : List Nat := wr p.w p.q ++ [p.s]
theorem Piece.lex {p : Piece} (h : p.ok) (r : List Nat) : ∃ f, lexO (p.t ++ r) = some (p.w, f) ∧ lexO f = lexO r := by
  obtain ⟨w, q, s⟩ := p
  obtain ⟨hw, hq, hs⟩ := h
  dsimp only [Piece.t] at *
  unfold wdN at hw
  simp only [List.mem_cons, List.not_mem_nil, or_false] at hw
  have hq : q = 0 ∨ q = 1 := by exact ar132 hq
  rcases hq with rfl | rfl
  · rcases hs with rfl | rfl <;> rcases hw with rfl | rfl | rfl | rfl | rfl <;> exact ⟨r, by kernel_rfl, rfl⟩
  · refine ⟨s :: r, ?_, ?_⟩
    · rcases hs with rfl | rfl <;> rcases hw with rfl | rfl | rfl | rfl | rfl <;> kernel_rfl
    · rcases hs with rfl | rfl <;> kernel_rfl
theorem Piece.lt {p : Piece} (h : p.ok) : p.t.length ≤ 20 ∧ ∀ c ∈ p.t, c < 128 := by
  obtain ⟨w, q, s⟩ := p
  obtain ⟨hw, hq, hs⟩ := h
  dsimp only [Piece.t] at *
  unfold wdN at hw
  simp only [List.mem_cons, List.not_mem_nil, or_false] at hw
  have hq : q = 0 ∨ q = 1 := by exact ar132 hq
  rcases hs with rfl | rfl <;> rcases hq with rfl | rfl <;> rcases hw with rfl | rfl | rfl | rfl | rfl <;> decide
/-! what is sorted -/
theorem le_anti_str {x y : Str} (h : le (.str x) (.str y)) (k : le (.str y) (.str x)) : x = y := by
  have e : kl (.str x) = kl (.str y) := LL.total _ _ (decide_eq_false k) (decide_eq_false h)
  injection (show [x.cps.toList] = [y.cps.toList] from e) with e _
  obtain ⟨x⟩ := x; obtain ⟨y⟩ := y
  exact congrArg _ (Array.toList_inj.mp e)
theorem sorted_eq {xs xs' zs zs' : List V} (p : xs.Perm xs') (anti : ∀ x ∈ xs, ∀ y ∈ xs, le x y → le y x → x = y) (h : IsSorted xs zs) (h' : IsSorted xs' zs') : zs = zs' :=
  List.Perm.eq_of_pairwise (le := le) (fun a b ha hb => anti a (h.1.mem_iff.mp ha) b ((h'.1.trans p.symm).mem_iff.mp hb)) h.2 h'.2 (h.1.trans (p.trans h'.1.symm))
theorem anti_strs {ss : List Str} : ∀ x ∈ ss.map V.str, ∀ y ∈ ss.map V.str, le x y → le y x → x = y := fun x hx y hy h k => by
  obtain ⟨a, _, rfl⟩ := List.mem_map.mp hx
  obtain ⟨b, _, rfl⟩ := List.mem_map.mp hy
  rw [le_anti_str h k]
noncomputable def lsts (rows : List (List Str)) : List V := rows.map fun r => V.lst (r.map V.str)
theorem anti_lsts {rows : List (List Str)} : ∀ x ∈ lsts rows, ∀ y ∈ lsts rows, le x y → le y x → x = y := fun x hx y hy h k => by
  obtain ⟨a, _, rfl⟩ := List.mem_map.mp hx
  obtain ⟨b, _, rfl⟩ := List.mem_map.mp hy
  have e : kl (.lst (a.map V.str)) = kl (.lst (b.map V.str)) := LL.total _ _ (decide_eq_false k) (decide_eq_false h)
  have e : (a.map V.str).map kv = (b.map V.str).map kv := e
  rw [List.map_map, List.map_map] at e
  have : a = b := List.map_inj_right (f := kv ∘ V.str) (fun x y h => by obtain ⟨x⟩ := x; obtain ⟨y⟩ := y; exact congrArg _ (Array.toList_inj.mp h)) |>.mp e
  rw [this]
theorem PEqL_strs (n : Nat) : ∀ ss : List Str, PEqL n (ss.map V.str) (ss.map V.str)
  | [] => .nil n
  | s :: r => .cons (.str n s) (PEqL_strs n r)
theorem PEqL_lsts (n : Nat) : ∀ rows : List (List Str), PEqL (n + 1) (lsts rows) (lsts rows)
  | [] => .nil _
  | s :: r => .cons (.lst (PEqL_strs n s)) (PEqL_lsts n r)
theorem perm_map_exists {α : Type} {f : α → V} {zs : List V} {l : List α} (p : zs.Perm (l.map f)) : ∃ l' : List α, l'.Perm l ∧ zs = l'.map f := perm_map_inv p l rfl
end
noncomputable section
/-! the law's walk -/
structure Drawn (dr : List (List Nat)) : Prop where
  len : dr.length = 7
  all : ∀ w ∈ dr, w ∈ wdN
  four : ∀ w ∈ dr.take 4, w ∈ wdN.take 3
noncomputable def tab7 : List (Kx × Int) := [(.i 0, 1), (.i 1, 3), (.i 2, 5), (.i 3, 6), (.i 4, 5), (.i 5, 3), (.i 6, 1)]
structure Law7 (D : List Str) : Prop where
  perm : (turned D).Perm D
  last : (turned D).getD 6 (st []) = D.getD 6 (st [])
  pairs : ((inv (placesOf (turned D)) (placesOf (turned D)).length : Nat) : Int) = majOf D
  falls : fallsI (placesOf (turned D)) = fallsI (placesOf D)
structure Law4 (R : List Str) : Prop where
  n1 : 1 ≤ (ords 4 R).length
  n2 : (ords 4 R).length ≤ 24
  perm : ((ords 4 R).map turned).Perm (ords 4 R)
  len : (bookOf ((ords 4 R).map turned)).length = (dueOf (ords 4 R)).length
  book : VEqD 10 (vm S5.v (dueOf (ords 4 R))) (vm S5.v (bookOf ((ords 4 R).map turned)))
  ok : BookOk (bookOf ((ords 4 R).map turned))
  tlen : (filled (bookOf ((ords 4 R).map turned)) R 4).length = tab7.length
  tab : VEqD 10 (vm V.int tab7) (vm V.int (filled (bookOf ((ords 4 R).map turned)) R 4))
  sum : ((filled (bookOf ((ords 4 R).map turned)) R 4).map (·.2)).sum = 24
noncomputable def C4 (σ : Store) (L : Nat) (a b c e : Option V) : Store := pt (pt (pt (pt (σ.add L) (L + 1) (.cell a)) (L + 2) (.cell b)) (L + 3) (.cell c)) (L + 4) (.cell e)
section
variable {B : Cx} {d : Nat} {σ : Store} {N L : Nat} {a b c e x : Option V}
theorem C4.g1 : C4 σ L a b c e (L + 1) = some (.cell a) := (pt_ne (by exact ar449)).trans ((pt_ne (by exact ar450)).trans ((pt_ne (by exact ar7)).trans (pt_same _ _ _)))
theorem C4.g2 : C4 σ L a b c e (L + 2) = some (.cell b) := (pt_ne (by exact ar451)).trans ((pt_ne (by exact ar452)).trans (pt_same _ _ _))
theorem C4.g3 : C4 σ L a b c e (L + 3) = some (.cell c) := (pt_ne (by exact ar453)).trans (pt_same _ _ _)
theorem C4.g4 : C4 σ L a b c e (L + 4) = some (.cell e) := pt_same _ _ _
theorem C4.lo {i : Nat} {o : AObj} (hi : i < L) (h : σ i = some o) : C4 σ L a b c e i = some o := (pt_ne (by exact ar454 hi)).trans ((pt_ne (by exact ar455 hi)).trans ((pt_ne (by exact ar456 hi)).trans ((pt_ne (by exact ar457 hi)).trans h)))
theorem C4.s3 : pt (C4 σ L a b c e) (L + 3) (.cell x) = C4 σ L a b x e := by unfold C4; rw [pt_comm (a := L + 4) (b := L + 3) (by exact ar458), pt_pt]
theorem C4.s2 : pt (C4 σ L a b c e) (L + 2) (.cell x) = C4 σ L a x c e := by unfold C4; rw [pt_comm (a := L + 4) (b := L + 2) (by exact ar459), pt_comm (a := L + 3) (b := L + 2) (by exact ar460), pt_pt]
theorem C4.s1 : pt (C4 σ L a b c e) (L + 1) (.cell x) = C4 σ L x b c e := by unfold C4; rw [pt_comm (a := L + 4) (b := L + 1) (by exact ar461), pt_comm (a := L + 3) (b := L + 1) (by exact ar462), pt_comm (a := L + 2) (b := L + 1) (by exact ar94), pt_pt]
theorem C4.s4 : pt (C4 σ L a b c e) (L + 4) (.cell x) = C4 σ L a b c x := pt_pt _ _ _ _
end
theorem nilThen {B : Cx} {d m : Nat} {env : Env} {rest : List Stmt} {l : Loc} {σ : Store} {N : Nat} {Q : PostS} (h : (vRun B tb d (m + 1)).S env rest l σ N Q) : (vRun B tb d (m + 1)).S env [] l σ N (vThen (vRun B tb d (m + 1)) env rest Q) := h
theorem inL {l : Loc} {x : Str} {v : V} {K : V → Prop} (h : l.lookup x = some v) (q : K v) : vO (l.lookup x) K := by rw [h]; exact q
section
variable {B : Cx} {d : Nat} {S : Store} {N L : Nat} {φ : Nat → Prop} {l : Loc} {D : List Str} {Q : Post V}
theorem law_d (b : Base B) (lO : l.lookup ("orders" : Str) = some (rv (ords 4 (D.take 4)))) (lI : l.lookup ("images" : Str) = some (.lst (lsts ((ords 4 (D.take 4)).map turned)))) (c3 : S (L + 3) = some (.cell (some (.lst (D.map V.str))))) (hD : D.length = 7) (h4 : Law4 (D.take 4)) (h : ∀ N', Q (.bool true) (S.reset φ) N') :
    (vRun B tb (d + 9) 186).S (callEnvC fd181 L 181) ((stmtsOf (at_ bodyP 25)).drop 14) l S N (Back φ Q) := by
  have hR : (D.take 4).length = 4 := by rw [List.length_take, hD]; rfl
  have hO4 : ∀ r ∈ ords 4 (D.take 4), r.length = 4 := ords_mem 4 (D.take 4)
  have hDz : (D.map V.str).length ≤ sizeLine := by rw [List.length_map, hD]; decide
  obtain ⟨o1, o2, operm, olen, obook, ook, otl, otab, osum⟩ := h4
  generalize ords 4 (D.take 4) = O at *
  have hI4 : ∀ r ∈ O.map turned, r.length = 4 := fun r hr => by
    obtain ⟨q, hq, rfl⟩ := List.mem_map.mp hr
    exact (turnN_len gtS (st []) q q.length).1.trans (hO4 q hq)
  have o64 : O.length < 64 := Nat.lt_of_le_of_lt o2 (by decide)
  have ml : ∀ {α β : Type} (f : α → β) (X : List α), 1 ≤ X.length → X.length < 64 → 1 ≤ (X.map f).length ∧ (X.map f).length < 64 := fun f X h1 h2 => by rw [List.length_map]; exact ⟨h1, h2⟩
  have i1 := ml turned O o1 o64
  have hl : ∀ X : List (List Str), (X.map fun r => r.map V.str).map V.lst = lsts X := fun X => by unfold lsts; rw [List.map_map]; rfl
  have lexS : ∀ a b : List Str, a.length = b.length → LexOk (a.map V.str) (b.map V.str) := by
    intro a
    induction a with
    | nil => intro b hb; cases b with | nil => exact .nil | cons => cases hb
    | cons x a ih => intro b hb; cases b with | nil => cases hb | cons y b => exact .cons (.str _ _) (ih b (by simpa using hb))
  have lexR : ∀ X : List (List Str), (∀ r ∈ X, r.length = 4) → ∀ x ∈ (X.map fun r => r.map V.str), ∀ y ∈ (X.map fun r => r.map V.str), LexOk x y := fun X h x hx y hy => by
    obtain ⟨a, ha, rfl⟩ := List.mem_map.mp hx
    obtain ⟨c, hc, rfl⟩ := List.mem_map.mp hy
    exact lexS _ _ ((h a ha).trans (h c hc).symm)
  have nnR : ∀ X : List (List Str), ∀ x ∈ (X.map fun r => r.map V.str), ∀ y ∈ x, NonNeg y := fun X x hx y hy => by
    obtain ⟨a, ha, rfl⟩ := List.mem_map.mp hx
    obtain ⟨c, hc, rfl⟩ := List.mem_map.mp hy
    trivial
  refine .plain (inL lI (bSortL (rows := (O.map turned).map fun r => r.map V.str) (by rw [hl]; exact .lst _) (lexR _ hI4) (nnR _) (ml _ _ i1.1 i1.2).1 (ml _ _ i1.1 i1.2).2 fun zs hz => inL lO (bSortL (rows := O.map fun r => r.map V.str) (by rw [hl]; exact .lst _) (lexR _ hO4) (nnR _) (ml _ _ o1 o64).1 (ml _ _ o1 o64).2 fun zs' hz' => ?_)))
  rw [hl] at hz hz'
  have hzz : zs = zs' := sorted_eq (operm.map _) anti_lsts hz hz'
  subst hzz
  obtain ⟨ss, _, hss⟩ := perm_map_exists hz.1
  rw [hss]
  refine nNeL (n := 2) (.lst _) (.lst _) (PEqL_lsts 1 ss) (by decide) (.neg rfl ?_)
  clear hz hz' hss lexR nnR lexS hl
  refine inL lI ⟨booked_ok b (rows := O.map turned) hI4 (Nat.le_trans (Nat.le_of_lt i1.2) (by decide)) fun N₈ h8 => ?_⟩
  refine .plain (inL lO ⟨due_ok b (rows := O) hO4 (Nat.le_trans (Nat.le_of_lt o64) (by decide)) fun N₉ h9 => nNeD (by rw [vm_len, vm_len]; exact olen) obook (by decide) (.neg rfl ?_)⟩)
  refine ⟨_, c3, sList (.lst _) (by decide) hDz ?_⟩
  rw [show lpick (D.map V.str) none (some 4) none = (D.take 4).map V.str by rw [List.map_take]; exact lpick_to _ 4]
  refine ⟨fill_ok b ook (Nat.le_of_eq hR) fun N₁₀ h10 => ?_⟩
  rw [hR]
  generalize filled (bookOf (O.map turned)) (D.take 4) 4 = F at *
  refine fun ad had => ⟨[(.i 0, .int 1), (.i 1, .int 3), (.i 2, .int 5), (.i 3, .int 6), (.i 4, .int 5), (.i 5, .int 3), (.i 6, .int 1)], rfl, .froz (nEqD (by rw [vm_len]; exact otl) otab (by decide) (.pos rfl ⟨count_ok' b fun N₁₁ h11 => ?_⟩))⟩
  rw [osum]
  exact ⟨_, _, .refl, h _⟩

theorem law_c (b : Base B) (c3 : S (L + 3) = some (.cell (some (.lst (D.map V.str))))) (hD : D.length = 7) (h4 : Law4 (D.take 4)) (ht : TabOld B S) (h : ∀ N' σ', TabOld B σ' → Q (.bool true) σ' N') :
    (vRun B tb (d + 9) 188).S (callEnvC fd181 L 181) ((stmtsOf (at_ bodyP 25)).drop 12) l S N (Back φ Q) := by
  refine ⟨_, c3, sList (.lst _) (by decide) (by rw [List.length_map, hD]; decide) ?_⟩
  rw [show lpick (D.map V.str) none (some 4) none = (D.take 4).map V.str by rw [List.map_take]; exact lpick_to _ 4]
  refine ⟨orders_ok b 4 (D.take 4) (by rw [List.length_take, hD]; rfl) (by decide) (d := d + 4) fun N₁₃ h13 => ?_⟩
  have hO4 : ∀ r ∈ ords 4 (D.take 4), r.length = 4 := ords_mem 4 (D.take 4)
  have o2 := h4.n2
  generalize hO : ords 4 (D.take 4) = O at *
  refine .mk (iter_list (xs := lsts O) (.lst _)) fun ac C ha hC => ⟨fun i o σ' _ => o = .list ((lsts (O.map turned)).take i) ∧ TabOld B σ' ∧ ∀ j v, S j = some (.cell v) → σ' j = some (.cell v), ⟨rfl, ht, fun _ _ e => e⟩, fun _ _ _ _ _ => .lst _, ?_, ?_⟩
  · rintro i o σ' N' hi ⟨rfl, ht, kc⟩ hN'
    have hi : i < O.length := by unfold lsts at hi; simpa using hi
    have e : (lsts O).getD i .none = .lst (O[i].map V.str) := by unfold lsts; rw [List.getD_eq_getElem?_getD, List.getElem?_map, List.getElem?_eq_getElem hi]; rfl
    have e2 : (lsts (O.map turned)).take (i + 1) = (lsts (O.map turned)).take i ++ [.lst ((turned O[i]).map V.str)] := by
      unfold lsts
      rw [List.take_add_one, List.getElem?_map, List.getElem?_map, List.getElem?_eq_getElem hi]; rfl
    have hl := hO4 _ (List.getElem_mem hi)
    rw [e]
    generalize O[i] = r at *
    refine .pos rfl ⟨?_, ⟨turned_ok b (row := r) (by rw [hl]; decide) ht fun N'' σ'' h'' k'' _ => ⟨by rw [e2], ht.keep fun a o e => k'' _ _ e, fun j v e => k'' _ _ (kc j v e)⟩⟩⟩
    exact Nat.lt_of_le_of_lt (by unfold lsts; rw [List.length_take, List.length_map, List.length_map]; exact Nat.min_le_right _ _) (Nat.lt_of_le_of_lt o2 (by decide))
  · rintro o σ' N' ⟨rfl, ht, kc⟩ hN'
    refine ⟨_, .list _, ?_⟩
    rw [List.take_of_length_le (by simp [lsts])]
    have c3 : σ'.reset S.fr (L + 3) = _ := kc _ _ c3
    have ht : TabOld B (σ'.reset S.fr) := ht
    refine law_d b (D := D) ?_ ?_ c3 hD h4 fun N' => h N' _ ht
    · rw [hO]; rfl
    · rw [hO]; rfl
theorem law_b (b : Base B) (lr : l.lookup ("row" : Str) = some (.lst (D.map V.str))) (c3 : S (L + 3) = some (.cell (some (.lst (D.map V.str))))) (hD : D.length = 7) (h7 : Law7 D) (h4 : Law4 (D.take 4)) (ht : TabOld B S) (h : ∀ N' σ', TabOld B σ' → Q (.bool true) σ' N') :
    (vRun B tb (d + 9) 193).S (callEnvC fd181 L 181) ((stmtsOf (at_ bodyP 25)).drop 7) l S N (Back φ Q) := by
  have htd : (turned D).length = 7 := h7.perm.length_eq.trans hD
  have d1 : 1 ≤ D.length := by rw [hD]; decide
  have d64 : D.length < 64 := by rw [hD]; decide
  have d6 : 6 < D.length := by rw [hD]; decide
  have t1 : 1 ≤ (turned D).length := by rw [htd]; decide
  have t64 : (turned D).length < 64 := by rw [htd]; decide
  have t6 : 6 < (turned D).length := by rw [htd]; decide
  have k3 : ∀ {n : Nat}, n < 64 → n < 1000 := fun h => Nat.lt_trans h (by decide)
  refine inL lr ⟨turned_ok b (row := D) d64 ht fun N₆ S₆ h6 k6 fr6 => ?_⟩
  have c3 := k6 _ _ c3
  have ht : TabOld B S₆ := ht.keep fun a o e => k6 _ _ e
  -- sorted(turned), turned[6]
  have gS : ∀ {xs : List Str} {i : Nat}, i < xs.length → (xs.map V.str)[i]? = some (.str (xs.getD i (st []))) := fun hi => look_at _ hi
  refine .plain (bSortS (ss := turned D) (.lst _) t1 t64 fun zs hz => ⟨_, c3, bSortS (ss := D) (.lst _) d1 d64 fun zs' hz' => ?_⟩)
  have hzz : zs = zs' := sorted_eq (h7.perm.map V.str) anti_strs hz hz'
  subst hzz
  obtain ⟨ss, _, hss⟩ := perm_map_exists hz.1
  rw [hss]
  refine nNeL (n := 1) (.lst _) (.lst _) (PEqL_strs 1 ss) (by decide) (.neg rfl ?_)
  refine iLst (by decide) (by decide) (gS (i := 6) t6) ⟨_, c3, iLst (by decide) (by decide) (gS (i := 6) d6) ?_⟩
  refine .neg (by rw [h7.last]; simp) ?_
  clear hz hz' hss
  -- the places
  refine ⟨taken_ok b (xs := turned D) t64 fun N₇ ps₇ h7' ho => ?_⟩
  rw [ho.is]
  clear ho ps₇
  have p1 : 1 ≤ (placesOf (turned D)).length := by rw [places_len]; exact t1
  have p64 : (placesOf (turned D)).length < 1000 := by rw [places_len]; exact k3 t64
  have q1 : 1 ≤ (placesOf D).length := by rw [places_len]; exact d1
  have q64 : (placesOf D).length < 1000 := by rw [places_len]; exact k3 d64
  refine .plain ⟨pairs_ok b p64 fun N₈ h8 => ⟨_, c3, ⟨falls_ok b (f := V.str) (gt := gtS) (st []) (fun x y σ N Q other q => q) d1 (k3 d64) fun N₉ h9 => bSum (ns := (fallsS D).map fun (k : Nat) => (k : Int)) (by rw [List.map_map]; exact .lst _) (.neg ?_ ?_)⟩⟩⟩
  · have := h7.pairs
    show (!decide (((inv (placesOf (turned D)) (placesOf (turned D)).length : Nat) : Int) = majOf D)) = false
    rw [this]; simp
  refine .plain ⟨falls_ok b (f := V.int) (gt := gtI) 0 (fun x y σ N Q other q => q) p1 p64 fun N₁₀ h10 => ⟨_, c3, ⟨placed_ok b (xs := D) d1 d64 fun N₁₁ ps h11 ho => ?_⟩⟩⟩
  rw [ho.is]
  clear ho ps
  refine ⟨falls_ok b (f := V.int) (gt := gtI) 0 (fun x y σ N Q other q => q) q1 q64 fun N₁₂ h12 => ?_⟩
  have hfl : fallsI (placesOf (turned D)) = fallsI (placesOf D) := h7.falls
  unfold fallsI at hfl
  rw [hfl]
  refine nNeL (n := 1) (.lst _) (.lst _) ?_ (by decide) (.neg rfl ?_)
  · generalize falls gtI 0 (placesOf D) ((placesOf D).length - 1) = fs
    induction fs with
    | nil => exact .nil _
    | cons a fs ih => exact .cons (.int _ _) ih
  exact nilThen (m := 187) (law_c b c3 hD h4 ht h)
end
theorem mod_lt {m : Int} {k n : Nat} (h0 : 0 ≤ m) (h : m < k) (hk : k ≤ n) : m.toNat < n := by exact ar463 h0 h hk
theorem drawn_ex {ms : List Int} (hm : ms.length = 7) : ∃ dr : List (List Nat), Drawn dr ∧ dr.length = 7 ∧ ((ms.take 4).map fun m => V.str (st (wd (m.fmod 3).toNat))) ++ ((ms.drop 4).map fun m => V.str (st (wd (m.fmod 5).toNat))) = dr.map fun w => V.str (st w) := by
  refine ⟨(ms.take 4).map (fun m => wd (m.fmod 3).toNat) ++ (ms.drop 4).map (fun m => wd (m.fmod 5).toNat), ⟨?_, ?_, ?_⟩, ?_, ?_⟩
  · simp [hm]
  · have w5 : ∀ i, i < 5 → wd i ∈ wdN := by decide
    intro w hw
    rcases List.mem_append.mp hw with hw | hw <;> obtain ⟨m, _, rfl⟩ := List.mem_map.mp hw
    · have m1 := Int.fmod_nonneg_of_pos m (b := 3) (by decide)
      have m2 := Int.fmod_lt_of_pos m (b := 3) (by decide)
      exact w5 _ (by lia)
    · have m1 := Int.fmod_nonneg_of_pos m (b := 5) (by decide)
      have m2 := Int.fmod_lt_of_pos m (b := 5) (by decide)
      exact w5 _ (by lia)
  · have w3 : ∀ i, i < 3 → wd i ∈ wdN.take 3 := by decide
    intro w hw
    rw [List.take_append_of_le_length (by simp [hm]), List.take_of_length_le (by simp; exact ar464 hm)] at hw
    obtain ⟨m, _, rfl⟩ := List.mem_map.mp hw
    have m1 := Int.fmod_nonneg_of_pos m (b := 3) (by decide)
    have m2 := Int.fmod_lt_of_pos m (b := 3) (by decide)
    exact w3 _ (by lia)
  · simp [hm]
  · rw [List.map_append, List.map_map, List.map_map]; rfl
theorem pieces_ex {dr : List (List Nat)} (hdr : Drawn dr) (hd : dr.length = 7) (ms : List Int) : ∃ P : Nat → Piece, (∀ k, P k = ⟨dr.getD k [], (((ms.getD k 0).fdiv 15).fmod 2).toNat, if ((ms.getD k 0).fdiv 30).fmod 2 = 0 then 32 else 10⟩) ∧ ∀ k, k < 7 → (P k).ok := by
  refine ⟨_, fun k => rfl, fun k hk => ⟨?_, ?_, ?_⟩⟩
  · refine hdr.all _ ?_
    show dr.getD k [] ∈ dr
    rw [List.getD_eq_getElem?_getD, List.getElem?_eq_getElem (by exact ar466 hd hk)]; exact List.getElem_mem _
  · have m1 := Int.fmod_nonneg_of_pos ((ms.getD k 0).fdiv 15) (b := 2) (by decide)
    have m2 := Int.fmod_lt_of_pos ((ms.getD k 0).fdiv 15) (b := 2) (by decide)
    show (((ms.getD k 0).fdiv 15).fmod 2).toNat < 2
    lia
  · show (if ((ms.getD k 0).fdiv 30).fmod 2 = 0 then 32 else 10) = 32 ∨ _
    split
    · exact .inl rfl
    · exact .inr rfl
/-- the text's tails -/
structure Tails (dr : List (List Nat)) (tl : Nat → List Nat) : Prop where
  nil : tl 7 = []
  len : (tl 0).length ≤ 140
  lt : ∀ c ∈ tl 0, c < 128
  lex : ∀ k, k < 7 → ∃ f, lexO (tl k) = some (dr.getD k [], f) ∧ lexO f = lexO (tl (k + 1))
theorem tails_ex {dr : List (List Nat)} {P : Nat → Piece} (hPd : ∀ k, (P k).w = dr.getD k []) (hPw : ∀ k, k < 7 → (P k).ok) : ∃ tl, tl 0 = ((List.range 7).map fun k => (P k).t).flatten ∧ Tails dr tl := by
  have pl : ∀ k, k < 7 → (P k).t.length ≤ 20 := fun k hk => (Piece.lt (hPw k hk)).1
  refine ⟨fun i => (((List.range 7).drop i).map fun k => (P k).t).flatten, rfl, rfl, ?_, fun c hc => ?_, fun k hk => ?_⟩
  · show (((List.range 7).map fun k => (P k).t).flatten).length ≤ 140
    rw [List.length_flatten, List.map_map]
    have := pl 0 (by decide); have := pl 1 (by decide); have := pl 2 (by decide); have := pl 3 (by decide); have := pl 4 (by decide); have := pl 5 (by decide); have := pl 6 (by decide)
    show (P 0).t.length + ((P 1).t.length + ((P 2).t.length + ((P 3).t.length + ((P 4).t.length + ((P 5).t.length + ((P 6).t.length + 0)))))) ≤ _
    lia
  · obtain ⟨l, hl, hc⟩ := List.mem_flatten.mp hc
    obtain ⟨k, hk, rfl⟩ := List.mem_map.mp hl
    exact (Piece.lt (hPw k (List.mem_range.mp hk))).2 c hc
  · have : (((List.range 7).drop k).map fun k => (P k).t).flatten = (P k).t ++ (((List.range 7).drop (k + 1)).map fun k => (P k).t).flatten := by
      rcases (show k = 0 ∨ k = 1 ∨ k = 2 ∨ k = 3 ∨ k = 4 ∨ k = 5 ∨ k = 6 by exact ar468 hk) with rfl | rfl | rfl | rfl | rfl | rfl | rfl <;> rfl
    rw [this, ← hPd]
    exact Piece.lex (hPw k hk) _
theorem getS {xs : List (List Nat)} {i : Nat} (hi : i < xs.length) : (xs.map fun w => V.str (st w))[i]? = some (.str (st (xs.getD i []))) := by rw [List.getElem?_map, List.getElem?_eq_getElem hi, List.getD_eq_getElem?_getD, List.getElem?_eq_getElem hi]; rfl
section
variable {B : Cx} {d : Nat} {N L : Nat} {S₀ : Store} {φ : Nat → Prop} {l : Loc} {dr : List (List Nat)} {tl : Nat → List Nat} {Q : Post V}
theorem law_r (b : Base B) (f7 : ∀ dr, Drawn dr → Law7 (dr.map st)) (f4 : ∀ dr, Drawn dr → Law4 ((dr.map st).take 4)) (hdr : Drawn dr) (lt : l.lookup ("text" : Str) = some (.str (st (tl 0)))) (T : Tails dr tl) (n114 : L + 4 ≠ 114) (n3 : L + 3 ≠ 114) (h114 : S₀ 114 = some (.obj (tabObj #[])))
    (g3 : S₀ (L + 3) = some (.cell (some (.lst (dr.map fun w => V.str (st w)))))) (g4 : S₀ (L + 4) = some (.cell none)) (h : ∀ N' σ', TabOld B σ' → Q (.bool true) σ' N') :
    (vRun B tb (d + 9) 196).S (callEnvC fd181 L 181) ((stmtsOf (at_ bodyP 25)).drop 4) l S₀ N (Back φ Q) := by
  have hd := hdr.len
  obtain ⟨tl7, hTl, hTc, lex⟩ := T
  have t10 : (tl 0).length ≤ 10000 := Nat.le_trans hTl (by decide)
  refine inL lt ⟨machine_ok b (text := tl 0) t10 (.inl h114) fun A N₃ σ₃ h3 bd m ht k hn fr => ⟨⟨_, k _ _ g4 (.inl n114)⟩, ?_⟩⟩
  have m := m.pt0 (o := .cell (some (.ref A.x))) (k _ _ g4 (.inl n114))
  have ht : TabOld B (pt σ₃ (L + 4) (.cell (some (.ref A.x)))) := ht.keep fun a o e => (pt_ne (ne_of_kind e (k _ _ g4 (.inl n114)) (fun h => nomatch h))).trans e
  have c3 : pt σ₃ (L + 4) (.cell (some (.ref A.x))) (L + 3) = some (.cell (some (.lst (dr.map fun w => V.str (st w))))) := (pt_ne (by simp)).trans (k _ _ g3 (.inl n3))
  have c4 : pt σ₃ (L + 4) (.cell (some (.ref A.x))) (L + 4) = some (.cell (some (.ref A.x))) := pt_same _ _ _
  clear k hn
  generalize pt σ₃ (L + 4) (.cell (some (.ref A.x))) = S at *
  -- the row
  refine bRange fun t u v => .mk (iter_range (n := 7) (by decide)) fun ac C ha hC => ⟨fun i o σ' _ => o = .list ((dr.take i).map fun w => V.str (st w)) ∧ ∃ pre rest, Mach B σ' A pre rest [] ∧ pre ++ rest = tl 0 ∧ lexO rest = lexO (tl i) ∧ Kp A ((S.add ac).add C) σ', ⟨rfl, [], tl 0, m.get rfl, rfl, rfl, .refl _ _⟩, fun _ _ _ _ _ => trivial, ?_, ?_⟩
  · rintro i o σ' N' hi ⟨rfl, pre, rest, m', hT, hl, kp⟩ hN'
    obtain ⟨f, hl1, hl2⟩ := lex i hi
    have cell := kp.kp (L + 4) _ c4 (ne_of_kind c4 m.D (fun h => nomatch h)) (ne_of_kind c4 m.p (fun h => nomatch h)) (ne_of_kind c4 m.la (fun h => nomatch h))
    refine .pos rfl ⟨by rw [List.length_map, List.length_take, hd]; exact Nat.lt_of_le_of_lt (Nat.min_le_right _ _) (by decide), _, cell, VMeth.inst m'.x m'.D (mt_get b) rfl ⟨get_read_ok b m' (hl.trans hl1) (fun c hc => hTc c (by rw [← hT]; exact List.mem_append_right _ hc)) fun N'' σ'' pre' hN'' hpre m'' kp' => ?_⟩⟩
    refine ⟨?_, pre', f, m'', hpre.trans hT, hl2, kp.trans kp'⟩
    rw [List.take_add_one, List.getElem?_eq_getElem (by rw [hd]; exact hi), List.map_append, List.getD_eq_getElem?_getD, List.getElem?_eq_getElem (by rw [hd]; exact hi)]
    rfl
  · rintro o σ' N' ⟨rfl, pre, rest, m', hT, hl, kp⟩ hN'
    refine ⟨_, .list _, ?_⟩
    rw [List.take_of_length_le (Nat.le_of_eq hd)]
    have m₄ : Mach B (σ'.reset S.fr) A pre rest [] := m'.get rfl
    have kp : ∀ a o, S a = some o → a ≠ A.D → a ≠ A.p → a ≠ A.la → σ'.reset S.fr a = some o := kp.kp
    generalize σ'.reset S.fr = S' at *
    have cS : ∀ {i v}, S i = some (.cell v) → S' i = some (.cell v) := fun e => kp _ _ e (ne_of_kind e m.D (fun h => nomatch h)) (ne_of_kind e m.p (fun h => nomatch h)) (ne_of_kind e m.la (fun h => nomatch h))
    have c3 := cS c3
    have c4 := cS c4
    have ht : TabOld B S' := ht.keep fun a o e => kp _ _ e (ne_of_kind e m.D (fun h => nomatch h)) (ne_of_kind e m.p (fun h => nomatch h)) (ne_of_kind e m.la (fun h => nomatch h))
    have hmap : (dr.map fun w => V.str (st w)) = (dr.map st).map V.str := by rw [List.map_map]; rfl
    rw [hmap] at c3 ⊢
    refine .plain ⟨_, c3, nNeL (n := 1) (.lst _) (.lst _) (PEqL_strs 1 (dr.map st)) (by decide) (.neg rfl ?_)⟩
    refine ⟨_, c4, VMeth.inst m₄.x m₄.D (mt_get b) rfl ⟨get_read_ok b m₄ (tok := []) (restF := []) (hl.trans (by rw [tl7]; rfl)) (fun c hc => hTc c (by rw [← hT]; exact List.mem_append_right _ hc)) fun N₅ S₅ pre' h5 hpre m₅ kp₅ => .neg (by rw [s0]; simp) ?_⟩⟩
    have c5 : ∀ {i v}, S' i = some (.cell v) → S₅ i = some (.cell v) := fun e => kp₅.kp _ _ e (ne_of_kind e m₄.D (fun h => nomatch h)) (ne_of_kind e m₄.p (fun h => nomatch h)) (ne_of_kind e m₄.la (fun h => nomatch h))
    have c3 := c5 c3
    have c4 := c5 c4
    have ht : TabOld B S₅ := ht.keep fun a o e => kp₅.kp _ _ e (ne_of_kind e m₄.D (fun h => nomatch h)) (ne_of_kind e m₄.p (fun h => nomatch h)) (ne_of_kind e m₄.la (fun h => nomatch h))
    refine ⟨_, c4, aGet m₅.x m₅.D (at_ln b) rfl rfl (inL lt (VMeth.builtin (.str _) rfl (bCountS (.neg ?_ ?_))))⟩
    · have : pre' = tl 0 := by rw [← hT, ← hpre, List.append_nil]
      subst this
      rw [count_nl]
      show (!decide (lines (tl 0) = lines (tl 0))) = false
      simp
    have hD : (dr.map st).length = 7 := by rw [List.length_map, hd]
    have h7 := f7 dr hdr
    have h4 := f4 dr hdr
    generalize hDs : dr.map st = D at *
    clear m₅ m₄ m m' kp₅ hmap kp c5 cS hpre hl hT lex
    exact nilThen (m := 192) (law_b b (D := D) rfl c3 hD h7 h4 ht h)
theorem law_t (b : Base B) (f7 : ∀ dr, Drawn dr → Law7 (dr.map st)) (f4 : ∀ dr, Drawn dr → Law4 ((dr.map st).take 4)) {ms : List Int} (hm : ms.length = 7) (hdr : Drawn dr) (n114 : L + 4 ≠ 114) (n3 : L + 3 ≠ 114) (h114 : S₀ 114 = some (.obj (tabObj #[])))
    (g1 : S₀ (L + 1) = some (.cell (some (.lst (ms.map V.int))))) (g3 : S₀ (L + 3) = some (.cell (some (.lst (dr.map fun w => V.str (st w)))))) (g4 : S₀ (L + 4) = some (.cell none)) (h : ∀ N' σ', TabOld B σ' → Q (.bool true) σ' N') :
    (vRun B tb (d + 9) 197).S (callEnvC fd181 L 181) ((stmtsOf (at_ bodyP 25)).drop 3) l S₀ N (Back φ Q) := by
  have hd := hdr.len
  obtain ⟨P, hP, hPw⟩ := pieces_ex hdr hd ms
  refine VMeth.builtin (.str _) rfl (bRange fun t u v => VComp.list (iter_range (n := 7) (by decide)) (fun _ _ => trivial) (fun i => ((List.range i).map fun k => (P k).t).map fun p => .str (st p)) rfl (fun ac C k N' hk hN => ?_) (fun N' hN => ?_))
  · have w1 : (P k).w = dr.getD k [] := by rw [hP]
    have w2 : (((ms.getD k 0).fdiv 15).fmod 2) = ((P k).q : Nat) := by
      have m1 := Int.fmod_nonneg_of_pos ((ms.getD k 0).fdiv 15) (b := 2) (by decide)
      rw [hP]; exact (Int.toNat_of_nonneg m1).symm
    have w3 : (P k).s = if ((ms.getD k 0).fdiv 30).fmod 2 = 0 then 32 else 10 := by rw [hP]
    have wl := (Piece.lt (hPw k hk)).1
    rw [List.range_succ, List.map_append, List.map_append]
    have k0 : (0 : Int) ≤ (k : Nat) := Int.natCast_nonneg k
    have k60 : ((k : Nat) : Int) < 2 ^ 60 := by exact ar80 hk
    have kd : k < dr.length := by rw [hd]; exact hk
    have km : k < ms.length := by rw [hm]; exact hk
    refine .pos rfl ⟨by rw [List.length_map, List.length_map, List.length_range]; exact Nat.lt_trans hk (by decide), _, g3, iLst k0 k60 (getS kd) ⟨_, g1, iLst k0 k60 (look_at 0 km) ⟨⟨by decide, by decide⟩, by decide, ⟨?_⟩⟩⟩⟩
    show WC B (d + 9) (.ref 124) [.str (st (dr.getD k [])), .int (((ms.getD k 0).fdiv 15).fmod 2)] _ _ _
    rw [w2, ← w1]
    have hwl : (P k).w.length ≤ 3 := (by decide : ∀ w ∈ wdN, w.length ≤ 3) _ (hPw k hk).1
    have m1 := Int.fmod_nonneg_of_pos ((ms.getD k 0).fdiv 30) (b := 2) (by decide)
    have m2 := Int.fmod_lt_of_pos ((ms.getD k 0).fdiv 30) (b := 2) (by decide)
    refine written_ok b (Nat.le_trans hwl (by decide)) fun N₅ h5 => ⟨_, g1, iLst k0 k60 (look_at 0 km) ⟨⟨by decide, by decide⟩, by decide, iStr (c := (P k).s) m1 (Int.lt_trans m2 (by decide)) ?_ ⟨?_, ?_, rfl⟩⟩⟩
    · show (" \n" : Str).cps[(((ms.getD k 0).fdiv 30).fmod 2).toNat]? = _
      rw [w3]
      rcases (show ((ms.getD k 0).fdiv 30).fmod 2 = 0 ∨ ((ms.getD k 0).fdiv 30).fmod 2 = 1 by lia) with e | e <;> rw [e] <;> kernel_rfl
    · show (wr (P k).w (P k).q).length + 1 ≤ sizeLine
      unfold Piece.t at wl
      rw [List.length_append, List.length_singleton] at wl
      rw [sizeLine_eq]; exact ar470 wl
    · show AObj.list (_ ++ [V.str (st (wr (P k).w (P k).q) ++ st [(P k).s])]) = _
      rw [st_app]; rfl
  have gln : ∀ xs : List (List Nat), gl [] xs = xs.flatten := fun xs => by
    cases xs with
    | nil => rfl
    | cons x xs => show x ++ xs.flatMap (fun z => [] ++ z) = _; rw [List.flatten_cons]; congr 1; simp [List.flatMap]
  have pl : ∀ k, k < 7 → (P k).t.length ≤ 20 := fun k hk => (Piece.lt (hPw k hk)).1
  refine bJoin (ss := ((List.range 7).map fun k => (P k).t).map st) (by rw [List.map_map]; exact .lst _) ?_ ?_
  · have e : ((((List.range 7).map fun k => (P k).t).map st).map (·.length)).sum + 7 * 0 ≤ 16777216 := by
      rw [List.map_map, List.map_map]
      have := pl 0 (by decide); have := pl 1 (by decide); have := pl 2 (by decide); have := pl 3 (by decide); have := pl 4 (by decide); have := pl 5 (by decide); have := pl 6 (by decide)
      show (P 0).t.length + ((P 1).t.length + ((P 2).t.length + ((P 3).t.length + ((P 4).t.length + ((P 5).t.length + ((P 6).t.length + 0)))))) + 7 * 0 ≤ _
      lia
    exact e
  rw [s0, join_st, gln]
  obtain ⟨tl, tl0, T⟩ := tails_ex (dr := dr) (fun k => by rw [hP]) hPw
  rw [← tl0]
  exact law_r b f7 f4 hdr rfl T n114 n3 h114 g3 g4 h
end
section
variable {B : Cx} {d : Nat} {σ : Store} {N : Nat}
theorem law_ok (b : Base B) (f7 : ∀ dr, Drawn dr → Law7 (dr.map st)) (f4 : ∀ dr, Drawn dr → Law4 ((dr.map st).take 4)) {o : Obj} {ns : List Int} (ho : Scr o ns) (hz : ns.length ≤ 63) (h114 : σ 114 = some (.obj (tabObj #[]))) {Q : Post V} (h : ∀ N' σ', TabOld B σ' → Q (.bool true) σ' N') : WK B (d + 10) (.ref 181) [.imm o] σ N Q := by
  refine K_funC b.tabOk (names := ["script"]) (b.fn rfl) (b.code rfl rfl) b.lim rfl rfl (fun s hl => ?_) (fun n x hx => by cases hx with | head => exact .inl rfl | tail _ h => cases h) (fun n => by show (["reader", "drawn", "words", "numbers"] : List Str).Nodup; decide) ⟨rfl, rfl, rfl, rfl, rfl⟩ (fun L N₁ hL hσL hab hLN hcs => ?_)
  · obtain ⟨x, rfl⟩ := len1 hl
    rfl
  have hc1 : L + 4 < N₁ := hcs ("reader", L + 4) (.head _)
  show (vRun B tb (d + 9) 200).S (callEnvC fd181 L 181) (stmtsOf (at_ bodyP 25)) [("script", .imm o)] (C4 σ L none none none none) N₁ (Back σ.fr Q)
  refine ⟨numbers_ok b ho (Nat.le_trans hz (by decide)) fun N₂ ms h2 hm => ⟨⟨_, C4.g1⟩, ?_⟩⟩
  rw [C4.s1]
  refine .froz (by decide) fun N₃ h3 => ⟨⟨_, C4.g2⟩, ?_⟩
  rw [C4.s2]
  have hW : [V.str "\"", V.str "# ", V.str "a", V.str "a\\", V.str "b c"] = wdN.map fun w => V.str (st w) := by kernel_rfl
  rw [hW]
  refine ⟨_, C4.g1, sList (.lst (ms.map V.int)) (by decide) (by rw [List.length_map, hm]; decide) ?_⟩
  rw [show lpick (ms.map V.int) none (some 4) none = (ms.take 4).map V.int by rw [List.map_take]; exact lpick_to _ 4]
  refine VComp.list (iter_list (.lst _)) (fun _ _ => .lst _) (fun i => ((ms.take 4).take i).map fun m => .str (st (wd (m.fmod 3).toNat))) rfl (fun ac C i N' hi hN => ?_) (fun N' hN => ?_)
  · have hi : i < (ms.take 4).length := by simpa using hi
    have e : ((ms.take 4).map V.int).getD i .none = .int (ms.take 4)[i] := by rw [List.getD_eq_getElem?_getD, List.getElem?_map, List.getElem?_eq_getElem hi]; rfl
    rw [e]
    have ht : (ms.take 4).take (i + 1) = (ms.take 4).take i ++ [(ms.take 4)[i]] := by rw [List.take_add_one, List.getElem?_eq_getElem hi]; rfl
    have hil : i < 4 := Nat.lt_of_lt_of_le hi (by rw [List.length_take]; exact Nat.min_le_left _ _)
    rw [ht, List.map_append]
    generalize (ms.take 4)[i] = m
    have m1 := Int.fmod_nonneg_of_pos m (b := 3) (by decide)
    have m2 := Int.fmod_lt_of_pos m (b := 3) (by decide)
    refine .pos rfl ⟨by rw [List.length_map, List.length_take]; exact Nat.lt_of_le_of_lt (Nat.min_le_left _ _) (Nat.lt_trans hil (by decide)), _, C4.g2, by decide, iLst m1 (Int.lt_trans m2 (by decide)) (getS (mod_lt m1 m2 (by decide))) ?_⟩
    exact ⟨rfl, rfl⟩
  refine ⟨_, C4.g1, sList (.lst (ms.map V.int)) (by decide) (by rw [List.length_map, hm]; decide) ?_⟩
  rw [show lpick (ms.map V.int) (some 4) none none = (ms.drop 4).map V.int by rw [List.map_drop]; exact lpick_from _ 4]
  refine VComp.list (iter_list (.lst _)) (fun _ _ => .lst _) (fun i => ((ms.drop 4).take i).map fun m => .str (st (wd (m.fmod 5).toNat))) rfl (fun ac C i N' hi hN => ?_) (fun N'' hN'' => ?_)
  · have hi : i < (ms.drop 4).length := by simpa using hi
    have e : ((ms.drop 4).map V.int).getD i .none = .int (ms.drop 4)[i] := by rw [List.getD_eq_getElem?_getD, List.getElem?_map, List.getElem?_eq_getElem hi]; rfl
    rw [e]
    have ht : (ms.drop 4).take (i + 1) = (ms.drop 4).take i ++ [(ms.drop 4)[i]] := by rw [List.take_add_one, List.getElem?_eq_getElem hi]; rfl
    have hil : i < 3 := by rw [List.length_drop, hm] at hi; exact hi
    rw [ht, List.map_append]
    generalize (ms.drop 4)[i] = m
    have m1 := Int.fmod_nonneg_of_pos m (b := 5) (by decide)
    have m2 := Int.fmod_lt_of_pos m (b := 5) (by decide)
    refine .pos rfl ⟨by rw [List.length_map, List.length_take]; exact Nat.lt_of_le_of_lt (Nat.min_le_left _ _) (Nat.lt_trans hil (by decide)), _, C4.g2, by decide, iLst m1 (Int.lt_trans m2 (by decide)) (getS (mod_lt m1 m2 (by decide))) ?_⟩
    exact ⟨rfl, rfl⟩
  obtain ⟨dr, hdr, hd, hv⟩ := drawn_ex hm
  refine nAddL (.lst _) (.lst _) ?_ ⟨⟨_, C4.g3⟩, ?_⟩
  · rw [List.length_map, List.length_map, List.length_take, List.length_take, List.length_map, List.length_map, List.length_take, List.length_drop, hm]; decide
  rw [C4.s3, List.length_map, List.length_map, List.take_length, List.take_length, hv]
  clear hv hW
  have l114 : 114 < L := by
    rcases Nat.lt_or_ge 114 L with z | z
    · exact z
    · rw [hab 114 (Nat.le_trans hL z)] at h114; cases h114
  exact law_t b f7 f4 hm hdr (Nat.ne_of_gt (Nat.lt_of_lt_of_le l114 (Nat.le_add_right _ _))) (Nat.ne_of_gt (Nat.lt_of_lt_of_le l114 (Nat.le_add_right _ _))) (C4.lo l114 h114) C4.g1 C4.g3 C4.g4 h
end
end
noncomputable section
/-! the four-word rows: by evaluation -/
noncomputable def eqT (es fs : List (Kx × Int)) : Bool := es.length == fs.length && es.all fun p => decide (gget fs p.1 = some p.2)
noncomputable def eqS5 (s t : S5) : Bool := s.a == t.a && s.b == t.b && s.c == t.c && s.e == t.e && eqT s.es t.es
noncomputable def eqB (es fs : List (Kx × S5)) : Bool := es.length == fs.length && es.all fun p => match gget fs p.1 with
  | some t => eqS5 p.2 t
  | none => false
noncomputable def chk4 (R : List Str) : Bool := decide (1 ≤ (ords 4 R).length) && decide ((ords 4 R).length ≤ 24) && ((ords 4 R).map turned).isPerm (ords 4 R) && eqB (bookOf ((ords 4 R).map turned)) (dueOf (ords 4 R)) &&
  eqT (filled (bookOf ((ords 4 R).map turned)) R 4) tab7 && decide (((filled (bookOf ((ords 4 R).map turned)) R 4).map (·.2)).sum = 24)
theorem eqT_len {es fs : List (Kx × Int)} (h : eqT es fs = true) : es.length = fs.length := by
  unfold eqT at h; rw [Bool.and_eq_true] at h; exact eq_of_beq h.1
theorem eqT_ok {es fs : List (Kx × Int)} (n : Nat) (h : eqT es fs = true) : VEqD n (vm V.int fs) (vm V.int es) := by
  unfold eqT at h
  rw [Bool.and_eq_true, List.all_eq_true] at h
  have go : ∀ l : List (Kx × Int), (∀ p ∈ l, decide (gget fs p.1 = some p.2) = true) → VEqD n (vm V.int fs) (vm V.int l) := by
    intro l
    induction l with
    | nil => exact fun _ => .nil _ _
    | cons p l ih => exact fun h => .cons (by rw [dget_vm, of_decide_eq_true (h p (.head _))]; rfl) (.plain (.int _ _)) (ih fun q hq => h q (.tail _ hq))
  exact go es h.2
theorem eqS5_ok {s t : S5} (n : Nat) (h : eqS5 s t = true) : VEq (n + 2) s.v t.v := by
  obtain ⟨a, b, c, e, es⟩ := s
  obtain ⟨a', b', c', e', es'⟩ := t
  unfold eqS5 at h
  simp only [Bool.and_eq_true, beq_iff_eq] at h
  obtain ⟨⟨⟨⟨rfl, rfl⟩, rfl⟩, rfl⟩, h⟩ := h
  exact .tup (.cons (.plain (.int _ _)) (.cons (.plain (.int _ _)) (.cons (.plain (.int _ _)) (.cons (.plain (.int _ _)) (.cons (.dct (by rw [vm_len, vm_len]; exact eqT_len h) (eqT_ok n h)) (.nil _))))))
theorem eqB_ok {es fs : List (Kx × S5)} (n : Nat) (h : eqB es fs = true) : VEqD (n + 2) (vm S5.v fs) (vm S5.v es) := by
  unfold eqB at h
  rw [Bool.and_eq_true, List.all_eq_true] at h
  have go : ∀ l : List (Kx × S5), (∀ p ∈ l, (match gget fs p.1 with | some t => eqS5 p.2 t | none => false) = true) → VEqD (n + 2) (vm S5.v fs) (vm S5.v l) := by
    intro l
    induction l with
    | nil => exact fun _ => .nil _ _
    | cons p l ih =>
      intro h
      have h1 := h p (.head _)
      cases q : gget fs p.1 with
      | none => rw [q] at h1; cases h1
      | some t => rw [q] at h1; exact .cons (w := t.v) (by rw [dget_vm, q]; rfl) (eqS5_ok n h1) (ih fun q hq => h q (.tail _ hq))
  exact go es h.2
theorem chk4_ok {R : List Str} (h : chk4 R = true) : Law4 R := by
  unfold chk4 at h
  simp only [Bool.and_eq_true] at h
  obtain ⟨⟨⟨⟨⟨h1, h2⟩, h3⟩, h4⟩, h5⟩, h6⟩ := h
  have h2 := of_decide_eq_true h2
  have bi := bookOf_BI ((ords 4 R).map turned) [] 0 BI0
  rw [List.length_map] at bi
  have h4l : (bookOf ((ords 4 R).map turned)).length = (dueOf (ords 4 R)).length := by
    unfold eqB at h4; rw [Bool.and_eq_true] at h4; exact eq_of_beq h4.1
  exact ⟨of_decide_eq_true h1, h2, List.isPerm_iff.mp h3, h4l, eqB_ok 8 h4, ⟨bi.ai, fun p hp => Nat.le_trans (bi.len p hp) (by exact arb15 h2), Nat.le_trans bi.sz (by exact arb15 h2)⟩, eqT_len h5, eqT_ok 10 h5, of_decide_eq_true h6⟩
noncomputable def row4 (a b c d : Nat) : List Str := [wd a, wd b, wd c, wd d].map st
theorem chk0 : ∀ a < 3, ∀ b < 3, ∀ c < 3, chk4 (row4 a b c 0) = true := by decide +kernel
theorem chk1 : ∀ a < 3, ∀ b < 3, ∀ c < 3, chk4 (row4 a b c 1) = true := by decide +kernel
theorem chk2 : ∀ a < 3, ∀ b < 3, ∀ c < 3, chk4 (row4 a b c 2) = true := by decide +kernel
theorem law4 (dr : List (List Nat)) (h : Drawn dr) : Law4 ((dr.map st).take 4) := by
  have idx : ∀ w ∈ wdN.take 3, ∃ i, i < 3 ∧ w = wd i := by
    intro w hw
    have : w = [34] ∨ w = [35, 32] ∨ w = [97] := by simpa [wdN] using hw
    rcases this with rfl | rfl | rfl
    · exact ⟨0, by decide, rfl⟩
    · exact ⟨1, by decide, rfl⟩
    · exact ⟨2, by decide, rfl⟩
  obtain ⟨hl, _, hf⟩ := h
  match dr, hl with
  | [a, b, c, d, e, f, g], _ =>
    obtain ⟨i, hi, rfl⟩ := idx a (hf a (.head _))
    obtain ⟨j, hj, rfl⟩ := idx b (hf b (.tail _ (.head _)))
    obtain ⟨k, hk, rfl⟩ := idx c (hf c (.tail _ (.tail _ (.head _))))
    obtain ⟨l, hl, rfl⟩ := idx d (hf d (.tail _ (.tail _ (.tail _ (.head _)))))
    refine chk4_ok (R := row4 i j k l) ?_
    rcases (show l = 0 ∨ l = 1 ∨ l = 2 by exact ar471 hl) with rfl | rfl | rfl
    · exact chk0 i hi j hj k hk
    · exact chk1 i hi j hj k hk
    · exact chk2 i hi j hj k hk
end
noncomputable section
/-! Foata's turn: plain facts -/
section
variable {α : Type}
noncomputable def invL (R : α → α → Bool) : List α → Nat
  | [] => 0
  | a :: l => l.countP (R a) + invL R l
noncomputable def cross (R : α → α → Bool) (x : α) (l : List α) : Nat := l.countP fun a => R a x
theorem invL_snoc (R : α → α → Bool) (x : α) : ∀ l, invL R (l ++ [x]) = invL R l + cross R x l
  | [] => rfl
  | a :: l => by
    show (l ++ [x]).countP (R a) + invL R (l ++ [x]) = l.countP (R a) + invL R l + cross R x (a :: l)
    rw [invL_snoc R x l, List.countP_append]
    unfold cross
    rw [List.countP_cons, List.countP_cons, List.countP_nil]
    exact ar472
theorem invL_app (R : α → α → Bool) (l r r' : List α) (h : r.Perm r') : invL R (l ++ r) + invL R r' = invL R (l ++ r') + invL R r := by
  induction l with
  | nil => simp only [List.nil_append]; exact ar473
  | cons a l ih =>
    show (l ++ r).countP (R a) + invL R (l ++ r) + _ = (l ++ r').countP (R a) + invL R (l ++ r') + _
    rw [((List.Perm.refl l).append h).countP_eq]
    exact ar474 ih
theorem invL_front (R : α → α → Bool) (w : α) (h : List α) : invL R (w :: h) + cross R w h = invL R (h ++ [w]) + h.countP (R w) := by
  rw [invL_snoc]
  show h.countP (R w) + invL R h + _ = _
  exact ar475
/-- a turn keeps both kinds in their order -/
structure TI (c : α → Bool) (p out held : List α) : Prop where
  perm : (out ++ held).Perm p
  yes : out.filter c = p.filter c
  no : out.filter (fun w => !c w) ++ held = p.filter fun w => !c w
  heldNo : ∀ w ∈ held, c w = false
theorem TI.step {c : α → Bool} {p out held : List α} (t : TI c p out held) (w : α) : TI c (p ++ [w]) (tStep c (out, held) w).1 (tStep c (out, held) w).2 := by
  unfold tStep
  have hf : held.filter c = [] := List.filter_eq_nil_iff.mpr fun x hx => by rw [t.heldNo x hx]; exact Bool.false_ne_true
  have hn : held.filter (fun w => !c w) = held := List.filter_eq_self.mpr fun x hx => by rw [t.heldNo x hx]; rfl
  cases h : c w with
  | true =>
    rw [if_pos rfl]
    refine ⟨?_, ?_, ?_, fun _ h => nomatch h⟩
    · rw [List.append_nil]
      refine List.Perm.trans ?_ (t.perm.append_right [w])
      rw [List.append_assoc]
      exact (List.Perm.refl out).append (List.perm_append_singleton w held).symm
    · simp only [List.filter_append, List.filter_cons, h, if_true, hf, t.yes, List.filter_nil]
    · simp only [List.filter_append, List.filter_cons, h, Bool.not_true, Bool.false_eq_true, if_false, hn, List.filter_nil, List.append_nil, t.no]
  | false =>
    rw [if_neg Bool.false_ne_true]
    refine ⟨?_, ?_, ?_, fun x hx => ?_⟩
    · rw [← List.append_assoc]; exact t.perm.append_right [w]
    · simp only [List.filter_append, List.filter_cons, h, Bool.false_eq_true, if_false, List.filter_nil, List.append_nil, t.yes]
    · rw [← List.append_assoc, t.no, List.filter_append, List.filter_cons, h]; rfl
    · rcases List.mem_append.mp hx with hx | hx
      · exact t.heldNo x hx
      · rw [List.mem_singleton.mp hx]; exact h
theorem TI.fold {c : α → Bool} : ∀ (l p : List α) (q : List α × List α), TI c p q.1 q.2 → TI c (p ++ l) (l.foldl (tStep c) q).1 (l.foldl (tStep c) q).2
  | [], p, q, t => by rw [List.append_nil]; exact t
  | w :: l, p, q, t => by
    have := TI.fold l (p ++ [w]) (tStep c q w) (t.step w)
    rw [List.append_assoc] at this; exact this
theorem TI.nil (c : α → Bool) : TI c [] [] [] := ⟨.refl _, rfl, rfl, fun _ h => nomatch h⟩
/-- inversions in a turn whose blocks end at the small, at the great -/
theorem turn_inv {R : α → α → Bool} {x : α} (tr : ∀ h w, R h x = true → R w x = false → R h w = true ∧ R w h = false) (g : Bool) : ∀ (l p : List α) (q : List α × List α), TI (fun w => R w x == g) p q.1 q.2 →
    (match g with
      | false => invL R (q.1 ++ q.2) + p.countP (fun w => R w x) = invL R p + q.2.length
      | true => invL R (q.1 ++ q.2) + q.2.length = invL R p + p.countP fun w => !R w x) →
    (match g with
      | false => invL R ((l.foldl (tStep fun w => R w x == g) q).1 ++ (l.foldl (tStep fun w => R w x == g) q).2) + (p ++ l).countP (fun w => R w x) = invL R (p ++ l) + (l.foldl (tStep fun w => R w x == g) q).2.length
      | true => invL R ((l.foldl (tStep fun w => R w x == g) q).1 ++ (l.foldl (tStep fun w => R w x == g) q).2) + (l.foldl (tStep fun w => R w x == g) q).2.length = invL R (p ++ l) + (p ++ l).countP fun w => !R w x)
  | [], p, q, t, h => by rw [List.append_nil]; exact h
  | w :: l, p, (out, held), t, h => by
    have ih := turn_inv tr g l (p ++ [w]) (tStep (fun w => R w x == g) (out, held) w) (t.step w) ?_
    · rw [List.append_assoc] at ih; exact ih
    · have hx : cross R w (out ++ held) = cross R w p := t.perm.countP_eq _
      have hs := invL_snoc R w (out ++ held)
      have hs' := invL_snoc R w p
      have ha := invL_app R out (w :: held) (held ++ [w]) (List.perm_append_singleton w held).symm
      have hf := invL_front R w held
      rw [← List.append_assoc] at ha
      unfold tStep
      cases g with
      | false =>
        have h : invL R (out ++ held) + p.countP (fun w => R w x) = invL R p + held.length := h
        cases hw : R w x with
        | true =>
          rw [if_neg (by simp [hw])]
          show invL R (out ++ (held ++ [w])) + (p ++ [w]).countP (fun w => R w x) = invL R (p ++ [w]) + (held ++ [w]).length
          rw [← List.append_assoc, List.countP_append, List.countP_singleton, List.length_append, List.length_singleton, hw]
          simp only [if_true]
          exact arb16 hx hs hs' h
        | false =>
          rw [if_pos (by simp [hw])]
          have hh : ∀ y ∈ held, R y w = true ∧ R w y = false := fun y hy => by
            have := t.heldNo y hy
            have hy' : R y x = true := by cases q : R y x with | true => rfl | false => rw [q] at this; cases this
            exact tr y w hy' hw
          have c1 : cross R w held = held.length := List.countP_eq_length.mpr fun y hy => (hh y hy).1
          have c2 : held.countP (R w) = 0 := List.countP_eq_zero.mpr fun y hy => by rw [(hh y hy).2]; exact Bool.false_ne_true
          show invL R ((out ++ w :: held) ++ []) + (p ++ [w]).countP (fun w => R w x) = invL R (p ++ [w]) + 0
          rw [List.append_nil, List.countP_append, List.countP_singleton, hw]
          simp only [Bool.false_eq_true, if_false]
          exact arb50 hx hs hs' ha hf h c1 c2
      | true =>
        have h : invL R (out ++ held) + held.length = invL R p + p.countP fun w => !R w x := h
        cases hw : R w x with
        | false =>
          rw [if_neg (by simp [hw])]
          show invL R (out ++ (held ++ [w])) + (held ++ [w]).length = invL R (p ++ [w]) + (p ++ [w]).countP fun w => !R w x
          rw [← List.append_assoc, List.countP_append, List.countP_singleton, List.length_append, List.length_singleton, hw]
          simp only [Bool.not_false, if_true]
          exact arb16 hx hs hs' h
        | true =>
          rw [if_pos (by simp [hw])]
          have hh : ∀ y ∈ held, R w y = true ∧ R y w = false := fun y hy => by
            have := t.heldNo y hy
            have hy' : R y x = false := by cases q : R y x with | false => rfl | true => rw [q] at this; cases this
            exact tr w y hw hy'
          have c1 : cross R w held = 0 := List.countP_eq_zero.mpr fun y hy => by rw [(hh y hy).2]; exact Bool.false_ne_true
          have c2 : held.countP (R w) = held.length := List.countP_eq_length.mpr fun y hy => (hh y hy).1
          show invL R ((out ++ w :: held) ++ []) + 0 = invL R (p ++ [w]) + (p ++ [w]).countP fun w => !R w x
          rw [List.append_nil, List.countP_append, List.countP_singleton, hw]
          simp only [Bool.not_true, Bool.false_eq_true, if_false]
          exact arb51 hx hs hs' ha hf h c1 c2
end
end
noncomputable section
section
variable {α : Type}
theorem turn_main {R : α → α → Bool} (tr : ∀ x h w, R h x = true → R w x = false → R h w = true ∧ R w h = false) (d : α) (row : List α) : ∀ k, k ≤ row.length → (turnN R d row k).Perm (row.take k) ∧ invL R (turnN R d row k) = (falls R d row (k - 1)).sum
  | 0, _ => ⟨.refl _, rfl⟩
  | k + 1, hk => by
    obtain ⟨ih1, ih2⟩ := turn_main tr d row k (by exact ar5 hk)
    obtain ⟨hl, he⟩ := turnN_len R d row k
    have hu : turnN R d row (k + 1) = ((turnN R d row k).foldl (tStep fun w => R w (row.getD k d) == R (row.getD (k - 1) d) (row.getD k d)) ([], [])).1 ++ [row.getD k d] := rfl
    have hx : row.getD k d = row[k] := by rw [List.getD_eq_getElem?_getD, List.getElem?_eq_getElem (by exact ar49 hk)]; rfl
    have ht : row.take (k + 1) = row.take k ++ [row.getD k d] := by rw [List.take_add_one, List.getElem?_eq_getElem (by exact ar49 hk), hx]; rfl
    generalize hg : R (row.getD (k - 1) d) (row.getD k d) = g at *
    have T := TI.fold (c := fun w => R w (row.getD k d) == g) (turnN R d row k) [] ([], []) (.nil _)
    have V := turn_inv (R := R) (x := row.getD k d) (tr _) g (turnN R d row k) [] ([], []) (.nil _) (by cases g <;> rfl)
    rw [hu]
    generalize turnN R d row k = u at *
    generalize u.foldl (tStep fun w => R w (row.getD k d) == g) ([], []) = q at *
    obtain ⟨out, held⟩ := q
    dsimp only at he T V hu ⊢
    subst he
    rw [List.nil_append] at T V
    rw [List.append_nil] at V
    have hp := T.perm
    rw [List.append_nil] at hp
    refine ⟨by rw [ht]; exact (hp.trans ih1).append_right _, ?_⟩
    have hc : cross R (row.getD k d) out = u.countP fun w => R w (row.getD k d) := hp.countP_eq _
    have hlen : u.length = u.countP (fun w => R w (row.getD k d)) + u.countP (fun w => !R w (row.getD k d)) := by
      rw [List.length_eq_countP_add_countP (fun w => R w (row.getD k d))]
      congr 2
      funext w
      cases R w (row.getD k d) <;> rfl
    have hfs : (falls R d row (k + 1 - 1)).sum = (falls R d row (k - 1)).sum + if g = true then k else 0 := by
      cases k with
      | zero => show (0 : Nat) = 0 + _; split <;> rfl
      | succ k =>
        show (falls R d row (k + 1)).sum = (falls R d row k).sum + _
        unfold falls
        rw [List.range_succ, List.filter_append, List.map_append, List.sum_append, List.filter_cons]
        have hg : R (row.getD k d) (row.getD (k + 1) d) = g := hg
        rw [hg]
        cases g <;> simp
    rw [invL_snoc, hfs]
    cases g with
    | false =>
      have V : invL R out + u.countP (fun w => R w (row.getD k d)) = invL R u + 0 := V
      rw [if_neg Bool.false_ne_true]; exact arb52 ih2 hl hc hlen V
    | true =>
      have V : invL R out + 0 = invL R u + u.countP (fun w => !R w (row.getD k d)) := V
      rw [if_pos rfl]; exact arb53 ih2 hl hc hlen V
theorem turn_order {R : α → α → Bool} (tr : ∀ x h w, R h x = true → R w x = false → R h w = true ∧ R w h = false) (d : α) (row : List α) {i j : Nat} (hij : i < j) (same : ∀ k, j < k → k < row.length → R (row.getD i d) (row.getD k d) = R (row.getD j d) (row.getD k d)) :
    ∀ k, j < k → k ≤ row.length → [row.getD i d, row.getD j d].Sublist (turnN R d row k)
  | 0, h, _ => absurd h (Nat.not_lt_zero _)
  | k + 1, hjk, hk => by
    have hu : turnN R d row (k + 1) = ((turnN R d row k).foldl (tStep fun w => R w (row.getD k d) == R (row.getD (k - 1) d) (row.getD k d)) ([], [])).1 ++ [row.getD k d] := rfl
    have he := (turnN_len R d row k).2
    have hpm := (turn_main tr d row k (by exact ar5 hk)).1
    generalize hg : R (row.getD (k - 1) d) (row.getD k d) = g at *
    have T := TI.fold (c := fun w => R w (row.getD k d) == g) (turnN R d row k) [] ([], []) (.nil _)
    rw [hu]
    by_cases e : j = k
    · subst e
      generalize turnN R d row j = u at *
      generalize u.foldl (tStep fun w => R w (row.getD j d) == g) ([], []) = q at *
      obtain ⟨out, held⟩ := q
      dsimp only at he T ⊢
      subst he
      have hp := T.perm
      rw [List.append_nil, List.nil_append] at hp
      have hm : row.getD i d ∈ out := (hp.trans hpm).mem_iff.mpr (by
        rw [List.getD_eq_getElem?_getD, List.getElem?_eq_getElem (by exact ar134 hij hk)]
        exact List.mem_of_getElem? (i := i) (by rw [List.getElem?_take, if_pos hij, List.getElem?_eq_getElem (by exact ar134 hij hk)]; rfl))
      exact (List.singleton_sublist.mpr hm).append (List.Sublist.refl [row.getD j d])
    · have ih := turn_order tr d row hij same k (by exact ar35 hjk e) (by exact ar5 hk)
      have hs := same k (by exact ar35 hjk e) (by exact ar49 hk)
      generalize turnN R d row k = u at *
      generalize u.foldl (tStep fun w => R w (row.getD k d) == g) ([], []) = q at *
      obtain ⟨out, held⟩ := q
      dsimp only at he T ⊢
      subst he
      refine List.Sublist.trans ?_ (List.sublist_append_left out _)
      have h1 := T.yes
      have h2 := T.no
      rw [List.nil_append] at h1 h2
      rw [List.append_nil] at h2
      generalize row.getD i d = s at *
      generalize row.getD j d = t at *
      cases hc : (R s (row.getD k d) == g) with
      | true =>
        have e : [s, t].filter (fun w => R w (row.getD k d) == g) = [s, t] := by simp only [List.filter_cons, hc, ← hs, if_true, List.filter_nil]
        have := ih.filter (fun w => R w (row.getD k d) == g)
        rw [e, ← h1] at this
        exact this.trans List.filter_sublist
      | false =>
        have e : [s, t].filter (fun w => !(R w (row.getD k d) == g)) = [s, t] := by simp only [List.filter_cons, hc, ← hs, Bool.not_false, if_true, List.filter_nil]
        have := ih.filter (fun w => !(R w (row.getD k d) == g))
        rw [e, ← h2] at this
        exact this.trans List.filter_sublist
theorem turnN_map {β : Type} (f : α → β) (gt : β → β → Bool) (d : α) (row : List α) : ∀ k, (turnN (fun p q => gt (f p) (f q)) d row k).map f = turnN gt (f d) (row.map f) k
  | 0 => rfl
  | k + 1 => by
    have g : ∀ k, (row.map f).getD k (f d) = f (row.getD k d) := fun k => by rw [List.getD_eq_getElem?_getD, List.getD_eq_getElem?_getD, List.getElem?_map]; cases row[k]? <;> rfl
    have fold : ∀ (c : β → Bool) (l : List α) (p : List α × List α), ((l.foldl (tStep fun w => c (f w)) p).1.map f, (l.foldl (tStep fun w => c (f w)) p).2.map f) = (l.map f).foldl (tStep c) (p.1.map f, p.2.map f) := by
      intro c l
      induction l with
      | nil => intro p; rfl
      | cons w l ih =>
        intro p
        rw [List.foldl_cons, List.map_cons, List.foldl_cons, ih]
        congr 1
        unfold tStep
        cases h : c (f w) <;> simp [h]
    show (_ ++ [row.getD k d]).map f = _ ++ [_]
    rw [List.map_append, g, ← turnN_map f gt d row k, g]
    have := fold (fun w => gt w (f (row.getD k d)) == gt (f (row.getD (k - 1) d)) (f (row.getD k d))) (turnN (fun p q => gt (f p) (f q)) d row k) ([], [])
    exact congrArg (· ++ [f (row.getD k d)]) (congrArg Prod.fst this)
theorem invL_map {β : Type} (f : α → β) (R : β → β → Bool) : ∀ l : List α, invL R (l.map f) = invL (fun p q => R (f p) (f q)) l
  | [] => rfl
  | a :: l => by
    show (l.map f).countP (R (f a)) + invL R (l.map f) = _
    rw [List.countP_map, invL_map f R l]; rfl
theorem invL_perm {S : α → α → Bool} (sy : ∀ p q, S p q = S q p) {l l' : List α} (h : l.Perm l') : invL S l = invL S l' := by
  induction h with
  | nil => rfl
  | cons a h ih => show _ + _ = _ + _; rw [h.countP_eq, ih]
  | swap a b l =>
    show (a :: l).countP (S b) + (l.countP (S a) + invL S l) = (b :: l).countP (S a) + (l.countP (S b) + invL S l)
    rw [List.countP_cons, List.countP_cons, sy b a]; exact ar476
  | trans _ _ h1 h2 => exact h1.trans h2
theorem invL_congr {R S : α → α → Bool} : ∀ {l : List α}, l.Pairwise (fun p q => R p q = S p q) → invL R l = invL S l
  | [], _ => rfl
  | a :: l, h => by
    rw [List.pairwise_cons] at h
    show _ + _ = _ + _
    rw [List.countP_congr fun x hx => by rw [h.1 x hx], invL_congr h.2]
/-- the place of a thing -/
noncomputable def ix [DecidableEq α] (s : α) : List α → Nat
  | [] => 0
  | a :: l => if a = s then 0 else ix s l + 1
theorem ix_lt [DecidableEq α] {s t : α} : ∀ {u : List α}, u.Nodup → [s, t].Sublist u → ix s u < ix t u
  | [], _, h => by cases h
  | a :: u, hn, h => by
    rw [List.nodup_cons] at hn
    unfold ix
    cases h with
    | cons _ h =>
      have hs : s ∈ u := h.subset (.head _)
      have ht : t ∈ u := h.subset (.tail _ (.head _))
      rw [if_neg fun z => hn.1 (by rw [z]; exact hs), if_neg fun z => hn.1 (by rw [z]; exact ht)]
      exact Nat.succ_lt_succ (ix_lt hn.2 h)
    | cons_cons _ h =>
      have ht : t ∈ u := h.subset (.head _)
      rw [if_pos rfl, if_neg fun z => hn.1 (by rw [z]; exact ht)]
      exact Nat.succ_pos _
theorem ix_get [DecidableEq α] : ∀ {u : List α} {k : Nat} (hn : u.Nodup) (h : k < u.length), ix u[k] u = k
  | a :: u, 0, _, _ => if_pos rfl
  | a :: u, k + 1, hn, h => by
    rw [List.nodup_cons] at hn
    have h' : k < u.length := Nat.lt_of_succ_lt_succ h
    show (if a = u[k] then 0 else ix u[k] u + 1) = k + 1
    rw [if_neg fun z => hn.1 (by rw [z]; exact List.getElem_mem h'), ix_get hn.2 h']
end
theorem inv_invL : ∀ xs : List Int, inv xs xs.length = invL gtI xs
  | [] => rfl
  | a :: l => by
    have go : ∀ n, inv (a :: l) (n + 1) = inv1 (a :: l) 0 + inv l n := by
      intro n
      induction n with
      | zero => show 0 + inv1 (a :: l) 0 = _; rw [Nat.zero_add]; rfl
      | succ n ih =>
        show inv (a :: l) (n + 1) + inv1 (a :: l) (n + 1) = _ + (inv l n + inv1 l n)
        rw [ih]
        have : inv1 (a :: l) (n + 1) = inv1 l n := rfl
        exact ar477 this
    rw [List.length_cons, go, inv_invL l]
    show (l.filter fun p => decide (p < a)).length + _ = l.countP (gtI a) + _
    rw [List.countP_eq_length_filter]; rfl
end
noncomputable section
/-! the seven -/
noncomputable abbrev It := Str × Nat
noncomputable def rI (p q : It) : Bool := gtS p.1 q.1
noncomputable def klt (p q : It) : Prop := kl (pv p) < kl (pv q)
theorem klt_iff (p q : It) : klt p q ↔ p.1.cps.toList < q.1.cps.toList ∨ (p.1 = q.1 ∧ p.2 < q.2) := by
  show [p.1.cps.toList, [p.2]] < [q.1.cps.toList, [q.2]] ↔ _
  rw [List.cons_lt_cons_iff, List.cons_lt_cons_iff, List.cons_lt_cons_iff]
  have e : p.1.cps.toList = q.1.cps.toList ↔ p.1 = q.1 := ⟨fun h => by
    obtain ⟨⟨x⟩, n⟩ := p
    obtain ⟨⟨y⟩, m⟩ := q
    exact congrArg Str.mk (Array.toList_inj.mp h), fun h => by rw [h]⟩
  rw [e]
  have n1 : ¬ ([] : List Nat) < [] := List.lt_irrefl _
  have n2 : ¬ ([] : List (List Nat)) < [] := List.lt_irrefl _
  constructor
  · rintro (h | ⟨h1, (h | ⟨_, h⟩) | ⟨_, h⟩⟩)
    · exact .inl h
    · exact .inr ⟨h1, h⟩
    · exact absurd h n1
    · exact absurd h n2
  · rintro (h | ⟨h1, h2⟩)
    · exact .inl h
    · exact .inr ⟨h1, .inl (.inl h2)⟩
theorem rI_iff (p q : It) : rI p q = true ↔ q.1.cps.toList < p.1.cps.toList := decide_eq_true_iff
theorem rI_tr : ∀ x h w : It, rI h x = true → rI w x = false → rI h w = true ∧ rI w h = false := fun x h w h1 h2 => by
  have h1 := (rI_iff _ _).mp h1
  have h2 : ¬ x.1.cps.toList < w.1.cps.toList := fun z => by rw [(rI_iff w x).mpr z] at h2; cases h2
  have h3 : w.1.cps.toList < h.1.cps.toList := List.lt_of_le_of_lt (List.not_lt.mp h2) h1
  refine ⟨(rI_iff _ _).mpr h3, ?_⟩
  cases q : rI w h with
  | false => rfl
  | true => exact absurd ((rI_iff _ _).mp q) (List.lt_asymm h3)
theorem rI_klt {p q : It} (h : p.2 < q.2) : rI p q = true ↔ klt q p := by
  rw [rI_iff, klt_iff]
  exact ⟨.inl, fun z => z.elim id fun z => by omega⟩
/-- the items of a row -/
theorem items_get (xs : List Str) (n k : Nat) (h : k < n) : (items xs n).getD k (st [], 0) = (xs.getD k (st []), k) := by
  unfold items
  rw [List.getD_eq_getElem?_getD, List.getElem?_map, List.getElem?_range h]; rfl
theorem items_len (xs : List Str) (n : Nat) : (items xs n).length = n := by unfold items; simp
theorem items_pw (xs : List Str) (n : Nat) : (items xs n).Pairwise fun p q => p.2 < q.2 := by
  unfold items
  rw [List.pairwise_map]
  exact List.pairwise_lt_range
theorem items_nodup (xs : List Str) (n : Nat) : (items xs n).Nodup := (items_pw xs n).imp fun h z => by rw [z] at h; exact Nat.lt_irrefl _ h
theorem items_fst (xs : List Str) : (items xs xs.length).map (·.1) = xs := by
  unfold items
  rw [List.map_map]
  apply List.ext_getElem (by simp)
  intro i h1 h2
  simp [h2]
theorem srt_klt {l : List It} (h : (l.map pv).Pairwise le) (n : l.Nodup) : l.Pairwise klt := by
  rw [List.pairwise_map] at h
  refine (h.and n).imp fun {p q} ⟨h, z⟩ => ?_
  apply Classical.byContradiction
  intro k
  exact z (pv_anti h k)
/-- inversions of the places are inversions of the words -/
theorem inv_places (xs : List Str) : inv (placesOf xs) (placesOf xs).length = invL gtS xs := by
  rw [inv_invL]
  have e : invL gtS xs = invL gtS ((items xs xs.length).map (·.1)) := by rw [items_fst]
  rw [e]
  unfold placesOf
  rw [invL_map, invL_map]
  obtain ⟨S, hS⟩ : ∃ S : It → It → Bool, ∀ p q, S p q = true ↔ ((klt p q ∧ q.2 < p.2) ∨ (klt q p ∧ p.2 < q.2)) := by
    classical
    exact ⟨fun p q => decide ((klt p q ∧ q.2 < p.2) ∨ (klt q p ∧ p.2 < q.2)), fun p q => decide_eq_true_iff⟩
  have hL := srt_klt (isort_srt (items xs xs.length)) ((isort_perm _).nodup_iff.mpr (items_nodup _ _))
  have h1 : invL (fun p q : It => gtI (p.2 : Int) (q.2 : Int)) (isort (items xs xs.length)) = invL S (isort (items xs xs.length)) := invL_congr (hL.imp fun {p q} h => by
    have n : ¬ klt q p := List.lt_asymm h
    rw [Bool.eq_iff_iff, hS]
    show decide ((q.2 : Int) < p.2) = true ↔ _
    rw [decide_eq_true_iff]
    exact ⟨fun z => .inl ⟨h, by exact ar478 z⟩, fun z => z.elim (fun z => by omega) fun z => absurd z.1 n⟩)
  have h2 : invL (fun p q : It => gtS p.1 q.1) (items xs xs.length) = invL S (items xs xs.length) := invL_congr ((items_pw _ _).imp fun {p q} h => by
    rw [Bool.eq_iff_iff, hS]
    show rI p q = true ↔ _
    rw [rI_klt h]
    exact ⟨fun z => .inr ⟨z, h⟩, fun z => z.elim (fun z => by omega) (·.1)⟩)
  rw [h1, h2]
  exact invL_perm (fun p q => by rw [Bool.eq_iff_iff, hS, hS]; exact ⟨Or.symm, Or.symm⟩) (isort_perm _)
/-- neighbours in order have all others on one side -/
theorem adj {l : List It} (h : l.Pairwise klt) {k : Nat} (hk : k + 1 < l.length) {x : It} (hx : x ∈ l) (n1 : x ≠ l[k]) (n2 : x ≠ l[k + 1]) : (klt x l[k] ∧ klt x l[k + 1]) ∨ (klt l[k] x ∧ klt l[k + 1] x) := by
  obtain ⟨m, hm, rfl⟩ := List.getElem_of_mem hx
  have g := List.pairwise_iff_getElem.mp h
  rcases Nat.lt_trichotomy m k with z | z | z
  · exact .inl ⟨g m k _ _ z, g m (k + 1) _ _ (by exact ar479 z)⟩
  · subst z; exact absurd rfl n1
  · rcases Nat.lt_trichotomy m (k + 1) with y | y | y
    · omega
    · subst y; exact absurd rfl n2
    · exact .inr ⟨g k m _ _ z, g (k + 1) m _ _ y⟩
section
variable (D : List Str)
noncomputable def uT : List It := turnN rI (st [], 0) (items D D.length) D.length
theorem uT_perm : (uT D).Perm (items D D.length) := by
  have := (turn_main rI_tr (st [], 0) (items D D.length) D.length (by rw [items_len]; exact Nat.le_refl _)).1
  rw [List.take_of_length_le (by rw [items_len]; exact Nat.le_refl _)] at this
  exact this
theorem uT_fst : (uT D).map (·.1) = turned D := by
  have := turnN_map (fun p : It => p.1) gtS (st [], 0) (items D D.length) D.length
  rw [items_fst] at this
  exact this
theorem turned_perm : (turned D).Perm D := by
  have := (uT_perm D).map (·.1)
  rw [items_fst, uT_fst] at this
  exact this
theorem uT_nodup : (uT D).Nodup := (uT_perm D).nodup_iff.mpr (items_nodup _ _)
/-- who stays ahead of whom -/
theorem uT_order {s t : It} (hs : s ∈ items D D.length) (ht : t ∈ items D D.length) (h : s.2 < t.2) (same : ∀ x ∈ items D D.length, t.2 < x.2 → rI s x = rI t x) : ix s (uT D) < ix t (uT D) := by
  have at_ : ∀ {x : It}, x ∈ items D D.length → x.2 < D.length ∧ (items D D.length).getD x.2 (st [], 0) = x := fun {x} hx => by
    unfold items at hx
    obtain ⟨k, hk, rfl⟩ := List.mem_map.mp hx
    exact ⟨List.mem_range.mp hk, items_get _ _ _ (List.mem_range.mp hk)⟩
  obtain ⟨s1, s2⟩ := at_ hs
  obtain ⟨t1, t2⟩ := at_ ht
  have := turn_order rI_tr (st [], 0) (items D D.length) (i := s.2) (j := t.2) h (fun k hk hk' => by
    rw [s2, t2]
    refine same _ ?_ ?_
    · rw [List.getD_eq_getElem?_getD, List.getElem?_eq_getElem hk']; exact List.getElem_mem _
    · rw [items_get _ _ _ (by rw [items_len] at hk'; exact hk')]; exact hk) D.length t1 (by rw [items_len]; exact Nat.le_refl _)
  rw [s2, t2] at this
  exact ix_lt (uT_nodup D) this
/-- the turned row's places -/
theorem places_turned : placesOf (turned D) = (isort (items D D.length)).map fun s => ((ix s (uT D) : Nat) : Int) := by
  have hlen : (turned D).length = D.length := (turned_perm D).length_eq
  have hul : (uT D).length = D.length := by rw [(uT_perm D).length_eq, items_len]
  have hL := srt_klt (isort_srt (items D D.length)) ((isort_perm _).nodup_iff.mpr (items_nodup _ _))
  have key : isort (items (turned D) (turned D).length) = (isort (items D D.length)).map fun s => (s.1, ix s (uT D)) := by
    refine srt_uniq ((isort_perm _).trans ?_) (isort_srt _) ?_
    · have : items (turned D) (turned D).length = (uT D).map fun s => (s.1, ix s (uT D)) := by
        apply List.ext_getElem (by rw [items_len, List.length_map]; exact ar480 hlen hul)
        intro i h1 h2
        rw [List.getElem_map]
        have hi : i < (uT D).length := by simpa using h2
        rw [ix_get (uT_nodup D) hi]
        have e1 : (turned D).getD i (st []) = (uT D)[i].1 := by rw [← uT_fst, List.getD_eq_getElem?_getD, List.getElem?_map, List.getElem?_eq_getElem hi]; rfl
        rw [← e1]
        simp only [items, List.getElem_map, List.getElem_range]
      rw [this]
      exact ((uT_perm D).trans (isort_perm _).symm).map _
    · rw [List.map_map, List.pairwise_map]
      refine (hL.imp_of_mem fun {p q} hp hq h => ?_)
      have hp := (isort_perm _).mem_iff.mp hp
      have hq := (isort_perm _).mem_iff.mp hq
      show le (pv (p.1, ix p (uT D))) (pv (q.1, ix q (uT D)))
      refine le_of_lt ?_
      show klt (p.1, ix p (uT D)) (q.1, ix q (uT D))
      rw [klt_iff] at h ⊢
      exact h.imp id fun ⟨e, l⟩ => ⟨e, uT_order D hp hq l fun x _ _ => by unfold rI; rw [e]⟩
  unfold placesOf
  rw [key, List.map_map]; rfl
theorem places_falls : fallsI (placesOf (turned D)) = fallsI (placesOf D) := by
  have hL := srt_klt (isort_srt (items D D.length)) ((isort_perm _).nodup_iff.mpr (items_nodup _ _))
  have hm : ∀ {x : It}, x ∈ isort (items D D.length) ↔ x ∈ items D D.length := (isort_perm _).mem_iff
  rw [places_turned]
  unfold placesOf fallsI
  rw [List.length_map, List.length_map]
  generalize isort (items D D.length) = L at *
  unfold falls
  congr 1
  refine List.filter_congr fun k hk => ?_
  have hk := List.mem_range.mp hk
  have g : ∀ (f : It → Int) (i : Nat), (h : i < L.length) → (L.map f).getD i 0 = f L[i] := fun f i h => by rw [List.getD_eq_getElem?_getD, List.getElem?_map, List.getElem?_eq_getElem h]; rfl
  rw [g _ k (by omega), g _ (k + 1) (by omega), g _ k (by omega), g _ (k + 1) (by omega)]
  have hlt : klt L[k] L[k + 1] := List.pairwise_iff_getElem.mp hL k (k + 1) _ _ (Nat.lt_succ_self k)
  have hs := hm.mp (List.getElem_mem (l := L) (n := k) (by omega))
  have ht := hm.mp (List.getElem_mem (l := L) (n := k + 1) (by omega))
  have side : ∀ x ∈ items D D.length, x ≠ L[k] → x ≠ L[k + 1] → (klt x L[k] ∧ klt x L[k + 1]) ∨ (klt L[k] x ∧ klt L[k + 1] x) := fun x hx => adj hL (by exact ar135 hk) (hm.mpr hx)
  generalize L[k] = s at *
  generalize L[k + 1] = t at *
  have two : ∀ (p q x : It), p.2 < x.2 → q.2 < x.2 → ((klt x p ∧ klt x q) ∨ (klt p x ∧ klt q x)) → rI p x = rI q x := fun p q x h1 h2 h => by
    rw [Bool.eq_iff_iff, rI_klt h1, rI_klt h2]
    rcases h with h | h
    · exact ⟨fun _ => h.2, fun _ => h.1⟩
    · exact ⟨fun z => absurd z (List.lt_asymm h.1), fun z => absurd z (List.lt_asymm h.2)⟩
  have ne2 : s.2 ≠ t.2 := fun z => by
    have : s = t := by
      unfold items at hs ht
      obtain ⟨i, _, rfl⟩ := List.mem_map.mp hs
      obtain ⟨j, _, rfl⟩ := List.mem_map.mp ht
      cases (show i = j from z); rfl
    rw [this] at hlt
    exact List.lt_irrefl _ hlt
  show decide (((ix t (uT D) : Nat) : Int) < (ix s (uT D) : Nat)) = decide ((t.2 : Int) < s.2)
  rw [decide_eq_decide]
  rcases Nat.lt_or_gt_of_ne ne2 with z | z
  · have := uT_order D hs ht z fun x hx hx' => two s t x (by exact ar481 z hx') hx' (side x hx (fun e => by rw [e] at hx'; exact ar482 z hx') (fun e => by rw [e] at hx'; exact ar136 hx'))
    omega
  · have := uT_order D ht hs z fun x hx hx' => two t s x (by exact ar483 z hx') hx' ((side x hx (fun e => by rw [e] at hx'; exact ar136 hx') (fun e => by rw [e] at hx'; exact ar484 z hx')).imp And.symm And.symm)
    omega
theorem turned_pairs : ((inv (placesOf (turned D)) (placesOf (turned D)).length : Nat) : Int) = majOf D := by
  rw [inv_places, ← uT_fst, invL_map]
  have := (turn_main rI_tr (st [], 0) (items D D.length) D.length (by rw [items_len]; exact Nat.le_refl _)).2
  have e : (falls rI (st [], 0) (items D D.length) (D.length - 1)) = fallsS D := by
    unfold falls fallsS falls
    congr 1
    refine List.filter_congr fun k hk => ?_
    have hk := List.mem_range.mp hk
    rw [items_get _ _ _ (by exact ar485 hk), items_get _ _ _ (by exact ar135 hk)]; rfl
  rw [e] at this
  have sum : ∀ l : List Nat, ((l.sum : Nat) : Int) = (l.map fun (k : Nat) => (k : Int)).sum := fun l => by
    induction l with
    | nil => rfl
    | cons a l ih => rw [List.sum_cons, List.map_cons, List.sum_cons, ← ih]; exact Int.natCast_add a l.sum
  unfold majOf
  rw [← sum, ← this]; rfl
end
theorem law7 (dr : List (List Nat)) (h : Drawn dr) : Law7 (dr.map st) := by
  have hl : (dr.map st).length = 7 := by rw [List.length_map, h.len]
  refine ⟨turned_perm _, ?_, turned_pairs _, places_falls _⟩
  generalize dr.map st = D at *
  have h6 := (turnN_len gtS (st []) D 6).1
  have e : turned D = ((turnN gtS (st []) D 6).foldl (tStep fun w => gtS w (D.getD 6 (st [])) == gtS (D.getD 5 (st [])) (D.getD 6 (st []))) ([], [])).1 ++ [D.getD 6 (st [])] := by
    unfold turned; rw [hl]; rfl
  have h7 := (turnN_len gtS (st []) D 7).1
  have e7 : turned D = turnN gtS (st []) D 7 := by unfold turned; rw [hl]
  rw [← e7, e, List.length_append, List.length_singleton] at h7
  rw [e, List.getD_eq_getElem?_getD, List.getElem?_append_right (by exact ar486 h7)]
  rw [show 6 - _ = 0 by exact ar487 h7]; rfl
end
noncomputable section
/-! the entry -/
noncomputable def tabsP : List (Nat × Nat) := [(118, 114)]
theorem goodP {xs : List PyData} {cl : Str → Option Addr} {mean : ExcName → Option Value} {s₁ s' : Shared} (hs : Shape.int.list.has (.list xs) = true) (hk : ∀ b o, s₁.heap.get? b = some o → s'.heap.get? b = some o) (ho : s'.os = s₁.os) (hg : s'.gens = #[]) :
    GoodW rwP.row.claim cl mean [ofPy (.list xs)] s₁ (.ok (.ret (.bool true))) s' :=
  ⟨.inl ⟨.bool true, .bool true, [], rfl, fun _ => rfl, .bool true, by (refine' postW_of ?s ?v ?e; (case s => o_shape); (case v => wtm_val); (case e => w_fin)), fun _ => ⟨List.nodup_nil, fun _ h => nomatch h⟩⟩, hk, ho, hg⟩
theorem walkP : WalkO viewP [] (XL viewP []) hkP.says rwP.row.toRowW dP [] fun f vs => PySem.call f vs := by
  intro w s₀ s₁ mg mb G Y fa o pm cd doc dV kV ho hd hcd hD hmg hg args vals as hpre hlay hrd hwl hlo
  have T := G.T
  have hT9 : TabsAt tabsP s₁.heap := List.forall_mem_cons.mpr ⟨⟨codeHd_of_K (c := 118) (P := 114) Y.frag (by kernel_rfl), Y.tabs 114 (.head _)⟩, fun _ h => nomatch h⟩
  clear ho hd hcd hD
  wrow_args hpre hlay hrd hwl hlo
  all_goals
    rename_i hL _ _ _ hI _ hle _
    refine enter_call ?_
    refine kn_post hT9 (fun _ _ => rfl) ?_
    have X := Y.frag
    obtain ⟨on, es, ep, hn1, hn2, hn3⟩ := Y.names
    have hmgx : ∀ x ∈ nsP, mg x.1 = x.2 := fun x hx => by
      obtain ⟨o', es', ep', e, hd', _, hf⟩ := T.g
      rw [hn1] at e; cases e
      rw [hn2] at hd'; cases hd'
      rw [← hf]; exact hn3 x hx
    have hfa : fa = 181 := by
      have := hmgx ("law", some (.ref 181)) (by decide)
      rw [show mg dP.name = mg "law" from rfl, this] at hmg
      injection hmg with e; injection e with e; exact e.symm
    subst hfa
    obtain ⟨os, hsys⟩ := Y.sys
    obtain ⟨ol, hol, hoc, no, hod⟩ := hL
    have h114 : s₁.heap.get? 114 = some (tabObj #[]) := Y.tabs 114 (.head _)
    have hsys' : (ghostOf s₁.heap tabsP).get? sysModules = some os := ghost_ne hsys (by decide)
    let B : Cx := ⟨rwP.row.prog, w, ghostOf s₁.heap tabsP, s₁.os, ⟨os, hsys'⟩⟩
    have b : Base B := by
      refine ⟨ghost_K hT9 X (by kernel_rfl), (ghost_top hT9 T).nolimit, fun c hc => ?_, ⟨mg, mb, ghost_ns hT9 T.g, ghost_ns hT9 T.b, hmgx, T.builtins⟩, ⟨(ghost_code hT9).1, ⟨mg, ghost_ns hT9 T.g, ?_⟩, by decide⟩⟩
      · obtain ⟨o, vs, e1, e2, e3⟩ := Y.quals c hc
        exact ⟨o, vs, ghost_get hT9 e1 (fun q => by rw [q] at e2; cases e2; cases e3), e2, e3⟩
      · obtain ⟨bm, ob, a1, a2, a3, a4, a5, a6⟩ := T.bmain
        refine ⟨bm, ob, a1, a2, ?_, ?_, ghost_get hT9 a3 (fun q => by rw [q] at a4; cases a4), a4, a5, a6⟩
        · intro z
          rw [z, hn1] at a3; cases a3
          rw [hn2] at a6; cases a6
        · intro z
          rw [z, h114] at a3; cases a3; cases a4
    let σ₀ : Store := pt ⟨fun _ => none, fun _ => False⟩ 114 (.obj (tabObj #[]))
    have σ0 : ∀ a, a ≠ 114 → σ₀ a = none := fun a h => pt_ne h
    have I : Inv B σ₀ s₁.heap.objs.size s₁ := by
      refine ⟨fun a o e => ?_, fun c o e => ⟨of_hideAll _ e, σ0 c fun z => ?_⟩, hg, rfl, fun a o e => ?_, Nat.le_refl _, fun a f => f.elim⟩
      · by_cases z : a = 114
        · subst z; rw [show σ₀ 114 = some (.obj (tabObj #[])) from pt_same _ _ _] at e; cases e; exact h114
        · rw [σ0 a z] at e; cases e
      · have : (ghostOf s₁.heap tabsP).get? 114 = none := hideAll_none _ (List.Mem.head _)
        rw [z] at e
        exact absurd (this.symm.trans e) (by simp)
      · by_cases z : a = 114
        · subst z; exact Heap.lt_size h114
        · rw [σ0 a z] at e; cases e
    have scr : Scr ol _ := ⟨hoc, _, no, hod, hI⟩
    refine codeAny_mono (law_ok b law7 law4 scr (by exact ar488 hle) (pt_same _ _ _) (d := 0) (Q := fun v σ' _ => v = .bool true ∧ TabOld B σ') (fun N' σ' t => ⟨rfl, t⟩) callerA s₁ [_] ⟨rfl, by decide, by decide⟩ I (.cons (.imm hol ⟨σ0 _ fun z => ?_, id⟩ ?_) .nil)) fun r s' q => ?_
    · rw [z, h114] at hol; cases hol; cases hoc
    · unfold Frozen; rw [hoc]; decide
    · rcases r with e | (v | _ | _ | _) <;> first | exact q.elim | skip
      obtain ⟨u, σ', N', r, I', S, n, rfl, c1, c2, oc, ht, _⟩ := q
      obtain ⟨_, rfl⟩ := r.inv
      exact ⟨goodP (by assumption) (fun c o e => (I'.base c o e).1) I'.os I'.gens, ⟨_, I'.store 114 _ ht⟩, trivial⟩
theorem allP : rwP.Holds := headP walkP
end
end Mine
theorem PySem.Challenge.cw_pg0130_01_holds : PySem.Challenge.rw_pg0130_01.Holds :=
  Mine.allP

