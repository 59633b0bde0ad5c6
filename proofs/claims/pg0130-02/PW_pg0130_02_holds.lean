import PyProof.Rows.All
import Wide.All
import OpenK.AllK
import Wide.FinOn
import Lean
import PySem.Challenge.RW_pg0130_02
set_option maxRecDepth 100000
set_option Elab.async false
set_option linter.unusedVariables false
set_option maxHeartbeats 8000000
namespace Mine
open PySem PySem.Spec PySem.Calls PyProof.Rows PySem.W
noncomputable section
/- the head by one check: what the top leaves in the heap, told by the places of the defs in the row's own text -/
noncomputable def isDefn : Stmt → Bool
  | .FunctionDef .. => true
  | .ClassDef .. => true
  | _ => false
noncomputable def at_ : List Stmt → Nat → Stmt
  | [], _ => .Pass ⟨0, 0, 0, 0⟩
  | s :: _, 0 => s
  | _ :: r, k + 1 => at_ r k
noncomputable def inCls : Stmt → List Stmt
  | .ClassDef _ _ _ b _ _ _ _ _ _ _ => b
  | _ => []
noncomputable def stmtsOf : Stmt → List Stmt
  | .FunctionDef _ _ b _ _ _ _ _ _ _ => b
  | _ => []
noncomputable def paramsOf : Stmt → Arguments
  | .FunctionDef _ p _ _ _ _ _ _ _ _ => p
  | _ => ⟨[], [], none, [], [], none, []⟩
noncomputable def scopeOf : Stmt → Scope
  | .FunctionDef _ _ _ _ _ _ s _ _ _ => s
  | _ => ⟨.function, [], false, false, []⟩
noncomputable def posOf : Stmt → Pos
  | .FunctionDef _ _ _ _ _ _ _ _ _ p => p
  | _ => ⟨0, 0, 0, 0⟩
noncomputable def fdOf (s : Stmt) (name qual : Str) (mod : Value) (c : Nat) : FuncData :=
  { name := name, qualname := qual, params := paramsOf s, body := .stmts (stmtsOf s), scope := scopeOf s, globals := 3, closure := [], defaults := .none, kwdefaults := .none, pyModule := mod, code := .ref c }
noncomputable def fnObj (fd : FuncData) : Obj := { cls := .type "function", data := .func fd }
/- the qualified name that a code object bears -/
noncomputable def qualAt (h : Heap) (c : Nat) : Option Value := match h.get? c with
  | some ⟨_, _, .fields vs, _⟩ => vs[1]?
  | _ => none
noncomputable def namesAt (h : Heap) (ns : List (Str × Option Value)) : Option (List (Option Value)) := match h.get? mainGlobals with
  | some ⟨_, _, .dict es _, _⟩ => some (ns.map fun x => nsFind es x.1)
  | _ => none
structure Says (K : Params → Frag) (cs : List (Nat × Value)) (ns : List (Str × Option Value)) (ts : List Nat) (w : World) (h : Heap) : Prop where
  frag : (K w.params).In h
  quals : ∀ c ∈ cs, ∃ o vs, h.get? c.1 = some o ∧ o.data = .fields vs ∧ vs[1]? = some c.2
  names : ∃ o es ep, h.get? mainGlobals = some o ∧ o.data = .dict es ep ∧ ∀ x ∈ ns, nsFind es x.1 = x.2
  tabs : ∀ t ∈ ts, h.get? t = some (tabObj #[])
  sys : ∃ o, h.get? sysModules = some o
noncomputable def hk (K : Params → Frag) (as : List Nat) (cs : List (Nat × Value)) (ns : List (Str × Option Value)) (ts : List Nat) (e : ∀ P, as = (K P).map (·.1)) : Hook where
  α := List (Option Obj) × List (Option Value) × Option (List (Option Value)) × List (Option Obj) × Bool
  obs := fun s => (as.map s.heap.get?, cs.map (fun c => qualAt s.heap c.1), namesAt s.heap ns, ts.map s.heap.get?, (s.heap.get? sysModules).isSome)
  val := fun w => ((K w.params).map fun p => some p.2, cs.map (fun c => some c.2), some (ns.map (·.2)), ts.map fun _ => some (tabObj #[]), true)
  says := Says K cs ns ts
  of := fun w s x => by
    obtain ⟨h1, h2⟩ := Prod.mk.inj x
    obtain ⟨h2, h3⟩ := Prod.mk.inj h2
    obtain ⟨h3, h4⟩ := Prod.mk.inj h3
    obtain ⟨h4, h5⟩ := Prod.mk.inj h4
    refine ⟨InK.of e w s h1, fun c hc => ?_, ?_, List.map_inj_left.mp h4, Option.isSome_iff_exists.mp h5⟩
    · have := List.map_inj_left.mp h2 c hc
      unfold qualAt at this
      split at this
      · rename_i q; exact ⟨_, _, q, rfl, this⟩
      · cases this
    · unfold namesAt at h3
      split at h3
      · rename_i q; exact ⟨_, _, _, q, rfl, List.map_inj_left.mp (Option.some.inj h3)⟩
      · cases h3
  keeps := fun w h h' x k => ⟨Frag.In.keeps x.frag k, fun c hc => let ⟨o, vs, a, b⟩ := x.quals c hc; ⟨o, vs, k _ _ a, b⟩, let ⟨o, es, ep, a, b⟩ := x.names; ⟨o, es, ep, k _ _ a, b⟩, fun t ht => k _ _ (x.tabs t ht), let ⟨o, e⟩ := x.sys; ⟨o, k _ _ e⟩⟩
 abbrev PP : Program := PySem.Challenge.pw_pg0130_02
noncomputable def bodyP : List Stmt := PP.main.body
noncomputable def viewP : Program := { PP with main := { PP.main with body := PP.main.body.filter isDefn } }
noncomputable def fd21 : FuncData := fdOf (at_ bodyP 1) "heappush" "heappush" (.str "cpy313.heapq" 187) 20
noncomputable def fd28 : FuncData := fdOf (at_ bodyP 2) "heappop" "heappop" (.str "cpy313.heapq" 187) 27
noncomputable def fd35 : FuncData := fdOf (at_ bodyP 3) "_siftdown" "_siftdown" (.str "cpy313.heapq" 187) 34
noncomputable def fd42 : FuncData := fdOf (at_ bodyP 4) "_siftup" "_siftup" (.str "cpy313.heapq" 187) 41
noncomputable def fd56 : FuncData := fdOf (at_ (inCls (at_ bodyP 6)) 0) "__init__" "_netrclex.__init__" (.str "cpy313.netrc" 231) 55
noncomputable def fd63 : FuncData := fdOf (at_ (inCls (at_ bodyP 6)) 1) "_read_char" "_netrclex._read_char" (.str "cpy313.netrc" 231) 62
noncomputable def fd70 : FuncData := fdOf (at_ (inCls (at_ bodyP 6)) 2) "get_token" "_netrclex.get_token" (.str "cpy313.netrc" 231) 69
noncomputable def fd77 : FuncData := fdOf (at_ (inCls (at_ bodyP 6)) 3) "push_token" "_netrclex.push_token" (.str "cpy313.netrc" 231) 76
noncomputable def fd91 : FuncData := fdOf (at_ bodyP 8) "func_std_string" "func_std_string" (.str "cpy313.pstats" 291) 90
noncomputable def fd98 : FuncData := fdOf (at_ bodyP 9) "add_func_stats" "add_func_stats" (.str "cpy313.pstats" 291) 97
noncomputable def fd105 : FuncData := fdOf (at_ bodyP 10) "add_callers" "add_callers" (.str "cpy313.pstats" 291) 104
noncomputable def fd112 : FuncData := fdOf (at_ bodyP 11) "count_calls" "count_calls" (.str "cpy313.pstats" 291) 111
noncomputable def fd119 : FuncData := fdOf (at_ bodyP 13) "_law_machine" "_law_machine" (.str "law_pg0130_02" 339) 118
noncomputable def fd124 : FuncData := fdOf (at_ bodyP 14) "_law_written" "_law_written" (.str "law_pg0130_02" 339) 123
noncomputable def fd131 : FuncData := fdOf (at_ bodyP 15) "_law_numbers" "_law_numbers" (.str "law_pg0130_02" 339) 130
noncomputable def fd138 : FuncData := fdOf (at_ bodyP 16) "_law_names" "_law_names" (.str "law_pg0130_02" 339) 137
noncomputable def fd145 : FuncData := fdOf (at_ bodyP 17) "_law_text" "_law_text" (.str "law_pg0130_02" 339) 144
noncomputable def fd152 : FuncData := fdOf (at_ bodyP 18) "_law_booked" "_law_booked" (.str "law_pg0130_02" 339) 151
noncomputable def fd159 : FuncData := fdOf (at_ bodyP 19) "_law_called" "_law_called" (.str "law_pg0130_02" 339) 158
noncomputable def fd166 : FuncData := fdOf (at_ bodyP 20) "_law_run" "_law_run" (.str "law_pg0130_02" 339) 165
noncomputable def fd173 : FuncData := fdOf (at_ bodyP 21) "_law_hours" "_law_hours" (.str "law_pg0130_02" 339) 172
noncomputable def fd180 : FuncData := fdOf (at_ bodyP 22) "_law_due" "_law_due" (.str "law_pg0130_02" 339) 179
noncomputable def fd185 : FuncData := fdOf (at_ bodyP 23) "law" "law" (.str "law_pg0130_02" 339) 184
noncomputable def KK (P : Params) : Frag := [
  (2, { cls := .none, data := .dict #[] }),
  (21, fnObj fd21),
  (28, fnObj fd28),
  (35, fnObj fd35),
  (42, fnObj fd42),
  (56, fnObj fd56),
  (63, fnObj fd63),
  (70, fnObj fd70),
  (77, fnObj fd77),
  (79, { cls := .type "dict", data := .dict #[{ hash := PyData.keyHash P "__module__", key := .str "__module__" 240, val := .str "cpy313.netrc" 231 }, { hash := PyData.keyHash P "__firstlineno__", key := .str "__firstlineno__" 244, val := .int 39 243 }, { hash := PyData.keyHash P "__init__", key := .str "__init__" 252, val := .ref 56 }, { hash := PyData.keyHash P "_read_char", key := .str "_read_char" 260, val := .ref 63 }, { hash := PyData.keyHash P "get_token", key := .str "get_token" 270, val := .ref 70 }, { hash := PyData.keyHash P "push_token", key := .str "push_token" 278, val := .ref 77 }, { hash := PyData.keyHash P "__static_attributes__", key := .str "__static_attributes__" 283, val := .ref 78 }, { hash := PyData.keyHash P "__dict__", key := .str "__dict__" 285, val := .ref 81 }, { hash := PyData.keyHash P "__weakref__", key := .str "__weakref__" 287, val := .ref 82 }, { hash := PyData.keyHash P "__doc__", key := .str "__doc__" 288, val := .none }] 4 }),
  (80, { cls := .type "type", data := .cls { name := "_netrclex", bases := [.type "object"], mro := [.ref 80, .type "object"], ns := 79, qualname := "_netrclex" }, slots := #[none, none, some (.str "_netrclex" 233), some (.str "_netrclex" 241), some (.builtin "object.__new__"), some (.bool true)] }),
  (81, { cls := .type "getset_descriptor", data := .fields #[.str "__dict__" 284, .ref 80, .builtin "function.__dict__", .builtin "function.__dict__#set"] }),
  (82, { cls := .type "getset_descriptor", data := .fields #[.str "__weakref__" 286, .ref 80, .builtin "ExceptionGroup.__weakref__", .none] }),
  (91, fnObj fd91),
  (98, fnObj fd98),
  (105, fnObj fd105),
  (112, fnObj fd112),
  (118, { cls := .type "code", data := .fields #[.str "_law_machine" 341, .str "_law_machine" 342, .str "/claim/cut.py" 343, .int 115 0, .int 1 0, .int 0 0, .int 0 0, .int 3 0, .ref 113, .bool true, .int 181 0, .ref 114, .none, .ref 115, .ref 116, .ref 117, .int 349 0, .int 115 0, .str "/claim/cut.py" 350] }),
  (119, fnObj fd119),
  (124, fnObj fd124),
  (131, fnObj fd131),
  (138, fnObj fd138),
  (145, fnObj fd145),
  (152, fnObj fd152),
  (159, fnObj fd159),
  (166, fnObj fd166),
  (173, fnObj fd173),
  (180, fnObj fd180),
  (185, fnObj fd185)]
noncomputable def asP : List Nat := [2, 21, 28, 35, 42, 56, 63, 70, 77, 79, 80, 81, 82, 91, 98, 105, 112, 118, 119, 124, 131, 138, 145, 152, 159, 166, 173, 180, 185]
/- code objects: their qualified names, their tables -/
noncomputable def csP : List (Nat × Value) := [(20, .str "heappush" 190), (27, .str "heappop" 198), (34, .str "_siftdown" 207), (41, .str "_siftup" 219), (55, .str "_netrclex.__init__" 246), (62, .str "_netrclex._read_char" 254), (69, .str "_netrclex.get_token" 262), (76, .str "_netrclex.push_token" 272), (90, .str "func_std_string" 294), (97, .str "add_func_stats" 302), (104, .str "add_callers" 320), (111, .str "count_calls" 331), (118, .str "_law_machine" 342), (123, .str "_law_written" 353), (130, .str "_law_numbers" 359), (137, .str "_law_names" 368), (144, .str "_law_text" 377), (151, .str "_law_booked" 387), (158, .str "_law_called" 401), (165, .str "_law_run" 413), (172, .str "_law_hours" 428), (179, .str "_law_due" 444), (184, .str "law" 464)]
noncomputable def nsP : List (Str × Option Value) := [("heappush", some (.ref 21)), ("heappop", some (.ref 28)), ("_siftdown", some (.ref 35)), ("_siftup", some (.ref 42)), ("func_std_string", some (.ref 91)), ("add_func_stats", some (.ref 98)), ("add_callers", some (.ref 105)), ("count_calls", some (.ref 112)), ("_law_machine", some (.ref 119)), ("_law_written", some (.ref 124)), ("_law_numbers", some (.ref 131)), ("_law_names", some (.ref 138)), ("_law_text", some (.ref 145)), ("_law_booked", some (.ref 152)), ("_law_called", some (.ref 159)), ("_law_run", some (.ref 166)), ("_law_hours", some (.ref 173)), ("_law_due", some (.ref 180)), ("law", some (.ref 185)), ("_netrclex", some (.ref 80)), ("len", none), ("sum", none), ("sorted", none), ("iter", none), ("isinstance", none), ("range", none), ("str", none), ("dict", none), ("tuple", none), ("max", none), ("zip", none)]
noncomputable def tbNames : List (Str × Value) := [("heappush", .ref 21), ("heappop", .ref 28), ("_siftdown", .ref 35), ("_siftup", .ref 42), ("func_std_string", .ref 91), ("add_func_stats", .ref 98), ("add_callers", .ref 105), ("count_calls", .ref 112), ("_law_machine", .ref 119), ("_law_written", .ref 124), ("_law_numbers", .ref 131), ("_law_names", .ref 138), ("_law_text", .ref 145), ("_law_booked", .ref 152), ("_law_called", .ref 159), ("_law_run", .ref 166), ("_law_hours", .ref 173), ("_law_due", .ref 180), ("law", .ref 185), ("_netrclex", .ref 80), ("len", .builtin "len"), ("sum", .builtin "sum"), ("sorted", .builtin "sorted"), ("iter", .builtin "iter"), ("isinstance", .builtin "isinstance"), ("range", .type "range"), ("str", .type "str"), ("dict", .type "dict"), ("tuple", .type "tuple"), ("max", .builtin "max"), ("zip", .type "zip")]
noncomputable def tbFns : List Nat := [21, 28, 35, 42, 56, 63, 70, 77, 91, 98, 105, 112, 119, 124, 131, 138, 145, 152, 159, 166, 173, 180, 185, 80]
noncomputable def dP : DefRec := ⟨"law", fd185.params, stmtsOf (at_ bodyP 23), fd185.scope, posOf (at_ bodyP 23)⟩
 abbrev rwP : OpenLaw := PySem.Challenge.rw_pg0130_02
noncomputable def hkP : Hook := hk KK asP csP nsP [114] (fun _ => by kernel_rfl)
theorem saidP : rwP.wellSaid = true := by kernel_rfl
theorem leftP : LeftO PP viewP [] (fun s => xlAt viewP [] s && recOk (RowW.records rwP.row.toRowW) s) hkP.obs hkP.val 2072 := by
  intro w
  kernel_rfl
theorem promisedP : rwP.row.toRowW.promised := by w_witness2
theorem headP (call : WalkO viewP [] (XL viewP []) hkP.says rwP.row.toRowW dP [] fun f vs => PySem.call f vs) : rwP.Holds :=
  holds_law saidP fun said => holds_open (r := rwP.row) (q := viewP) (loose := []) (Xt := fun s => xlAt viewP [] s && recOk (RowW.records rwP.row.toRowW) s) (XP := XL viewP []) (Yf := hkP.obs) (Ya := hkP.val) (YP := hkP.says) (N := 2072)
    leftP hkP.of hkP.keeps (fun s e => xl_of s (Bool.and_eq_true_iff.mp e).1) XL.keeps (by rfl) (by rfl) (by rfl) (fun s e => recFacts_of (Bool.and_eq_true_iff.mp e).2) (by rfl) said (by decide +kernel) ⟨rfl, rfl, rfl, rfl, rfl, by decide +kernel⟩ promisedP call
end
noncomputable section
/- arithmetic that the walks lean on -/
theorem half_le {x : Nat} : (x - 1) / 2 ≤ x := Nat.le_trans (Nat.div_le_self _ _) (Nat.sub_le _ _)
theorem half_lt {x : Nat} (h : 0 < x) : (x - 1) / 2 < x := Nat.lt_of_le_of_lt (Nat.div_le_self _ _) (Nat.sub_lt h (by decide))
theorem ar0 {x0 : Nat} : ((0 : Int) ≤ ((x0 : Nat) : Int)) := Int.natCast_nonneg _
theorem ar1 {x0 : Nat} {x1 : Nat} (h1 : ((x0 + (1 : Nat)) ≤ x1)) : (x0 ≠ x1) := Nat.ne_of_lt (Nat.lt_of_lt_of_le (Nat.lt_succ_self _) h1)
theorem ar2 {x0 : Nat} {x1 : Nat} (h1 : (x0 ≤ x1)) : (x0 ≤ x1) := h1
theorem ar3 {x0 : Nat} {x1 : Nat} {x2 : Nat} (h1 : (x0 ≤ x2)) (h2 : ((x2 + (1 : Nat)) ≤ x1)) : (x0 ≤ x1) := Nat.le_trans h1 (Nat.le_trans (Nat.le_succ _) h2)
theorem ar4 {x0 : Nat} (h1 : (x0 ≤ (9000 : Nat))) : (x0 < (9900 : Nat)) := Nat.lt_of_le_of_lt h1 (by decide)
theorem ar5 {x0 : Nat} {x1 : Nat} (h1 : ((x0 + (1 : Nat)) ≤ x1)) : (x0 ≤ x1) := Nat.le_trans (Nat.le_succ _) h1
theorem ar7 {x0 : Nat} : ((x0 + (1 : Nat)) ≠ (x0 + (2 : Nat))) := Nat.ne_of_lt (Nat.lt_succ_self _)
theorem ar8 {x0 : Nat} {x1 : Nat} {x2 : Nat} {x3 : Nat} {x4 : Nat} (h1 : (x0 < x2)) (h2 : (x2 ≤ x3)) (h3 : ((x3 + (1 : Nat)) ≤ x4)) (h4 : ((x4 + (2 : Nat)) ≤ x1)) : (x0 ≠ x1) := (Nat.ne_of_lt (Nat.lt_of_lt_of_le (Nat.lt_trans (Nat.lt_trans (Nat.lt_of_lt_of_le h1 h2) h3) (Nat.lt_add_of_pos_right (by decide))) h4))
theorem ar9 {x0 : Nat} : ((1 : Nat) ≤ (x0 + (1 : Nat))) := Nat.succ_le_succ (Nat.zero_le _)
theorem ar11 {x0 : Nat} {x1 : Nat} {x2 : Nat} {x3 : Nat} (h1 : (x0 < x2)) (h2 : (x2 ≤ x3)) (h3 : ((x3 + (1 : Nat)) ≤ x1)) : (x0 ≠ x1) := (Nat.ne_of_lt (Nat.lt_trans (Nat.lt_of_lt_of_le h1 h2) h3))
theorem ar12 {x0 : Nat} {x1 : Nat} {x2 : Nat} (h1 : (((x2 + (1 : Nat)) ≤ x0) ∧ (x0 < x1))) : (x0 < x1) := h1.2
theorem ar13 {x0 : Nat} : ((((x0 : Nat) : Int) + (1 : Int)) = (((x0 + (1 : Nat)) : Nat) : Int)) := by lia
theorem ar14 {x0 : Nat} : (x0 < (x0 + (1 : Nat))) := Nat.lt_succ_self _
theorem ar15 {x0 : Nat} {x1 : Nat} {x2 : Nat} (h1 : ((x0 + ((4 : Nat) * (x1 + (1 : Nat)))) < x2)) : (((x0 + (1 : Nat)) + ((4 : Nat) * x1)) < x2) := by lia
theorem ar16 {x0 : Nat} {x1 : Nat} {x2 : Nat} (h1 : ((x0 + ((4 : Nat) * (x2 + (1 : Nat)))) < x1)) : (x0 < x1) := (Nat.lt_of_le_of_lt (Nat.le_add_right _ _) h1)
theorem ar17 {x0 : Nat} {x1 : Nat} {x2 : Nat} (h1 : ((x0 + (x1 + (1 : Nat))) ≤ x2)) : (((x0 + (1 : Nat)) + x1) ≤ x2) := by lia
theorem ar18 {x0 : Nat} {x1 : Nat} {x2 : Nat} (h1 : (x0 ≤ ((x1 + (1 : Nat)) + x2))) : (x0 ≤ (x1 + (x2 + (1 : Nat)))) := by lia
theorem ar19 {x0 : Nat} {x1 : Nat} (h1 : (x0 = x1)) : (x0 ≤ x1) := (Nat.le_of_eq h1)
theorem ar20 {x0 : Nat} (h1 : (x0 < (64 : Nat))) : (x0 ≤ (16777216 : Nat)) := Nat.le_of_lt (Nat.lt_trans h1 (by decide))
theorem ar21 {x0 : Nat} {x1 : Nat} (h1 : (¬ (x1 ≤ x0))) : (x0 ≤ x1) := (Nat.le_of_lt (Nat.not_le.mp h1))
theorem ar22 {x0 : Nat} {x1 : Nat} {x2 : Nat} (h1 : (x1 = x2)) (h2 : (x0 < x2)) : (((x0 : Nat) : Int) < ((x1 : Nat) : Int)) := (Int.ofNat_lt.mpr (Nat.lt_of_lt_of_le h2 (Nat.le_of_eq h1.symm)))
theorem ar24 {x0 : Nat} (h1 : ((x0 + (1 : Nat)) ≤ (4 : Nat))) : (x0 ≤ (4 : Nat)) := Nat.le_trans (Nat.le_succ _) h1
theorem ar27 {x0 : Nat} {x1 : Nat} (h1 : ((x1 + (1 : Nat)) ≤ x0)) : (x0 ≠ x1) := (Nat.ne_of_gt h1)
theorem ar28 {x0 : Nat} {x1 : Nat} {x2 : Nat} (h1 : (x2 ≤ x1)) (h2 : (x0 < x2)) : (x0 ≠ (x1 + (1 : Nat))) := (Nat.ne_of_lt (Nat.lt_trans (Nat.lt_of_lt_of_le h2 h1) (Nat.lt_succ_self _)))
theorem ar29 {x0 : Nat} {x1 : Nat} {x2 : Nat} {x3 : Nat} (h1 : (x0 < x2)) (h2 : ((x2 + (1 : Nat)) ≤ x3)) (h3 : (x3 < x1)) : (x0 ≠ x1) := (Nat.ne_of_lt (Nat.lt_trans (Nat.lt_trans h1 h2) h3))
theorem ar30 {x0 : Nat} {x1 : Nat} (h1 : (x0 ≤ x1)) (h2 : (¬ (x0 < x1))) : (x0 = x1) := (Nat.le_antisymm h1 (Nat.not_lt.mp h2))
theorem ar31 {x0 : Nat} {x1 : Nat} (h1 : (x1 ≤ (50 : Nat))) (h2 : (x0 ≤ (9000 : Nat))) : (((x0 + (1 : Nat)) + ((4 : Nat) * x1)) < (9900 : Nat)) := by lia
theorem ar32 {x0 : Nat} {x1 : Nat} {x2 : Nat} (h1 : ((x0 + (x2 + (1 : Nat))) ≤ x1)) : (x0 < x1) := by lia
theorem ar33 {x0 : Nat} {x1 : Nat} {x2 : Nat} (h1 : ((1 : Nat) ≤ x0)) (h2 : ((x0 + (x2 + (1 : Nat))) ≤ x1)) : ((x0 - (1 : Nat)) < x1) := Nat.lt_of_lt_of_le (Nat.sub_lt h1 (by decide)) (Nat.le_trans (Nat.le_add_right _ _) h2)
theorem ar34 {x0 : Nat} : (((0 : Nat) + (1 : Nat)) ≤ (x0 + (1 : Nat))) := Nat.succ_le_succ (Nat.zero_le _)
theorem ar35 {x0 : Nat} {x1 : Nat} (h1 : (x0 < (x1 + (1 : Nat)))) (h2 : (¬ (x0 = x1))) : (x0 < x1) := by lia
theorem ar36 {x0 : Nat} {x1 : Nat} {x2 : Nat} (h1 : ((x2 + (1 : Nat)) ≤ x1)) (h2 : (x0 ≤ ((x2 + (1 : Nat)) + (x1 - (x2 + (1 : Nat)))))) : (x0 ≤ x1) := Nat.le_trans h2 (Nat.le_of_eq (Nat.add_sub_cancel' h1))
theorem ar37 {x0 : Nat} : (x0 ≤ ((0 : Nat) + x0)) := (Nat.le_add_left _ _)
theorem ar38 {x0 : Nat} {x1 : Nat} (h1 : ((1 : Nat) ≤ x1)) (h2 : (x0 < (x1 + (1 : Nat)))) : ((x0 - (1 : Nat)) < x1) := by lia
theorem ar39 {x0 : Nat} {x1 : Nat} {x2 : Nat} (h1 : (x2 = x1)) (h2 : (x0 < x2)) : (x0 < x1) := (Nat.lt_of_lt_of_le h2 (Nat.le_of_eq h1))
theorem ar40 {x0 : Nat} {x1 : Nat} {x2 : Nat} (h1 : (x1 = x2)) (h2 : (x0 < x2)) : (x0 < x1) := (Nat.lt_of_lt_of_le h2 (Nat.le_of_eq h1.symm))
theorem ar41 {x0 : Nat} : (x0 < (((2 : Nat) * x0) + (1 : Nat))) := by lia
theorem ar42 {x0 : Nat} {x1 : Nat} (h1 : (x0 < x1)) : (x0 ≠ x1) := Nat.ne_of_lt h1
theorem ar43 {x0 : Nat} {x1 : Nat} (h1 : (x1 < ((2 : Nat) ^ (20 : Nat)))) (h2 : (x0 = x1)) : (x0 < ((2 : Nat) ^ (40 : Nat))) := (Nat.lt_trans (Nat.lt_of_le_of_lt (Nat.le_of_eq h2) h1) (by decide))
theorem ar44 {x0 : Nat} (h1 : (x0 < ((2 : Nat) ^ (19 : Nat)))) : (x0 < ((2 : Nat) ^ (40 : Nat))) := Nat.lt_trans h1 (by decide)
theorem ar48 {x0 : Nat} {x1 : Nat} {x2 : Nat} (h1 : ((x0 + (1 : Nat)) ≤ x2)) (h2 : (x2 < x1)) : (x0 ≠ x1) := (Nat.ne_of_lt (Nat.lt_trans h1 h2))
theorem ar49 {x0 : Nat} {x1 : Nat} (h1 : ((x0 + (1 : Nat)) ≤ x1)) : (x0 < x1) := Nat.lt_of_lt_of_le (Nat.lt_succ_self _) h1
theorem ar52 {x0 : Nat} {x1 : Nat} (h1 : ((x0 + (x1 + (1 : Nat))) ≤ (900 : Nat))) : (x0 < (1000 : Nat)) := (Nat.lt_of_le_of_lt (Nat.le_trans (Nat.le_add_right _ _) h1) (by decide))
theorem ar53 {x0 : Nat} (h1 : (x0 < ((2 : Nat) ^ (40 : Nat)))) : (¬ (((x0 : Nat) : Int) ≥ ((2 : Int) ^ (63 : Nat)))) := by lia
theorem ar54 {x0 : Nat} {x1 : Nat} (h1 : (x1 < ((2 : Nat) ^ (20 : Nat)))) (h2 : ((x1 + (1 : Nat)) = x0)) : (x0 ≤ ((2 : Nat) ^ (24 : Nat))) := (Nat.le_of_lt (Nat.lt_of_le_of_lt (Nat.le_trans (Nat.le_of_eq h2.symm) (Nat.succ_le_of_lt h1)) (by decide)))
theorem ar55 {x0 : Nat} {x1 : Nat} (h1 : ((x1 + (1 : Nat)) = x0)) : ((0 : Nat) < x0) := by lia
theorem ar56 {x0 : Int} (h1 : (x0 < ((2 : Int) ^ (60 : Nat)))) : (x0 < ((2 : Int) ^ (63 : Nat))) := by lia
theorem ar57 {x0 : Nat} {x1 : Nat} {x2 : Nat} (h1 : (x2 ≤ x1)) (h2 : (x0 < x2)) : (x0 ≠ x1) := (Nat.ne_of_lt (Nat.lt_of_lt_of_le h2 h1))
theorem ar58 {x0 : Nat} {x1 : Nat} {x2 : Nat} {x3 : Nat} (h1 : (x2 ≤ x3)) (h2 : (x3 < x1)) (h3 : (x0 ≤ x2)) : (x0 ≤ (x1 + (1 : Nat))) := (Nat.le_of_lt (Nat.lt_trans (Nat.lt_of_le_of_lt (Nat.le_trans h3 h1) h2) (Nat.lt_succ_self _)))
theorem ar59 {x0 : Nat} {x1 : Nat} {x2 : Nat} (h1 : (x0 ≤ x2)) (h2 : (x2 ≤ x1)) : (x0 ≤ x1) := Nat.le_trans h1 h2
theorem ar60 {x0 : Nat} (h1 : (x0 < ((2 : Nat) ^ (20 : Nat)))) : (x0 ≤ (16777216 : Nat)) := Nat.le_of_lt (Nat.lt_trans h1 (by decide))
theorem ar61 {x0 : Nat} (h1 : ((1 : Nat) ≤ x0)) : ((x0 - (1 : Nat)) < x0) := by lia
theorem ar62 {x0 : Nat} {x1 : Nat} : (x0 ≤ (x0 + (x1 + (1 : Nat)))) := (Nat.le_add_right _ _)
theorem ar63 {x0 : Nat} {x1 : Nat} (h1 : (((x1 + (1 : Nat)) - ((0 : Nat) + (1 : Nat))) ≤ x0)) (h2 : (x0 < (x1 + (1 : Nat)))) : (x0 = ((x1 + (1 : Nat)) - (1 : Nat))) := by lia
theorem ar64 {x0 : Nat} {x1 : Nat} (h1 : ((1 : Nat) ≤ x0)) : (((((0 : Nat) + x0) - (1 : Nat)) - x1) < x0) := by rw [Nat.zero_add]; exact Nat.lt_of_le_of_lt (Nat.sub_le _ _) (Nat.sub_lt h1 (by decide))
theorem ar65 {x0 : Nat} {x1 : Nat} (h1 : ((x1 + (1 : Nat)) ≤ x0)) : ((1 : Nat) ≤ x0) := by lia
theorem ar66 {x0 : Nat} {x1 : Nat} (h1 : ((1 : Nat) ≤ x1)) (h2 : (x0 ≤ ((1 : Nat) + (x1 - (1 : Nat))))) (h3 : (¬ (x0 = x1))) : (x0 ≤ x1) := by lia
theorem ar67 {x0 : Nat} (h1 : ((1 : Nat) ≤ x0)) : ((1 : Nat) ≤ x0) := h1
theorem ar68 {x0 : Nat} {x1 : Nat} {x2 : Nat} (h1 : ((x0 + (x2 + (1 : Nat))) = x1)) : (x0 < x1) := by lia
theorem ar69 {x0 : Nat} {x1 : Nat} (h1 : ((1 : Nat) ≤ x0)) : ((x0 - x1) ≤ x0) := (Nat.sub_le _ _)
theorem ar70 {x0 : Nat} {x1 : Nat} (h1 : ((1 : Nat) ≤ x0)) (h2 : (x1 = x0)) (h3 : (¬ (x1 < (2 : Nat)))) : ((2 : Nat) ≤ x0) := (Nat.le_trans (Nat.not_lt.mp h3) (Nat.le_of_eq h2))
theorem ar71 {x0 : Nat} (h1 : ((0 : Nat) < x0)) (h2 : ((0 : Nat) < ((x0 - (1 : Nat)) / (2 : Nat)))) : (¬ (x0 = ((((x0 - (1 : Nat)) / (2 : Nat)) - (1 : Nat)) / (2 : Nat)))) := fun e => absurd (Nat.le_trans (Nat.le_of_eq e) (Nat.le_trans (Nat.div_le_self _ _) (Nat.le_trans (Nat.sub_le _ _) (Nat.div_le_self _ _)))) (Nat.not_le.mpr (Nat.sub_lt h1 (by decide)))
theorem ar72 {x0 : Nat} : ((((((2 : Nat) * x0) + (1 : Nat)) - (1 : Nat)) / (2 : Nat)) = x0) := Nat.mul_div_cancel_left x0 (by decide)
theorem ar73 {x0 : Nat} {x1 : Nat} (h1 : ((0 : Nat) < x0)) (h2 : (((x0 - (1 : Nat)) / (2 : Nat)) = x1)) : ((x0 = (((2 : Nat) * x1) + (1 : Nat))) ∨ (x0 = (((2 : Nat) * x1) + (2 : Nat)))) := by have e := Nat.div_add_mod (x0 - 1) 2; rw [h2] at e; have s : x0 = (x0 - 1) + 1 := (Nat.sub_add_cancel h1).symm; rcases Nat.mod_two_eq_zero_or_one (x0 - 1) with q | q <;> rw [q] at e; exact .inl (s.trans (congrArg (· + 1) e.symm)); exact .inr (s.trans (congrArg (· + 1) e.symm))
theorem ar74 {x0 : Nat} : (x0 < (((2 : Nat) * x0) + (2 : Nat))) := by lia
theorem ar75 {x0 : Nat} {x1 : Nat} {x2 : Nat} {x3 : Nat} (h1 : (x0 ≤ (x3 + (x2 + (1 : Nat))))) (h2 : (x3 < x1)) : (x0 ≤ (x1 + x2)) := Nat.le_trans h1 (by rw [show x3 + (x2 + 1) = x3 + 1 + x2 by rw [Nat.add_assoc, Nat.add_comm 1]]; exact Nat.add_le_add_right h2 _)
theorem ar76 {x0 : Nat} (h1 : (x0 < ((2 : Nat) ^ (19 : Nat)))) : (x0 < ((2 : Nat) ^ (20 : Nat))) := Nat.lt_trans h1 (by decide)
theorem ar77 {x0 : Nat} {x1 : Nat} (h1 : (x1 < ((2 : Nat) ^ (19 : Nat)))) (h2 : (x0 = x1)) : (x0 < ((2 : Nat) ^ (40 : Nat))) := (Nat.lt_trans (Nat.lt_of_le_of_lt (Nat.le_of_eq h2) h1) (by decide))
theorem ar81 {x0 : Nat} {x1 : Nat} (h1 : (x0 = x1)) : (x0 = x1) := h1
theorem ar82 {x0 : Nat} (h1 : (x0 < (1000 : Nat))) : (x0 < (1099511627776 : Nat)) := Nat.lt_trans h1 (by decide)
theorem ar86 {x0 : Nat} (h1 : (x0 ≤ (1000 : Nat))) : (x0 ≤ (1000000 : Nat)) := Nat.le_trans h1 (by decide)
theorem ar87 {x0 : Nat} {x1 : Nat} {x2 : Nat} (h1 : ((x1 + x2) < ((2 : Nat) ^ (19 : Nat)))) (h2 : (x0 ≤ (x1 + x2))) : (x0 < ((2 : Nat) ^ (20 : Nat))) := (Nat.lt_trans (Nat.lt_of_le_of_lt h2 h1) (by decide))
theorem ar94 {x0 : Nat} : ((x0 + (2 : Nat)) ≠ (x0 + (1 : Nat))) := Nat.ne_of_gt (Nat.lt_succ_self _)
theorem ar107 {x0 : Nat} (h1 : (x0 < (1000 : Nat))) : (x0 < (1048576 : Nat)) := Nat.lt_trans h1 (by decide)
theorem ar108 {x0 : Nat} {x1 : Nat} (h1 : ((x0 + ((x1 + (1 : Nat)) + (1 : Nat))) ≤ (10000 : Nat))) : ((x0 + (1 : Nat)) ≤ (16777216 : Nat)) := by lia
theorem ar109 {x0 : Nat} : (x0 < ((x0 + (1 : Nat)) + (1 : Nat))) := by lia
theorem ar110 {x0 : Nat} {x1 : Nat} (h1 : ((x0 + ((x1 + (1 : Nat)) + (1 : Nat))) ≤ (10000 : Nat))) : (((x0 + (1 : Nat)) + x1) ≤ (10000 : Nat)) := by lia
theorem ar111 {x0 : Nat} {x1 : Nat} (h1 : ((x0 + (x1 + (1 : Nat))) ≤ (10000 : Nat))) : ((x0 + (1 : Nat)) ≤ (16777216 : Nat)) := by lia
theorem ar112 {x0 : Nat} {x1 : Nat} (h1 : ((x0 + (x1 + (1 : Nat))) ≤ (10000 : Nat))) : (((x0 + (1 : Nat)) + x1) ≤ (10000 : Nat)) := by lia
theorem ar113 {x0 : Nat} {x1 : Nat} {x2 : Nat} {x3 : Nat} (h1 : (x2 ≤ x3)) (h2 : ((x3 + (1 : Nat)) ≤ x1)) (h3 : (x0 < x2)) : (x0 ≠ x1) := (Nat.ne_of_lt (Nat.lt_trans (Nat.lt_of_lt_of_le h3 h1) h2))
theorem ar114 {x0 : Nat} {x1 : Nat} (h1 : ((x1 + (2 : Nat)) ≤ x0)) : (x0 ≠ x1) := (Nat.ne_of_gt (Nat.lt_of_lt_of_le (Nat.lt_add_of_pos_right (by decide)) h1))
theorem ar115 {x0 : Nat} {x1 : Nat} {x2 : Nat} (h1 : (x2 ≤ x1)) (h2 : (x0 < x2)) : (x0 ≠ (x1 + (2 : Nat))) := (Nat.ne_of_lt (Nat.lt_trans (Nat.lt_of_lt_of_le h2 h1) (Nat.lt_add_of_pos_right (by decide))))
theorem ar116 {x0 : Nat} {x1 : Nat} {x2 : Nat} {x3 : Nat} (h1 : (x1 < x2)) (h2 : ((x1 + (2 : Nat)) < x2)) (h3 : (x2 ≤ x3)) (h4 : ((x3 + (1 : Nat)) ≤ x0)) : (x0 ≠ (x1 + (2 : Nat))) := (Nat.ne_of_gt (Nat.lt_trans (Nat.lt_of_lt_of_le h2 h3) h4))
theorem ar117 {x0 : Nat} {x1 : Nat} {x2 : Nat} {x3 : Nat} {x4 : Nat} (h1 : (x1 ≤ x2)) (h2 : ((x2 + (2 : Nat)) < x3)) (h3 : (x3 ≤ x4)) (h4 : ((114 : Nat) < x1)) (h5 : ((x4 + (1 : Nat)) ≤ x0)) : ((114 : Nat) ≠ x0) := (Nat.ne_of_lt (Nat.lt_trans (Nat.lt_of_lt_of_le (Nat.lt_trans (Nat.lt_trans (Nat.lt_of_lt_of_le h4 h1) (Nat.lt_add_of_pos_right (by decide))) h2) h3) h5))
theorem ar118 {x0 : Nat} {x1 : Nat} {x2 : Nat} {x3 : Nat} {x4 : Nat} {x5 : Nat} {x6 : Nat} (h1 : ((x0 + (2 : Nat)) < x2)) (h2 : (x2 ≤ x3)) (h3 : ((x3 + (1 : Nat)) ≤ x4)) (h4 : (x4 < x5)) (h5 : ((x5 + (1 : Nat)) ≤ x6)) (h6 : (x6 < x1)) : ((x0 + (1 : Nat)) ≠ x1) := (Nat.ne_of_lt (Nat.lt_trans (Nat.lt_trans (Nat.lt_trans (Nat.lt_trans (Nat.lt_of_lt_of_le (Nat.lt_trans (Nat.add_lt_add_left (by decide) _) h1) h2) h3) h4) h5) h6))
theorem ar119 {x0 : Nat} {x1 : Nat} {x2 : Nat} {x3 : Nat} {x4 : Nat} {x5 : Nat} {x6 : Nat} (h1 : ((x0 + (2 : Nat)) < x2)) (h2 : (x2 ≤ x3)) (h3 : ((x3 + (1 : Nat)) ≤ x4)) (h4 : (x4 < x5)) (h5 : ((x5 + (1 : Nat)) ≤ x6)) (h6 : (x6 < x1)) : ((x0 + (2 : Nat)) ≠ x1) := (Nat.ne_of_lt (Nat.lt_trans (Nat.lt_trans (Nat.lt_trans (Nat.lt_trans (Nat.lt_of_lt_of_le h1 h2) h3) h4) h5) h6))
theorem ar120 {x0 : Nat} {x1 : Nat} {x2 : Nat} {x3 : Nat} {x4 : Nat} (h1 : ((x0 + (1 : Nat)) ≤ x2)) (h2 : (x2 < x3)) (h3 : ((x3 + (1 : Nat)) ≤ x4)) (h4 : (x4 < x1)) : (x0 ≠ x1) := (Nat.ne_of_lt (Nat.lt_trans (Nat.lt_trans (Nat.lt_trans h1 h2) h3) h4))
theorem ar121 {x0 : Nat} {x1 : Nat} (h1 : (x1 ≤ x0)) (h2 : ((114 : Nat) < x1)) : ((x0 + (1 : Nat)) ≠ (114 : Nat)) := (Nat.ne_of_gt (Nat.lt_trans (Nat.lt_of_lt_of_le h2 h1) (Nat.lt_succ_self _)))
theorem ar122 {x0 : Nat} {x1 : Nat} {x2 : Nat} {x3 : Nat} (h1 : ((x0 + (2 : Nat)) < x2)) (h2 : (x2 ≤ x3)) (h3 : ((x3 + (1 : Nat)) ≤ x1)) : ((x0 + (1 : Nat)) ≠ x1) := (Nat.ne_of_lt (Nat.lt_trans (Nat.lt_of_lt_of_le (Nat.lt_trans (Nat.add_lt_add_left (by decide) _) h1) h2) h3))
theorem ar123 {x0 : Nat} {x1 : Nat} (h1 : (x1 ≤ x0)) (h2 : ((114 : Nat) < x1)) : ((x0 + (2 : Nat)) ≠ (114 : Nat)) := (Nat.ne_of_gt (Nat.lt_trans (Nat.lt_of_lt_of_le h2 h1) (Nat.lt_add_of_pos_right (by decide))))
theorem ar124 {x0 : Nat} {x1 : Nat} {x2 : Nat} {x3 : Nat} (h1 : (x0 < x2)) (h2 : ((x0 + (2 : Nat)) < x2)) (h3 : (x2 ≤ x3)) (h4 : ((x3 + (1 : Nat)) ≤ x1)) : ((x0 + (2 : Nat)) ≠ x1) := (Nat.ne_of_lt (Nat.lt_trans (Nat.lt_of_lt_of_le h2 h3) h4))
theorem ar125 {x0 : Nat} {x1 : Nat} {x2 : Nat} {x3 : Nat} (h1 : (x1 ≤ x2)) (h2 : ((x2 + (2 : Nat)) < x3)) (h3 : (x3 ≤ x0)) (h4 : ((114 : Nat) < x1)) : (x0 ≠ (114 : Nat)) := (Nat.ne_of_gt (Nat.lt_of_lt_of_le (Nat.lt_trans (Nat.lt_trans (Nat.lt_of_lt_of_le h4 h1) (Nat.lt_add_of_pos_right (by decide))) h2) h3))
theorem ar126 {x0 : Nat} {x1 : Nat} {x2 : Nat} (h1 : (x0 < x2)) (h2 : ((x2 + (1 : Nat)) ≤ x1)) : (x0 ≠ x1) := (Nat.ne_of_lt (Nat.lt_trans h1 h2))
theorem ar127 {x0 : Nat} {x1 : Nat} {x2 : Nat} {x3 : Nat} {x4 : Nat} {x5 : Nat} {x6 : Nat} {x7 : Nat} {x8 : Nat} (h1 : (x1 ≤ x2)) (h2 : ((x2 + (2 : Nat)) < x3)) (h3 : (x3 ≤ x4)) (h4 : ((114 : Nat) < x1)) (h5 : ((x4 + (1 : Nat)) ≤ x5)) (h6 : (x5 < x6)) (h7 : ((x6 + (1 : Nat)) ≤ x7)) (h8 : (x7 < x8)) (h9 : ((x8 + (1 : Nat)) ≤ x0)) : (x0 ≠ (114 : Nat)) := (Nat.ne_of_gt (Nat.lt_trans (Nat.lt_trans (Nat.lt_trans (Nat.lt_trans (Nat.lt_trans (Nat.lt_of_lt_of_le (Nat.lt_trans (Nat.lt_trans (Nat.lt_of_lt_of_le h4 h1) (Nat.lt_add_of_pos_right (by decide))) h2) h3) h5) h6) h7) h8) h9))
theorem ar128 {x0 : Nat} {x1 : Nat} {x2 : Nat} {x3 : Nat} {x4 : Nat} {x5 : Nat} {x6 : Nat} (h1 : (x2 ≤ x3)) (h2 : ((x3 + (2 : Nat)) < x4)) (h3 : (x4 ≤ x5)) (h4 : (x0 < x2)) (h5 : ((x5 + (1 : Nat)) ≤ x6)) (h6 : ((x6 + (1 : Nat)) ≤ x1)) : (x0 ≠ x1) := (Nat.ne_of_lt (Nat.lt_trans (Nat.lt_trans (Nat.lt_of_lt_of_le (Nat.lt_trans (Nat.lt_trans (Nat.lt_of_lt_of_le h4 h1) (Nat.lt_add_of_pos_right (by decide))) h2) h3) h5) h6))
theorem ar129 {x0 : Nat} {x1 : Nat} {x2 : Nat} {x3 : Nat} {x4 : Nat} (h1 : ((x0 + (2 : Nat)) < x2)) (h2 : (x2 ≤ x3)) (h3 : ((x3 + (1 : Nat)) ≤ x4)) (h4 : ((x4 + (1 : Nat)) ≤ x1)) : ((x0 + (1 : Nat)) ≠ x1) := (Nat.ne_of_lt (Nat.lt_trans (Nat.lt_trans (Nat.lt_of_lt_of_le (Nat.lt_trans (Nat.add_lt_add_left (by decide) _) h1) h2) h3) h4))
theorem ar130 {x0 : Nat} {x1 : Nat} {x2 : Nat} {x3 : Nat} {x4 : Nat} (h1 : ((x0 + (2 : Nat)) < x2)) (h2 : (x2 ≤ x3)) (h3 : ((x3 + (1 : Nat)) ≤ x4)) (h4 : ((x4 + (1 : Nat)) ≤ x1)) : ((x0 + (2 : Nat)) ≠ x1) := (Nat.ne_of_lt (Nat.lt_trans (Nat.lt_trans (Nat.lt_of_lt_of_le h1 h2) h3) h4))
theorem ar131 {x0 : Nat} {x1 : Nat} {x2 : Nat} (h1 : ((x0 + (1 : Nat)) ≤ x2)) (h2 : ((x2 + (1 : Nat)) ≤ x1)) : (x0 ≠ x1) := (Nat.ne_of_lt (Nat.lt_trans h1 h2))
theorem ar132 {x0 : Nat} (h1 : (x0 < (2 : Nat))) : ((x0 = (0 : Nat)) ∨ (x0 = (1 : Nat))) := by lia
theorem ar137 {x0 : Nat} {x1 : Nat} (h1 : ((x0 + (x1 + (1 : Nat))) ≤ (900 : Nat))) : ((x0 + x1) ≤ (900 : Nat)) := by lia
theorem ar138 {x0 : Nat} {x1 : Nat} (h1 : ((x0 + ((50 : Nat) * (x1 + (1 : Nat)))) ≤ (9000 : Nat))) : (((x0 + (1 : Nat)) + ((50 : Nat) * x1)) ≤ (9000 : Nat)) := by lia
theorem ar139 {x0 : Nat} {x1 : Nat} (h1 : ((x0 + (x1 + (1 : Nat))) ≤ (900 : Nat))) : (((x0 + (1 : Nat)) + x1) ≤ (900 : Nat)) := by lia
theorem ar140 {x0 : Nat} {x1 : Nat} (h1 : ((x0 + ((50 : Nat) * (x1 + (1 : Nat)))) ≤ (9000 : Nat))) : (((x0 + (3 : Nat)) + ((50 : Nat) * x1)) ≤ (9000 : Nat)) := by lia
theorem ar143 {x0 : Nat} (h1 : (x0 < ((2 : Nat) ^ (40 : Nat)))) : (((x0 : Nat) : Int) < ((2 : Int) ^ (63 : Nat))) := (Int.lt_of_lt_of_le (Int.ofNat_lt.mpr h1) (by decide))
theorem ar144 {x0 : Int} {x1 : Nat} (h1 : ((0 : Int) ≤ x0)) (h2 : ((Int.toNat x0) < x1)) : (((0 : Int) ≤ x0) ∧ (x0 < ((x1 : Nat) : Int))) := ⟨h1, by rw [← Int.toNat_of_nonneg h1]; exact Int.ofNat_lt.mpr h2⟩
theorem ar145 {x0 : Nat} {x1 : Nat} (h1 : (x1 < ((2 : Nat) ^ (20 : Nat)))) (h2 : (x1 = x0)) : (x0 ≤ ((2 : Nat) ^ (24 : Nat))) := (Nat.le_of_lt (Nat.lt_trans (Nat.lt_of_le_of_lt (Nat.le_of_eq h2.symm) h1) (by decide)))
theorem ar146 {x0 : Nat} {x1 : Nat} (h1 : ((x1 + (1 : Nat)) = x0)) : ((x0 - (1 : Nat)) = x1) := by rw [← h1]; rfl
theorem ar147 {x0 : Nat} {x1 : Nat} (h1 : ((x0 + (1 : Nat)) = x1)) : (x0 < x1) := (Nat.le_of_eq h1)
theorem ar148 {x0 : Nat} {x1 : Nat} (h1 : ((x1 + (1 : Nat)) = x0)) : (x0 ≤ (x1 + (1 : Nat))) := (Nat.le_of_eq h1.symm)
theorem ar152 {x0 : Nat} {x1 : Nat} (h1 : (x1 < ((2 : Nat) ^ (40 : Nat)))) (h2 : (x1 = x0)) : (((x0 : Nat) : Int) < ((2 : Int) ^ (63 : Nat))) := (Int.lt_of_lt_of_le (Int.ofNat_lt.mpr (Nat.lt_of_le_of_lt (Nat.le_of_eq h2.symm) h1)) (by decide))
theorem ar153 {x0 : Int} (h1 : ((0 : Int) ≤ x0)) : ((-((2 : Int) ^ (63 : Nat))) ≤ x0) := by lia
theorem ar154 {x0 : Int} {x1 : Nat} (h1 : (x0 < ((x1 : Nat) : Int))) (h2 : (x1 < ((2 : Nat) ^ (40 : Nat)))) : (x0 < ((2 : Int) ^ (63 : Nat))) := by lia
theorem ar155 {x0 : Int} {x1 : Nat} {x2 : Nat} (h1 : (x0 < ((x2 : Nat) : Int))) (h2 : (x2 = x1)) : (x0 < ((x1 : Nat) : Int)) := by lia
theorem ar156 {x0 : Nat} {x1 : Nat} {x2 : Nat} {x3 : Nat} (h1 : (x2 = x0)) (h2 : (x3 = x1)) (h3 : (x2 = x3)) : (x0 = x1) := (Nat.le_antisymm (Nat.le_trans (Nat.le_trans (Nat.le_of_eq h1.symm) (Nat.le_of_eq h3)) (Nat.le_of_eq h2)) (Nat.le_trans (Nat.le_trans (Nat.le_of_eq h2.symm) (Nat.le_of_eq h3.symm)) (Nat.le_of_eq h1)))
theorem ar157 {x0 : Nat} {x1 : Nat} (h1 : ((x0 + ((50 : Nat) * x1)) ≤ (9000 : Nat))) : (x0 < (9900 : Nat)) := (Nat.lt_of_le_of_lt (Nat.le_trans (Nat.le_add_right _ _) h1) (by decide))
theorem ar158 {x0 : Nat} : (((((((x0 : Nat) : Int) - (0 : Int)) - (1 : Int)) / (1 : Int)) + (1 : Int)) = ((x0 : Nat) : Int)) := by lia
theorem ar159 {x0 : Nat} (h1 : (¬ ((0 : Int) < ((x0 : Nat) : Int)))) : ((0 : Int) = ((x0 : Nat) : Int)) := by lia
theorem ar160 {x0 : Nat} (h1 : (((x0 : Nat) : Int) < ((2 : Int) ^ (60 : Nat)))) : (((x0 : Nat) : Int) < (9223372036854775808 : Int)) := by lia
theorem ar161 {x0 : Nat} : ((((x0 : Nat) : Int) + ((1 : Int) - (1 : Int))) = ((x0 : Nat) : Int)) := by lia
theorem ar162 {x0 : Nat} {x1 : Nat} (h1 : (x1 < x0)) : ((0 : Int) < (((x0 : Nat) : Int) - ((x1 : Nat) : Int))) := by lia
theorem ar163 {x0 : Nat} {x1 : Nat} : (((((x0 : Nat) : Int) - ((x1 : Nat) : Int)) - (1 : Int)) = (((x0 : Nat) : Int) - (((x1 + (1 : Nat)) : Nat) : Int))) := by lia
theorem ar164 {x0 : Nat} : ((((x0 : Nat) : Int) - ((x0 : Nat) : Int)) ≤ (0 : Int)) := by lia
theorem ar165 {x0 : Nat} : ((((x0 : Nat) : Int) - (((0 : Nat) : Nat) : Int)) = ((x0 : Nat) : Int)) := by lia
theorem ar166 {x0 : Nat} {x1 : Nat} {x2 : Nat} (h1 : (x0 ≤ x1)) (h2 : (x1 < x2)) (h3 : (x2 < x0)) : False := by lia
theorem ar167 {x0 : Nat} {x1 : Nat} {x2 : Nat} {x3 : Nat} (h1 : (x0 ≤ x2)) (h2 : (x2 ≤ x3)) (h3 : ((x3 + (1 : Nat)) ≤ x1)) : (x0 ≤ x1) := (Nat.le_of_lt (Nat.lt_of_le_of_lt (Nat.le_trans h1 h2) h3))
theorem ar168 {x0 : Nat} {x1 : Nat} {x2 : Nat} (h1 : (x0 ≤ x2)) (h2 : (x1 = x2)) : (x0 ≤ x1) := (Nat.le_trans h1 (Nat.le_of_eq h2.symm))
theorem ar169 {x0 : Nat} {x1 : Nat} {x2 : Nat} (h1 : (x1 < (1000 : Nat))) (h2 : (x0 ≤ x2)) (h3 : (x2 ≤ (x1 + (1 : Nat)))) : (x0 ≤ ((16777216 : Nat) + (1 : Nat))) := (Nat.le_of_lt (Nat.lt_of_le_of_lt (Nat.le_trans (Nat.le_trans h2 h3) (Nat.succ_le_of_lt h1)) (by decide)))
theorem ar170 {x0 : Nat} {x1 : Nat} {x2 : Nat} (h1 : (x1 ≤ (1 : Nat))) (h2 : ((x0 + (x2 + (1 : Nat))) ≤ (900 : Nat))) : (((x0 + x1) + x2) ≤ (900 : Nat)) := by lia
theorem ar171 {x0 : Nat} {x1 : Nat} {x2 : Nat} (h1 : (x1 ≤ (50 : Nat))) (h2 : ((x0 + ((50 : Nat) * (x2 + (1 : Nat)))) ≤ (9000 : Nat))) : (((x0 + x1) + ((50 : Nat) * x2)) ≤ (9000 : Nat)) := by lia
theorem ar172 {x0 : Nat} : (x0 ≤ (x0 + (2 : Nat))) := (Nat.le_of_lt (Nat.lt_add_of_pos_right (by decide)))
theorem ar173 {x0 : Nat} (h1 : (x0 ≤ (1 : Nat))) : (x0 ≤ ((16777216 : Nat) + (1 : Nat))) := Nat.le_trans h1 (by decide)
theorem ar174 {x0 : Nat} {x1 : Nat} {x2 : Nat} {x3 : Nat} (h1 : (x2 ≤ x3)) (h2 : (x3 < x1)) (h3 : (x0 < x2)) : (x0 ≠ x1) := (Nat.ne_of_lt (Nat.lt_trans (Nat.lt_of_lt_of_le h3 h1) h2))
theorem ar175 {x0 : Nat} {x1 : Nat} {x2 : Nat} (h1 : (x2 < x1)) (h2 : (x0 = x2)) : (x0 < (x1 + (1 : Nat))) := (Nat.lt_trans (Nat.lt_of_le_of_lt (Nat.le_of_eq h2) h1) (Nat.lt_succ_self _))
theorem ar176 {x0 : Nat} {x1 : Nat} {x2 : Nat} {x3 : Nat} {x4 : Nat} (h1 : (x2 ≤ x3)) (h2 : (x3 < x1)) (h3 : (x4 < x2)) (h4 : (x0 = x4)) : (x0 < (x1 + (1 : Nat))) := (Nat.lt_trans (Nat.lt_trans (Nat.lt_of_lt_of_le (Nat.lt_of_le_of_lt (Nat.le_of_eq h4) h3) h1) h2) (Nat.lt_succ_self _))
theorem ar177 {x0 : Nat} {x1 : Nat} {x2 : Nat} {x3 : Nat} {x4 : Nat} (h1 : (x2 ≤ x3)) (h2 : (x3 < x1)) (h3 : (x0 < x4)) (h4 : (x4 ≤ x2)) : (x0 < (x1 + (1 : Nat))) := (Nat.lt_trans (Nat.lt_trans (Nat.lt_of_lt_of_le (Nat.lt_of_lt_of_le h3 h4) h1) h2) (Nat.lt_succ_self _))
theorem ar178 {x0 : Nat} {x1 : Nat} {x2 : Nat} {x3 : Nat} (h1 : (x2 ≤ x3)) (h2 : (x3 < x1)) (h3 : (x0 < x2)) : (x0 < (x1 + (1 : Nat))) := (Nat.lt_trans (Nat.lt_trans (Nat.lt_of_lt_of_le h3 h1) h2) (Nat.lt_succ_self _))
theorem ar179 {x0 : Nat} {x1 : Nat} {x2 : Nat} {x3 : Nat} {x4 : Nat} (h1 : (x0 ≤ x2)) (h2 : (x2 ≤ x3)) (h3 : (x3 ≤ x4)) (h4 : (x4 ≤ x1)) : (x0 ≤ x1) := (Nat.le_trans (Nat.le_trans (Nat.le_trans h1 h2) h3) h4)
theorem ar180 {x0 : Nat} {x1 : Nat} {x2 : Nat} {x3 : Nat} (h1 : (x0 < x2)) (h2 : (x2 ≤ x3)) (h3 : (x3 ≤ x1)) : (x0 < x1) := Nat.lt_of_lt_of_le h1 (Nat.le_trans h2 h3)
theorem ar181 {x0 : Nat} (h1 : (x0 < (30 : Nat))) : (((x0 + (0 : Nat)) + (0 : Nat)) < (30 : Nat)) := by lia
theorem ar182 {x0 : Nat} (h1 : ((0 : Nat) < x0)) : (x0 = ((x0 - (1 : Nat)) + (1 : Nat))) := (Nat.sub_add_cancel h1).symm
theorem ar183 {x0 : Int} (h1 : ((0 : Int) ≤ x0)) : (¬ (x0 < (-((2 : Int) ^ (63 : Nat))))) := by lia
theorem ar184 {x0 : Int} (h1 : (x0 < ((2 : Int) ^ (60 : Nat)))) : (¬ (x0 ≥ ((2 : Int) ^ (63 : Nat)))) := by lia
theorem ar185 {x0 : Nat} : (((1 : Int) + ((x0 : Nat) : Int)) = (((x0 : Nat) : Int) + (1 : Int))) := by lia
theorem ar187 {x0 : Int} (h1 : ((Int.natAbs x0) < ((2 : Nat) ^ (30 : Nat)))) (h2 : ((0 : Int) ≤ x0)) : (x0 < (1073741824 : Int)) := by lia
theorem ar188 {x0 : Nat} {x1 : Nat} (h1 : ((x0 + ((50 : Nat) * x1)) ≤ (9000 : Nat))) : (x0 ≤ (9000 : Nat)) := Nat.le_trans (Nat.le_add_right _ _) h1
theorem ar190 {x0 : Nat} {x1 : Nat} (h1 : (x0 < ((0 : Nat) + x1))) : (x0 < x1) := by lia
theorem ar191 {x0 : Nat} {x1 : Nat} {x2 : Nat} (h1 : (x2 ≤ (1 : Nat))) (h2 : (x0 ≤ x1)) (h3 : (x1 < x2)) : (x0 = x1) := by lia
theorem ar192 {x0 : Nat} {x1 : Nat} (h1 : (x0 < (x1 + (1 : Nat)))) (h2 : (¬ (x0 < x1))) : (x0 = x1) := (Nat.le_antisymm (Nat.le_of_lt_succ h1) (Nat.not_lt.mp h2))
theorem ar193 {x0 : Nat} {x1 : Nat} (h1 : (x0 ≤ x1)) (h2 : ((1 : Nat) ≤ x1)) (h3 : (¬ (x0 = x1))) : (x0 ≤ (x1 - (1 : Nat))) := Nat.le_sub_one_of_lt (Nat.lt_of_le_of_ne h1 h3)
theorem ar194 {x0 : Nat} {x1 : Nat} {x2 : Nat} (h1 : (x0 = ((x1 + (1 : Nat)) + x2))) : (x0 = (x1 + (x2 + (1 : Nat)))) := by lia
theorem ar195 {x0 : Nat} {x1 : Nat} {x2 : Nat} (h1 : (((x0 - (x1 + (1 : Nat))) ≤ x2) ∧ (x2 < x0))) : ((x0 - (x1 + (1 : Nat))) ≤ ((((x0 - (x1 + (1 : Nat))) + x0) - (1 : Nat)) - x2)) := by lia
theorem ar196 {x0 : Nat} {x1 : Nat} {x2 : Nat} (h1 : (((x0 - (x1 + (1 : Nat))) ≤ x2) ∧ (x2 < x0))) : (((((x0 - (x1 + (1 : Nat))) + x0) - (1 : Nat)) - x2) < x0) := Nat.lt_of_le_of_lt (Nat.sub_le_sub_right (Nat.sub_le_sub_right (Nat.add_le_add_right h1.1 x0) 1) x2) (by rw [Nat.sub_right_comm, Nat.add_sub_cancel_left]; exact Nat.sub_lt (Nat.lt_of_le_of_lt (Nat.zero_le _) h1.2) (by decide))
theorem ar197 {x0 : Nat} {x1 : Nat} {x2 : Nat} (h1 : ((x0 + (x2 + (1 : Nat))) ≤ x1)) : (x0 ≤ x1) := Nat.le_trans (Nat.le_add_right _ _) h1
theorem ar198 {x0 : Nat} {x1 : Nat} (h1 : ((x0 + (1 : Nat)) ≤ x1)) : (((x0 + (1 : Nat)) + (1 : Nat)) ≤ (x1 + (1 : Nat))) := (Nat.succ_le_succ h1)
theorem ar199 {x0 : Nat} {x1 : Nat} {x2 : Nat} (h1 : (((x0 + (1 : Nat)) - ((x1 + (1 : Nat)) + (1 : Nat))) ≤ x2)) : ((x0 - (x1 + (1 : Nat))) ≤ x2) := by lia
theorem ar200 {x0 : Nat} {x1 : Nat} (h1 : (x0 ≤ x1)) : ((x0 + (x1 - x0)) ≤ x1) := Nat.le_of_eq (Nat.add_sub_cancel' h1)
theorem ar201 {x0 : Nat} {x1 : Nat} (h1 : ((1 : Nat) ≤ x1)) (h2 : (x1 ≤ x0)) : ((1 : Nat) ≤ x0) := Nat.le_trans h1 h2
theorem ar202 {x0 : Nat} {x1 : Nat} {x2 : Nat} (h1 : (x2 ≤ x1)) (h2 : (x0 ≤ (x2 + (x1 - x2)))) : (x0 ≤ x1) := by lia
theorem ar203 {x0 : Nat} {x1 : Nat} {x2 : Nat} (h1 : (x0 ≤ x2)) (h2 : (x2 < x1)) : (((0 : Nat) ≤ x0) ∧ (x0 < x1)) := ⟨(Nat.zero_le _), (Nat.lt_of_le_of_lt h1 h2)⟩
theorem ar204 {x0 : Nat} {x1 : Nat} (h1 : (x0 < x1)) : (((0 : Nat) ≤ x0) ∧ (x0 < x1)) := ⟨(Nat.zero_le _), h1⟩
theorem ar205 {x0 : Nat} {x1 : Nat} {x2 : Nat} (h1 : (x2 ≤ x1)) (h2 : (x1 < x0)) : (((((0 : Nat) + x0) - (1 : Nat)) - x1) ≤ ((((0 : Nat) + x0) - (1 : Nat)) - x2)) := Nat.sub_le_sub_left h1 _
theorem ar206 {x0 : Nat} {x1 : Nat} (h1 : ((x0 + (1 : Nat)) ≤ x1)) : (((x0 + (1 : Nat)) + (x1 - (x0 + (1 : Nat)))) ≤ x1) := Nat.le_of_eq (Nat.add_sub_cancel' h1)
theorem ar207 {x0 : Nat} (h1 : ((1 : Nat) ≤ x0)) : (((1 : Nat) + (x0 - (1 : Nat))) ≤ x0) := Nat.le_of_eq (Nat.add_sub_cancel' h1)
theorem ar208 {x0 : Nat} {x1 : Nat} (h1 : ((1 : Nat) ≤ x1)) (h2 : (¬ (x0 = x1))) : (¬ (x0 = ((1 : Nat) + (x1 - (1 : Nat))))) := by lia
theorem ar209 {x0 : Nat} (h1 : ((1 : Nat) ≤ x0)) : ((0 : Nat) < x0) := Nat.lt_of_lt_of_le (Nat.lt_succ_self _) h1
theorem ar210 {x0 : Nat} {x1 : Nat} (h1 : ((1 : Nat) ≤ x1)) (h2 : ((1 : Nat) ≤ x0)) (h3 : (x0 ≤ ((1 : Nat) + (x1 - (1 : Nat))))) (h4 : (¬ (x0 = x1))) : ((x0 - (1 : Nat)) < x1) := Nat.lt_of_lt_of_le (Nat.sub_lt h2 (by decide)) (Nat.le_trans h3 (Nat.le_of_eq (Nat.add_sub_cancel' h1)))
theorem ar211 {x0 : Nat} {x1 : Nat} (h1 : ((1 : Nat) ≤ x1)) (h2 : (x0 < x1)) : (x0 ≤ (x1 - (1 : Nat))) := Nat.le_sub_one_of_lt h2
theorem ar212 {x0 : Nat} {x1 : Nat} (h1 : ((1 : Nat) ≤ x1)) (h2 : (x0 ≤ ((1 : Nat) + (x1 - (1 : Nat))))) (h3 : (¬ (x0 = x1))) : ((x0 + (1 : Nat)) ≤ x1) := Nat.lt_of_le_of_ne (Nat.le_trans h2 (Nat.le_of_eq (Nat.add_sub_cancel' h1))) h3
theorem ar213 {x0 : Nat} (h1 : ((1 : Nat) ≤ x0)) (h2 : (¬ (x0 > (1 : Nat)))) : (x0 = (1 : Nat)) := (Nat.le_antisymm (Nat.not_lt.mp h2) h1)
theorem ar214 {x0 : Nat} (h1 : ((1 : Nat) ≤ x0)) (h2 : (¬ ((1 : Nat) = x0))) : (((1 : Nat) + (1 : Nat)) ≤ x0) := by lia
theorem ar215 {x0 : Nat} {x1 : Nat} (h1 : (x0 ≤ x1)) (h2 : (x1 ≤ (x0 + (0 : Nat)))) : (x0 = x1) := by lia
theorem ar216 {x0 : Nat} {x1 : Nat} (h1 : (x0 ≤ x1)) (h2 : (x0 ≥ x1)) : (x0 = x1) := Nat.le_antisymm h1 h2
theorem ar217 {x0 : Nat} {x1 : Nat} {x2 : Nat} {x3 : Nat} (h1 : (x3 < x2)) (h2 : (x1 ≤ x3)) (h3 : (¬ (x0 ≥ x1))) : (((x0 + x1) / (2 : Nat)) < x2) := Nat.lt_of_lt_of_le (Nat.div_lt_of_lt_mul (by rw [Nat.two_mul]; exact Nat.add_lt_add_right (Nat.lt_of_not_le h3) _)) (Nat.le_trans h2 (Nat.le_of_lt h1))
theorem ar218 {x0 : Nat} {x1 : Nat} (h1 : (¬ (x0 ≥ x1))) : (x0 ≤ ((x0 + x1) / (2 : Nat))) := (Nat.le_div_iff_mul_le (by decide)).mpr (by rw [Nat.mul_two]; exact Nat.add_le_add_left (Nat.le_of_lt (Nat.lt_of_not_le h1)) _)
theorem ar219 {x0 : Nat} {x1 : Nat} {x2 : Nat} (h1 : (x1 ≤ x2)) (h2 : (¬ (x0 ≥ x1))) : (((x0 + x1) / (2 : Nat)) ≤ x2) := Nat.le_trans (Nat.le_of_lt (Nat.div_lt_of_lt_mul (by rw [Nat.two_mul]; exact Nat.add_lt_add_right (Nat.lt_of_not_le h2) _))) h1
theorem ar220 {x0 : Nat} {x1 : Nat} {x2 : Nat} (h1 : (x0 ≤ x1)) (h2 : (x1 ≤ (x0 + (x2 + (1 : Nat))))) (h3 : (¬ (x0 ≥ x1))) : (((x0 + x1) / (2 : Nat)) ≤ (x0 + x2)) := by lia
theorem ar221 {x0 : Nat} {x1 : Nat} (h1 : (x0 ≤ x1)) (h2 : (¬ (x0 ≥ x1))) : ((((x0 + x1) / (2 : Nat)) + (1 : Nat)) ≤ x1) := Nat.div_lt_of_lt_mul (by rw [Nat.two_mul]; exact Nat.add_lt_add_right (Nat.lt_of_not_le h2) _)
theorem ar222 {x0 : Nat} {x1 : Nat} {x2 : Nat} (h1 : (x0 ≤ (x1 + (x2 + (1 : Nat))))) : (x0 ≤ ((((x1 + x0) / (2 : Nat)) + (1 : Nat)) + x2)) := by lia
theorem ar223 {x0 : Nat} {x1 : Nat} {x2 : Nat} (h1 : (x0 < (((x1 + x2) / (2 : Nat)) + (1 : Nat)))) : (x0 ≤ ((x1 + x2) / (2 : Nat))) := Nat.le_of_lt_succ h1
theorem ar224 {x0 : Nat} {x1 : Nat} {x2 : Nat} (h1 : (x1 ≤ x2)) (h2 : (¬ (x0 ≥ x1))) : (((x0 + x1) / (2 : Nat)) < x2) := Nat.lt_of_lt_of_le (Nat.div_lt_of_lt_mul (by rw [Nat.two_mul]; exact Nat.add_lt_add_right (Nat.lt_of_not_le h2) _)) h1
theorem ar225 {x0 : Nat} {x1 : Nat} (h1 : ((x0 + (0 : Nat)) = x1)) : (x0 = x1) := by lia
theorem ar226 {x0 : Nat} {x1 : Nat} (h1 : (x0 ≤ x1)) (h2 : (x1 < x0)) : (¬ (x0 ≤ x1)) := (Nat.not_le.mpr h2)
theorem ar227 {x0 : Nat} {x1 : Nat} {x2 : Nat} (h1 : ((x0 + (x1 + (1 : Nat))) = x2)) : (((x0 + (1 : Nat)) + x1) = x2) := by lia
theorem ar228 {x0 : Nat} {x1 : Nat} (h1 : (x1 ≤ x0)) : ((x0 - (x0 - x1)) = x1) := Nat.sub_sub_self h1
theorem ar229 {x0 : Nat} {x1 : Nat} {x2 : Nat} {x3 : Nat} (h1 : (x3 ≤ x1)) (h2 : (x1 < (x2 + (1 : Nat)))) (h3 : (x3 = x0)) (h4 : (¬ (x1 = x0))) : ((x0 < x1) ∧ (x1 ≤ x2)) := ⟨Nat.lt_of_le_of_ne (h3 ▸ h1) (Ne.symm h4), Nat.le_of_lt_succ h2⟩
theorem ar230 {x0 : Nat} {x1 : Nat} {x2 : Nat} (h1 : (x2 ≤ x1)) (h2 : (x2 = x0)) (h3 : (¬ (x1 = x0))) : (x0 ≤ (x1 - (1 : Nat))) := Nat.le_sub_one_of_lt (Nat.lt_of_le_of_ne (h2 ▸ h1) (Ne.symm h3))
theorem ar231 {x0 : Nat} {x1 : Nat} {x2 : Nat} {x3 : Nat} (h1 : (x1 ≤ x3)) (h2 : (¬ (x1 = x0))) (h3 : (x3 = x0)) : (¬ ((x0 < x1) ∧ (x1 ≤ x2))) := by lia
theorem ar232 {x0 : Nat} {x1 : Nat} {x2 : Nat} (h1 : (x0 ≤ x2)) (h2 : (¬ (x0 = x1))) (h3 : (x2 = x1)) : (x0 < x1) := by lia
theorem ar233 {x0 : Nat} {x1 : Nat} {x2 : Nat} {x3 : Nat} (h1 : (x3 ≤ x1)) (h2 : (x1 < (x2 + (1 : Nat)))) (h3 : (¬ (x1 = x0))) (h4 : ((x0 < x3) ∧ (x3 ≤ x2))) : ((x0 < x1) ∧ (x1 ≤ x2)) := ⟨(Nat.lt_of_lt_of_le h4.1 h1), (Nat.le_of_lt_succ h2)⟩
theorem ar234 {x0 : Nat} {x1 : Nat} {x2 : Nat} {x3 : Nat} (h1 : (x0 ≤ x1)) (h2 : (¬ (x0 = x2))) (h3 : ((x2 < x0) ∧ (x0 ≤ x3))) : ((x0 - (1 : Nat)) ≤ (x1 - (1 : Nat))) := Nat.sub_le_sub_right h1 1
theorem ar235 {x0 : Nat} {x1 : Nat} {x2 : Nat} {x3 : Nat} (h1 : (x0 ≤ x1)) (h2 : (x1 < (x2 + (1 : Nat)))) (h3 : (¬ (x0 = x3))) (h4 : (¬ ((x3 < x0) ∧ (x0 ≤ x2)))) (h5 : ((x3 < x1) ∧ (x1 ≤ x2))) : (x0 ≤ (x1 - (1 : Nat))) := Nat.le_sub_one_of_lt (Nat.lt_of_le_of_lt (Nat.not_lt.mp fun q => h4 ⟨q, Nat.le_trans h1 h5.2⟩) h5.1)
theorem ar236 {x0 : Nat} {x1 : Nat} {x2 : Nat} (h1 : (x2 ≤ x1)) (h2 : (x0 < (x1 + (1 : Nat)))) (h3 : (¬ (x0 = x2))) (h4 : (¬ ((x2 < x0) ∧ (x0 ≤ x1)))) : (x0 < x1) := Nat.lt_of_lt_of_le (Nat.lt_of_le_of_ne (Nat.not_lt.mp fun q => h4 ⟨q, Nat.le_of_lt_succ h2⟩) h3) h1
theorem ar237 {x0 : Nat} (h1 : ((1 : Nat) ≤ x0)) : ((max x0 (1 : Nat)) = x0) := by lia
theorem ar238 {x0 : Nat} {x1 : Nat} (h1 : (x0 < x1)) : ((x0 + (x1 - x0)) = x1) := by lia
theorem ar239 {x0 : Int} {x1 : Int} (h1 : ((0 : Int) ≤ x0)) (h2 : ((0 : Int) ≤ x1)) (h3 : (x0 < x1)) : ((Int.toNat x0) < (Int.toNat x1)) := (Int.toNat_lt_toNat (Int.lt_of_le_of_lt h1 h3)).mpr h3
theorem ar240 {x0 : Int} {x1 : Int} (h1 : ((0 : Int) ≤ x0)) (h2 : ((0 : Int) ≤ x1)) (h3 : ((Int.toNat x0) < (Int.toNat x1))) : (x0 < x1) := Int.not_le.mp fun q => Nat.not_le.mpr h3 (Int.toNat_le_toNat q)
theorem ar241 {x0 : Nat} {x1 : Nat} (h1 : (x0 = x1)) : (¬ (x0 < x1)) := (Nat.not_lt.mpr (Nat.le_of_eq h1.symm))
theorem ar245 {x0 : Nat} (h1 : (x0 < (64 : Nat))) : (x0 ≤ ((16777216 : Nat) + (1 : Nat))) := Nat.le_of_lt (Nat.lt_trans h1 (by decide))
theorem ar246 {x0 : Nat} {x1 : Nat} (h1 : ((1 : Nat) ≤ x0)) (h2 : (x1 = x0)) (h3 : (x1 < (2 : Nat))) : (x0 ≤ (1 : Nat)) := by lia
theorem ar247 {x0 : Nat} : (x0 ≤ ((((x0 + (1 : Nat)) + (1 : Nat)) + (1 : Nat)) + (1 : Nat))) := by lia
theorem ar248 {x0 : Nat} {x1 : Nat} (h1 : ((1 : Nat) ≤ x1)) (h2 : (x1 = x0)) : ((1 : Nat) ≤ x0) := (Nat.le_trans h1 (Nat.le_of_eq h2))
theorem ar249 {x0 : Nat} {x1 : Nat} (h1 : (x1 < (64 : Nat))) (h2 : (x1 = x0)) : (x0 < (64 : Nat)) := (Nat.lt_of_le_of_lt (Nat.le_of_eq h2.symm) h1)
theorem ar250 {x0 : Nat} (h1 : (x0 ≤ (9000 : Nat))) : (((x0 + (1 : Nat)) + (1 : Nat)) < (9900 : Nat)) := by lia
theorem ar251 {x0 : Nat} (h1 : ((x0 + (1 : Nat)) < x0)) : False := by lia
theorem ar252 {x0 : Nat} {x1 : Nat} {x2 : Nat} {x3 : Nat} (h1 : (x2 = x1)) (h2 : (x0 < x3)) (h3 : (x3 = x1)) : (x0 < x1) := (Nat.lt_of_lt_of_le h2 (Nat.le_of_eq h3))
theorem ar253 {x0 : Nat} {x1 : Nat} (h1 : ((1 : Nat) ≤ x1)) (h2 : (x1 = x0)) : ((0 : Nat) < x0) := (Nat.lt_of_lt_of_le (Nat.lt_of_lt_of_le (by decide) h1) (Nat.le_of_eq h2))
theorem ar254 {x0 : Nat} {x1 : Nat} : ((Int.toNat (((x0 : Nat) : Int) + ((1 : Int) * ((x1 : Nat) : Int)))) = (x0 + x1)) := by rw [Int.one_mul]; rfl
theorem ar255 {x0 : Nat} : (¬ (((x0 : Nat) : Int) < (0 : Int))) := by lia
theorem ar256 {x0 : Nat} {x1 : Nat} {x2 : Nat} (h1 : ((x1 - x0) = x2)) (h2 : (x1 ≤ x2)) (h3 : (¬ (x2 = (0 : Nat)))) : (x0 = (0 : Nat)) := by lia
theorem ar257 {x0 : Nat} (h1 : (x0 ≤ (0 : Nat))) : (x0 = (0 : Nat)) := (Nat.le_antisymm h1 (Nat.zero_le _))
theorem ar258 {x0 : Nat} (h1 : ((0 : Nat) < x0)) : (x0 ≠ (0 : Nat)) := Nat.ne_of_gt h1
theorem ar259 {x0 : Nat} {x1 : Nat} (h1 : (¬ ((0 : Nat) < x1))) (h2 : ((0 : Nat) < x0)) : (x0 ≠ x1) := (Nat.ne_of_gt (Nat.lt_of_le_of_lt (Nat.not_lt.mp h1) h2))
theorem ar260 {x0 : Nat} {x1 : Nat} (h1 : (x0 < x1)) (h2 : ((0 : Nat) < x0)) : (((x0 - (1 : Nat)) / (2 : Nat)) < x1) := Nat.lt_of_le_of_lt half_le h1
theorem ar261 {x0 : Nat} (h1 : ((0 : Nat) < x0)) : (((x0 - (1 : Nat)) / (2 : Nat)) ≠ x0) := Nat.ne_of_lt (half_lt h1)
theorem ar262 {x0 : Nat} {x1 : Nat} (h1 : (x0 ≤ (x1 + (1 : Nat)))) (h2 : ((0 : Nat) < x0)) (h3 : (((x0 - (1 : Nat)) / (2 : Nat)) ≠ x0)) : (((x0 - (1 : Nat)) / (2 : Nat)) ≤ x1) := Nat.le_trans (Nat.div_le_self _ _) (Nat.sub_le_of_le_add h1)
theorem ar263 {x0 : Nat} (h1 : ((0 : Nat) < ((x0 - (1 : Nat)) / (2 : Nat)))) : (¬ (((x0 - (1 : Nat)) / (2 : Nat)) = ((((x0 - (1 : Nat)) / (2 : Nat)) - (1 : Nat)) / (2 : Nat)))) := Nat.ne_of_gt (half_lt h1)
theorem ar264 {x0 : Nat} {x1 : Nat} (h1 : (((x1 - (1 : Nat)) / (2 : Nat)) = ((x0 - (1 : Nat)) / (2 : Nat)))) (h2 : ((0 : Nat) < ((x0 - (1 : Nat)) / (2 : Nat)))) : (¬ (((x0 - (1 : Nat)) / (2 : Nat)) = x1)) := fun e => Nat.ne_of_lt (half_lt (e ▸ h2)) (h1.trans e)
theorem ar265 {x0 : Nat} {x1 : Nat} (h1 : (x0 ≠ x1)) (h2 : (x0 < (x1 + (1 : Nat)))) : (x0 < x1) := by lia
theorem ar266 {x0 : Nat} {x1 : Nat} (h1 : ((0 : Nat) < x0)) (h2 : (x0 < x1)) : (((x0 - (1 : Nat)) / (2 : Nat)) < x1) := by lia
theorem ar267 {x0 : Nat} : ((((2 : Nat) * x0) + (1 : Nat)) ≠ x0) := by lia
theorem ar268 {x0 : Nat} : ((((2 : Nat) * x0) + (2 : Nat)) ≠ x0) := by lia
theorem ar269 {x0 : Nat} : ((((((2 : Nat) * x0) + (2 : Nat)) - (1 : Nat)) / (2 : Nat)) = x0) := by rw [show 2 * x0 + 2 - 1 = 2 * x0 + 1 from rfl, Nat.mul_add_div (by decide)]; rfl
theorem ar270 {x0 : Nat} {x1 : Nat} {x2 : Nat} (h1 : ((((2 : Nat) * x1) + (1 : Nat)) < x2)) (h2 : (¬ ((((2 : Nat) * x1) + (2 : Nat)) < x2))) (h3 : (x0 < x2)) (h4 : ((0 : Nat) < x0)) (h5 : (((x0 - (1 : Nat)) / (2 : Nat)) = x1)) : (x0 = (((2 : Nat) * x1) + (1 : Nat))) := (ar73 h4 h5).resolve_right fun e => h2 (e ▸ h3)
theorem ar271 {x0 : Nat} {x1 : Nat} (h1 : (x1 < x0)) : (x0 ≠ x1) := Nat.ne_of_gt h1
theorem ar272 {x0 : Nat} {x1 : Nat} (h1 : ((0 : Nat) < x1)) (h2 : (x0 = x1)) : (¬ (x0 = ((x1 - (1 : Nat)) / (2 : Nat)))) := by rw [h2]; exact Nat.ne_of_gt (half_lt h1)
theorem ar273 {x0 : Nat} {x1 : Nat} (h1 : (x1 < x0)) : ((0 : Nat) < x0) := Nat.zero_lt_of_lt h1
theorem ar274 {x0 : Nat} {x1 : Nat} (h1 : ((0 : Nat) < x1)) (h2 : (x0 = x1)) : ((0 : Nat) < x0) := (Nat.lt_of_lt_of_le h1 (Nat.le_of_eq h2.symm))
theorem ar275 {x0 : Nat} {x1 : Nat} {x2 : Nat} (h1 : (x0 < x2)) (h2 : ((0 : Nat) < x1)) (h3 : (((x1 - (1 : Nat)) / (2 : Nat)) = x2)) : (¬ (x0 = x1)) := fun e => by rw [e, ← h3] at h1; exact Nat.lt_irrefl _ (Nat.lt_of_lt_of_le h1 half_le)
theorem ar276 {x0 : Nat} {x1 : Nat} {x2 : Nat} (h1 : (x1 < x2)) (h2 : ((0 : Nat) < x0)) (h3 : (((x0 - (1 : Nat)) / (2 : Nat)) = x2)) : (x0 ≠ x1) := fun e => by rw [← e, ← h3] at h1; exact Nat.lt_irrefl _ (Nat.lt_of_lt_of_le h1 half_le)
theorem ar277 {x0 : Nat} {x1 : Nat} {x2 : Nat} (h1 : (x1 < x2)) (h2 : (((x0 - (1 : Nat)) / (2 : Nat)) = x2)) : (((x0 - (1 : Nat)) / (2 : Nat)) ≠ x1) := (Nat.ne_of_gt (Nat.lt_of_lt_of_le h1 (Nat.le_of_eq h2.symm)))
theorem ar278 {x0 : Nat} {x1 : Nat} {x2 : Nat} (h1 : (¬ ((((2 : Nat) * x0) + (1 : Nat)) < x2))) (h2 : ((0 : Nat) < x1)) (h3 : (x1 < x2)) : (¬ (x0 = ((x1 - (1 : Nat)) / (2 : Nat)))) := fun e => h1 (Nat.lt_of_le_of_lt ((ar73 h2 e.symm).elim (fun q => Nat.le_of_eq q.symm) (fun q => q ▸ Nat.le_succ _)) h3)
theorem ar279 {x0 : Nat} {x1 : Nat} {x2 : Nat} (h1 : (¬ ((((2 : Nat) * x1) + (1 : Nat)) < x2))) (h2 : ((0 : Nat) < x0)) (h3 : (x0 < x2)) : (((x0 - (1 : Nat)) / (2 : Nat)) ≠ x1) := fun e => h1 (Nat.lt_of_le_of_lt ((ar73 h2 e).elim (fun q => Nat.le_of_eq q.symm) (fun q => q ▸ Nat.le_succ _)) h3)
theorem ar280 {x0 : Nat} (h1 : (¬ (x0 = (0 : Nat)))) : (((x0 - (1 : Nat)) / (2 : Nat)) < x0) := half_lt (Nat.pos_of_ne_zero h1)
theorem ar281 {x0 : Nat} {x1 : Nat} (h1 : (x0 < x1)) (h2 : (¬ (x0 = (0 : Nat)))) : (((x0 - (1 : Nat)) / (2 : Nat)) < x1) := Nat.lt_of_le_of_lt half_le h1
theorem ar282 {x0 : Nat} (h1 : (¬ (x0 = (0 : Nat)))) : ((0 : Nat) < x0) := by lia
theorem ar283 {x0 : Nat} {x1 : Nat} (h1 : (x0 < (x1 + (1 : Nat)))) : (x0 < ((x1 + (1 : Nat)) + (1 : Nat))) := Nat.lt_succ_of_lt h1
theorem ar284 {x0 : Nat} (h1 : (((x0 - (1 : Nat)) / (2 : Nat)) ≠ (0 : Nat))) : ((0 : Nat) < ((x0 - (1 : Nat)) / (2 : Nat))) := by lia
theorem ar285 {x0 : Nat} {x1 : Nat} (h1 : ((0 : Nat) < x0)) (h2 : (((x0 - (1 : Nat)) / (2 : Nat)) ≠ (0 : Nat))) (h3 : (x0 < x1)) : (((x0 - (1 : Nat)) / (2 : Nat)) < x1) := Nat.lt_of_le_of_lt half_le h3
theorem ar286 {x0 : Nat} {x1 : Nat} (h1 : (x0 < x1)) (h2 : (x1 < ((2 : Nat) ^ (20 : Nat)))) : (((x0 : Nat) : Int) < ((2 : Int) ^ (60 : Nat))) := (Int.lt_of_lt_of_le (Int.ofNat_lt.mpr (Nat.lt_trans h1 h2)) (by decide))
theorem ar287 : ((0 : Int) ≤ (2 : Int)) := by lia
theorem ar288 {x0 : Nat} {x1 : Int} (h1 : (x1 = ((((x0 - (1 : Nat)) / (2 : Nat)) : Nat) : Int))) : ((0 : Int) ≤ ((((x0 - (1 : Nat)) / (2 : Nat)) : Nat) : Int)) := Int.natCast_nonneg _
theorem ar289 {x0 : Nat} {x1 : Nat} {x2 : Int} (h1 : (x1 < ((2 : Nat) ^ (20 : Nat)))) (h2 : (x0 < x1)) (h3 : (x2 = ((((x0 - (1 : Nat)) / (2 : Nat)) : Nat) : Int))) : (((((x0 - (1 : Nat)) / (2 : Nat)) : Nat) : Int) < ((2 : Int) ^ (60 : Nat))) := Int.lt_trans (Int.ofNat_lt.mpr (Nat.lt_of_le_of_lt half_le (Nat.lt_trans h2 h1))) (by decide)
theorem ar290 {x0 : Nat} {x1 : Nat} {x2 : Int} (h1 : (x2 = ((((x0 - (1 : Nat)) / (2 : Nat)) : Nat) : Int))) (h2 : (x0 ≤ (x1 + (1 : Nat)))) : (((x0 - (1 : Nat)) / (2 : Nat)) ≤ x1) := Nat.le_trans (Nat.div_le_self _ _) (Nat.sub_le_of_le_add h2)
theorem ar291 {x0 : Nat} (h1 : (x0 < ((2 : Nat) ^ (19 : Nat)))) : ((x0 + (1 : Nat)) < ((2 : Nat) ^ (40 : Nat))) := Nat.lt_of_le_of_lt h1 (by decide)
theorem ar292 {x0 : Nat} : (((((x0 + (1 : Nat)) : Nat) : Int) - (1 : Int)) = ((x0 : Nat) : Int)) := by lia
theorem ar293 {x0 : Nat} (h1 : (x0 < ((2 : Nat) ^ (19 : Nat)))) : ((x0 + (1 : Nat)) < ((2 : Nat) ^ (20 : Nat))) := Nat.lt_of_le_of_lt h1 (by decide)
theorem ar294 : ((0 : Int) ≤ (0 : Int)) := by lia
theorem ar295 : ((0 : Int) < ((2 : Int) ^ (60 : Nat))) := by lia
theorem ar296 {x0 : Nat} {x1 : Nat} (h1 : (x1 < x0)) : ((0 : Int) ≤ ((x0 : Nat) : Int)) := Int.natCast_nonneg _
theorem ar297 {x0 : Nat} {x1 : Nat} {x2 : Nat} (h1 : (x1 < ((2 : Nat) ^ (19 : Nat)))) (h2 : (x2 = x1)) (h3 : (x0 < x2)) : (((x0 : Nat) : Int) < ((2 : Int) ^ (60 : Nat))) := (Int.lt_of_lt_of_le (Int.ofNat_lt.mpr (Nat.lt_trans (Nat.lt_of_lt_of_le h3 (Nat.le_of_eq h2)) h1)) (by decide))
theorem ar298 {x0 : Nat} : ((((2 : Int) * ((x0 : Nat) : Int)) + (1 : Int)) = (((((2 : Nat) * x0) + (1 : Nat)) : Nat) : Int)) := by lia
theorem ar299 {x0 : Nat} : ((0 : Int) ≤ (((((2 : Nat) * x0) + (1 : Nat)) : Nat) : Int)) := Int.natCast_nonneg _
theorem ar300 {x0 : Nat} : ((0 : Int) ≤ ((((((2 : Nat) * x0) + (1 : Nat)) : Nat) : Int) + (1 : Int))) := by lia
theorem ar301 {x0 : Nat} : ((Int.toNat ((((((2 : Nat) * x0) + (1 : Nat)) : Nat) : Int) + (1 : Int))) = (((2 : Nat) * x0) + (2 : Nat))) := rfl
theorem ar302 {x0 : Nat} : (((((((2 : Nat) * x0) + (1 : Nat)) : Nat) : Int) + (1 : Int)) = (((((2 : Nat) * x0) + (2 : Nat)) : Nat) : Int)) := by lia
theorem ar303 {x0 : Nat} {x1 : Nat} (h1 : (x1 < ((2 : Nat) ^ (19 : Nat)))) (h2 : (x0 = x1)) : (x0 < (1048576 : Nat)) := (Nat.lt_trans (Nat.lt_of_le_of_lt (Nat.le_of_eq h2) h1) (by decide))
theorem ar304 {x0 : Nat} (h1 : ((0 : Nat) < x0)) (h2 : (x0 < ((2 : Nat) ^ (19 : Nat)))) : ((x0 - (1 : Nat)) < ((2 : Nat) ^ (19 : Nat))) := (Nat.lt_of_le_of_lt (Nat.sub_le _ _) h2)
theorem ar305 {x0 : Nat} : ((0 : Int) < (((x0 + (1 : Nat)) : Nat) : Int)) := by lia
theorem ar306 {x0 : Nat} {x1 : Nat} (h1 : (x1 ≤ (1000 : Nat))) (h2 : (x0 < x1)) : ((min x0 x1) < (1048576 : Nat)) := (Nat.lt_of_le_of_lt (Nat.le_trans (Nat.min_le_right _ _) h1) (by decide))
theorem ar307 {x0 : Nat} (h1 : (x0 ≤ (1000 : Nat))) : ((x0 * (2 : Nat)) ≤ (16777216 : Nat)) := by lia
theorem ar316 {x0 : Nat} : ((0 : Int) ≤ (((x0 : Nat) : Int) + (1 : Int))) := by lia
theorem ar320 {x0 : Nat} (h1 : (x0 < (1000 : Nat))) : (((x0 : Nat) : Int) < ((2 : Int) ^ (60 : Nat))) := (Int.lt_of_lt_of_le (Int.ofNat_lt.mpr h1) (by decide))
theorem ar322 {x0 : Nat} {x1 : Nat} (h1 : (x1 < (1000 : Nat))) (h2 : (x0 < x1)) : (((x0 : Nat) : Int) < ((2 : Int) ^ (60 : Nat))) := (Int.lt_of_lt_of_le (Int.ofNat_lt.mpr (Nat.lt_trans h2 h1)) (by decide))
theorem ar336 {x0 : Nat} (h1 : (x0 < (1000 : Nat))) : ((Int.natAbs ((x0 : Nat) : Int)) < ((2 : Nat) ^ (30 : Nat))) := Nat.lt_trans h1 (by decide)
theorem ar337 {x0 : Nat} {x1 : Nat} {x2 : Nat} (h1 : (x0 ≤ ((0 : Nat) + (min x2 x1)))) : (x0 ≤ x1) := Nat.le_trans h1 (by rw [Nat.zero_add]; exact Nat.min_le_right _ _)
theorem ar338 {x0 : Nat} {x1 : Nat} {x2 : Nat} {x3 : Nat} {x4 : Nat} (h1 : (x0 ≤ (x3 + (min x4 x2)))) (h2 : (x3 ≤ x1)) : (x0 ≤ (x1 + x2)) := Nat.le_trans h1 (Nat.add_le_add h2 (Nat.min_le_right _ _))
theorem ar339 {x0 : Nat} {x1 : Nat} {x2 : Nat} (h1 : ((x1 + x2) < ((2 : Nat) ^ (19 : Nat)))) (h2 : (x0 ≤ x1)) : (x0 < ((2 : Nat) ^ (20 : Nat))) := (Nat.lt_trans (Nat.lt_of_le_of_lt (Nat.le_trans h2 (Nat.le_add_right _ _)) h1) (by decide))
theorem ar340 {x0 : Nat} {x1 : Nat} {x2 : Nat} {x3 : Nat} (h1 : (x0 ≤ x2)) (h2 : ((x2 + (1 : Nat)) ≤ x3)) (h3 : (x3 ≤ x1)) : (x0 ≤ x1) := (Nat.le_of_lt (Nat.lt_of_lt_of_le (Nat.lt_of_le_of_lt h1 h2) h3))
theorem ar378 {x0 : Nat} (h1 : (x0 = (4 : Nat))) : (x0 < (1000 : Nat)) := (Nat.lt_of_le_of_lt (Nat.le_of_eq h1) (by decide))
theorem ar386 {x0 : Nat} (h1 : (x0 < (1000 : Nat))) : ((x0 + (1 : Nat)) < (1099511627776 : Nat)) := Nat.lt_of_le_of_lt h1 (by decide)
theorem ar387 {x0 : Nat} {x1 : Nat} (h1 : ((x0 + x1) ≤ (10000 : Nat))) : (x0 ≤ (10000 : Nat)) := Nat.le_trans (Nat.le_add_right _ _) h1
theorem ar388 {x0 : Nat} (h1 : (x0 ≤ (10000 : Nat))) : (x0 ≤ (16777216 : Nat)) := Nat.le_trans h1 (by decide)
theorem ar389 {x0 : Nat} : ((min (1 : Nat) x0) < ((2 : Nat) ^ (40 : Nat))) := Nat.lt_of_le_of_lt (Nat.min_le_left _ _) (by decide)
theorem ar390 {x0 : Nat} {x1 : Nat} : ((((x0 : Nat) : Int) + ((x1 : Nat) : Int)) = (((x0 + x1) : Nat) : Int)) := by lia
theorem ar391 {x0 : Nat} {x1 : Nat} : (((1 : Int) + (((x0 + x1) : Nat) : Int)) = (((1 : Int) + ((x0 : Nat) : Int)) + ((x1 : Nat) : Int))) := by lia
theorem ar392 {x0 : Nat} {x1 : Nat} {x2 : Nat} {x3 : Nat} {x4 : Nat} (h1 : (x0 ≤ x2)) (h2 : ((x2 + (1 : Nat)) ≤ x3)) (h3 : ((x3 + (1 : Nat)) ≤ x4)) (h4 : (x4 ≤ x1)) : (x0 ≤ x1) := (Nat.le_of_lt (Nat.lt_of_lt_of_le (Nat.lt_trans (Nat.lt_of_le_of_lt h1 h2) h3) h4))
theorem ar393 {x0 : Nat} {x1 : Nat} {x2 : Nat} {x3 : Nat} (h1 : ((x1 + x2) ≤ (10000 : Nat))) (h2 : (x0 = (x2 - x3))) : (x0 ≤ (10000 : Nat)) := by rw [h2]; exact Nat.le_trans (Nat.sub_le _ _) (Nat.le_trans (Nat.le_add_left _ _) h1)
theorem ar394 {x0 : Nat} (h1 : (x0 ≤ (9999 : Nat))) : (x0 ≤ (10000 : Nat)) := Nat.le_succ_of_le h1
theorem ar395 : (((0 : Nat) + (1 : Nat)) ≤ (16777216 : Nat)) := Nat.succ_le_succ (Nat.zero_le _)
theorem ar396 {x0 : Nat} (h1 : (((1 : Nat) + x0) ≤ (10000 : Nat))) : (((1 : Nat) + x0) ≤ (10000 : Nat)) := h1
theorem ar397 {x0 : Nat} (h1 : (((x0 + (1 : Nat)) + (1 : Nat)) ≤ (10000 : Nat))) : (((1 : Nat) + x0) ≤ (10000 : Nat)) := by lia
theorem ar398 {x0 : Nat} (h1 : ((x0 + (1 : Nat)) ≤ (10000 : Nat))) : (((1 : Nat) + x0) ≤ (10000 : Nat)) := by lia
theorem ar399 {x0 : Nat} {x1 : Nat} {x2 : Nat} {x3 : Nat} (h1 : (x2 ≤ x3)) (h2 : ((x3 + (1 : Nat)) ≤ x1)) (h3 : (x0 < x2)) : (x0 ≠ (x1 + (1 : Nat))) := (Nat.ne_of_lt (Nat.lt_trans (Nat.lt_trans (Nat.lt_of_lt_of_le h3 h1) h2) (Nat.lt_succ_self _)))
theorem ar400 {x0 : Nat} {x1 : Nat} (h1 : ((x1 + (2 : Nat)) ≤ x0)) : (x0 ≠ (x1 + (1 : Nat))) := (Nat.ne_of_gt (Nat.lt_of_lt_of_le (Nat.add_lt_add_left (by decide) _) h1))
theorem ar401 {x0 : Nat} {x1 : Nat} {x2 : Nat} (h1 : ((x1 + (1 : Nat)) ≤ x2)) (h2 : ((x2 + (2 : Nat)) ≤ x0)) : (x0 ≠ x1) := (Nat.ne_of_gt (Nat.lt_of_lt_of_le (Nat.lt_trans h1 (Nat.lt_add_of_pos_right (by decide))) h2))
theorem ar402 {x0 : Nat} {x1 : Nat} {x2 : Nat} {x3 : Nat} {x4 : Nat} (h1 : (x1 < x2)) (h2 : (x2 ≤ x3)) (h3 : ((x3 + (1 : Nat)) ≤ x4)) (h4 : ((x4 + (2 : Nat)) ≤ x0)) : (x0 ≠ x1) := (Nat.ne_of_gt (Nat.lt_of_lt_of_le (Nat.lt_trans (Nat.lt_trans (Nat.lt_of_lt_of_le h1 h2) h3) (Nat.lt_add_of_pos_right (by decide))) h4))
theorem ar403 {x0 : Nat} {x1 : Nat} {x2 : Nat} {x3 : Nat} (h1 : (x0 ≤ x2)) (h2 : ((x2 + (1 : Nat)) ≤ x3)) (h3 : ((x3 + (2 : Nat)) ≤ x1)) : (x0 ≤ x1) := (Nat.le_of_lt (Nat.lt_of_lt_of_le (Nat.lt_trans (Nat.lt_of_le_of_lt h1 h2) (Nat.lt_add_of_pos_right (by decide))) h3))
theorem ar404 {x0 : Nat} : (x0 ≠ (x0 + (1 : Nat))) := Nat.ne_of_lt (Nat.lt_succ_self _)
theorem ar405 {x0 : Nat} {x1 : Nat} (h1 : ((x0 + (1 : Nat)) ≤ x1)) : (x0 ≠ (x1 + (1 : Nat))) := (Nat.ne_of_lt (Nat.lt_trans h1 (Nat.lt_succ_self _)))
theorem ar406 {x0 : Nat} {x1 : Nat} {x2 : Nat} {x3 : Nat} (h1 : (x0 < x2)) (h2 : (x2 ≤ x3)) (h3 : ((x3 + (1 : Nat)) ≤ x1)) : (x0 ≠ (x1 + (1 : Nat))) := (Nat.ne_of_lt (Nat.lt_trans (Nat.lt_trans (Nat.lt_of_lt_of_le h1 h2) h3) (Nat.lt_succ_self _)))
theorem ar407 {x0 : Nat} {x1 : Nat} {x2 : Nat} (h1 : (x0 < x2)) (h2 : (x2 ≤ x1)) : (x0 ≠ x1) := Nat.ne_of_lt (Nat.lt_of_lt_of_le h1 h2)
theorem ar408 {x0 : Nat} {x1 : Nat} {x2 : Nat} {x3 : Nat} (h1 : (x0 ≤ x2)) (h2 : ((x2 + (1 : Nat)) ≤ x3)) (h3 : ((x3 + (2 : Nat)) ≤ x1)) : (x0 ≤ (x1 + (1 : Nat))) := (Nat.le_of_lt (Nat.lt_trans (Nat.lt_of_lt_of_le (Nat.lt_trans (Nat.lt_of_le_of_lt h1 h2) (Nat.lt_add_of_pos_right (by decide))) h3) (Nat.lt_succ_self _)))
theorem ar409 {x0 : Nat} {x1 : Nat} {x2 : Nat} {x3 : Nat} (h1 : (x0 ≤ x1)) (h2 : ((x1 + (1 : Nat)) ≤ x3)) (h3 : ((x3 + (2 : Nat)) ≤ x2)) : ((x0 ≤ x1) ∧ (x1 < (x2 + (1 : Nat)))) := ⟨h1, (Nat.lt_trans (Nat.lt_of_lt_of_le (Nat.lt_trans h2 (Nat.lt_add_of_pos_right (by decide))) h3) (Nat.lt_succ_self _))⟩
theorem ar410 {x0 : Nat} {x1 : Nat} {x2 : Nat} {x3 : Nat} (h1 : (x0 ≤ x3)) (h2 : ((x3 + (1 : Nat)) ≤ x1)) (h3 : ((x1 + (2 : Nat)) ≤ x2)) : ((x0 ≤ x1) ∧ (x1 < (x2 + (1 : Nat)))) := ⟨(Nat.le_of_lt (Nat.lt_of_le_of_lt h1 h2)), (Nat.lt_trans (Nat.lt_of_lt_of_le (Nat.lt_add_of_pos_right (by decide)) h3) (Nat.lt_succ_self _))⟩
theorem ar411 {x0 : Nat} {x1 : Nat} {x2 : Nat} {x3 : Nat} (h1 : (x0 ≤ x2)) (h2 : ((x2 + (1 : Nat)) ≤ x3)) (h3 : ((x3 + (2 : Nat)) ≤ x1)) : ((x0 ≤ x1) ∧ (x1 < (x1 + (1 : Nat)))) := ⟨(Nat.le_of_lt (Nat.lt_of_lt_of_le (Nat.lt_trans (Nat.lt_of_le_of_lt h1 h2) (Nat.lt_add_of_pos_right (by decide))) h3)), (Nat.lt_succ_self _)⟩
theorem ar412 {x0 : Nat} {x1 : Nat} {x2 : Nat} {x3 : Nat} {x4 : Nat} (h1 : (x2 ≤ x3)) (h2 : ((x3 + (1 : Nat)) ≤ x4)) (h3 : ((x4 + (2 : Nat)) ≤ x1)) (h4 : (x0 < x2)) : (x0 ≠ x1) := (Nat.ne_of_lt (Nat.lt_of_lt_of_le (Nat.lt_trans (Nat.lt_trans (Nat.lt_of_lt_of_le h4 h1) h2) (Nat.lt_add_of_pos_right (by decide))) h3))
theorem ar413 {x0 : Nat} {x1 : Nat} {x2 : Nat} (h1 : ((x1 + (2 : Nat)) ≤ x2)) (h2 : ((x2 + (1 : Nat)) ≤ x0)) : (x0 ≠ x1) := (Nat.ne_of_gt (Nat.lt_trans (Nat.lt_of_lt_of_le (Nat.lt_add_of_pos_right (by decide)) h1) h2))
theorem ar414 {x0 : Nat} {x1 : Nat} {x2 : Nat} (h1 : ((x0 + (2 : Nat)) ≤ x2)) (h2 : ((x2 + (1 : Nat)) ≤ x1)) : ((x0 + (2 : Nat)) ≤ x1) := Nat.le_trans h1 (Nat.le_trans (Nat.le_succ _) h2)
theorem ar415 {x0 : Nat} : ((x0 + (1 : Nat)) ≠ x0) := Nat.ne_of_gt (Nat.lt_succ_self _)
theorem ar416 {x0 : Nat} {x1 : Nat} (h1 : ((x0 + (2 : Nat)) ≤ x1)) : ((x0 + (1 : Nat)) ≠ x1) := Nat.ne_of_lt (Nat.lt_of_lt_of_le (Nat.lt_succ_self _) h1)
theorem ar417 {x0 : Nat} {x1 : Nat} {x2 : Nat} (h1 : ((x0 + (1 : Nat)) ≤ x2)) (h2 : ((x2 + (2 : Nat)) ≤ x1)) : (x0 ≠ x1) := (Nat.ne_of_lt (Nat.lt_of_lt_of_le (Nat.lt_trans h1 (Nat.lt_add_of_pos_right (by decide))) h2))
theorem ar418 {x0 : Nat} {x1 : Nat} {x2 : Nat} (h1 : ((x0 + (2 : Nat)) < x2)) (h2 : (x2 ≤ x1)) : (((x0 + (1 : Nat)) + (1 : Nat)) ≠ x1) := Nat.ne_of_lt (Nat.lt_of_lt_of_le h1 h2)
theorem ar419 {x0 : Nat} {x1 : Nat} {x2 : Nat} (h1 : (x0 < x2)) (h2 : ((x0 + (2 : Nat)) < x2)) (h3 : (x2 ≤ x1)) : ((x0 + (1 : Nat)) ≠ x1) := (Nat.ne_of_lt (Nat.lt_of_lt_of_le (Nat.lt_trans (Nat.add_lt_add_left (by decide) _) h2) h3))
theorem ar420 {x0 : Nat} {x1 : Nat} {x2 : Nat} (h1 : ((x1 + (2 : Nat)) < x2)) (h2 : (x2 ≤ x0)) : (x0 ≠ (x1 + (2 : Nat))) := Nat.ne_of_gt (Nat.lt_of_lt_of_le h1 h2)
theorem ar421 {x0 : Nat} {x1 : Nat} {x2 : Nat} {x3 : Nat} {x4 : Nat} (h1 : (x2 ≤ x3)) (h2 : ((x3 + (2 : Nat)) < x4)) (h3 : (x4 ≤ x1)) (h4 : (x0 < x2)) : (x0 ≠ x1) := (Nat.ne_of_lt (Nat.lt_of_lt_of_le (Nat.lt_trans (Nat.lt_trans (Nat.lt_of_lt_of_le h4 h1) (Nat.lt_add_of_pos_right (by decide))) h2) h3))
theorem ar422 {x0 : Nat} {x1 : Nat} {x2 : Nat} {x3 : Nat} (h1 : ((x1 + (2 : Nat)) < x2)) (h2 : (x2 ≤ x3)) (h3 : ((x3 + (1 : Nat)) ≤ x0)) : (x0 ≠ (x1 + (1 : Nat))) := (Nat.ne_of_gt (Nat.lt_trans (Nat.lt_of_lt_of_le (Nat.lt_trans (Nat.add_lt_add_left (by decide) _) h1) h2) h3))
theorem ar423 {x0 : Nat} {x1 : Nat} {x2 : Nat} {x3 : Nat} {x4 : Nat} (h1 : (x0 ≤ x2)) (h2 : ((x2 + (2 : Nat)) < x3)) (h3 : (x3 ≤ x4)) (h4 : ((x4 + (1 : Nat)) ≤ x1)) : (x0 ≤ x1) := (Nat.le_of_lt (Nat.lt_trans (Nat.lt_of_lt_of_le (Nat.lt_trans (Nat.lt_of_le_of_lt h1 (Nat.lt_add_of_pos_right (by decide))) h2) h3) h4))
theorem ar424 {x0 : Nat} {x1 : Nat} {x2 : Nat} {x3 : Nat} {x4 : Nat} {x5 : Nat} (h1 : (x1 ≤ x2)) (h2 : ((x2 + (2 : Nat)) < x3)) (h3 : (x3 ≤ x4)) (h4 : ((114 : Nat) < x1)) (h5 : ((x4 + (1 : Nat)) ≤ x5)) (h6 : (x5 < x0)) : ((114 : Nat) ≠ x0) := (Nat.ne_of_lt (Nat.lt_trans (Nat.lt_trans (Nat.lt_of_lt_of_le (Nat.lt_trans (Nat.lt_trans (Nat.lt_of_lt_of_le h4 h1) (Nat.lt_add_of_pos_right (by decide))) h2) h3) h5) h6))
theorem ar425 {x0 : Nat} {x1 : Nat} {x2 : Nat} {x3 : Nat} {x4 : Nat} {x5 : Nat} (h1 : ((x0 + (2 : Nat)) < x2)) (h2 : (x2 ≤ x3)) (h3 : ((x3 + (1 : Nat)) ≤ x4)) (h4 : (x4 < x5)) (h5 : ((x5 + (1 : Nat)) ≤ x1)) : ((x0 + (1 : Nat)) ≠ x1) := (Nat.ne_of_lt (Nat.lt_trans (Nat.lt_trans (Nat.lt_trans (Nat.lt_of_lt_of_le (Nat.lt_trans (Nat.add_lt_add_left (by decide) _) h1) h2) h3) h4) h5))
theorem ar426 {x0 : Nat} {x1 : Nat} {x2 : Nat} {x3 : Nat} {x4 : Nat} (h1 : ((x0 + (2 : Nat)) < x2)) (h2 : (x2 ≤ x3)) (h3 : ((x3 + (1 : Nat)) ≤ x4)) (h4 : (x4 < x1)) : ((x0 + (1 : Nat)) ≠ x1) := (Nat.ne_of_lt (Nat.lt_trans (Nat.lt_trans (Nat.lt_of_lt_of_le (Nat.lt_trans (Nat.add_lt_add_left (by decide) _) h1) h2) h3) h4))
theorem ar427 {x0 : Nat} {x1 : Nat} {x2 : Nat} {x3 : Nat} {x4 : Nat} {x5 : Nat} (h1 : ((x0 + (2 : Nat)) < x2)) (h2 : (x2 ≤ x3)) (h3 : ((x3 + (1 : Nat)) ≤ x4)) (h4 : (x4 < x5)) (h5 : ((x5 + (1 : Nat)) ≤ x1)) : ((x0 + (2 : Nat)) ≠ x1) := (Nat.ne_of_lt (Nat.lt_trans (Nat.lt_trans (Nat.lt_trans (Nat.lt_of_lt_of_le h1 h2) h3) h4) h5))
theorem ar428 {x0 : Nat} {x1 : Nat} {x2 : Nat} {x3 : Nat} {x4 : Nat} (h1 : ((x0 + (2 : Nat)) < x2)) (h2 : (x2 ≤ x3)) (h3 : ((x3 + (1 : Nat)) ≤ x4)) (h4 : (x4 < x1)) : ((x0 + (2 : Nat)) ≠ x1) := (Nat.ne_of_lt (Nat.lt_trans (Nat.lt_trans (Nat.lt_of_lt_of_le h1 h2) h3) h4))
theorem ar429 {x0 : Nat} {x1 : Nat} {x2 : Nat} {x3 : Nat} (h1 : ((x0 + (1 : Nat)) ≤ x2)) (h2 : (x2 < x3)) (h3 : ((x3 + (1 : Nat)) ≤ x1)) : (x0 ≠ x1) := (Nat.ne_of_lt (Nat.lt_trans (Nat.lt_trans h1 h2) h3))
theorem ar430 {x0 : Nat} {x1 : Nat} {x2 : Nat} {x3 : Nat} {x4 : Nat} {x5 : Nat} (h1 : (x1 ≤ x2)) (h2 : ((x2 + (2 : Nat)) < x3)) (h3 : (x3 ≤ x4)) (h4 : ((114 : Nat) < x1)) (h5 : ((x4 + (1 : Nat)) ≤ x5)) (h6 : (x5 < x0)) : (x0 ≠ (114 : Nat)) := (Nat.ne_of_gt (Nat.lt_trans (Nat.lt_trans (Nat.lt_of_lt_of_le (Nat.lt_trans (Nat.lt_trans (Nat.lt_of_lt_of_le h4 h1) (Nat.lt_add_of_pos_right (by decide))) h2) h3) h5) h6))
theorem ar431 {x0 : Nat} {x1 : Nat} {x2 : Nat} {x3 : Nat} {x4 : Nat} (h1 : (x1 ≤ x2)) (h2 : ((x2 + (2 : Nat)) < x3)) (h3 : (x3 ≤ x4)) (h4 : ((114 : Nat) < x1)) (h5 : ((x4 + (1 : Nat)) ≤ x0)) : (x0 ≠ (114 : Nat)) := (Nat.ne_of_gt (Nat.lt_trans (Nat.lt_of_lt_of_le (Nat.lt_trans (Nat.lt_trans (Nat.lt_of_lt_of_le h4 h1) (Nat.lt_add_of_pos_right (by decide))) h2) h3) h5))
theorem ar432 {x0 : Nat} {x1 : Nat} {x2 : Nat} (h1 : (x1 < x2)) (h2 : ((x2 + (1 : Nat)) ≤ x0)) : (x0 ≠ x1) := (Nat.ne_of_gt (Nat.lt_trans h1 h2))
theorem ar433 {x0 : Nat} {x1 : Nat} {x2 : Nat} {x3 : Nat} (h1 : ((x1 + (1 : Nat)) ≤ x2)) (h2 : (x2 < x3)) (h3 : ((x3 + (1 : Nat)) ≤ x0)) : (x0 ≠ x1) := (Nat.ne_of_gt (Nat.lt_trans (Nat.lt_trans h1 h2) h3))
theorem ar434 {x0 : Nat} {x1 : Nat} {x2 : Nat} {x3 : Nat} {x4 : Nat} (h1 : (x1 < x2)) (h2 : ((x2 + (1 : Nat)) ≤ x3)) (h3 : (x3 < x4)) (h4 : ((x4 + (1 : Nat)) ≤ x0)) : (x0 ≠ x1) := (Nat.ne_of_gt (Nat.lt_trans (Nat.lt_trans (Nat.lt_trans h1 h2) h3) h4))
theorem ar435 {x0 : Nat} {x1 : Nat} {x2 : Nat} {x3 : Nat} {x4 : Nat} {x5 : Nat} (h1 : ((x0 + (1 : Nat)) ≤ x2)) (h2 : (x2 < x3)) (h3 : ((x3 + (1 : Nat)) ≤ x4)) (h4 : (x4 < x5)) (h5 : ((x5 + (1 : Nat)) ≤ x1)) : ((x0 + (1 : Nat)) ≤ x1) := (Nat.le_of_lt (Nat.lt_trans (Nat.lt_trans (Nat.lt_trans (Nat.lt_of_le_of_lt h1 h2) h3) h4) h5))
theorem ar436 {x0 : Nat} {x1 : Nat} {x2 : Nat} {x3 : Nat} {x4 : Nat} {x5 : Nat} {x6 : Nat} (h1 : ((x2 + (1 : Nat)) ≤ x3)) (h2 : (x3 < x4)) (h3 : ((x4 + (1 : Nat)) ≤ x5)) (h4 : (x5 < x6)) (h5 : ((x6 + (1 : Nat)) ≤ x1)) (h6 : (x0 = x2)) : (x0 < x1) := (Nat.lt_trans (Nat.lt_trans (Nat.lt_trans (Nat.lt_trans (Nat.lt_of_le_of_lt (Nat.le_of_eq h6) h1) h2) h3) h4) h5)
theorem ar437 {x0 : Nat} {x1 : Nat} {x2 : Nat} {x3 : Nat} {x4 : Nat} {x5 : Nat} (h1 : (x2 ≤ x3)) (h2 : ((x3 + (2 : Nat)) < x4)) (h3 : (x4 ≤ x5)) (h4 : (x0 < x2)) (h5 : ((x5 + (1 : Nat)) ≤ x1)) : (x0 ≠ x1) := (Nat.ne_of_lt (Nat.lt_trans (Nat.lt_of_lt_of_le (Nat.lt_trans (Nat.lt_trans (Nat.lt_of_lt_of_le h4 h1) (Nat.lt_add_of_pos_right (by decide))) h2) h3) h5))
theorem ar438 {x0 : Nat} {x1 : Nat} {x2 : Nat} (h1 : ((x1 + (1 : Nat)) ≤ x2)) (h2 : ((x2 + (1 : Nat)) ≤ x0)) : (x0 ≠ x1) := (Nat.ne_of_gt (Nat.lt_trans h1 h2))
theorem ar439 {x0 : Nat} {x1 : Nat} {x2 : Nat} {x3 : Nat} (h1 : ((x0 + (1 : Nat)) ≤ x2)) (h2 : ((x2 + (1 : Nat)) ≤ x3)) (h3 : ((x3 + (1 : Nat)) ≤ x1)) : ((x0 + (1 : Nat)) ≤ x1) := (Nat.le_of_lt (Nat.lt_trans (Nat.lt_of_le_of_lt h1 h2) h3))
theorem ar440 {x0 : Nat} {x1 : Nat} {x2 : Nat} {x3 : Nat} {x4 : Nat} (h1 : ((x2 + (1 : Nat)) ≤ x3)) (h2 : ((x3 + (1 : Nat)) ≤ x4)) (h3 : ((x4 + (1 : Nat)) ≤ x1)) (h4 : (x0 = x2)) : (x0 < x1) := (Nat.lt_trans (Nat.lt_trans (Nat.lt_of_le_of_lt (Nat.le_of_eq h4) h1) h2) h3)
theorem ar449 {x0 : Nat} : ((x0 + (1 : Nat)) ≠ (x0 + (4 : Nat))) := (Nat.ne_of_lt (Nat.add_lt_add_left (by decide) _))
theorem ar450 {x0 : Nat} : ((x0 + (1 : Nat)) ≠ (x0 + (3 : Nat))) := (Nat.ne_of_lt (Nat.add_lt_add_left (by decide) _))
theorem ar451 {x0 : Nat} : ((x0 + (2 : Nat)) ≠ (x0 + (4 : Nat))) := (Nat.ne_of_lt (Nat.add_lt_add_left (by decide) _))
theorem ar452 {x0 : Nat} : ((x0 + (2 : Nat)) ≠ (x0 + (3 : Nat))) := Nat.ne_of_lt (Nat.lt_succ_self _)
theorem ar453 {x0 : Nat} : ((x0 + (3 : Nat)) ≠ (x0 + (4 : Nat))) := Nat.ne_of_lt (Nat.lt_succ_self _)
theorem ar454 {x0 : Nat} {x1 : Nat} (h1 : (x0 < x1)) : (x0 ≠ (x1 + (4 : Nat))) := (Nat.ne_of_lt (Nat.lt_trans h1 (Nat.lt_add_of_pos_right (by decide))))
theorem ar455 {x0 : Nat} {x1 : Nat} (h1 : (x0 < x1)) : (x0 ≠ (x1 + (3 : Nat))) := (Nat.ne_of_lt (Nat.lt_trans h1 (Nat.lt_add_of_pos_right (by decide))))
theorem ar456 {x0 : Nat} {x1 : Nat} (h1 : (x0 < x1)) : (x0 ≠ (x1 + (2 : Nat))) := (Nat.ne_of_lt (Nat.lt_trans h1 (Nat.lt_add_of_pos_right (by decide))))
theorem ar457 {x0 : Nat} {x1 : Nat} (h1 : (x0 < x1)) : (x0 ≠ (x1 + (1 : Nat))) := (Nat.ne_of_lt (Nat.lt_trans h1 (Nat.lt_succ_self _)))
theorem ar458 {x0 : Nat} : ((x0 + (4 : Nat)) ≠ (x0 + (3 : Nat))) := Nat.ne_of_gt (Nat.lt_succ_self _)
theorem ar459 {x0 : Nat} : ((x0 + (4 : Nat)) ≠ (x0 + (2 : Nat))) := (Nat.ne_of_gt (Nat.add_lt_add_left (by decide) _))
theorem ar460 {x0 : Nat} : ((x0 + (3 : Nat)) ≠ (x0 + (2 : Nat))) := Nat.ne_of_gt (Nat.lt_succ_self _)
theorem ar461 {x0 : Nat} : ((x0 + (4 : Nat)) ≠ (x0 + (1 : Nat))) := (Nat.ne_of_gt (Nat.add_lt_add_left (by decide) _))
theorem ar462 {x0 : Nat} : ((x0 + (3 : Nat)) ≠ (x0 + (1 : Nat))) := (Nat.ne_of_gt (Nat.add_lt_add_left (by decide) _))
theorem ar471 {x0 : Nat} (h1 : (x0 < (3 : Nat))) : ((x0 = (0 : Nat)) ∨ ((x0 = (1 : Nat)) ∨ (x0 = (2 : Nat)))) := by lia
theorem ar478 {x0 : Nat} {x1 : Nat} (h1 : (((x0 : Nat) : Int) < ((x1 : Nat) : Int))) : (x0 < x1) := (Int.ofNat_lt.mp h1)
theorem ar479 {x0 : Nat} {x1 : Nat} (h1 : (x0 < x1)) : (x0 < (x1 + (1 : Nat))) := Nat.lt_succ_of_lt h1
theorem ar488 {x0 : Nat} (h1 : (¬ ((((63 : Nat) : Nat) : Int) < ((x0 : Nat) : Int)))) : (x0 ≤ (63 : Nat)) := by lia
theorem arb0 {x0 : Nat} {x1 : Nat} {x2 : Nat} (h1 : (x1 = x2)) (h2 : ((((2 : Nat) * x0) + (1 : Nat)) < x2)) (h3 : ((((2 : Nat) * x0) + (2 : Nat)) < x2)) : ((((2 : Nat) * x0) + (2 : Nat)) < x1) := (Nat.lt_of_lt_of_le h3 (Nat.le_of_eq h1.symm))
theorem arb1 {x0 : Nat} {x1 : Nat} {x2 : Nat} (h1 : (x1 ≤ x0)) (h2 : (x2 = (x0 - x1))) (h3 : (x1 < x0)) : ((x0 - (x1 + (1 : Nat))) < x2) := by rw [h2]; exact Nat.sub_lt_sub_left h3 (Nat.lt_succ_self _)
theorem arb2 {x0 : Nat} {x1 : Nat} {x2 : Nat} {x3 : Nat} {x4 : Nat} {x5 : Nat} {x6 : Nat} {x7 : Nat} {x8 : Nat} {x9 : Nat} (h1 : (x0 ≤ x2)) (h2 : ((x2 + (2 : Nat)) < x3)) (h3 : (x3 ≤ x4)) (h4 : ((x4 + (1 : Nat)) ≤ x5)) (h5 : (x5 < x6)) (h6 : ((x6 + (1 : Nat)) ≤ x7)) (h7 : (x7 < x8)) (h8 : (((x8 + (1 : Nat)) ≤ x1) ∧ (x1 < x9))) : (x0 ≤ x1) := Nat.le_trans h1 (Nat.le_trans (Nat.le_add_right _ 2) (Nat.le_trans (Nat.le_of_lt h2) (Nat.le_trans h3 (Nat.le_trans (Nat.le_succ _) (Nat.le_trans h4 (Nat.le_trans (Nat.le_of_lt h5) (Nat.le_trans (Nat.le_succ _) (Nat.le_trans h6 (Nat.le_trans (Nat.le_of_lt h7) (Nat.le_trans (Nat.le_succ _) h8.1))))))))))
theorem arb3 {x0 : Nat} {x1 : Nat} {x2 : Nat} {x3 : Nat} {x4 : Nat} {x5 : Nat} {x6 : Nat} {x7 : Nat} (h1 : (x0 ≤ x2)) (h2 : ((x2 + (2 : Nat)) < x3)) (h3 : (x3 ≤ x4)) (h4 : ((x4 + (1 : Nat)) ≤ x5)) (h5 : ((x5 + (1 : Nat)) ≤ x6)) (h6 : (((x6 + (1 : Nat)) ≤ x1) ∧ (x1 < x7))) : (x0 ≤ x1) := (Nat.le_of_lt (Nat.lt_trans (Nat.lt_trans (Nat.lt_trans (Nat.lt_of_lt_of_le (Nat.lt_trans (Nat.lt_of_le_of_lt h1 (Nat.lt_add_of_pos_right (by decide))) h2) h3) h4) h5) h6.1))
theorem arb6 {x0 : Nat} {x1 : Nat} {x2 : Nat} (h1 : (x1 = x2)) (h2 : ((((2 : Nat) * x0) + (1 : Nat)) < x2)) : ((((2 : Nat) * x0) + (1 : Nat)) < x1) := (Nat.lt_of_lt_of_le h2 (Nat.le_of_eq h1.symm))
theorem arb7 {x0 : Nat} {x1 : Nat} {x2 : Nat} (h1 : (x1 = x2)) (h2 : ((((2 : Nat) * x0) + (2 : Nat)) < x2)) : ((((2 : Nat) * x0) + (1 : Nat)) < x1) := (Nat.lt_of_lt_of_le (Nat.lt_trans (Nat.add_lt_add_left (by decide) _) h2) (Nat.le_of_eq h1.symm))
theorem arb8 {x0 : Nat} {x1 : Nat} {x2 : Nat} {x3 : Nat} {x4 : Nat} {x5 : Nat} {x6 : Nat} {x7 : Nat} {x8 : Nat} (h1 : (x2 ≤ x3)) (h2 : ((x3 + (2 : Nat)) < x4)) (h3 : (x4 ≤ x5)) (h4 : ((x5 + (1 : Nat)) ≤ x6)) (h5 : (x6 < x7)) (h6 : ((x7 + (1 : Nat)) ≤ x8)) (h7 : (x8 < x1)) (h8 : (x0 < x2)) : (x0 ≠ x1) := (Nat.ne_of_lt (Nat.lt_trans (Nat.lt_trans (Nat.lt_trans (Nat.lt_trans (Nat.lt_of_lt_of_le (Nat.lt_trans (Nat.lt_trans (Nat.lt_of_lt_of_le h8 h1) (Nat.lt_add_of_pos_right (by decide))) h2) h3) h4) h5) h6) h7))
theorem arb9 {x0 : Nat} {x1 : Nat} {x2 : Nat} {x3 : Nat} {x4 : Nat} {x5 : Nat} (h1 : (x2 ≤ x3)) (h2 : ((x3 + (2 : Nat)) < x4)) (h3 : (x4 ≤ x5)) (h4 : ((x5 + (1 : Nat)) ≤ x1)) (h5 : (x0 < x2)) : (x0 ≠ x1) := Nat.ne_of_lt (Nat.lt_of_lt_of_le h5 (Nat.le_trans h1 (Nat.le_trans (Nat.le_add_right _ 2) (Nat.le_trans (Nat.le_of_lt h2) (Nat.le_trans h3 (Nat.le_trans (Nat.le_succ _) h4))))))
theorem arb10 {x0 : Nat} {x1 : Nat} {x2 : Nat} {x3 : Nat} {x4 : Nat} (h1 : (x0 ≤ x2)) (h2 : ((x2 + (2 : Nat)) < x3)) (h3 : (x3 ≤ x4)) (h4 : (x1 = x4)) : (x0 ≤ x1) := (Nat.le_of_lt (Nat.lt_of_lt_of_le (Nat.lt_of_lt_of_le (Nat.lt_trans (Nat.lt_of_le_of_lt h1 (Nat.lt_add_of_pos_right (by decide))) h2) h3) (Nat.le_of_eq h4.symm)))
theorem arb11 {x0 : Nat} {x1 : Nat} {x2 : Nat} {x3 : Nat} {x4 : Nat} {x5 : Nat} {x6 : Nat} {x7 : Nat} (h1 : (x1 ≤ x2)) (h2 : ((x2 + (2 : Nat)) < x3)) (h3 : (x3 ≤ x4)) (h4 : ((114 : Nat) < x1)) (h5 : ((x4 + (1 : Nat)) ≤ x5)) (h6 : (x5 < x6)) (h7 : ((x6 + (1 : Nat)) ≤ x7)) (h8 : (x7 < x0)) : ((114 : Nat) ≠ x0) := (Nat.ne_of_lt (Nat.lt_trans (Nat.lt_trans (Nat.lt_trans (Nat.lt_trans (Nat.lt_of_lt_of_le (Nat.lt_trans (Nat.lt_trans (Nat.lt_of_lt_of_le h4 h1) (Nat.lt_add_of_pos_right (by decide))) h2) h3) h5) h6) h7) h8))
theorem arb12 {x0 : Nat} {x1 : Nat} {x2 : Nat} {x3 : Nat} {x4 : Nat} {x5 : Nat} {x6 : Nat} (h1 : (x2 ≤ x3)) (h2 : ((x3 + (2 : Nat)) < x4)) (h3 : (x4 ≤ x5)) (h4 : ((x5 + (1 : Nat)) ≤ x6)) (h5 : ((x6 + (1 : Nat)) ≤ x1)) (h6 : (x0 < x2)) : (x0 ≠ x1) := (Nat.ne_of_lt (Nat.lt_trans (Nat.lt_trans (Nat.lt_of_lt_of_le (Nat.lt_trans (Nat.lt_trans (Nat.lt_of_lt_of_le h6 h1) (Nat.lt_add_of_pos_right (by decide))) h2) h3) h4) h5))
theorem arb17 {x0 : Nat} {x1 : Nat} (h1 : (x1 < x0)) : (((((x0 : Nat) : Int) - (1 : Int)) / (2 : Int)) = ((((x0 - (1 : Nat)) / (2 : Nat)) : Nat) : Int)) := by lia
theorem arb18 {x0 : Nat} {x1 : Nat} {x2 : Nat} {x3 : Nat} {x4 : Int} (h1 : (x1 = x2)) (h2 : (x0 < x2)) (h3 : (x3 < x0)) (h4 : (x4 = ((((x0 - (1 : Nat)) / (2 : Nat)) : Nat) : Int))) : (((x0 - (1 : Nat)) / (2 : Nat)) < x1) := by rw [h1]; exact Nat.lt_of_le_of_lt (Nat.le_trans (Nat.div_le_self _ _) (Nat.sub_le _ _)) h2
theorem arb19 {x0 : Nat} {x1 : Nat} {x2 : Nat} (h1 : (x1 ≤ x0)) (h2 : (x2 < x1)) : (x0 = ((x0 - (1 : Nat)) + (1 : Nat))) := (Nat.sub_add_cancel (Nat.le_trans (Nat.succ_le_of_lt (Nat.lt_of_le_of_lt (Nat.zero_le _) h2)) h1)).symm
theorem arb20 {x0 : Nat} {x1 : Nat} {x2 : Nat} {x3 : Int} (h1 : (x0 < x1)) (h2 : (x2 < x0)) (h3 : (x3 = ((((x0 - (1 : Nat)) / (2 : Nat)) : Nat) : Int))) : (((x0 - (1 : Nat)) / (2 : Nat)) < x1) := Nat.lt_of_le_of_lt half_le h1
theorem arb21 {x0 : Nat} {x1 : Nat} (h1 : (¬ (((x0 : Nat) : Int) < ((x1 : Nat) : Int)))) : (¬ (x0 < x1)) := by lia
theorem arb22 {x0 : Nat} {x1 : Nat} (h1 : ((((((2 : Nat) * x0) + (1 : Nat)) : Nat) : Int) < ((x1 : Nat) : Int))) : ((((2 : Nat) * x0) + (1 : Nat)) < x1) := (Int.ofNat_lt.mp h1)
theorem arb23 {x0 : Nat} {x1 : Nat} {x2 : Nat} (h1 : (x1 ≤ (x2 + x0))) (h2 : ((((2 : Nat) * x2) + (1 : Nat)) < x1)) : (x0 = ((x0 - (1 : Nat)) + (1 : Nat))) := by lia
theorem arb24 {x0 : Nat} {x1 : Nat} {x2 : Nat} (h1 : ((0 : Nat) < x2)) (h2 : (x1 = x2)) (h3 : ((((2 : Nat) * x0) + (1 : Nat)) < x2)) : (((x0 : Nat) : Int) < ((x1 : Nat) : Int)) := by lia
theorem arb25 {x0 : Nat} {x1 : Nat} (h1 : ((((2 : Nat) * x0) + (1 : Nat)) < x1)) (h2 : (((((((2 : Nat) * x0) + (1 : Nat)) : Nat) : Int) + (1 : Int)) < ((x1 : Nat) : Int))) : ((((2 : Nat) * x0) + (2 : Nat)) < x1) := Int.ofNat_lt.mp h2
theorem arb26 {x0 : Nat} {x1 : Nat} (h1 : (x1 < ((2 : Nat) ^ (19 : Nat)))) (h2 : ((((2 : Nat) * x0) + (2 : Nat)) < x1)) : ((((((2 : Nat) * x0) + (1 : Nat)) : Nat) : Int) < ((2 : Int) ^ (60 : Nat))) := (Int.lt_of_lt_of_le (Int.ofNat_lt.mpr (Nat.lt_trans (Nat.lt_trans (Nat.add_lt_add_left (by decide) _) h2) h1)) (by decide))
theorem arb27 {x0 : Nat} {x1 : Nat} (h1 : (x1 < ((2 : Nat) ^ (19 : Nat)))) (h2 : ((((2 : Nat) * x0) + (2 : Nat)) < x1)) : (((((((2 : Nat) * x0) + (1 : Nat)) : Nat) : Int) + (1 : Int)) < ((2 : Int) ^ (60 : Nat))) := Int.lt_trans (Int.ofNat_lt.mpr (Nat.lt_trans h2 h1)) (by decide)
theorem arb28 {x0 : Nat} {x1 : Nat} (h1 : ((((2 : Nat) * x0) + (1 : Nat)) < x1)) (h2 : (¬ (((((((2 : Nat) * x0) + (1 : Nat)) : Nat) : Int) + (1 : Int)) < ((x1 : Nat) : Int)))) : (¬ ((((2 : Nat) * x0) + (2 : Nat)) < x1)) := fun q => h2 (Int.ofNat_lt.mpr q)
theorem arb29 {x0 : Nat} {x1 : Nat} (h1 : (¬ ((((((2 : Nat) * x0) + (1 : Nat)) : Nat) : Int) < ((x1 : Nat) : Int)))) : (¬ ((((2 : Nat) * x0) + (1 : Nat)) < x1)) := fun q => h1 (Int.ofNat_lt.mpr q)
theorem arb30 {x0 : Nat} {x1 : Nat} {x2 : Nat} (h1 : (x1 = x2)) (h2 : (¬ ((((2 : Nat) * x0) + (1 : Nat)) < x2))) : (¬ ((((2 : Nat) * x0) + (1 : Nat)) < x1)) := (Nat.not_lt.mpr (Nat.le_trans (Nat.le_of_eq h1) (Nat.not_lt.mp h2)))
theorem arb34 {x0 : Nat} {x1 : Nat} {x2 : Nat} {x3 : Nat} {x4 : Nat} {x5 : Nat} {x6 : Nat} {x7 : Nat} (h1 : (x2 ≤ x3)) (h2 : ((x3 + (2 : Nat)) < x4)) (h3 : (x4 ≤ x5)) (h4 : ((x5 + (1 : Nat)) ≤ x6)) (h5 : (x6 < x7)) (h6 : ((x7 + (1 : Nat)) ≤ x1)) (h7 : (x0 < x2)) : (x0 ≠ x1) := Nat.ne_of_lt (Nat.lt_of_lt_of_le h7 (Nat.le_trans h1 (Nat.le_trans (Nat.le_add_right _ 2) (Nat.le_trans (Nat.le_of_lt h2) (Nat.le_trans h3 (Nat.le_trans (Nat.le_succ _) (Nat.le_trans h4 (Nat.le_trans (Nat.le_of_lt h5) (Nat.le_trans (Nat.le_succ _) h6)))))))))
theorem arb35 {x0 : Nat} {x1 : Nat} {x2 : Nat} {x3 : Nat} {x4 : Nat} {x5 : Nat} {x6 : Nat} (h1 : (x2 ≤ x3)) (h2 : ((x3 + (2 : Nat)) < x4)) (h3 : (x4 ≤ x5)) (h4 : ((x5 + (1 : Nat)) ≤ x6)) (h5 : (x6 < x1)) (h6 : (x0 < x2)) : (x0 ≠ x1) := (Nat.ne_of_lt (Nat.lt_trans (Nat.lt_trans (Nat.lt_of_lt_of_le (Nat.lt_trans (Nat.lt_trans (Nat.lt_of_lt_of_le h6 h1) (Nat.lt_add_of_pos_right (by decide))) h2) h3) h4) h5))
theorem arb36 {x0 : Nat} {x1 : Nat} {x2 : Nat} {x3 : Nat} {x4 : Nat} {x5 : Nat} {x6 : Nat} {x7 : Nat} {x8 : Nat} (h1 : (x0 ≤ x2)) (h2 : ((x2 + (2 : Nat)) < x3)) (h3 : (x3 ≤ x4)) (h4 : ((x4 + (1 : Nat)) ≤ x5)) (h5 : (x5 < x6)) (h6 : ((x6 + (1 : Nat)) ≤ x7)) (h7 : (x7 < x8)) (h8 : ((x8 + (1 : Nat)) ≤ x1)) : (x0 ≤ x1) := Nat.le_trans h1 (Nat.le_trans (Nat.le_add_right _ 2) (Nat.le_trans (Nat.le_of_lt h2) (Nat.le_trans h3 (Nat.le_trans (Nat.le_succ _) (Nat.le_trans h4 (Nat.le_trans (Nat.le_of_lt h5) (Nat.le_trans (Nat.le_succ _) (Nat.le_trans h6 (Nat.le_trans (Nat.le_of_lt h7) (Nat.le_trans (Nat.le_succ _) h8))))))))))
theorem arb37 {x0 : Nat} {x1 : Nat} {x2 : Nat} {x3 : Nat} {x4 : Nat} {x5 : Nat} {x6 : Nat} (h1 : (x1 ≤ x2)) (h2 : ((x2 + (2 : Nat)) < x3)) (h3 : (x3 ≤ x4)) (h4 : ((114 : Nat) < x1)) (h5 : ((x4 + (1 : Nat)) ≤ x5)) (h6 : (x5 < x6)) (h7 : ((x6 + (1 : Nat)) ≤ x0)) : ((114 : Nat) ≠ x0) := Nat.ne_of_lt (Nat.lt_of_lt_of_le h4 (Nat.le_trans h1 (Nat.le_trans (Nat.le_add_right _ 2) (Nat.le_trans (Nat.le_of_lt h2) (Nat.le_trans h3 (Nat.le_trans (Nat.le_succ _) (Nat.le_trans h5 (Nat.le_trans (Nat.le_of_lt h6) (Nat.le_trans (Nat.le_succ _) h7)))))))))
theorem arb38 {x0 : Nat} {x1 : Nat} {x2 : Nat} {x3 : Nat} {x4 : Nat} {x5 : Nat} {x6 : Nat} (h1 : (x0 ≤ x2)) (h2 : ((x2 + (2 : Nat)) < x3)) (h3 : (x3 ≤ x4)) (h4 : ((x4 + (1 : Nat)) ≤ x5)) (h5 : ((x5 + (1 : Nat)) ≤ x6)) (h6 : ((x6 + (1 : Nat)) ≤ x1)) : (x0 ≤ x1) := (Nat.le_of_lt (Nat.lt_trans (Nat.lt_trans (Nat.lt_trans (Nat.lt_of_lt_of_le (Nat.lt_trans (Nat.lt_of_le_of_lt h1 (Nat.lt_add_of_pos_right (by decide))) h2) h3) h4) h5) h6))
theorem arb54 {x0 : Int} {x1 : Int} (h1 : ((0 : Int) ≤ x0)) (h2 : ((0 : Int) ≤ x1)) (h3 : ((Int.toNat x0) = (Int.toNat x1))) : (x0 = x1) := (Int.toNat_of_nonneg h1).symm.trans ((congrArg (fun n : Nat => (n : Int)) h3).trans (Int.toNat_of_nonneg h2))
end
noncomputable section
/- keys of a dict -/
inductive Kx where
  | s (x : Str)
  | i (k : Int)
  deriving DecidableEq
/- Values, seen without tokens; tuples by what they hold; lists and dicts that nobody changes any more, too. -/
inductive V where
  | none
  | bool (b : Bool)
  | int (i : Int)
  | str (s : Str)
  | tup (l : List V)
  | ref (a : Nat)
  | lit (v : Value)
  | imm (o : Obj)
  | lst (l : List V)
  | dct (es : List (Kx × V))
  | view (T : String) (es : List (Kx × V))

noncomputable def Kx.v : Kx → V
  | .s x => .str x
  | .i k => .int k

/- Things that may change. -/
inductive AObj where
  | list (xs : List V)
  | dict (es : List (Kx × V)) (ep : Nat)
  | cell (v : Option V)
  | obj (o : Obj)
  | ns (l : List (Str × V))

/- what is ours to change; what is marked as changing (frames, lists under way) -/
structure Store where
  get : Nat → Option AObj
  fr : Nat → Prop
instance : CoeFun Store (fun _ => Nat → Option AObj) := ⟨Store.get⟩
noncomputable def Store.add (σ : Store) (L : Nat) : Store := ⟨σ.get, fun a => a = L ∨ σ.fr a⟩
noncomputable def Store.reset (σ : Store) (f : Nat → Prop) : Store := ⟨σ.get, f⟩
noncomputable abbrev Free (σ : Store) (a : Nat) : Prop := σ a = none ∧ ¬ σ.fr a

/- what is fixed -/
structure Cx where
  prog : Program
  w : World
  h₀ : Heap
  os : OsState
  sys : ∃ o, h₀.get? sysModules = some o
/- the kind of our keys -/
noncomputable def Kx.is : Kx → Value → Bool
  | .s x, v => Value.isStrOf x v
  | .i k, v => Value.isInt k v
noncomputable def Kx.hash (w : World) : Kx → Int
  | .s x => hashStr w x
  | .i k => hashInt k

section
variable {prog : Program} {w : World} {A : Around} {E : Value → Shared → Prop} {s : Shared}
theorem eqBool_int_str {a : Int} {x : Str} {t u : Tok} {Q : Bool → Shared → Prop} (h : Q false s) : wpAny (model prog w) A (eqBool (.int a t) (.str x u)) Q E s := by
  unfold eqBool
  refine wpAny_holding ?_
  rw [if_neg (by simp)]
  exact wpAny_bind (EqMixed.eq_int_str (wpAny_truthy_bool h))
theorem eqBool_str_int {a : Int} {x : Str} {t u : Tok} {Q : Bool → Shared → Prop} (h : Q false s) : wpAny (model prog w) A (eqBool (.str x u) (.int a t)) Q E s := by
  unfold eqBool
  refine wpAny_holding ?_
  rw [if_neg (by simp)]
  exact wpAny_bind (EqMixed.eq_str_int (wpAny_truthy_bool h))
end

noncomputable def kxKind (prog : Program) (w : World) : KeyKind prog w Kx where
  is := Kx.is
  hash := Kx.hash w
  inj := fun v a b ha hb => by
    cases a <;> cases b <;> cases v <;> simp_all [Kx.is, Value.isStrOf, Value.isInt]
  byValue := fun k v h => by
    cases k with
    | s x => obtain ⟨t, rfl⟩ := Value.isStrOf_shape h; rfl
    | i k => obtain ⟨t, rfl⟩ := Value.isInt_shape h; rfl
  pyHash := fun {A E s k v Q} hv h => by
    cases k with
    | s x => exact (strKind prog w).pyHash hv h
    | i k => exact (intKind prog w).pyHash hv h
  eqBool := fun {A E s a b u v Q} hu hv h => by
    cases a with
    | s x =>
      cases b with
      | s y => exact (strKind prog w).eqBool hu hv (by simpa using h)
      | i y => obtain ⟨t, rfl⟩ := Value.isStrOf_shape hu; obtain ⟨t', rfl⟩ := Value.isInt_shape hv; exact eqBool_str_int (by simpa using h)
    | i x =>
      cases b with
      | s y => obtain ⟨t, rfl⟩ := Value.isInt_shape hu; obtain ⟨t', rfl⟩ := Value.isStrOf_shape hv; exact eqBool_int_str (by simpa using h)
      | i y => exact (intKind prog w).eqBool hu hv (by simpa using h)
  «strs» := fun k x t v h => by
    cases k with
    | s y => exact (strKind prog w).«strs» y x t v h
    | i y => simp [Kx.is, Value.isInt] at h


/- kinds that never change -/
noncomputable def Frozen (o : Obj) : Prop := o.cls ∈ [Value.type "tuple", .type "range", .type "slice", .type "dict_items", .type "dict_values", .type "list", .type "dict"]
noncomputable abbrev listObj (items : Array Value) (n : Nat) : Obj := ⟨.type "list", none, .seq items n, #[]⟩
noncomputable abbrev viewObj (T : String) (a : Nat) : Obj := { cls := .type T, data := .fields #[.ref a] }
noncomputable def viewTypes : List String := ["dict_items", "dict_values"]
mutual
inductive VRel (B : Cx) (σ : Store) (h : Heap) : V → Value → Prop
  | none : VRel B σ h .none .none
  | bool (b : Bool) : VRel B σ h (.bool b) (.bool b)
  | int (i : Int) (t : Tok) : VRel B σ h (.int i) (.int i t)
  | str (s : Str) (t : Tok) : VRel B σ h (.str s) (.str s t)
  | ref (a : Nat) : VRel B σ h (.ref a) (.ref a)
  | lit (v : Value) : VRel B σ h (.lit v) v
  | imm {o : Obj} {a : Nat} (ho : h.get? a = some o) (hs : Free σ a) (hf : Frozen o) : VRel B σ h (.imm o) (.ref a)
  | tup {l : List V} {a : Nat} {n : Nat} {items : Array Value} (ho : h.get? a = some ⟨.type "tuple", Option.none, .seq items n, #[]⟩) (hs : Free σ a) (hl : VRelL B σ h l items.toList) : VRel B σ h (.tup l) (.ref a)
  | lst {l : List V} {a : Nat} {n : Nat} {items : Array Value} (ho : h.get? a = some (listObj items n)) (hs : Free σ a) (hl : VRelL B σ h l items.toList) : VRel B σ h (.lst l) (.ref a)
  | dct {es : List (Kx × V)} {a : Nat} {ep : Nat} {kvs : List (Kx × Value)} (hn : (a == sysModules) = false) (ho : h.DictAt (kxKind B.prog B.w) a kvs ep) (hs : Free σ a) (hl : DRel B σ h es kvs) : VRel B σ h (.dct es) (.ref a)
  | view {T : String} {es : List (Kx × V)} {a b : Nat} {ep : Nat} {kvs : List (Kx × Value)} (hT : T ∈ viewTypes) (hb : h.get? b = some (viewObj T a)) (hb' : Free σ b) (hn : (a == sysModules) = false) (ho : h.DictAt (kxKind B.prog B.w) a kvs ep) (hs : Free σ a) (hl : DRel B σ h es kvs) : VRel B σ h (.view T es) (.ref b)
inductive VRelL (B : Cx) (σ : Store) (h : Heap) : List V → List Value → Prop
  | nil : VRelL B σ h [] []
  | cons {x : V} {y : Value} {xs : List V} {ys : List Value} (hd : VRel B σ h x y) (tl : VRelL B σ h xs ys) : VRelL B σ h (x :: xs) (y :: ys)
inductive DRel (B : Cx) (σ : Store) (h : Heap) : List (Kx × V) → List (Kx × Value) → Prop
  | nil : DRel B σ h [] []
  | cons {k : Kx} {x : V} {y : Value} {xs : List (Kx × V)} {ys : List (Kx × Value)} (hd : VRel B σ h x y) (tl : DRel B σ h xs ys) : DRel B σ h ((k, x) :: xs) ((k, y) :: ys)
end
/- what a relation says, by the value's kind -/
section
variable {B : Cx} {σ : Store} {h : Heap}
noncomputable def VInv (B : Cx) (σ : Store) (h : Heap) : V → Value → Prop
  | .none, y => y = .none
  | .bool b, y => y = .bool b
  | .int i, y => ∃ t, y = .int i t
  | .str s, y => ∃ t, y = .str s t
  | .ref a, y => y = .ref a
  | .lit v, y => y = v
  | .imm o, y => ∃ a, y = .ref a ∧ h.get? a = some o ∧ Free σ a ∧ Frozen o
  | .tup l, y => ∃ a n items, y = .ref a ∧ h.get? a = some ⟨.type "tuple", Option.none, .seq items n, #[]⟩ ∧ Free σ a ∧ VRelL B σ h l items.toList
  | .lst l, y => ∃ a n items, y = .ref a ∧ h.get? a = some (listObj items n) ∧ Free σ a ∧ VRelL B σ h l items.toList
  | .dct es, y => ∃ a ep kvs, y = .ref a ∧ (a == sysModules) = false ∧ h.DictAt (kxKind B.prog B.w) a kvs ep ∧ Free σ a ∧ DRel B σ h es kvs
  | .view T es, y => ∃ b a ep kvs, y = .ref b ∧ T ∈ viewTypes ∧ h.get? b = some (viewObj T a) ∧ Free σ b ∧ (a == sysModules) = false ∧ h.DictAt (kxKind B.prog B.w) a kvs ep ∧ Free σ a ∧ DRel B σ h es kvs
theorem VRel.inv {x : V} {y : Value} (r : VRel B σ h x y) : VInv B σ h x y := by
  cases r with
  | none => rfl
  | bool => rfl
  | int i t => exact ⟨t, rfl⟩
  | str s t => exact ⟨t, rfl⟩
  | ref => rfl
  | lit => rfl
  | imm h1 h2 h3 => exact ⟨_, rfl, h1, h2, h3⟩
  | tup h1 h2 h3 => exact ⟨_, _, _, rfl, h1, h2, h3⟩
  | lst h1 h2 h3 => exact ⟨_, _, _, rfl, h1, h2, h3⟩
  | dct h1 h2 h3 h4 => exact ⟨_, _, _, rfl, h1, h2, h3, h4⟩
  | view h1 h2 h3 h4 h5 h6 h7 => exact ⟨_, _, _, _, rfl, h1, h2, h3, h4, h5, h6, h7⟩
theorem VRelL.nil' {as : List Value} (r : VRelL B σ h [] as) : as = [] := by cases r; rfl
theorem VRelL.cons' {x : V} {xs : List V} {as : List Value} (r : VRelL B σ h (x :: xs) as) : ∃ a as', as = a :: as' ∧ VRel B σ h x a ∧ VRelL B σ h xs as' := by
  cases r with | cons a b => exact ⟨_, _, rfl, a, b⟩
end
section
variable {B : Cx}
/- how frozen things pass from one state to another -/
structure Pass (σ : Store) (h : Heap) (σ' : Store) (h' : Heap) : Prop where
  free : ∀ b o, h.get? b = some o → Frozen o → Free σ b → h'.get? b = some o ∧ Free σ' b
theorem frozen_tup {items : Array Value} {n : Nat} : Frozen ⟨.type "tuple", none, .seq items n, #[]⟩ := .head _
theorem frozen_list {items : Array Value} {n : Nat} : Frozen (listObj items n) := .tail _ (.tail _ (.tail _ (.tail _ (.tail _ (.head _)))))
theorem frozen_dict {o : Obj} (h : o.ExactDict) : Frozen o := by unfold Frozen; rw [h.1]; decide
theorem frozen_view {T : String} {a : Nat} (h : T ∈ viewTypes) : Frozen (viewObj T a) := by
  unfold viewTypes at h
  simp only [List.mem_cons, List.not_mem_nil, or_false] at h
  rcases h with rfl | rfl
  · exact .tail _ (.tail _ (.tail _ (.head _)))
  · exact .tail _ (.tail _ (.tail _ (.tail _ (.head _))))
theorem Pass.dict {σ σ' : Store} {h h' : Heap} (S : Pass σ h σ' h') {a ep : Nat} {kvs : List (Kx × Value)} (ho : h.DictAt (kxKind B.prog B.w) a kvs ep) (hs : Free σ a) : h'.DictAt (kxKind B.prog B.w) a kvs ep ∧ Free σ' a := by
  obtain ⟨o, es, e, hx, r⟩ := ho
  have := S.free a o e (frozen_dict hx) hs
  exact ⟨⟨o, es, this.1, hx, r⟩, this.2⟩
theorem VRel.pass {σ σ' : Store} {h h' : Heap} (S : Pass σ h σ' h') {x : V} {y : Value} (r : VRel B σ h x y) : VRel B σ' h' x y :=
  VRel.rec (motive_1 := fun x y _ => VRel B σ' h' x y) (motive_2 := fun x y _ => VRelL B σ' h' x y) (motive_3 := fun x y _ => DRel B σ' h' x y)
    .none .bool .int .str .ref .lit (fun ho hs hf => .imm (S.free _ _ ho hf hs).1 (S.free _ _ ho hf hs).2 hf)
    (fun ho hs _ ih => .tup (S.free _ _ ho frozen_tup hs).1 (S.free _ _ ho frozen_tup hs).2 ih) (fun ho hs _ ih => .lst (S.free _ _ ho frozen_list hs).1 (S.free _ _ ho frozen_list hs).2 ih)
    (fun hn ho hs _ ih => .dct hn (S.dict ho hs).1 (S.dict ho hs).2 ih)
    (fun hT hb hb' hn ho hs _ ih => .view hT (S.free _ _ hb (frozen_view hT) hb').1 (S.free _ _ hb (frozen_view hT) hb').2 hn (S.dict ho hs).1 (S.dict ho hs).2 ih)
    .nil (fun _ _ a b => .cons a b) .nil (fun _ _ a b => .cons a b) r
theorem VRelL.pass {σ σ' : Store} {h h' : Heap} (S : Pass σ h σ' h') : ∀ {x : List V} {y : List Value}, VRelL B σ h x y → VRelL B σ' h' x y := by
  intro x
  induction x with
  | nil => intro y r; rw [r.nil']; exact .nil
  | cons a x ih => intro y r; obtain ⟨b, y, rfl, p, q⟩ := r.cons'; exact .cons (p.pass S) (ih q)
theorem DRel.nil' {σ : Store} {h : Heap} {y : List (Kx × Value)} (r : DRel B σ h [] y) : y = [] := by cases r; rfl
theorem DRel.cons' {σ : Store} {h : Heap} {p : Kx × V} {x : List (Kx × V)} {y : List (Kx × Value)} (r : DRel B σ h (p :: x) y) : ∃ u y', y = (p.1, u) :: y' ∧ VRel B σ h p.2 u ∧ DRel B σ h x y' := by
  cases r with | cons a b => exact ⟨_, _, rfl, a, b⟩
theorem DRel.pass {σ σ' : Store} {h h' : Heap} (S : Pass σ h σ' h') : ∀ {x : List (Kx × V)} {y : List (Kx × Value)}, DRel B σ h x y → DRel B σ' h' x y := by
  intro x
  induction x with
  | nil => intro y r; rw [r.nil']; exact .nil
  | cons a x ih => intro y r; obtain ⟨b, y, rfl, p, q⟩ := r.cons'; exact .cons (p.pass S) (ih q)

/- what is outside the store stays, and stays outside -/
structure Step (σ : Store) (h : Heap) (σ' : Store) (h' : Heap) : Prop where
  keep : ∀ b o, h.get? b = some o → σ b = none → h'.get? b = some o ∧ σ' b = none
  fr : σ'.fr = σ.fr
theorem Step.pass {σ σ' : Store} {h h' : Heap} (S : Step σ h σ' h') : Pass σ h σ' h' := ⟨fun b o e _ n => ⟨(S.keep b o e n.1).1, (S.keep b o e n.1).2, by rw [S.fr]; exact n.2⟩⟩
theorem VRel.mono {σ σ' : Store} {h h' : Heap} (S : Step σ h σ' h') {x : V} {y : Value} (r : VRel B σ h x y) : VRel B σ' h' x y := r.pass S.pass
theorem VRelL.mono {σ σ' : Store} {h h' : Heap} (S : Step σ h σ' h') {x : List V} {y : List Value} (r : VRelL B σ h x y) : VRelL B σ' h' x y := r.pass S.pass
theorem DRel.mono {σ σ' : Store} {h h' : Heap} (S : Step σ h σ' h') {x : List (Kx × V)} {y : List (Kx × Value)} (r : DRel B σ h x y) : DRel B σ' h' x y := r.pass S.pass

theorem Step.refl (σ : Store) (h : Heap) : Step σ h σ h := ⟨fun _ _ e n => ⟨e, n⟩, rfl⟩
theorem Step.trans {σ₁ σ₂ σ₃ : Store} {h₁ h₂ h₃ : Heap} (x : Step σ₁ h₁ σ₂ h₂) (y : Step σ₂ h₂ σ₃ h₃) : Step σ₁ h₁ σ₃ h₃ :=
  ⟨fun b o e n => let ⟨a, c⟩ := x.keep b o e n; y.keep b o a c, y.fr.trans x.fr⟩

/- one store within another -/
structure Sub (σ' σ : Store) : Prop where
  sub : ∀ a o, σ' a = some o → σ a = some o
  fr : σ'.fr = σ.fr
theorem Sub.refl (σ : Store) : Sub σ σ := ⟨fun _ _ e => e, rfl⟩
theorem Sub.none {σ' σ : Store} (s : Sub σ' σ) {a : Nat} (e : σ a = none) : σ' a = none := by
  cases q : σ' a with
  | none => rfl
  | some o => rw [s.sub a o q] at e; cases e
theorem Sub.pass {σ σ' : Store} {h : Heap} (S : Sub σ' σ) : Pass σ h σ' h := ⟨fun b o e _ n => ⟨e, S.none n.1, by rw [S.fr]; exact n.2⟩⟩
theorem VRel.sub {σ σ' : Store} {h : Heap} (S : Sub σ' σ) {x : V} {y : Value} (r : VRel B σ h x y) : VRel B σ' h x y := r.pass S.pass
theorem VRelL.sub {σ σ' : Store} {h : Heap} (S : Sub σ' σ) {x : List V} {y : List Value} (r : VRelL B σ h x y) : VRelL B σ' h x y := r.pass S.pass
theorem DRel.sub {σ σ' : Store} {h : Heap} (S : Sub σ' σ) {x : List (Kx × V)} {y : List (Kx × Value)} (r : DRel B σ h x y) : DRel B σ' h x y := r.pass S.pass
/- a mark more, a mark less -/
theorem Pass.add {σ : Store} {h : Heap} {L : Nat} (hL : h.get? L = none) : Pass σ h (σ.add L) h := ⟨fun b o e _ n => ⟨e, n.1, fun q => q.elim (fun q => by rw [q, hL] at e; cases e) n.2⟩⟩
theorem Pass.reset {σ : Store} {h : Heap} {f : Nat → Prop} (k : ∀ a, f a → σ.fr a) : Pass σ h (σ.reset f) h := ⟨fun b o e _ n => ⟨e, n.1, fun q => n.2 (k b q)⟩⟩
theorem VRelL.length {σ : Store} {h : Heap} : ∀ {x : List V} {y : List Value}, VRelL B σ h x y → x.length = y.length := by
  intro x
  induction x with
  | nil => intro y r; rw [r.nil']; rfl
  | cons a x ih => intro y r; obtain ⟨b, y, rfl, _, q⟩ := r.cons'; exact congrArg (· + 1) (ih q)
theorem VRelL.get {σ : Store} {h : Heap} : ∀ {x : List V} {y : List Value}, VRelL B σ h x y → ∀ {i : Nat} {a : V}, x[i]? = some a → ∃ b, y[i]? = some b ∧ VRel B σ h a b := by
  intro x
  induction x with
  | nil => intro y r i a e; cases e
  | cons a x ih =>
    intro y r i c e
    obtain ⟨b, y, rfl, p, q⟩ := r.cons'
    cases i with
    | zero => cases e; exact ⟨_, rfl, p⟩
    | succ i => exact ih q (by simpa using e)
theorem VRelL.get' {σ : Store} {h : Heap} : ∀ {x : List V} {y : List Value}, VRelL B σ h x y → ∀ {i : Nat} {b : Value}, y[i]? = some b → ∃ a, x[i]? = some a ∧ VRel B σ h a b := by
  intro x
  induction x with
  | nil => intro y r i b e; rw [r.nil'] at e; cases e
  | cons a x ih =>
    intro y r i c e
    obtain ⟨b, y, rfl, p, q⟩ := r.cons'
    cases i with
    | zero => cases e; exact ⟨_, rfl, p⟩
    | succ i => exact ih q (by simpa using e)
theorem VRelL.app {σ : Store} {h : Heap} : ∀ {x x' : List V} {y y' : List Value}, VRelL B σ h x y → VRelL B σ h x' y' → VRelL B σ h (x ++ x') (y ++ y') := by
  intro x
  induction x with
  | nil => intro x' y y' r q; rw [r.nil']; exact q
  | cons a x ih => intro x' y y' r q; obtain ⟨b, y, rfl, p, r⟩ := r.cons'; exact .cons p (ih r q)
theorem VRelL.set {σ : Store} {h : Heap} {a : V} {b : Value} (r : VRel B σ h a b) : ∀ {x : List V} {y : List Value}, VRelL B σ h x y → ∀ (i : Nat), VRelL B σ h (x.set i a) (y.set i b) := by
  intro x
  induction x with
  | nil => intro y q i; rw [q.nil']; exact .nil
  | cons c x ih =>
    intro y q i
    obtain ⟨e, y, rfl, p, q⟩ := q.cons'
    cases i with
    | zero => exact .cons r q
    | succ i => exact .cons p (ih q i)
theorem VRelL.take {σ : Store} {h : Heap} : ∀ {x : List V} {y : List Value}, VRelL B σ h x y → ∀ (i : Nat), VRelL B σ h (x.take i) (y.take i) := by
  intro x
  induction x with
  | nil => intro y q i; rw [q.nil', List.take_nil, List.take_nil]; exact .nil
  | cons c x ih =>
    intro y q i
    obtain ⟨e, y, rfl, p, q⟩ := q.cons'
    cases i with
    | zero => exact .nil
    | succ i => exact .cons p (ih q i)
theorem VRelL.drop {σ : Store} {h : Heap} : ∀ {x : List V} {y : List Value}, VRelL B σ h x y → ∀ (i : Nat), VRelL B σ h (x.drop i) (y.drop i) := by
  intro x
  induction x with
  | nil => intro y q i; rw [q.nil', List.drop_nil, List.drop_nil]; exact .nil
  | cons c x ih =>
    intro y q i
    obtain ⟨e, y, rfl, p, q⟩ := q.cons'
    cases i with
    | zero => exact .cons p q
    | succ i => exact ih q i
theorem DRel.length {σ : Store} {h : Heap} : ∀ {x : List (Kx × V)} {y : List (Kx × Value)}, DRel B σ h x y → x.length = y.length := by
  intro x
  induction x with
  | nil => intro y r; rw [r.nil']; rfl
  | cons a x ih => intro y r; obtain ⟨b, y, rfl, _, q⟩ := r.cons'; exact congrArg (· + 1) (ih q)

noncomputable def MapRel (B : Cx) (σ : Store) (h : Heap) (l : List (Str × V)) (m : Str → Option Value) : Prop := ∀ y, match l.lookup y, m y with | none, none => True | some v, some u => VRel B σ h v u | _, _ => False
theorem MapRel.pass {σ σ' : Store} {h h' : Heap} {l : List (Str × V)} {m : Str → Option Value} (x : MapRel B σ h l m) (k : Pass σ h σ' h') : MapRel B σ' h' l m := fun y => by
  have := x y
  cases hl : l.lookup y <;> cases hm : m y <;> rw [hl, hm] at this <;> simp only at this ⊢
  exact this.pass k
theorem MapRel.mono {σ σ' : Store} {h h' : Heap} {l : List (Str × V)} {m : Str → Option Value} (x : MapRel B σ h l m) (S : Step σ h σ' h') : MapRel B σ' h' l m := x.pass S.pass

noncomputable def ORel (B : Cx) (σ : Store) (h : Heap) (a : Nat) : AObj → Prop
  | .list xs => ∃ items n, h.get? a = some (listObj items n) ∧ VRelL B σ h xs items.toList
  | .dict es ep => ∃ kvs, h.DictAt (kxKind B.prog B.w) a kvs ep ∧ DRel B σ h es kvs
  | .cell v => ∃ v', h.IsCell a v' ∧ (match v, v' with | none, none => True | some x, some y => VRel B σ h x y | _, _ => False)
  | .obj o => h.get? a = some o
  | .ns l => ∃ m, h.Ns1 a m ∧ MapRel B σ h l m
theorem ORel.pass {σ σ' : Store} {h h' : Heap} {a : Nat} {o : AObj} (S : Pass σ h σ' h') (hb : ∀ x, h.get? a = some x → h'.get? a = some x) (r : ORel B σ h a o) : ORel B σ' h' a o := by
  cases o with
  | list xs => obtain ⟨items, n, e, q⟩ := r; exact ⟨items, n, hb _ e, q.pass S⟩
  | dict es ep => obtain ⟨kvs, ⟨ob, ens, e, r⟩, q⟩ := r; exact ⟨kvs, ⟨ob, ens, hb _ e, r⟩, q.pass S⟩
  | cell v =>
    obtain ⟨v', ⟨ob, e, r⟩, q⟩ := r
    refine ⟨v', ⟨ob, hb _ e, r⟩, ?_⟩
    cases v <;> cases v' <;> first | exact q | exact q.pass S
  | obj x => exact hb _ r
  | ns l => obtain ⟨m, ⟨ob, ens, ep, e, r⟩, q⟩ := r; exact ⟨m, ⟨ob, ens, ep, hb _ e, r⟩, q.pass S⟩

structure Inv (B : Cx) (σ : Store) (N : Nat) (s : Shared) : Prop where
  store : ∀ a o, σ a = some o → ORel B σ s.heap a o
  base : ∀ b o, B.h₀.get? b = some o → s.heap.get? b = some o ∧ σ b = none
  gens : s.gens = #[]
  os : s.os = B.os
  top : ∀ a o, σ a = some o → a < N
  size : N ≤ s.heap.objs.size
  marks : ∀ a, σ.fr a → a < s.heap.objs.size ∧ σ a = none ∧ B.h₀.get? a = none

end
/- room -/
structure Ok (d : Nat) (A : Around) : Prop where
  handled : A.handled = none
  depth : A.depth + d ≤ 900
  units : A.units + 50 * d ≤ 9000

theorem Ok.in1 {d : Nat} {A : Around} (k : Ok (d + 1) A) : Ok d A.in1 := ⟨k.handled, by have := k.depth; show A.depth + d ≤ 900; exact ar137 this, by have := k.units; show A.units + 1 + 50 * d ≤ 9000; exact ar138 this⟩
theorem Ok.deeper {d : Nat} {A : Around} {env : Env} (k : Ok (d + 1) A) : Ok d (A.deeper env) := ⟨k.handled, by have := k.depth; show A.depth + 1 + d ≤ 900; exact ar139 this, by have := k.units; show A.units + 3 + 50 * d ≤ 9000; exact ar140 this⟩
/- what a tree hands back, by a relation `ρ` -/
inductive Ends {α β : Type} (B : Cx) (ρ : Store → Heap → β → α → Prop) (σ : Store) (N : Nat) (h : Heap) (Q : β → Store → Nat → Prop) (a : α) (s' : Shared) : Prop
  | mk (b : β) (σ' : Store) (N' : Nat) (r : ρ σ' s'.heap b a) (I : Inv B σ' N' s') (S : Step σ h σ' s'.heap) (n : N ≤ N') (q : Q b σ' N')
end
noncomputable section
noncomputable abbrev Loc := List (Str × V)
noncomputable abbrev upd (l : Loc) (x : Str) (v : V) : Loc := (x, v) :: l
theorem upd_look (l : Loc) (x : Str) (v : V) (y : Str) : (upd l x v).lookup y = if y = x then some v else l.lookup y := by
  show (match y == x with | true => some v | false => l.lookup y) = _
  by_cases h : y = x
  · simp [h]
  · rw [if_neg h, beq_eq_false_iff_ne.mpr h]
/- fewer names -/
noncomputable def LSub (l' l : Loc) : Prop := ∀ x v, l'.lookup x = some v → l.lookup x = some v
theorem LSub.nil (l : Loc) : LSub [] l := fun _ _ e => nomatch e
theorem LSub.cons {l' l : Loc} {x : Str} {v : V} (h : l.lookup x = some v) (r : LSub l' l) : LSub ((x, v) :: l') l := fun y u e => by
  have := upd_look l' x v y
  rw [this] at e
  by_cases z : y = x
  · rw [if_pos z] at e; cases e; rw [z]; exact h
  · rw [if_neg z] at e; exact r y u e
noncomputable def pt (σ : Store) (a : Nat) (o : AObj) : Store := ⟨fun b => if b = a then some o else σ b, σ.fr⟩
theorem pt_same (σ : Store) (a : Nat) (o : AObj) : pt σ a o a = some o := if_pos rfl
theorem pt_ne {σ : Store} {a b : Nat} {o : AObj} (h : b ≠ a) : pt σ a o b = σ b := if_neg h
theorem Store.ext {σ σ' : Store} (h : ∀ a, σ a = σ' a) (k : σ.fr = σ'.fr) : σ = σ' := by
  cases σ; cases σ'; simp only [Store.mk.injEq]; exact ⟨funext h, k⟩
theorem pt_id {σ : Store} {a : Nat} {o : AObj} (h : σ a = some o) : pt σ a o = σ := Store.ext (fun b => by
  by_cases z : b = a
  · subst z; rw [pt_same, h]
  · exact pt_ne z) rfl
theorem pt_pt (σ : Store) (a : Nat) (o o' : AObj) : pt (pt σ a o) a o' = pt σ a o' := Store.ext (fun b => by
  by_cases z : b = a
  · subst z; rw [pt_same, pt_same]
  · rw [pt_ne z, pt_ne z, pt_ne z]) rfl
theorem pt_comm {σ : Store} {a b : Nat} {o o' : AObj} (h : a ≠ b) : pt (pt σ a o) b o' = pt (pt σ b o') a o := Store.ext (fun c => by
  by_cases z : c = b
  · subst z; rw [pt_same, pt_ne (Ne.symm h), pt_same]
  · by_cases y : c = a
    · subst y; rw [pt_ne h, pt_same, pt_same]
    · rw [pt_ne z, pt_ne y, pt_ne y, pt_ne z]) rfl
structure FRel (B : Cx) (env : Env) (l : Loc) (σ : Store) (h : Heap) : Prop where
  out : σ env.locals = none
  new : B.h₀.get? env.locals = none
  mark : σ.fr env.locals
  ns : ∃ m, h.Ns env.locals m ∧ ∀ x v, l.lookup x = some v → ∃ y, m x = some y ∧ VRel B σ h v y

theorem FRel.mono {B : Cx} {env : Env} {l : Loc} {σ σ' : Store} {h h' : Heap} (F : FRel B env l σ h) (S : Step σ h σ' h') : FRel B env l σ' h' := by
  obtain ⟨m, ⟨o, es, ep, ho, r⟩, k⟩ := F.ns
  have z := S.keep _ _ ho F.out
  exact ⟨z.2, F.new, by rw [S.fr]; exact F.mark, m, ⟨o, es, ep, z.1, r⟩, fun x v e => let ⟨y, a, b⟩ := k x v e; ⟨y, a, b.mono S⟩⟩

theorem FRel.less {B : Cx} {env : Env} {l l' : Loc} {σ : Store} {h : Heap} (F : FRel B env l σ h) (s : LSub l' l) : FRel B env l' σ h :=
  ⟨F.out, F.new, F.mark, let ⟨m, a, b⟩ := F.ns; ⟨m, a, fun x v e => b x v (s x v e)⟩⟩

theorem Ends.after {α β : Type} {B : Cx} {ρ : Store → Heap → β → α → Prop} {σ σ₁ : Store} {N N₁ : Nat} {h h₁ : Heap} {Q : β → Store → Nat → Prop} {a : α} {s' : Shared} (S : Step σ h σ₁ h₁) (hN : N ≤ N₁) (x : Ends B ρ σ₁ N₁ h₁ Q a s') : Ends B ρ σ N h Q a s' :=
  let ⟨b, σ', N', r, I, S', n, q⟩ := x; ⟨b, σ', N', r, I, S.trans S', Nat.le_trans hN n, q⟩

noncomputable abbrev Post (β : Type) := β → Store → Nat → Prop
/- a tree within a frame -/
noncomputable def WF {α β : Type} (B : Cx) (d : Nat) (env : Env) (l : Loc) (ρ : Store → Heap → β → α → Prop) (t : Sem α) (σ : Store) (N : Nat) (Q : Post β) : Prop :=
  ∀ A s, Ok d A → Inv B σ N s → FRel B env l σ s.heap → wpAny (model B.prog B.w) A t (Ends B ρ σ N s.heap Q) (fun _ _ => False) s
noncomputable def W0 {α β : Type} (B : Cx) (d : Nat) (ρ : Store → Heap → β → α → Prop) (t : Sem α) (σ : Store) (N : Nat) (Q : Post β) : Prop :=
  ∀ A s, Ok d A → Inv B σ N s → wpAny (model B.prog B.w) A t (Ends B ρ σ N s.heap Q) (fun _ _ => False) s
noncomputable def W1 {α β : Type} (B : Cx) (d : Nat) (ρ : Store → Heap → β → α → Prop) (f : Value → Sem α) (x : V) (σ : Store) (N : Nat) (Q : Post β) : Prop :=
  ∀ A s a, Ok d A → Inv B σ N s → VRel B σ s.heap x a → wpAny (model B.prog B.w) A (f a) (Ends B ρ σ N s.heap Q) (fun _ _ => False) s
noncomputable def W2 {α β : Type} (B : Cx) (d : Nat) (ρ : Store → Heap → β → α → Prop) (f : Value → Value → Sem α) (x y : V) (σ : Store) (N : Nat) (Q : Post β) : Prop :=
  ∀ A s a b, Ok d A → Inv B σ N s → VRel B σ s.heap x a → VRel B σ s.heap y b → wpAny (model B.prog B.w) A (f a b) (Ends B ρ σ N s.heap Q) (fun _ _ => False) s
noncomputable def W3 {α β : Type} (B : Cx) (d : Nat) (ρ : Store → Heap → β → α → Prop) (f : Value → Value → Value → Sem α) (x y z : V) (σ : Store) (N : Nat) (Q : Post β) : Prop :=
  ∀ A s a b c, Ok d A → Inv B σ N s → VRel B σ s.heap x a → VRel B σ s.heap y b → VRel B σ s.heap z c → wpAny (model B.prog B.w) A (f a b c) (Ends B ρ σ N s.heap Q) (fun _ _ => False) s
noncomputable def WN {α β : Type} (B : Cx) (d : Nat) (ρ : Store → Heap → β → α → Prop) (f : List Value → Sem α) (xs : List V) (σ : Store) (N : Nat) (Q : Post β) : Prop :=
  ∀ A s as, Ok d A → Inv B σ N s → VRelL B σ s.heap xs as → wpAny (model B.prog B.w) A (f as) (Ends B ρ σ N s.heap Q) (fun _ _ => False) s
noncomputable abbrev BRel : Store → Heap → Bool → Bool → Prop := fun _ _ b a => b = a
noncomputable abbrev URel : Store → Heap → Unit → Unit → Prop := fun _ _ _ _ => True

noncomputable abbrev WE (B : Cx) (d : Nat) (env : Env) (l : Loc) (e : Expr) (σ : Store) (N : Nat) (Q : Post V) : Prop := WF B d env l (VRel B) (eval e env) σ N Q
noncomputable abbrev WB (B : Cx) (d : Nat) (env : Env) (l : Loc) (e : Expr) (σ : Store) (N : Nat) (Q : Post Bool) : Prop := WF B d env l BRel (isTrue e env (eval e env)) σ N Q
noncomputable abbrev WA (B : Cx) (d : Nat) (env : Env) (l : Loc) (pos : Pos) (es : List Expr) (σ : Store) (N : Nat) (Q : Post (List V)) : Prop := WF B d env l (VRelL B) (spliced (backTo pos (starEach es env))) σ N Q
/- a call with the arguments at hand -/
noncomputable abbrev WC (B : Cx) (d : Nat) (f : Value) (xs : List V) (σ : Store) (N : Nat) (Q : Post V) : Prop := WN B d (VRel B) (fun as => call f as) xs σ N Q

inductive Fl where
  | next | brk | cont
  | ret (v : V)
inductive FlRel (B : Cx) (σ : Store) (h : Heap) : Fl → Flow → Prop
  | next : FlRel B σ h .next .next
  | brk : FlRel B σ h .brk .brk
  | cont : FlRel B σ h .cont .cont
  | ret {v : V} {x : Value} (r : VRel B σ h v x) : FlRel B σ h (.ret v) (.ret x)
structure StepL (L : Nat) (σ : Store) (h : Heap) (σ' : Store) (h' : Heap) : Prop where
  keep : ∀ b o, b ≠ L → h.get? b = some o → σ b = none → h'.get? b = some o ∧ σ' b = none
  fr : σ'.fr = σ.fr
theorem Step.toL {σ σ' : Store} {h h' : Heap} (S : Step σ h σ' h') (L : Nat) : StepL L σ h σ' h' := ⟨fun b o _ e n => S.keep b o e n, S.fr⟩
theorem StepL.trans {L : Nat} {σ₁ σ₂ σ₃ : Store} {h₁ h₂ h₃ : Heap} (x : StepL L σ₁ h₁ σ₂ h₂) (y : StepL L σ₂ h₂ σ₃ h₃) : StepL L σ₁ h₁ σ₃ h₃ :=
  ⟨fun b o q e n => let ⟨a, c⟩ := x.keep b o q e n; y.keep b o q a c, y.fr.trans x.fr⟩
/- what changes at `L` is no frozen thing -/
noncomputable def NoFz (L : Nat) (h : Heap) : Prop := ∀ o, h.get? L = some o → ¬ Frozen o
noncomputable def NoTup (σ : Store) (L : Nat) (h : Heap) : Prop := σ.fr L ∨ NoFz L h
theorem StepL.pass {L : Nat} {σ σ' : Store} {h h' : Heap} (S : StepL L σ h σ' h') (hL : NoTup σ L h) : Pass σ h σ' h' := ⟨fun b o e hf n => by
  have ne : b ≠ L := fun q => by
    subst q
    exact hL.elim n.2 fun k => k o e hf
  exact ⟨(S.keep b o ne e n.1).1, (S.keep b o ne e n.1).2, by rw [S.fr]; exact n.2⟩⟩
theorem FRel.noTup {B : Cx} {env : Env} {l : Loc} {σ : Store} {h h' : Heap} (F : FRel B env l σ h) : NoTup σ env.locals h' := .inl F.mark

section
variable {B : Cx} {N N' : Nat} {σ σ' : Store} {h h' : Heap} {s s' : Shared} {a L : Nat} {o : AObj}
theorem StepL.of_ext (hx : Heap.ExtBut L h h') (hL : σ L = none) : StepL L σ h σ h' := ⟨fun b o q e n => ⟨hx b o q e, n⟩, rfl⟩

theorem Inv.frame (I : Inv B σ N s) (hx : Heap.ExtBut L s.heap s'.heap) (hL : σ L = none) (h0 : B.h₀.get? L = none) (hN : NoTup σ L s.heap) (hz : s.heap.objs.size ≤ s'.heap.objs.size) (hg : s'.gens = s.gens) (ho : s'.os = s.os) : Inv B σ N s' where
  store := fun a o e => (I.store a o e).pass ((StepL.of_ext hx hL).pass hN) fun x q => hx a x (fun z => by rw [z, hL] at e; cases e) q
  base := fun b o e => ⟨hx b o (fun z => by rw [z, h0] at e; cases e) (I.base b o e).1, (I.base b o e).2⟩
  gens := hg.trans I.gens
  os := ho.trans I.os
  top := I.top
  size := Nat.le_trans I.size hz
  marks := fun a f => let ⟨x, y⟩ := I.marks a f; ⟨Nat.lt_of_lt_of_le x hz, y⟩

theorem Step.put (hx : Heap.ExtBut a h h') (ha : σ a ≠ none ∨ (h.get? a = none ∧ h.objs.size ≤ a)) : Step σ h (pt σ a o) h' := ⟨fun b x e n => by
  have ne : b ≠ a := fun z => by
    subst z
    rcases ha with q | q
    · exact q n
    · rw [q.1] at e; cases e
  exact ⟨hx b x ne e, (pt_ne ne).trans n⟩, rfl⟩
theorem Step.grow (hx : ∀ b x, h.get? b = some x → h'.get? b = some x) : Step σ h σ h' := ⟨fun b x e n => ⟨hx b x e, n⟩, rfl⟩
theorem ORel.mono (S : Step σ h σ' h') (hb : ∀ x, h.get? a = some x → h'.get? a = some x) (r : ORel B σ h a o) : ORel B σ' h' a o := r.pass S.pass hb
/- the size at which a new thing comes is no mark -/
theorem Inv.put (I : Inv B σ N s) (hx : Heap.ExtBut a s.heap s'.heap) (ha : σ a ≠ none ∨ (s.heap.get? a = none ∧ s.heap.objs.size ≤ a)) (hr : ORel B (pt σ a o) s'.heap a o) (hN : N ≤ N') (ha' : a < N') (hz : N' ≤ s'.heap.objs.size) (hy : s.heap.objs.size ≤ s'.heap.objs.size) (hg : s'.gens = s.gens) (ho : s'.os = s.os) : Inv B (pt σ a o) N' s' where
  store := fun b x e => by
    by_cases z : b = a
    · subst z; rw [pt_same] at e; cases e; exact hr
    · rw [pt_ne z] at e
      exact (I.store b x e).mono (.put hx ha) fun y q => hx b y z q
  base := fun b x e => by
    obtain ⟨e1, e2⟩ := I.base b x e
    have ne : b ≠ a := fun z => by
      subst z
      rcases ha with q | q
      · exact q e2
      · rw [q.1] at e1; cases e1
    exact ⟨hx b x ne e1, (pt_ne ne).trans e2⟩
  gens := hg.trans I.gens
  os := ho.trans I.os
  top := fun b x e => by
    by_cases z : b = a
    · subst z; exact ha'
    · rw [pt_ne z] at e; exact Nat.lt_of_lt_of_le (I.top b x e) hN
  size := hz
  marks := fun b f => by
    obtain ⟨x, y, z⟩ := I.marks b f
    have ne : b ≠ a := fun q => by
      subst q
      rcases ha with p | p
      · exact p y
      · exact absurd x (Nat.not_lt.mpr p.2)
    exact ⟨Nat.lt_of_lt_of_le x hy, (pt_ne ne).trans y, z⟩
theorem Inv.grow (I : Inv B σ N s) (hx : ∀ b x, s.heap.get? b = some x → s'.heap.get? b = some x) (hz : s.heap.objs.size ≤ s'.heap.objs.size) (hg : s'.gens = s.gens) (ho : s'.os = s.os) : Inv B σ N s' where
  store := fun b x e => (I.store b x e).mono (.grow hx) fun y q => hx b y q
  base := fun b x e => ⟨hx _ _ (I.base b x e).1, (I.base b x e).2⟩
  gens := hg.trans I.gens
  os := ho.trans I.os
  top := I.top
  size := Nat.le_trans I.size hz
  marks := fun a f => let ⟨x, y⟩ := I.marks a f; ⟨Nat.lt_of_lt_of_le x hz, y⟩
theorem Inv.sub (I : Inv B σ N s) (S : Sub σ' σ) : Inv B σ' N s := ⟨fun a o e => (I.store a o (S.sub a o e)).pass S.pass fun _ q => q, fun b o e => ⟨(I.base b o e).1, S.none (I.base b o e).2⟩, I.gens, I.os, fun a o e => I.top a o (S.sub a o e), I.size,
  fun a f => let ⟨x, y, z⟩ := I.marks a (by rw [← S.fr]; exact f); ⟨x, S.none y, z⟩⟩
theorem Step.sub {σ₂ : Store} (x : Step σ h σ' h') (S : Sub σ₂ σ') : Step σ h σ₂ h' := ⟨fun b o e n => ⟨(x.keep b o e n).1, S.none (x.keep b o e n).2⟩, S.fr.trans x.fr⟩
theorem Inv.toks (I : Inv B σ N s) {t : Nat} : Inv B σ N { s with toks := t } := ⟨I.store, I.base, I.gens, I.os, I.top, I.size, I.marks⟩
/- a mark less -/
theorem Inv.reset (I : Inv B σ N s) {f : Nat → Prop} (k : ∀ a, f a → σ.fr a) : Inv B (σ.reset f) N s :=
  ⟨fun a o e => (I.store a o e).pass (.reset k) fun _ q => q, I.base, I.gens, I.os, I.top, I.size, fun a q => I.marks a (k a q)⟩
/- a new mark at a new address -/
theorem Inv.mark (I : Inv B σ N s) (hL : s.heap.get? L = none) (hs : σ L = none) (hx : ∀ b x, s.heap.get? b = some x → s'.heap.get? b = some x) (hz : s.heap.objs.size ≤ s'.heap.objs.size) (hl : L < s'.heap.objs.size) (hg : s'.gens = s.gens) (ho : s'.os = s.os) : Inv B (σ.add L) N s' where
  store := fun a o e => ((I.store a o e).pass (.add hL) fun _ q => q).pass (Step.grow hx).pass fun y q => hx a y q
  base := fun b x e => ⟨hx _ _ (I.base b x e).1, (I.base b x e).2⟩
  gens := hg.trans I.gens
  os := ho.trans I.os
  top := I.top
  size := Nat.le_trans I.size hz
  marks := fun a f => f.elim (fun q => by
    subst q
    refine ⟨hl, hs, ?_⟩
    cases q : B.h₀.get? a with
    | none => rfl
    | some o => have := (I.base _ _ q).1; rw [hL] at this; cases this) fun f => let ⟨x, y⟩ := I.marks a f; ⟨Nat.lt_of_lt_of_le x hz, y⟩
/- an address of the store is within the heap -/
theorem Inv.there (I : Inv B σ N s) (e : σ a = some o) : ∃ x, s.heap.get? a = some x := by
  have r := I.store a o e
  cases o with
  | list xs => obtain ⟨_, _, e, _⟩ := r; exact ⟨_, e⟩
  | dict es ep => obtain ⟨_, ⟨_, _, e, _⟩, _⟩ := r; exact ⟨_, e⟩
  | cell v => obtain ⟨_, ⟨_, e, _⟩, _⟩ := r; exact ⟨_, e⟩
  | obj x => exact ⟨_, r⟩
  | ns l => obtain ⟨m, ⟨_, _, _, e, _⟩, _⟩ := r; exact ⟨_, e⟩
theorem Inv.fresh (I : Inv B σ N s) : σ s.heap.objs.size = none := by
  cases q : σ s.heap.objs.size with
  | none => rfl
  | some o => obtain ⟨x, e⟩ := I.there q; exact absurd (Heap.lt_size e) (Nat.lt_irrefl _)
theorem Inv.above (I : Inv B σ N s) : ∀ a, N ≤ a → σ a = none := fun a ha => by
  cases q : σ a with
  | none => rfl
  | some o => exact absurd (I.top a o q) (Nat.not_lt.mpr ha)
theorem Inv.free (I : Inv B σ N s) : Free σ s.heap.objs.size := ⟨I.fresh, fun q => absurd (I.marks _ q).1 (Nat.lt_irrefl _)⟩
end
theorem get_fresh (h : Heap) : h.get? h.objs.size = none := by
  cases q : h.get? h.objs.size with
  | none => rfl
  | some o => exact absurd (Heap.lt_size q) (Nat.lt_irrefl _)

theorem Inv.notSys {B : Cx} {σ : Store} {N : Nat} {s : Shared} {a : Nat} {o : AObj} (I : Inv B σ N s) (h : σ a = some o) : (a == sysModules) = false := by
  obtain ⟨o', e⟩ := B.sys
  exact beq_eq_false_iff_ne.mpr fun z => by have := (I.base _ _ e).2; rw [← z, h] at this; cases this
/- what is handed out, read anew: things of the store given up, a list or a dict of the store as a value -/
inductive Off (σ : Store) : V → Store → V → Prop
  | refl {v : V} : Off σ v σ v
  | sub {v : V} {σ' : Store} (h : Sub σ' σ) : Off σ v σ' v
  | list {a : Nat} {xs : List V} {σ' : Store} (h : σ a = some (.list xs)) (hs : Sub σ' σ) (hn : σ' a = none) : Off σ (.ref a) σ' (.lst xs)
  | dict {a : Nat} {es : List (Kx × V)} {ep : Nat} {σ' : Store} (h : σ a = some (.dict es ep)) (hs : Sub σ' σ) (hn : σ' a = none) : Off σ (.ref a) σ' (.dct es)
theorem Off.store {σ σ' : Store} {v v' : V} (o : Off σ v σ' v') : Sub σ' σ := by
  cases o with
  | refl => exact .refl _
  | sub h => exact h
  | list h hs hn => exact hs
  | dict h hs hn => exact hs
theorem Off.rel {B : Cx} {σ σ' : Store} {N : Nat} {s : Shared} {v v' : V} {x : Value} (o : Off σ v σ' v') (I : Inv B σ N s) (r : VRel B σ s.heap v x) : VRel B σ' s.heap v' x := by
  cases o with
  | refl => exact r
  | sub h => exact r.sub h
  | list h hs hn =>
    obtain ⟨_, rfl⟩ := r.inv
    rename_i a xs
    obtain ⟨items, n, e, q⟩ := I.store a _ h
    exact .lst e ⟨hn, fun f => by rw [hs.fr] at f; rw [(I.marks a f).2.1] at h; cases h⟩ (q.sub hs)
  | dict h hs hn =>
    obtain ⟨_, rfl⟩ := r.inv
    rename_i a es ep
    obtain ⟨kvs, e, q⟩ := I.store a _ h
    exact .dct (I.notSys h) e ⟨hn, fun f => by rw [hs.fr] at f; rw [(I.marks a f).2.1] at h; cases h⟩ (q.sub hs)
/- lists, dicts: of the store or as values -/
inductive ListV (σ : Store) : V → List V → Prop
  | ref {a : Nat} {xs : List V} (h : σ a = some (.list xs)) : ListV σ (.ref a) xs
  | lst (xs : List V) : ListV σ (.lst xs) xs
inductive DictV (σ : Store) : V → List (Kx × V) → Prop
  | ref {a : Nat} {es : List (Kx × V)} {ep : Nat} (h : σ a = some (.dict es ep)) : DictV σ (.ref a) es
  | dct (es : List (Kx × V)) : DictV σ (.dct es) es
section
variable {B : Cx} {σ : Store} {N : Nat} {s : Shared} {u : V} {x : Value}
theorem ListV.at {xs : List V} (t : ListV σ u xs) (I : Inv B σ N s) (r : VRel B σ s.heap u x) : ∃ a items n, x = .ref a ∧ s.heap.get? a = some (listObj items n) ∧ VRelL B σ s.heap xs items.toList := by
  cases t with
  | ref h => obtain ⟨_, rfl⟩ := r.inv; obtain ⟨items, n, e, q⟩ := I.store _ _ h; exact ⟨_, items, n, rfl, e, q⟩
  | lst => obtain ⟨_, _, _, rfl, e, hs, q⟩ := r.inv; exact ⟨_, _, _, rfl, e, q⟩
theorem DictV.at {es : List (Kx × V)} (t : DictV σ u es) (I : Inv B σ N s) (r : VRel B σ s.heap u x) : ∃ a kvs ep, x = .ref a ∧ (a == sysModules) = false ∧ s.heap.DictAt (kxKind B.prog B.w) a kvs ep ∧ DRel B σ s.heap es kvs := by
  cases t with
  | ref h => obtain ⟨_, rfl⟩ := r.inv; obtain ⟨kvs, e, q⟩ := I.store _ _ h; exact ⟨_, kvs, _, rfl, I.notSys h, e, q⟩
  | dct => obtain ⟨_, _, _, rfl, hn, e, hs, q⟩ := r.inv; exact ⟨_, _, _, rfl, hn, e, q⟩
end
end
noncomputable section
section
variable {B : Cx} {d : Nat} {env : Env} {l : Loc} {σ : Store} {N : Nat}

theorem Ends.here {α β : Type} {ρ : Store → Heap → β → α → Prop} {Q : Post β} {a : α} {b : β} {s s' : Shared} (I : Inv B σ N s') (S : Step σ s.heap σ s'.heap) (r : ρ σ s'.heap b a) (q : Q b σ N) : Ends B ρ σ N s.heap Q a s' :=
  ⟨b, σ, N, r, I, S, Nat.le_refl _, q⟩
theorem bot {α : Type} {M : Model} {A : Around} {t : Sem α} {P Q : α → Shared → Prop} {E : Value → Shared → Prop} {s : Shared} (h : wpAny M A t P (fun _ _ => False) s) (k : ∀ a s', P a s' → Q a s') : wpAny M A t Q E s :=
  wpAny_mono h k fun _ _ x => x.elim

/- constants, names -/
theorem WE_int {i : Int} {k : Nat} {pos : Pos} {Q : Post V} (h : Q (.int i) σ N) : WE B d env l (.Constant (.int i) k pos) σ N Q :=
  fun A s _ I _ => wpAny_Constant_int (.here I.toks (.refl _ _) (.int _ _) h)
theorem WE_str {x : Str} {k : Nat} {pos : Pos} {Q : Post V} (h : Q (.str x) σ N) : WE B d env l (.Constant (.str x) k pos) σ N Q :=
  fun A s _ I _ => wpAny_Constant_str (.here I.toks (.refl _ _) (.str _ _) h)
theorem WE_bool {b : Bool} {k : Nat} {pos : Pos} {Q : Post V} (h : Q (.bool b) σ N) : WE B d env l (.Constant (.bool b) k pos) σ N Q :=
  fun A s _ I _ => wpAny_Constant_bool (.here I (.refl _ _) (.bool _) h)
theorem WE_none {k : Nat} {pos : Pos} {Q : Post V} (h : Q .none σ N) : WE B d env l (.Constant .none k pos) σ N Q :=
  fun A s _ I _ => wpAny_Constant_none (.here I (.refl _ _) .none h)
theorem WF_loadLocal {x : Str} {v : V} {Q : Post V} (hl : l.lookup x = some v) (h : Q v σ N) (hk : env.scope.kind = .function) (hx : env.kindOf x = some .local) : WF B d env l (VRel B) (loadName env x) σ N Q :=
  fun A s _ I F => by
    obtain ⟨m, hn, k⟩ := F.ns
    obtain ⟨y, hy, r⟩ := k x v hl
    exact wpAny_loadName_local hk hx hn hy (.here I (.refl _ _) r h)
theorem WE_local {x : Str} {pos : Pos} {v : V} {Q : Post V} (hl : l.lookup x = some v) (h : Q v σ N) (hk : env.scope.kind = .function := by rfl) (hx : env.kindOf x = some .local := by rfl) (hd : (x == ("__debug__" : Str)) = false := by decide) :
    WE B d env l (.Name x pos) σ N Q := fun A s k I F => wpAny_Name (WF_loadLocal hl h hk hx A s k I F) hd
theorem WE_cell {x : Str} {pos : Pos} {c : Nat} {v : V} {Q : Post V} (hc : env.cells.lookup x = some c) (hs : σ c = some (.cell (some v))) (h : Q v σ N) (hk : env.scope.kind = .function := by rfl) (hx : env.kindOf x = some .cell := by rfl) (hd : (x == ("__debug__" : Str)) = false := by decide) :
    WE B d env l (.Name x pos) σ N Q := fun A s _ I F => by
  obtain ⟨v', hv, r⟩ := I.store c _ hs
  cases v' with
  | none => exact r.elim
  | some y => exact wpAny_Name (wpAny_loadName_cell hk hx hc hv (.here I (.refl _ _) r h)) hd
theorem WE_free {x : Str} {pos : Pos} {c : Nat} {v : V} {Q : Post V} (hc : env.cells.lookup x = some c) (hs : σ c = some (.cell (some v))) (h : Q v σ N) (hk : env.scope.kind = .function := by rfl) (hx : env.kindOf x = some .free := by rfl) (hd : (x == ("__debug__" : Str)) = false := by decide)
    (hn : (x == ("__classdict__" : Str)) = false := by decide) : WE B d env l (.Name x pos) σ N Q := fun A s _ I F => by
  obtain ⟨v', hv, r⟩ := I.store c _ hs
  cases v' with
  | none => exact r.elim
  | some y => exact wpAny_Name (wpAny_loadName_free hk hx hc hv (.here I (.refl _ _) r h) hn) hd

/- the names of the module, and the built-in ones -/
noncomputable def Glo (B : Cx) (x : Str) (v : Value) : Prop := ∃ mg, B.h₀.Ns mainGlobals mg ∧ mg x = some v
noncomputable def Bui (B : Cx) (x : Str) (v : Value) : Prop := ∃ mg mb, B.h₀.Ns mainGlobals mg ∧ mg x = none ∧ B.h₀.Ns builtinsNs mb ∧ mb x = some v
theorem Inv.keep {s : Shared} (I : Inv B σ N s) : ∀ b o, B.h₀.get? b = some o → s.heap.get? b = some o := fun b o e => (I.base b o e).1
theorem WE_glob {x : Str} {pos : Pos} {v : Value} {Q : Post V} (hg : Glo B x v) (h : Q (.lit v) σ N) (hk : env.scope.kind = .function := by rfl) (hx : env.kindOf x = some .globalImplicit := by rfl) (he : env.globals = mainGlobals := by rfl) (hd : (x == ("__debug__" : Str)) = false := by decide) :
    WE B d env l (.Name x pos) σ N Q := fun A s _ I F => by
  obtain ⟨mg, hn, hv⟩ := hg
  exact Name_function_global hk hx (loadGlobal_global (mg := mg) (by rw [he]; exact hn.keeps I.keep) hv (.here I (.refl _ _) (.lit _) h)) hd
theorem WE_built {x : Str} {pos : Pos} {v : Value} {Q : Post V} (hg : Bui B x v) (h : Q (.lit v) σ N) (hk : env.scope.kind = .function := by rfl) (hx : env.kindOf x = some .globalImplicit := by rfl) (he : env.globals = mainGlobals := by rfl) (hb : env.builtins = builtinsNs := by rfl) (hd : (x == ("__debug__" : Str)) = false := by decide) :
    WE B d env l (.Name x pos) σ N Q := fun A s _ I F => by
  obtain ⟨mg, mb, hn, hv, hn', hv'⟩ := hg
  exact Name_function_global hk hx (loadGlobal_builtin (mg := mg) (mb := mb) (by rw [he]; exact hn.keeps I.keep) hv (by rw [hb]; exact hn'.keeps I.keep) hv' (.here I (.refl _ _) (.lit _) h)) hd

/- operators -/
theorem WF.seq {α α' β β' : Type} {ρ : Store → Heap → β → α → Prop} {ρ' : Store → Heap → β' → α' → Prop} {t : Sem α} {Q : Post β} {R : α → Shared → Prop} {A : Around} {s : Shared} {E : Value → Shared → Prop}
    (h : WF B d env l ρ t σ N Q) (k : Ok d A) (I : Inv B σ N s) (F : FRel B env l σ s.heap)
    (g : ∀ a b σ₁ N₁ s₁, ρ σ₁ s₁.heap b a → Inv B σ₁ N₁ s₁ → FRel B env l σ₁ s₁.heap → Step σ s.heap σ₁ s₁.heap → N ≤ N₁ → Q b σ₁ N₁ → R a s₁) : wpAny (model B.prog B.w) A t R E s :=
  bot (h A s k I F) fun a s₁ ⟨b, σ₁, N₁, r, I₁, S, n, q⟩ => g a b σ₁ N₁ s₁ r I₁ (F.mono S) S n q

theorem WE_bin {x y : Expr} {op : Operator} {pos : Pos} {Q : Post V} (h : WE B d env l x σ N fun u σ₁ N₁ => WE B d env l y σ₁ N₁ fun v σ₂ N₂ => W2 B d (VRel B) (binaryOp op) u v σ₂ N₂ Q) : WE B d env l (.BinOp x op y pos) σ N Q :=
  fun A s k I F => wpAny_BinOp (h.seq (ρ' := VRel B) k I F fun a u σ₁ N₁ s₁ r I₁ F₁ S₁ n₁ h₁ => h₁.seq (ρ' := VRel B) k I₁ F₁ fun b v σ₂ N₂ s₂ r₂ I₂ F₂ S₂ n₂ h₂ =>
    bot (h₂ A s₂ a b k I₂ (r.mono S₂) r₂) fun c s₃ e => e.after (S₁.trans S₂) (Nat.le_trans n₁ n₂))
theorem WE_cmp {x y : Expr} {op : CmpOp} {pos : Pos} {Q : Post V} (h : WE B d env l x σ N fun u σ₁ N₁ => WE B d env l y σ₁ N₁ fun v σ₂ N₂ => W2 B d (VRel B) (compareOp op) u v σ₂ N₂ Q)
    (hm : behindInMarks op y = false := by with_unfolding_all rfl) : WE B d env l (.Compare x [op] [y] pos) σ N Q :=
  fun A s k I F => wpAny_Compare1 (h.seq (ρ' := VRel B) k I F fun a u σ₁ N₁ s₁ r I₁ F₁ S₁ n₁ h₁ => h₁.seq (ρ' := VRel B) k I₁ F₁ fun b v σ₂ N₂ s₂ r₂ I₂ F₂ S₂ n₂ h₂ =>
    bot (h₂ A s₂ a b k I₂ (r.mono S₂) r₂) fun c s₃ e => e.after (S₁.trans S₂) (Nat.le_trans n₁ n₂)) hm
theorem WE_una {x : Expr} {op : UnaryOp} {pos : Pos} {Q : Post V} (h : WE B d env l x σ N fun u σ₁ N₁ => W1 B d (VRel B) (unaryOp op) u σ₁ N₁ Q) : WE B d env l (.UnaryOp op x pos) σ N Q :=
  fun A s k I F => wpAny_UnaryOp (h.seq (ρ' := VRel B) k I F fun a u σ₁ N₁ s₁ r I₁ F₁ S₁ n₁ h₁ => bot (h₁ A s₁ a k I₁ r) fun c s₃ e => e.after S₁ n₁)
theorem WE_ifexp {t x y : Expr} {pos : Pos} {Q : Post V} (h : WB B d env l t σ N fun b σ₁ N₁ => if b then WE B d env l x σ₁ N₁ Q else WE B d env l y σ₁ N₁ Q) : WE B d env l (.IfExp t x y pos) σ N Q :=
  fun A s k I F => wpAny_IfExp (h.seq (ρ' := VRel B) k I F fun a u σ₁ N₁ s₁ r I₁ F₁ S₁ n₁ h₁ => by
    cases (show u = a from r)
    cases a with
    | true => exact bot (h₁ A s₁ k I₁ F₁) fun c s₃ e => e.after S₁ n₁
    | false => exact bot (h₁ A s₁ k I₁ F₁) fun c s₃ e => e.after S₁ n₁)
theorem WE_and {x y : Expr} {pos : Pos} {Q : Post V} (h : WE B d env l x σ N fun u σ₁ N₁ => W1 B d BRel truthy u σ₁ N₁ fun b σ₂ N₂ => if b then WE B d env l y σ₂ N₂ Q else Q u σ₂ N₂) : WE B d env l (.BoolOp .And [x, y] pos) σ N Q :=
  fun A s k I F => wpAny_And2 (h.seq (ρ' := VRel B) k I F fun a u σ₁ N₁ s₁ r I₁ F₁ S₁ n₁ h₁ => bot (h₁ A s₁ a k I₁ r) fun c s₂ ⟨b, σ₂, N₂, rb, I₂, S₂, n₂, q⟩ => by
    cases (show b = c from rb)
    cases c with
    | true => exact bot (q A s₂ k I₂ (F₁.mono S₂)) fun c s₃ e => e.after (S₁.trans S₂) (Nat.le_trans n₁ n₂)
    | false => exact ⟨u, σ₂, N₂, r.mono S₂, I₂, S₁.trans S₂, Nat.le_trans n₁ n₂, q⟩)
theorem WE_or {x y : Expr} {pos : Pos} {Q : Post V} (h : WE B d env l x σ N fun u σ₁ N₁ => W1 B d BRel truthy u σ₁ N₁ fun b σ₂ N₂ => if b then Q u σ₂ N₂ else WE B d env l y σ₂ N₂ Q) : WE B d env l (.BoolOp .Or [x, y] pos) σ N Q :=
  fun A s k I F => wpAny_Or2 (h.seq (ρ' := VRel B) k I F fun a u σ₁ N₁ s₁ r I₁ F₁ S₁ n₁ h₁ => bot (h₁ A s₁ a k I₁ r) fun c s₂ ⟨b, σ₂, N₂, rb, I₂, S₂, n₂, q⟩ => by
    cases (show b = c from rb)
    cases c with
    | false => exact bot (q A s₂ k I₂ (F₁.mono S₂)) fun c s₃ e => e.after (S₁.trans S₂) (Nat.le_trans n₁ n₂)
    | true => exact ⟨u, σ₂, N₂, r.mono S₂, I₂, S₁.trans S₂, Nat.le_trans n₁ n₂, q⟩)

/- tests -/
theorem WB_cmp {x y : Expr} {op : CmpOp} {pos : Pos} {Q : Post Bool} (h : WE B d env l x σ N fun u σ₁ N₁ => WE B d env l y σ₁ N₁ fun v σ₂ N₂ => W2 B d (VRel B) (compareOp op) u v σ₂ N₂ fun c σ₃ N₃ => W1 B d BRel truthy c σ₃ N₃ Q)
    (hm : behindInMarks op y = false := by with_unfolding_all rfl) : WB B d env l (.Compare x [op] [y] pos) σ N Q :=
  fun A s k I F => wpAny_isTrue_Compare1 (h.seq (ρ' := VRel B) k I F fun a u σ₁ N₁ s₁ r I₁ F₁ S₁ n₁ h₁ => h₁.seq (ρ' := VRel B) k I₁ F₁ fun b v σ₂ N₂ s₂ r₂ I₂ F₂ S₂ n₂ h₂ =>
    bot (h₂ A s₂ a b k I₂ (r.mono S₂) r₂) fun c s₃ ⟨c', σ₃, N₃, r₃, I₃, S₃, n₃, h₃⟩ => bot (h₃ A s₃ c k I₃ r₃) fun _ s₄ e => e.after ((S₁.trans S₂).trans S₃) (Nat.le_trans (Nat.le_trans n₁ n₂) n₃)) hm
theorem WB_not {x : Expr} {pos : Pos} {Q : Post Bool} (h : WB B d env l x σ N fun b σ₁ N₁ => Q (!b) σ₁ N₁) : WB B d env l (.UnaryOp .Not x pos) σ N Q :=
  fun A s k I F => wpAny_isTrue_Not (h.seq (ρ' := VRel B) k I F fun a u σ₁ N₁ s₁ r I₁ F₁ S₁ n₁ h₁ => ⟨!u, σ₁, N₁, by rw [show u = a from r], I₁, S₁, n₁, h₁⟩)
/- a plain value's truth -/
theorem WB_plain {e : Expr} {Q : Post Bool} (h : WE B d env l e σ N fun u σ₁ N₁ => W1 B d BRel truthy u σ₁ N₁ Q) (he : isTrue e env (eval e env) = (do let v ← eval e env; standAt e.pos; holding [v] (truthy v)) := by rfl) : WB B d env l e σ N Q :=
  fun A s k I F => wpAny_isTrue_value (h.seq (ρ' := VRel B) k I F fun a u σ₁ N₁ s₁ r I₁ F₁ S₁ n₁ h₁ => bot (h₁ A s₁ a k I₁ r) fun _ s₄ e => e.after S₁ n₁) he
/- lists of arguments, displays -/
theorem WA_nil {pos : Pos} {Q : Post (List V)} (h : Q [] σ N) : WA B d env l pos [] σ N Q := fun A s k I F => args_nil (.here I (.refl _ _) .nil h)
theorem WA_cons {pos : Pos} {e : Expr} {es : List Expr} {Q : Post (List V)} (h : WE B d env l e σ N fun v σ₁ N₁ => WA B d env l pos es σ₁ N₁ fun vs σ₂ N₂ => Q (v :: vs) σ₂ N₂)
    (he : starEach (e :: es) env = (false, eval e env) :: starEach es env := by rfl) : WA B d env l pos (e :: es) σ N Q :=
  fun A s k I F => args_cons (h.seq (ρ' := VRel B) k I F fun a u σ₁ N₁ s₁ r I₁ F₁ S₁ n₁ h₁ => bot (h₁ A s₁ k I₁ F₁) fun as s₂ ⟨us, σ₂, N₂, rs, I₂, S₂, n₂, q⟩ =>
    ⟨u :: us, σ₂, N₂, .cons (r.mono S₂) rs, I₂, S₁.trans S₂, Nat.le_trans n₁ n₂, q⟩) he

theorem Inv.push {s : Shared} {o : Obj} (I : Inv B σ N s) : Inv B σ N { s with heap := s.heap.push o } := I.grow (fun b x e => Heap.get?_push_of_some _ e) (by show s.heap.objs.size ≤ (s.heap.push o).objs.size; rw [Heap.size_push]; exact Nat.le_succ _) rfl rfl
theorem Step.push {h : Heap} {o : Obj} : Step σ h σ (h.push o) := .grow fun b x e => Heap.get?_push_of_some _ e
theorem ext_push {h : Heap} {o : Obj} {a : Nat} : Heap.ExtBut a h (h.push o) := fun b x _ e => Heap.get?_push_of_some _ e
/- a new thing of the store -/
theorem Inv.new {s : Shared} {x : Obj} {o : AObj} (I : Inv B σ N s) (hr : ORel B (pt σ s.heap.objs.size o) (s.heap.push x) s.heap.objs.size o) : Inv B (pt σ s.heap.objs.size o) (s.heap.objs.size + 1) { s with heap := s.heap.push x } :=
  I.put ext_push (.inr ⟨get_fresh _, Nat.le_refl _⟩) hr (Nat.le_succ_of_le I.size) (Nat.lt_succ_self _) (by show _ ≤ (s.heap.push x).objs.size; rw [Heap.size_push]; exact Nat.le_refl _) (by show _ ≤ (s.heap.push x).objs.size; rw [Heap.size_push]; exact Nat.le_succ _) rfl rfl
theorem Step.new {h : Heap} {x : Obj} {o : AObj} : Step σ h (pt σ h.objs.size o) (h.push x) := .put ext_push (.inr ⟨get_fresh _, Nat.le_refl _⟩)

theorem WN_newList {xs : List V} {Q : Post V} (h : ∀ a, N ≤ a → Q (.ref a) (pt σ a (.list xs)) (a + 1)) (hz : xs.length ≤ sizeLine) : WN B d (VRel B) newList xs σ N Q :=
  fun A s as k I r => wpAny_newObj_type ⟨.ref s.heap.objs.size, pt σ s.heap.objs.size (.list xs), s.heap.objs.size + 1, .ref _,
    I.new ⟨as.toArray, 0, Heap.get?_push_size _ rfl, r.mono .new⟩, .new, Nat.le_succ_of_le I.size, h _ I.size⟩ (by show as.toArray.size ≤ sizeLine; rw [List.size_toArray, ← r.length]; exact hz)
theorem WN_newTuple {xs : List V} {Q : Post V} (h : Q (.tup xs) σ N) (hz : xs.length ≤ sizeLine) : WN B d (VRel B) newTuple xs σ N Q :=
  fun A s as k I r => wpAny_newObj_type (.here I.push .push (.tup (n := 0) (items := as.toArray) (Heap.get?_push_size _ rfl) I.free (r.mono .push)) h) (by show as.toArray.size ≤ sizeLine; rw [List.size_toArray, ← r.length]; exact hz)
end
end
noncomputable section
noncomputable abbrev PostS := Fl → Loc → Store → Nat → Prop
inductive EndS (B : Cx) (env : Env) (σ : Store) (N : Nat) (h : Heap) (Q : PostS) (f : Flow) (s' : Shared) : Prop
  | mk (x : Fl) (l' : Loc) (σ' : Store) (N' : Nat) (r : FlRel B σ' s'.heap x f) (I : Inv B σ' N' s') (S : StepL env.locals σ h σ' s'.heap) (F : FRel B env l' σ' s'.heap) (n : N ≤ N') (q : Q x l' σ' N')
noncomputable def WS (B : Cx) (d : Nat) (env : Env) (l : Loc) (t : Sem Flow) (σ : Store) (N : Nat) (Q : PostS) : Prop :=
  ∀ A s, Ok d A → Inv B σ N s → FRel B env l σ s.heap → wpAny (model B.prog B.w) A t (EndS B env σ N s.heap Q) (fun _ _ => False) s
noncomputable abbrev WX (B : Cx) (d : Nat) (env : Env) (l : Loc) (ss : List Stmt) (σ : Store) (N : Nat) (Q : PostS) : Prop := WS B d env l (execs ss env) σ N Q
/- what follows a statement -/
noncomputable def Then (B : Cx) (d : Nat) (env : Env) (rest : List Stmt) (Q : PostS) : PostS
  | .next, l, σ, N => WX B d env l rest σ N Q
  | x, l, σ, N => Q x l σ N

section
variable {B : Cx} {d : Nat} {env : Env} {l : Loc} {σ : Store} {N : Nat} {rest : List Stmt} {Q : PostS}
theorem StepL.refl (L : Nat) (σ : Store) (h : Heap) : StepL L σ h σ h := (Step.refl σ h).toL L
theorem EndS.after {σ₁ : Store} {N₁ : Nat} {h h₁ : Heap} {f : Flow} {s' : Shared} (S : StepL env.locals σ h σ₁ h₁) (n : N ≤ N₁) (x : EndS B env σ₁ N₁ h₁ Q f s') : EndS B env σ N h Q f s' :=
  let ⟨x, l', σ', N', r, I, S', F, m, q⟩ := x; ⟨x, l', σ', N', r, I, S.trans S', F, Nat.le_trans n m, q⟩
theorem EndS.here {s s' : Shared} {x : Fl} {f : Flow} {l' : Loc} (I : Inv B σ N s') (S : StepL env.locals σ s.heap σ s'.heap) (F : FRel B env l' σ s'.heap) (r : FlRel B σ s'.heap x f) (q : Q x l' σ N) : EndS B env σ N s.heap Q f s' :=
  ⟨x, l', σ, N, r, I, S, F, Nat.le_refl _, q⟩
theorem X_cons {st : Stmt} (h : WS B d env l (exec st env) σ N (Then B d env rest Q)) : WX B d env l (st :: rest) σ N Q :=
  fun A s k I F => wpAny_execs_cons (bot (h A s k I F) fun f s₁ ⟨x, l₁, σ₁, N₁, r, I₁, S₁, F₁, n₁, q⟩ => by
    cases r with
    | next => exact bot (q A s₁ k I₁ F₁) fun _ s₂ e => e.after S₁ n₁
    | brk => exact ⟨_, l₁, σ₁, N₁, .brk, I₁, S₁, F₁, n₁, q⟩
    | cont => exact ⟨_, l₁, σ₁, N₁, .cont, I₁, S₁, F₁, n₁, q⟩
    | ret r => exact ⟨_, l₁, σ₁, N₁, .ret r, I₁, S₁, F₁, n₁, q⟩)
theorem X_nil (h : Q .next l σ N) : WX B d env l [] σ N Q := fun A s k I F => wpAny_execs_nil (.here I (.refl _ _ _) F .next h)
theorem WS.less {l' : Loc} {t : Sem Flow} (s : LSub l' l) (h : WS B d env l' t σ N Q) : WS B d env l t σ N Q := fun A sh k I F => h A sh k I (F.less s)
/- a store into a local name -/
theorem store_local {x : Str} {v : V} {A : Around} {s : Shared} {a : Value} {R : Unit → Shared → Prop} {E : Value → Shared → Prop} (I : Inv B σ N s) (F : FRel B env l σ s.heap) (r : VRel B σ s.heap v a) (hl : env.kindOf x = some .local) (hk : env.scope.kind = .function)
    (g : ∀ s', Inv B σ N s' → FRel B env (upd l x v) σ s'.heap → StepL env.locals σ s.heap σ s'.heap → R () s') : wpAny (model B.prog B.w) A (storeName env x a) R E s := by
  obtain ⟨m, hn, km⟩ := F.ns
  refine wpAny_storeName_local hl hn (fun h' hn' hs => ?_) (by rw [hk]; rfl)
  have hN := F.noTup (h' := s.heap)
  have S : StepL env.locals σ s.heap σ h' := .of_ext hs.extBut F.out
  refine g _ (Inv.frame (s' := { s with heap := h', toks := s.toks + 1 }) I hs.extBut F.out F.new hN (Nat.le_of_eq hs.1.symm) rfl rfl) ⟨F.out, F.new, F.mark, _, hn', fun y u e => ?_⟩ S
  rw [upd_look] at e
  by_cases z : y = x
  · rw [if_pos z] at e; cases e; exact ⟨a, if_pos z, r.pass (StepL.pass S hN)⟩
  · rw [if_neg z] at e
    obtain ⟨b, hb, rb⟩ := km y u e
    exact ⟨b, (if_neg z).trans hb, rb.pass (StepL.pass S hN)⟩
theorem store_cell {x : Str} {c : Nat} {v : V} {v₀ : Option V} {A : Around} {s : Shared} {a : Value} {R : Unit → Shared → Prop} {E : Value → Shared → Prop} (I : Inv B σ N s) (F : FRel B env l σ s.heap) (r : VRel B σ s.heap v a)
    (hl : env.kindOf x = some .cell) (hk : env.scope.kind = .function) (hc : env.cells.lookup x = some c) (hs : σ c = some (.cell v₀))
    (g : ∀ s', Inv B (pt σ c (.cell (some v))) N s' → FRel B env l (pt σ c (.cell (some v))) s'.heap → Step σ s.heap (pt σ c (.cell (some v))) s'.heap → R () s') : wpAny (model B.prog B.w) A (storeName env x a) R E s := by
  obtain ⟨v', hv, _⟩ := I.store c _ hs
  refine wpAny_storeName_cell hk hl hc hv fun h' hc' hsb => ?_
  have hi : σ c ≠ none ∨ (s.heap.get? c = none ∧ s.heap.objs.size ≤ c) := .inl (by rw [hs]; nofun)
  have S : Step σ s.heap (pt σ c (.cell (some v))) h' := .put hsb.extBut hi
  exact g _ (Inv.put (s' := { s with heap := h' }) I hsb.extBut hi ⟨some a, hc', r.mono S⟩ (Nat.le_refl _) (I.top c _ hs) (Nat.le_trans I.size (Nat.le_of_eq hsb.1.symm)) (Nat.le_of_eq hsb.1.symm) rfl rfl) (F.mono S) S

theorem X_assign {x : Str} {p pos : Pos} {e : Expr} (h : WE B d env l e σ N fun v σ₁ N₁ => WX B d env (upd l x v) rest σ₁ N₁ Q) (hl : env.kindOf x = some .local := by rfl) (hk : env.scope.kind = .function := by rfl)
    (hs : swapsWith e (some (.Name x p)) pos.line env = pure false := by rfl) : WX B d env l (.Assign [.Name x p] e pos :: rest) σ N Q :=
  X_cons fun A s k I F => wpAny_Assign_Name (h.seq (ρ' := VRel B) k I F fun a v σ₁ N₁ s₁ r I₁ F₁ S₁ n₁ h₁ => store_local I₁ F₁ r hl hk fun s₂ I₂ F₂ S₂ =>
    ⟨.next, _, σ₁, N₁, .next, I₂, (S₁.toL _).trans S₂, F₂, n₁, h₁⟩) hs
theorem X_expr {e : Expr} {pos : Pos} (h : WE B d env l e σ N fun _ σ₁ N₁ => WX B d env l rest σ₁ N₁ Q) (hi : interactive env = false := by rfl) (hs : swapsWith e none pos.line env = pure false := by rfl) : WX B d env l (.Expr e pos :: rest) σ N Q :=
  X_cons fun A s k I F => wpAny_Expr_any (h.seq (ρ' := VRel B) k I F fun a v σ₁ N₁ s₁ r I₁ F₁ S₁ n₁ h₁ => ⟨.next, l, σ₁, N₁, .next, I₁, S₁.toL _, F₁, n₁, h₁⟩) hi hs
theorem X_return {e : Expr} {pos : Pos} (h : WE B d env l e σ N fun v σ₁ N₁ => Q (.ret v) l σ₁ N₁) : WX B d env l (.Return (some e) pos :: rest) σ N Q :=
  X_cons fun A s k I F => wpAny_Return_some (h.seq (ρ' := VRel B) k I F fun a v σ₁ N₁ s₁ r I₁ F₁ S₁ n₁ h₁ => ⟨.ret v, l, σ₁, N₁, .ret r, I₁, S₁.toL _, F₁, n₁, h₁⟩)
theorem X_break {pos : Pos} (h : Q .brk l σ N) : WX B d env l (.Break pos :: rest) σ N Q := X_cons fun A s k I F => wpAny_Break (.here I (.refl _ _ _) F .brk h)
theorem X_continue {pos : Pos} (h : Q .cont l σ N) : WX B d env l (.Continue pos :: rest) σ N Q := X_cons fun A s k I F => wpAny_Continue (.here I (.refl _ _ _) F .cont h)
theorem X_if {t : Expr} {b e : List Stmt} {pos : Pos} (h : WB B d env l t σ N fun c σ₁ N₁ => if c then WX B d env l b σ₁ N₁ (Then B d env rest Q) else WX B d env l e σ₁ N₁ (Then B d env rest Q)) : WX B d env l (.If t b e pos :: rest) σ N Q :=
  X_cons fun A s k I F => wpAny_If (h.seq (ρ' := VRel B) k I F fun a c σ₁ N₁ s₁ r I₁ F₁ S₁ n₁ h₁ => by
    cases (show c = a from r)
    cases a with
    | true => exact bot (h₁ A s₁ k I₁ F₁) fun _ s₂ e => e.after (S₁.toL _) n₁
    | false => exact bot (h₁ A s₁ k I₁ F₁) fun _ s₂ e => e.after (S₁.toL _) n₁)
/- what follows an if, said once -/
noncomputable def Joined (Q : PostS) (J : Loc → Store → Nat → Prop) : PostS
  | .next, l, σ, N => ∃ l', LSub l' l ∧ J l' σ N
  | x, l, σ, N => Q x l σ N
theorem WS.post {t : Sem Flow} {Q Q' : PostS} (h : WS B d env l t σ N Q) (k : ∀ x l σ N', N ≤ N' → Q x l σ N' → Q' x l σ N') : WS B d env l t σ N Q' :=
  fun A s a I F => bot (h A s a I F) fun f s' ⟨x, l', σ', N', r, I', S', F', n, q⟩ => ⟨x, l', σ', N', r, I', S', F', n, k _ _ _ _ n q⟩
theorem X_ifJ {t : Expr} {b e : List Stmt} {pos : Pos} (J : Loc → Store → Nat → Prop) (hrest : ∀ l σ N', N ≤ N' → J l σ N' → WX B d env l rest σ N' Q)
    (h : WB B d env l t σ N fun c σ₁ N₁ => if c then WX B d env l b σ₁ N₁ (Joined Q J) else WX B d env l e σ₁ N₁ (Joined Q J)) : WX B d env l (.If t b e pos :: rest) σ N Q :=
  X_if fun A s k I F => bot (h A s k I F) fun c s₁ ⟨c', σ₁, N₁, r, I₁, S₁, n₁, q⟩ => ⟨c', σ₁, N₁, r, I₁, S₁, n₁, by
    have z : ∀ x l σ N', N₁ ≤ N' → Joined Q J x l σ N' → Then B d env rest Q x l σ N' := fun x l σ N' n q => by
      cases x with
      | next => obtain ⟨l', hl', hj⟩ := q; exact WS.less hl' (hrest l' σ N' (Nat.le_trans n₁ n) hj)
      | brk => exact q
      | cont => exact q
      | ret v => exact q
    cases c' with
    | true => exact WS.post q z
    | false => exact WS.post q z⟩
/- `o[i] = e` -/
theorem X_assignSub {o i e : Expr} {p pos : Pos} (h : WE B d env l e σ N fun v σ₁ N₁ => WE B d env l o σ₁ N₁ fun ov σ₂ N₂ => WE B d env l i σ₂ N₂ fun iv σ₃ N₃ => W3 B d URel setItem ov iv v σ₃ N₃ fun _ σ₄ N₄ => WX B d env l rest σ₄ N₄ Q)
    (hs : swapsWith e (some (.Subscript o i p)) pos.line env = pure false := by rfl) : WX B d env l (.Assign [.Subscript o i p] e pos :: rest) σ N Q :=
  X_cons fun A s k I F => wpAny_Assign_Subscript (h.seq (ρ' := VRel B) k I F fun a v σ₁ N₁ s₁ r I₁ F₁ S₁ n₁ h₁ => h₁.seq (ρ' := VRel B) k I₁ F₁ fun b ov σ₂ N₂ s₂ r₂ I₂ F₂ S₂ n₂ h₂ => h₂.seq (ρ' := VRel B) k I₂ F₂ fun c iv σ₃ N₃ s₃ r₃ I₃ F₃ S₃ n₃ h₃ =>
    bot (h₃ A s₃ b c a k I₃ (r₂.mono S₃) r₃ ((r.mono S₂).mono S₃)) fun _ s₄ ⟨_, σ₄, N₄, _, I₄, S₄, n₄, h₄⟩ =>
      ⟨.next, l, σ₄, N₄, .next, I₄, (((S₁.trans S₂).trans S₃).trans S₄).toL _, F₃.mono S₄, Nat.le_trans (Nat.le_trans (Nat.le_trans n₁ n₂) n₃) n₄, h₄⟩) hs
/- ahead of a turn -/
inductive LI (B : Cx) (env : Env) (σ : Store) (N : Nat) (h : Heap) (J : Nat → Loc → Store → Nat → Prop) (n : Nat) (s' : Shared) : Prop
  | mk (l' : Loc) (σ' : Store) (N' : Nat) (hJ : J n l' σ' N') (I : Inv B σ' N' s') (S : StepL env.locals σ h σ' s'.heap) (F : FRel B env l' σ' s'.heap) (n' : N ≤ N')
/- a while, by what holds ahead of each turn -/
theorem X_while {t : Expr} {b : List Stmt} {pos : Pos} (J : Nat → Loc → Store → Nat → Prop) (n : Nat) {l₀ : Loc} (hl₀ : LSub l₀ l) (h₀ : J n l₀ σ N)
    (turn : ∀ n l σ N', J n l σ N' → N ≤ N' → WB B d env l t σ N' fun c σ₁ N₁ => if c then WX B d env l b σ₁ N₁ (fun x l' σ' N' => match x with | .next | .cont => ∃ m l'', m < n ∧ LSub l'' l' ∧ J m l'' σ' N' | .brk => WX B d env l' rest σ' N' Q | .ret v => Q (.ret v) l' σ' N')
      else WX B d env l rest σ₁ N₁ Q) : WX B d env l (.While t b [] pos :: rest) σ N Q :=
  X_cons fun A s k I F => wpAny_While (codeAny_whileLoop (LI B env σ N s.heap J)
    (fun n s' ⟨l', σ', N', hJ, I', S', F', n'⟩ => (turn n l' σ' N' hJ n').seq (ρ' := VRel B) k I' F' fun a c σ₁ N₁ s₁ r I₁ F₁ S₁ n₁ h₁ => by
      cases (show c = a from r)
      have S₂ := S'.trans (S₁.toL env.locals)
      cases a with
      | true =>
        refine bot (h₁ A s₁ k I₁ F₁) fun f s₂ ⟨x, l₂, σ₂, N₂, rf, I₂, S₃, F₂, n₂, q⟩ => ?_
        have n₃ := Nat.le_trans (Nat.le_trans n' n₁) n₂
        cases rf with
        | next => obtain ⟨m, l₃, hm, hs, hj⟩ := q; exact ⟨m, hm, l₃, σ₂, N₂, hj, I₂, S₂.trans S₃, F₂.less hs, n₃⟩
        | cont => obtain ⟨m, l₃, hm, hs, hj⟩ := q; exact ⟨m, hm, l₃, σ₂, N₂, hj, I₂, S₂.trans S₃, F₂.less hs, n₃⟩
        | brk => exact ⟨.next, l₂, σ₂, N₂, .next, I₂, S₂.trans S₃, F₂, n₃, q⟩
        | ret rv => exact ⟨_, l₂, σ₂, N₂, .ret rv, I₂, S₂.trans S₃, F₂, n₃, q⟩
      | false => exact wpAny_execs_nil ⟨.next, l', σ₁, N₁, .next, I₁, S₂, F₁, Nat.le_trans n' n₁, h₁⟩)
    n ⟨l₀, σ, N, h₀, I, .refl _ _ _, F.less hl₀, Nat.le_refl _⟩)
end
end
noncomputable section
/- a function's object -/
noncomputable def FnAt (B : Cx) (σ : Store) (a : Nat) (fd : FuncData) : Prop := ∃ o, (B.h₀.get? a = some o ∨ σ a = some (.obj o)) ∧ o.data = .func fd
noncomputable def CodeAt (B : Cx) (σ : Store) (fd : FuncData) : Prop := ∃ c o vs t, fd.code = .ref c ∧ (B.h₀.get? c = some o ∨ σ c = some (.obj o)) ∧ o.data = .fields vs ∧ vs[1]? = some (.str fd.qualname t)
section
variable {B : Cx} {d : Nat} {σ : Store} {N : Nat} {s : Shared}
theorem Inv.objOr (I : Inv B σ N s) {a : Nat} {o : Obj} (h : B.h₀.get? a = some o ∨ σ a = some (.obj o)) : s.heap.get? a = some o := h.elim (fun e => (I.base a o e).1) fun e => I.store a _ e
theorem FnAt.get {a : Nat} {fd : FuncData} (f : FnAt B σ a fd) (I : Inv B σ N s) : ∃ o, s.heap.get? a = some o ∧ o.data = .func fd := let ⟨o, h, e⟩ := f; ⟨o, I.objOr h, e⟩
theorem CodeAt.get {fd : FuncData} (f : CodeAt B σ fd) (I : Inv B σ N s) : s.heap.CodeRec fd.code fd.qualname := by obtain ⟨c, o, vs, t, e, h, r⟩ := f; exact ⟨c, o, vs, t, e, I.objOr h, r⟩

/- names bound to values, on both sides -/
inductive LRel (B : Cx) (σ : Store) (h : Heap) : List (Str × V) → List (Str × Value) → Prop
  | nil : LRel B σ h [] []
  | cons {n : Str} {x : V} {y : Value} {xs : List (Str × V)} {ys : List (Str × Value)} (hd : VRel B σ h x y) (tl : LRel B σ h xs ys) : LRel B σ h ((n, x) :: xs) ((n, y) :: ys)
theorem LRel.nil' {h : Heap} {b : List (Str × Value)} (r : LRel B σ h [] b) : b = [] := by cases r; rfl
theorem LRel.cons' {h : Heap} {p : Str × V} {a : List (Str × V)} {b : List (Str × Value)} (r : LRel B σ h (p :: a) b) : ∃ y b', b = (p.1, y) :: b' ∧ VRel B σ h p.2 y ∧ LRel B σ h a b' := by
  cases r with | cons x t => exact ⟨_, _, rfl, x, t⟩
theorem LRel.zip {h : Heap} : ∀ (names : List Str) {xs : List V} {ys : List Value}, VRelL B σ h xs ys → LRel B σ h (names.zip xs) (names.zip ys) := by
  intro names
  induction names with
  | nil => intro xs ys _; exact .nil
  | cons n r ih =>
    intro xs ys q
    cases xs with
    | nil => rw [q.nil']; exact .nil
    | cons x xs => obtain ⟨y, ys, rfl, a, b⟩ := q.cons'; exact .cons a (ih b)
theorem LRel.app {h : Heap} {a' : List (Str × V)} {b' : List (Str × Value)} (q : LRel B σ h a' b') : ∀ {a : List (Str × V)} {b : List (Str × Value)}, LRel B σ h a b → LRel B σ h (a ++ a') (b ++ b') := by
  intro a
  induction a with
  | nil => intro b r; rw [r.nil']; exact q
  | cons p a ih => intro b r; obtain ⟨y, b, rfl, x, t⟩ := r.cons'; exact .cons x (ih t)
theorem LRel.rev {h : Heap} : ∀ {a : List (Str × V)} {b : List (Str × Value)}, LRel B σ h a b → LRel B σ h a.reverse b.reverse := by
  intro a
  induction a with
  | nil => intro b r; rw [r.nil']; exact .nil
  | cons p a ih =>
    intro b r
    obtain ⟨y, b, rfl, x, t⟩ := r.cons'
    rw [List.reverse_cons, List.reverse_cons]
    exact LRel.app (.cons x .nil) (ih t)
theorem LRel.look {h : Heap} {y : Str} {v : V} : ∀ {a : List (Str × V)} {b : List (Str × Value)}, LRel B σ h a b → a.lookup y = some v → ∃ u, b.lookup y = some u ∧ VRel B σ h v u := by
  intro a
  induction a with
  | nil => intro b r e; cases e
  | cons p a ih =>
    intro b r e
    obtain ⟨u, b, rfl, x, t⟩ := r.cons'
    obtain ⟨n, w⟩ := p
    rw [List.lookup_cons] at e ⊢
    dsimp only at e ⊢
    cases q : y == n with
    | true => rw [q] at e; cases e; exact ⟨_, rfl, x⟩
    | false => rw [q] at e; exact ih t e

noncomputable abbrev locs (names : List Str) (xs : List V) : Loc := (names.zip xs).reverse

/- what a call's body hands back -/
noncomputable def Back (f : Nat → Prop) (Q : Post V) : PostS := fun x _ σ N => match x with
  | .ret v => ∃ σ' v', Off σ v σ' v' ∧ Q v' (σ'.reset f) N
  | .next => ∃ σ', Sub σ' σ ∧ Q .none (σ'.reset f) N
  | _ => False

theorem back_ends {env : Env} {h₁ : Heap} {Q : Post V} {f : Flow} {s' : Shared} (hL : env.locals = s.heap.objs.size) (hk : ∀ b o, s.heap.get? b = some o → h₁.get? b = some o) {σ₁ : Store} {N₁ : Nat} (h1 : ∀ b o, s.heap.get? b = some o → σ b = none → σ₁ b = none) (hf : ∀ a, σ.fr a → σ₁.fr a) (hn : N ≤ N₁)
    (x : EndS B env σ₁ N₁ h₁ (Back σ.fr Q) f s') : match f with | .ret v => Ends B (VRel B) σ N s.heap Q v s' | _ => Ends B (VRel B) σ N s.heap Q .none s' := by
  obtain ⟨x, l', σ', N', r, I', S', F', n', q⟩ := x
  have S : ∀ {σ₂ : Store}, Sub σ₂ σ' → Step σ s.heap (σ₂.reset σ.fr) s'.heap := fun u => ⟨fun b o e n => by
    have z := S'.keep b o (fun z => by rw [z, hL, get_fresh] at e; cases e) (hk b o e) (h1 b o e n)
    exact ⟨z.1, u.none z.2⟩, rfl⟩
  have K : ∀ {σ₂ : Store}, Sub σ₂ σ' → ∀ a, σ.fr a → σ₂.fr a := fun u a q => by rw [u.fr, S'.fr]; exact hf a q
  cases r with
  | next => obtain ⟨σ₂, u, q⟩ := q; exact ⟨_, _, N', .none, (I'.sub u).reset (K u), S u, Nat.le_trans hn n', q⟩
  | brk => exact q.elim
  | cont => exact q.elim
  | ret r => obtain ⟨σ₂, v₂, o, q⟩ := q; exact ⟨_, _, N', (o.rel I' r).pass (.reset (K o.store)), (I'.sub o.store).reset (K o.store), S o.store, Nat.le_trans hn n', q⟩

/- a call, for those who call by machine -/
noncomputable def WK (B : Cx) (d : Nat) (f : Value) (xs : List V) (σ : Store) (N : Nat) (Q : Post V) : Prop :=
  ∀ A s as, Ok d A → Inv B σ N s → VRelL B σ s.heap xs as → codeAny (model B.prog B.w) A (.call f ⟨as, []⟩) (fun r s' => match r with | .ok (.ret v) => Ends B (VRel B) σ N s.heap Q v s' | .ok _ => False | .error _ => False) s
theorem WK.c {f : Value} {xs : List V} {Q : Post V} (h : WK B d f xs σ N Q) : WC B d f xs σ N Q := fun A s as k I r => wpAny_call (codeAny_mono (h A s as k I r) fun r s' z => by rcases r with e | (v | _ | _ | _) <;> exact z)
theorem K_def {a : Nat} {fd : FuncData} {body : List Stmt} {names : List Str} {xs : List V} {Q : Post V} (hf : FnAt B σ a fd) (hc : CodeAt B σ fd) (hlim : B.h₀.NoLimit) (hb : fd.body = .stmts body)
    (hbind : ∀ s (as : List Value), as.length = xs.length → BindsTo s fd ⟨as, []⟩ (names.zip as)) (hcell : ∀ x ∈ fd.scope.names, x.2 ≠ .cell) (hloc : ∀ x ∈ names, fd.scope.names.lookup x = some .local)
    (h : ∀ L, N ≤ L → σ L = none → (∀ a, N ≤ a → σ a = none) → WX B d (callEnv fd L a) (locs names xs) body (σ.add L) N (Back σ.fr Q))
    (hco : fd.scope.isCoroutine = false) (hgen : fd.scope.isGenerator = false) (hk : fd.scope.kind = .function) : WK B (d + 1) (.ref a) xs σ N Q := fun A s as k I r => by
  obtain ⟨o, ho, hd⟩ := hf.get I
  have hroom : A.depth < recursionLimit := by have := k.depth; show _ < 1000; exact ar52 this
  refine (codeAny_call_def hroom ho hd (hlim.keeps I.keep) (hc.get I) hb (hbind s as r.length.symm) hcell (fun x hx => hloc _ (List.of_mem_zip hx).1) (fun h₁ hn hk₁ => ?_) hco hgen hk)
  have hL : B.h₀.get? s.heap.objs.size = none := by
    cases q : B.h₀.get? s.heap.objs.size with
    | none => rfl
    | some o => have := (I.base _ _ q).1; rw [get_fresh] at this; cases this
  have sz : s.heap.objs.size ≤ h₁.objs.size := Nat.le_of_lt hn.lt
  have pA : Pass σ s.heap (σ.add s.heap.objs.size) s.heap := .add (get_fresh _)
  have S : Step (σ.add s.heap.objs.size) s.heap (σ.add s.heap.objs.size) h₁ := .grow hk₁
  have F : FRel B (callEnv fd s.heap.objs.size a) (locs names xs) (σ.add s.heap.objs.size) h₁ := ⟨I.fresh, hL, .inl rfl, _, hn, fun y v e => ((LRel.zip names r).rev.look e).imp fun u ⟨e, q⟩ => ⟨e, (q.pass pA).mono S⟩⟩
  refine bot (h s.heap.objs.size I.size I.fresh I.above (A.deeper _) _ k.deeper (Inv.mark (s' := { s with heap := h₁, toks := s.toks + (names.zip as).length }) I (get_fresh _) I.fresh hk₁ sz hn.lt rfl rfl) F) fun f s' e => ?_
  have z := back_ends (σ := σ) (σ₁ := σ.add s.heap.objs.size) rfl hk₁ (fun _ _ _ n => n) (fun _ q => Or.inr q) (Nat.le_refl _) e
  cases f <;> exact z

/- names kept in cells -/
noncomputable def kinds (fd : FuncData) : Str → Option NameKind := fun y => fd.scope.names.lookup y
noncomputable def bL (kindOf : Str → Option NameKind) : List (Str × V) → Loc → Loc
  | [], m => m
  | (n, v) :: r, m => bL kindOf r (if kindOf n = some .local then upd m n v else m)
noncomputable def bC (kindOf : Str → Option NameKind) : List (Str × V) → Loc → Loc
  | [], m => m
  | (n, v) :: r, m => bC kindOf r (if kindOf n = some .local then m else upd m n v)
noncomputable def ptCells (cm : Loc) : List (Str × Nat) → Store → Store
  | [], σ => σ
  | (n, c) :: r, σ => pt (ptCells cm r σ) c (.cell (cm.lookup n))
theorem MapRel.upd {h : Heap} {l : Loc} {m : Str → Option Value} (x : MapRel B σ h l m) {n : Str} {v : V} {u : Value} (r : VRel B σ h v u) : MapRel B σ h (upd l n v) (fun y => if y = n then some u else m y) := fun y => by
  rw [upd_look]
  by_cases z : y = n
  · simp only [if_pos z]; exact r
  · simp only [if_neg z]; exact x y
theorem bL_rel {h : Heap} {kindOf : Str → Option NameKind} : ∀ {a : List (Str × V)} {b : List (Str × Value)} {l : Loc} {m : Str → Option Value}, LRel B σ h a b → MapRel B σ h l m → MapRel B σ h (bL kindOf a l) (bindL kindOf b m)
  | _, _, _, _, .nil, x => x
  | _, _, _, _, .cons (n := n) r t, x => by
    unfold bL bindL
    by_cases z : kindOf n = some .local
    · rw [if_pos z, if_pos z]; exact bL_rel t (x.upd r)
    · rw [if_neg z, if_neg z]; exact bL_rel t x
theorem bC_rel {h : Heap} {kindOf : Str → Option NameKind} : ∀ {a : List (Str × V)} {b : List (Str × Value)} {l : Loc} {m : Str → Option Value}, LRel B σ h a b → MapRel B σ h l m → MapRel B σ h (bC kindOf a l) (bindC kindOf b m)
  | _, _, _, _, .nil, x => x
  | _, _, _, _, .cons (n := n) r t, x => by
    unfold bC bindC
    by_cases z : kindOf n = some .local
    · rw [if_pos z, if_pos z]; exact bC_rel t x
    · rw [if_neg z, if_neg z]; exact bC_rel t (x.upd r)
theorem ptCells_fr {cm : Loc} : ∀ {cs : List (Str × Nat)} {σ : Store}, (ptCells cm cs σ).fr = σ.fr
  | [], _ => rfl
  | (n, c) :: r, σ => ptCells_fr (cs := r)
theorem ptCells_out {cm : Loc} : ∀ {cs : List (Str × Nat)} {b : Nat}, (∀ p ∈ cs, p.2 ≠ b) → ptCells cm cs σ b = σ b
  | [], _, _ => rfl
  | (n, c) :: r, b, h => by
    unfold ptCells
    rw [pt_ne (Ne.symm (h (n, c) (.head _)))]
    exact ptCells_out fun p hp => h p (.tail _ hp)
theorem ptCells_in {cm : Loc} : ∀ {cs : List (Str × Nat)} {b : Nat} {o : AObj}, ptCells cm cs σ b = some o → (∃ n, (n, b) ∈ cs ∧ o = .cell (cm.lookup n)) ∨ σ b = some o
  | [], _, _, h => .inr h
  | (n, c) :: r, b, o, h => by
    unfold ptCells at h
    by_cases z : b = c
    · subst z; rw [pt_same] at h; cases h; exact .inl ⟨n, .head _, rfl⟩
    · rw [pt_ne z] at h
      rcases ptCells_in h with ⟨n', q, e⟩ | q
      · exact .inl ⟨n', .tail _ q, e⟩
      · exact .inr q

theorem K_cells {a : Nat} {fd : FuncData} {body : List Stmt} {names : List Str} {xs : List V} {Q : Post V} (hf : FnAt B σ a fd) (hc : CodeAt B σ fd) (hlim : B.h₀.NoLimit) (hb : fd.body = .stmts body) (hclo : fd.closure = [])
    (hbind : ∀ (as : List Value), as.length = xs.length → bindArgs fd ⟨as, []⟩ = pure (names.zip as))
    (hkind : ∀ n, ∀ x ∈ names, fd.scope.names.lookup x = some .local ∨ (fd.scope.names.lookup x = some .cell ∧ ((cellsFrom n fd.scope.names []).lookup x).isSome = true))
    (hnd : ∀ n, ((cellsFrom n fd.scope.names []).map (·.1)).Nodup)
    (h : ∀ L N₁, N ≤ L → σ L = none → (∀ a, N ≤ a → σ a = none) → L < N₁ → (∀ p ∈ cellsFrom (L + 1) fd.scope.names [], p.2 < N₁) →
      WX B d (callEnvC fd L a) (bL (kinds fd) (names.zip xs) []) body (ptCells (bC (kinds fd) (names.zip xs) []) (cellsFrom (L + 1) fd.scope.names []) (σ.add L)) N₁ (Back σ.fr Q))
    (hco : fd.scope.isCoroutine = false) (hgen : fd.scope.isGenerator = false) (hk : fd.scope.kind = .function) : WK B (d + 1) (.ref a) xs σ N Q := fun A s as k I r => by
  obtain ⟨o, ho, hd⟩ := hf.get I
  have hroom : A.depth < recursionLimit := by have := k.depth; show _ < 1000; exact ar52 this
  refine codeAny_call_cells hroom ho hd (hlim.keeps I.keep) (hc.get I) hb (hbind as r.length.symm) hclo (fun x hx => hkind _ _ (List.of_mem_zip hx).1) (fun s₁ C => ?_) hco hgen hk
  have hL : B.h₀.get? s.heap.objs.size = none := by
    cases q : B.h₀.get? s.heap.objs.size with
    | none => rfl
    | some o => have := (I.base _ _ q).1; rw [get_fresh] at this; cases this
  obtain ⟨h₁, tk, rfl, hk₁⟩ := C.done
  have hn := C.toInCall.ns
  have above : ∀ p ∈ cellsFrom (s.heap.objs.size + 1) fd.scope.names [], s.heap.objs.size < p.2 := fun p hp => C.above p.1 p.2 hp
  have cellAt : ∀ n c, (n, c) ∈ cellsFrom (s.heap.objs.size + 1) fd.scope.names [] → h₁.IsCell c (bindC (kinds fd) (names.zip as) (fun _ => none) n) := fun n c hm => C.cell n c (lookup_of_mem_nodup (hnd _) hm)
  generalize hcs : cellsFrom (s.heap.objs.size + 1) fd.scope.names [] = cs at *
  have out0 : ∀ b, b ≤ s.heap.objs.size → ptCells (bC (kinds fd) (names.zip xs) []) cs (σ.add s.heap.objs.size) b = σ b := fun b hb => by
    rw [ptCells_out fun p hp z => by have h1 : s.heap.objs.size < p.2 := above p hp; have h2 : p.2 = b := z; rw [h2] at h1; exact Nat.not_lt.mpr hb h1]; rfl
  have hfr : (ptCells (bC (kinds fd) (names.zip xs) []) cs (σ.add s.heap.objs.size)).fr = (σ.add s.heap.objs.size).fr := ptCells_fr
  generalize hσ : ptCells (bC (kinds fd) (names.zip xs) []) cs (σ.add s.heap.objs.size) = σ₁ at *
  have out : ∀ b o, s.heap.get? b = some o → σ b = none → σ₁ b = none := fun b o e n => by
    rw [out0 b (Nat.le_of_lt (Heap.lt_size e))]; exact n
  have pA : Pass σ s.heap (σ.add s.heap.objs.size) s.heap := .add (get_fresh _)
  have S : Step (σ.add s.heap.objs.size) s.heap σ₁ h₁ := ⟨fun b o e n => ⟨hk₁ b o e, out b o e n⟩, hfr⟩
  have M0 : MapRel B σ s.heap [] (fun _ => none) := fun _ => trivial
  have ML := ((bL_rel (kindOf := kinds fd) (LRel.zip names r) M0).pass pA).mono S
  have MC := ((bC_rel (kindOf := kinds fd) (LRel.zip names r) M0).pass pA).mono S
  have sz : s.heap.objs.size ≤ h₁.objs.size := Nat.le_of_lt hn.lt
  have oL : σ₁ s.heap.objs.size = none := (out0 _ (Nat.le_refl _)).trans I.fresh
  have I₁ : Inv B σ₁ h₁.objs.size ({ s with heap := h₁, toks := tk } : Shared) := by
    refine ⟨fun b x e => ?_, fun b x e => ⟨hk₁ _ _ (I.base b x e).1, out b x (I.base b x e).1 (I.base b x e).2⟩, I.gens, I.os, fun b x e => ?_, Nat.le_refl _, fun b f => ?_⟩
    · rw [← hσ] at e
      rcases ptCells_in e with ⟨n, q, rfl⟩ | q
      · refine ⟨_, cellAt n b q, ?_⟩
        have := MC n
        revert this
        cases (bC (kinds fd) (names.zip xs) []).lookup n <;> cases bindC (kinds fd) (names.zip as) (fun _ => none) n <;> exact id
      · exact ((I.store b x q).pass pA fun _ z => z).mono S fun y z => hk₁ b y z
    · rw [← hσ] at e
      rcases ptCells_in e with ⟨n, q, rfl⟩ | q
      · exact (cellAt n b q).lt
      · exact Nat.lt_of_lt_of_le (I.top b x q) (Nat.le_trans I.size sz)
    · rw [hfr] at f
      rcases f with q | q
      · subst q; exact ⟨hn.lt, oL, hL⟩
      · obtain ⟨x, y, z⟩ := I.marks b q
        exact ⟨Nat.lt_of_lt_of_le x sz, (out0 b (Nat.le_of_lt x)).trans y, z⟩
  have F : FRel B (callEnvC fd s.heap.objs.size a) (bL (kinds fd) (names.zip xs) []) σ₁ h₁ := ⟨oL, hL, by rw [hfr]; exact .inl rfl, _, hn, fun y v e => by
    have := ML y
    rw [e] at this
    change match some v, bindL (kinds fd) (names.zip as) (fun _ => none) y with | none, none => True | some v, some u => VRel B σ₁ h₁ v u | _, _ => False at this
    change ∃ u, bindL (kinds fd) (names.zip as) (fun _ => none) y = some u ∧ VRel B σ₁ h₁ v u
    revert this
    cases bindL (kinds fd) (names.zip as) (fun _ => none) y with
    | none => exact False.elim
    | some u => exact fun q => ⟨u, rfl, q⟩⟩
  have hh := h s.heap.objs.size h₁.objs.size I.size I.fresh I.above hn.lt (fun p hp => by rw [hcs] at hp; exact (cellAt p.1 p.2 hp).lt)
  rw [hcs, hσ] at hh
  refine bot (hh (A.deeper _) _ k.deeper I₁ F) fun f s' e => ?_
  have z := back_ends (σ := σ) rfl hk₁ out (fun _ q => by rw [hfr]; exact Or.inr q) (Nat.le_trans I.size sz) e
  cases f <;> exact z
end
end
noncomputable section
section
variable {B : Cx} {d : Nat} {env : Env} {l : Loc} {σ : Store} {N : Nat}

/- ints -/
section
variable {a b : Int} {Q : Post V}
theorem O_add (h : Q (.int (a + b)) σ N) : W2 B d (VRel B) (binaryOp .Add) (.int a) (.int b) σ N Q := fun A s x y k I r r' => by
  obtain ⟨_, rfl⟩ := r.inv; obtain ⟨_, rfl⟩ := r'.inv; exact PyProof.Rows.add_int (.here I.toks (.refl _ _) (.int _ _) h)
theorem O_sub (h : Q (.int (a - b)) σ N) : W2 B d (VRel B) (binaryOp .Sub) (.int a) (.int b) σ N Q := fun A s x y k I r r' => by
  obtain ⟨_, rfl⟩ := r.inv; obtain ⟨_, rfl⟩ := r'.inv; exact PyProof.Rows.sub_int (.here I.toks (.refl _ _) (.int _ _) h)
theorem O_mul (hm : IntMulOk a b) (h : Q (.int (a * b)) σ N) : W2 B d (VRel B) (binaryOp .Mult) (.int a) (.int b) σ N Q := fun A s x y k I r r' => by
  obtain ⟨_, rfl⟩ := r.inv; obtain ⟨_, rfl⟩ := r'.inv; exact PyProof.Rows.mul_int (.here I.toks (.refl _ _) (.int _ _) h) hm
theorem O_mod (hb : b ≠ 0) (h : Q (.int (a.fmod b)) σ N) : W2 B d (VRel B) (binaryOp .Mod) (.int a) (.int b) σ N Q := fun A s x y k I r r' => by
  obtain ⟨_, rfl⟩ := r.inv; obtain ⟨_, rfl⟩ := r'.inv; exact PyProof.Rows.mod_int hb (.here I.toks (.refl _ _) (.int _ _) h)
theorem O_fdiv (hb : b ≠ 0) (hs : b.natAbs < 1073741824) (h : Q (.int (a.fdiv b)) σ N) : W2 B d (VRel B) (binaryOp .FloorDiv) (.int a) (.int b) σ N Q := fun A s x y k I r r' => by
  obtain ⟨_, rfl⟩ := r.inv; obtain ⟨_, rfl⟩ := r'.inv; exact PyProof.Rows.floordiv_int hb (.here I.toks (.refl _ _) (.int _ _) h) (.inl (PyProof.noPylong_small hs))
theorem O_shr (hb : 0 ≤ b) (h : Q (.int (a.fdiv (2 ^ b.toNat))) σ N) : W2 B d (VRel B) (binaryOp .RShift) (.int a) (.int b) σ N Q := fun A s x y k I r r' => by
  obtain ⟨_, rfl⟩ := r.inv; obtain ⟨_, rfl⟩ := r'.inv; exact PyProof.Rows.rshift_int_or k.handled (fun q => absurd q (Int.not_lt.mpr hb)) fun _ => .here I.toks (.refl _ _) (.int _ _) h
theorem O_lt (h : Q (.bool (decide (a < b))) σ N) : W2 B d (VRel B) (compareOp .Lt) (.int a) (.int b) σ N Q := fun A s x y k I r r' => by
  obtain ⟨_, rfl⟩ := r.inv; obtain ⟨_, rfl⟩ := r'.inv; exact PyProof.Rows.lt_int (.here I (.refl _ _) (.bool _) h)
theorem O_le (h : Q (.bool (decide (a ≤ b))) σ N) : W2 B d (VRel B) (compareOp .LtE) (.int a) (.int b) σ N Q := fun A s x y k I r r' => by
  obtain ⟨_, rfl⟩ := r.inv; obtain ⟨_, rfl⟩ := r'.inv; exact PyProof.Rows.le_int (.here I (.refl _ _) (.bool _) h)
theorem O_gt (h : Q (.bool (decide (b < a))) σ N) : W2 B d (VRel B) (compareOp .Gt) (.int a) (.int b) σ N Q := fun A s x y k I r r' => by
  obtain ⟨_, rfl⟩ := r.inv; obtain ⟨_, rfl⟩ := r'.inv; exact PyProof.Rows.gt_int (.here I (.refl _ _) (.bool _) h)
theorem O_ge (h : Q (.bool (decide (b ≤ a))) σ N) : W2 B d (VRel B) (compareOp .GtE) (.int a) (.int b) σ N Q := fun A s x y k I r r' => by
  obtain ⟨_, rfl⟩ := r.inv; obtain ⟨_, rfl⟩ := r'.inv; exact PyProof.Rows.ge_int (.here I (.refl _ _) (.bool _) h)
theorem O_eq (h : Q (.bool (decide (a = b))) σ N) : W2 B d (VRel B) (compareOp .Eq) (.int a) (.int b) σ N Q := fun A s x y k I r r' => by
  obtain ⟨_, rfl⟩ := r.inv; obtain ⟨_, rfl⟩ := r'.inv; exact PyProof.Rows.eq_int (.here I (.refl _ _) (.bool _) (by rw [show (a == b) = decide (a = b) from rfl]; exact h))
theorem O_ne (h : Q (.bool (!decide (a = b))) σ N) : W2 B d (VRel B) (compareOp .NotEq) (.int a) (.int b) σ N Q := fun A s x y k I r r' => by
  obtain ⟨_, rfl⟩ := r.inv; obtain ⟨_, rfl⟩ := r'.inv; exact PyProof.Rows.ne_int (.here I (.refl _ _) (.bool _) (by rw [show (a != b) = !decide (a = b) from rfl]; exact h))
end
/- strs -/
section
variable {x y : Str} {Q : Post V}
theorem S_add (hz : x.length + y.length ≤ sizeLine) (h : Q (.str (x ++ y)) σ N) : W2 B d (VRel B) (binaryOp .Add) (.str x) (.str y) σ N Q := fun A s _ _ k I r r' => by
  obtain ⟨_, rfl⟩ := r.inv; obtain ⟨_, rfl⟩ := r'.inv; exact PyProof.Rows.add_str (fun _ _ => .here I.toks (.refl _ _) (.str _ _) h) hz
theorem S_eq (h : Q (.bool (decide (x = y))) σ N) : W2 B d (VRel B) (compareOp .Eq) (.str x) (.str y) σ N Q := fun A s _ _ k I r r' => by
  obtain ⟨_, rfl⟩ := r.inv; obtain ⟨_, rfl⟩ := r'.inv; exact PyProof.Rows.eq_str (.here I (.refl _ _) (.bool _) (by rw [show (x == y) = decide (x = y) from by by_cases z : x = y <;> simp [z]]; exact h))
theorem S_ne (h : Q (.bool (!decide (x = y))) σ N) : W2 B d (VRel B) (compareOp .NotEq) (.str x) (.str y) σ N Q := fun A s _ _ k I r r' => by
  obtain ⟨_, rfl⟩ := r.inv; obtain ⟨_, rfl⟩ := r'.inv; exact PyProof.Rows.ne_str (.here I (.refl _ _) (.bool _) (by rw [show (x != y) = !decide (x = y) from by by_cases z : x = y <;> simp [z]]; exact h))
theorem S_lt (h : Q (.bool (decide (x.cps.toList < y.cps.toList))) σ N) : W2 B d (VRel B) (compareOp .Lt) (.str x) (.str y) σ N Q := fun A s _ _ k I r r' => by
  obtain ⟨_, rfl⟩ := r.inv; obtain ⟨_, rfl⟩ := r'.inv; exact PyProof.Rows.lt_str (.here I (.refl _ _) (.bool _) h)
theorem S_gt (h : Q (.bool (decide (y.cps.toList < x.cps.toList))) σ N) : W2 B d (VRel B) (compareOp .Gt) (.str x) (.str y) σ N Q := fun A s _ _ k I r r' => by
  obtain ⟨_, rfl⟩ := r.inv; obtain ⟨_, rfl⟩ := r'.inv; exact PySem.P.gt_str (.here I (.refl _ _) (.bool _) h)
theorem S_in (h : Q (.bool !(Builtin.Str.occurrences x y 0 x.length 1).isEmpty) σ N) : W2 B d (VRel B) (compareOp .In) (.str y) (.str x) σ N Q := fun A s _ _ k I r r' => by
  obtain ⟨_, rfl⟩ := r.inv; obtain ⟨_, rfl⟩ := r'.inv; exact PyProof.Rows.in_str (.here I (.refl _ _) (.bool _) h)
end
/- truth -/
section
variable {Q : Post Bool}
theorem T_bool {b : Bool} (h : Q b σ N) : W1 B d BRel truthy (.bool b) σ N Q := fun A s x k I r => by
  obtain ⟨_, rfl⟩ := r.inv; exact wpAny_truthy_bool (.here I (.refl _ _) rfl h)
theorem T_list {u : V} {xs : List V} (hs : ListV σ u xs) (hz : xs.length < 2 ^ 40) (h : Q (!xs.isEmpty) σ N) : W1 B d BRel truthy u σ N Q := fun A s x k I r => by
  obtain ⟨a, items, n, rfl, ho, rl⟩ := hs.at I r
  have hl := rl.length
  refine wpAny_truthy_list (items := items) ⟨_, ho, rfl, n, rfl⟩ ?_ (.here I.toks (.refl _ _) ?_ h)
  · rw [← Array.length_toList, ← hl]; exact ar143 hz
  · have : items.isEmpty = xs.isEmpty := by
      rw [← Array.isEmpty_toList]
      revert rl
      generalize items.toList = ys
      intro rl
      cases rl <;> rfl
    rw [this]
theorem T_str {x : Str} (hz : x.length < 2 ^ 40) (h : Q (decide (x.length ≠ 0)) σ N) : W1 B d BRel truthy (.str x) σ N Q := fun A s _ k I r => by
  obtain ⟨_, rfl⟩ := r.inv
  exact PySem.P.truthy_str (by exact ar53 hz) (.here I.toks (.refl _ _) (by by_cases z : x.length = 0 <;> simp [z]) h)
theorem O_not {x : V} {Q : Post V} (h : W1 B d BRel truthy x σ N fun c σ₁ N₁ => Q (.bool (!c)) σ₁ N₁) : W1 B d (VRel B) (unaryOp .Not) x σ N Q := fun A s a k I r =>
  not_of (bot (h A s a k I r) fun c s' ⟨c', σ₁, N₁, e, I₁, S, n, q⟩ => ⟨_, σ₁, N₁, by rw [← show c' = c from e]; exact .bool _, I₁, S, n, q⟩)
end

/- calls -/
section
variable {x : Str} {p pos : Pos} {args : List Expr} {e : Expr} {es : List Expr} {Q : Post V}
noncomputable def CW (B : Cx) (d : Nat) (env : Env) (l : Loc) (pos : Pos) (f : V) (first : List V) (args : List Expr) (σ : Store) (N : Nat) (Q : Post V) : Prop :=
  ∀ A s fv fs, Ok d A → Inv B σ N s → FRel B env l σ s.heap → VRel B σ s.heap f fv → VRelL B σ s.heap first fs → wpAny (model B.prog B.w) A (callWith pos fv fs (backTo pos (starEach args env)) []) (Ends B (VRel B) σ N s.heap Q) (fun _ _ => False) s
theorem CW_of {f : V} {fv : Value} {first : List V} (hfv : ∀ σ h v, VRel B σ h f v → v = fv) (P : Store → Prop) (hP : ∀ σ N s, P σ → Inv B σ N s → ∃ k, (k = Keeper.frame ∨ k = Keeper.machine ∨ k = Keeper.boundFrame) ∧ Looks (model B.prog B.w) s.heap (keeperOf fv) k)
    (h : WA B d env l pos (e :: es) σ N fun vs σ₁ N₁ => P σ₁ ∧ WC B d fv (first ++ vs) σ₁ N₁ Q) (he : starEach (e :: es) env = (false, eval e env) :: starEach es env := by rfl) (hplain : (backTo pos (starEach es env)).any (·.1) = false := by rfl) : CW B d env l pos f first (e :: es) σ N Q :=
  fun A s v fs k I F r rs => by
    obtain rfl := hfv _ _ _ r
    have h := h
    unfold WA at h
    rw [he] at h ⊢
    refine callWith_of (P := fun hp => ∃ σ₁ N₁ s₁, P σ₁ ∧ Inv B σ₁ N₁ s₁ ∧ s₁.heap = hp) (by show ((false || (backTo pos (starEach es env)).any (·.1)) || false) = false; rw [hplain]; rfl) (fun hp ⟨σ₁, N₁, s₁, p, I₁, e⟩ => e ▸ hP σ₁ N₁ s₁ p I₁) (evalArgs_plain ?_)
    exact h.seq (ρ' := VRel B) k I F fun as us σ₁ N₁ s₁ r₁ I₁ F₁ S₁ n₁ ⟨p, h₁⟩ => ⟨⟨σ₁, N₁, s₁, p, I₁, rfl⟩, bot (h₁ A s₁ (fs ++ as) k I₁ ((rs.mono S₁).app r₁)) fun c s₂ q => q.after S₁ n₁⟩
theorem CW_of0 {f : V} {fv : Value} {first : List V} (hfv : ∀ σ h v, VRel B σ h f v → v = fv) (hP : ∀ N s, Inv B σ N s → ∃ k, (k = Keeper.frame ∨ k = Keeper.machine ∨ k = Keeper.boundFrame) ∧ Looks (model B.prog B.w) s.heap (keeperOf fv) k)
    (h : WC B d fv first σ N Q) : CW B d env l pos f first [] σ N Q :=
  fun A s v fs k I F r rs => by
    obtain rfl := hfv _ _ _ r
    refine callWith_of (P := fun hp => hp = s.heap) rfl (fun hp e => e ▸ hP N s I) (evalArgs_nil3 ⟨rfl, ?_⟩)
    rw [List.append_nil]
    exact h A s fs k I rs
theorem keeps_fn {M : Model} {h : Heap} {f : Nat} {o : Obj} {fd : FuncData} (e : h.get? f = some o) (hd : o.data = .func fd) : ∃ k, (k = Keeper.frame ∨ k = Keeper.machine ∨ k = Keeper.boundFrame) ∧ Looks M h (keeperOf (.ref f)) k := by
  obtain ⟨c, dd, dt, sl⟩ := o
  cases hd
  exact ⟨.frame, .inl rfl, (Looks.ld (part := none) e).andThen .now⟩
theorem CW_fn {f : Nat} {u : V} {first : List V} (hu : ∀ σ h v, VRel B σ h u v → v = .ref f) (h : WA B d env l pos (e :: es) σ N fun vs σ₁ N₁ => (∃ fd, FnAt B σ₁ f fd) ∧ WC B d (.ref f) (first ++ vs) σ₁ N₁ Q)
    (he : starEach (e :: es) env = (false, eval e env) :: starEach es env := by rfl) (hplain : (backTo pos (starEach es env)).any (·.1) = false := by rfl) : CW B d env l pos u first (e :: es) σ N Q :=
  CW_of hu (fun σ => ∃ fd, FnAt B σ f fd) (fun σ N s ⟨fd, p⟩ I => let ⟨o, a, b⟩ := p.get I; keeps_fn a b) h he hplain
theorem CW_fn0 {f : Nat} {fd : FuncData} {u : V} {first : List V} (hu : ∀ σ h v, VRel B σ h u v → v = .ref f) (hf : FnAt B σ f fd) (h : WC B d (.ref f) first σ N Q) : CW B d env l pos u first [] σ N Q :=
  CW_of0 hu (fun N s I => let ⟨o, a, b⟩ := hf.get I; keeps_fn a b) h
theorem V.ref_is {f : Nat} : ∀ σ h v, VRel B σ h (.ref f) v → v = .ref f := fun _ _ _ r => by obtain ⟨_, rfl⟩ := r.inv; rfl
theorem V.lit_is {w : Value} : ∀ σ h v, VRel B σ h (.lit w) v → v = w := fun _ _ _ r => by obtain ⟨_, rfl⟩ := r.inv; rfl
theorem CW_B {id : String} {first : List V} (h : WA B d env l pos (e :: es) σ N fun vs σ₁ N₁ => WC B d (.builtin id) (first ++ vs) σ₁ N₁ Q) (he : starEach (e :: es) env = (false, eval e env) :: starEach es env := by rfl) (hplain : (backTo pos (starEach es env)).any (·.1) = false := by rfl) :
    CW B d env l pos (.lit (.builtin id)) first (e :: es) σ N Q :=
  fun A s v fs k I F r rs => by
    obtain ⟨_, rfl⟩ := r.inv
    have h := h
    unfold WA at h
    rw [he] at h ⊢
    exact callWith_builtin (by show (false || (backTo pos (starEach es env)).any (·.1)) = false; rw [hplain]; rfl) (evalArgs_plain (h.seq (ρ' := VRel B) k I F fun as us σ₁ N₁ s₁ r₁ I₁ F₁ S₁ n₁ h₁ => bot (h₁ A s₁ (fs ++ as) k I₁ ((rs.mono S₁).app r₁)) fun c s₂ q => q.after S₁ n₁))
theorem CW_B0 {id : String} {first : List V} (h : WC B d (.builtin id) first σ N Q) : CW B d env l pos (.lit (.builtin id)) first [] σ N Q :=
  fun A s v fs k I F r rs => by
    obtain ⟨_, rfl⟩ := r.inv
    refine callWith_builtin rfl (evalArgs_nil3 ?_)
    show wpAny _ _ (call (.builtin id) (fs ++ []) []) _ _ _
    rw [List.append_nil]
    exact h A s fs k I rs
theorem CW_T {T : String} {first : List V} (h : WA B d env l pos (e :: es) σ N fun vs σ₁ N₁ => WC B d (.type T) (first ++ vs) σ₁ N₁ Q) (he : starEach (e :: es) env = (false, eval e env) :: starEach es env := by rfl) (hplain : (backTo pos (starEach es env)).any (·.1) = false := by rfl) :
    CW B d env l pos (.lit (.type T)) first (e :: es) σ N Q :=
  fun A s v fs k I F r rs => by
    obtain ⟨_, rfl⟩ := r.inv
    have h := h
    unfold WA at h
    rw [he] at h ⊢
    exact PySem.callWith_type (by show (false || (backTo pos (starEach es env)).any (·.1)) = false; rw [hplain]; rfl) (evalArgs_plain (h.seq (ρ' := VRel B) k I F fun as us σ₁ N₁ s₁ r₁ I₁ F₁ S₁ n₁ h₁ => bot (h₁ A s₁ (fs ++ as) k I₁ ((rs.mono S₁).app r₁)) fun c s₂ q => q.after S₁ n₁))
/- a call of a name -/
theorem E_call (h : WE B d env l (.Name x p) σ N fun f σ₁ N₁ => CW B d env l pos f [] args σ₁ N₁ Q) : WE B d env l (.Call (.Name x p) args [] pos) σ N Q :=
  fun A s k I F => wpAny_Call_NameR (h.seq (ρ' := VRel B) k I F fun a u σ₁ N₁ s₁ r I₁ F₁ S₁ n₁ h₁ => bot (h₁ A s₁ a [] k I₁ F₁ r .nil) fun c s₂ q => q.after S₁ n₁)
/- the kind of a value -/
inductive TypeV (σ : Store) : V → String → Prop
  | str (x : Str) : TypeV σ (.str x) "str"
  | int (i : Int) : TypeV σ (.int i) "int"
  | tup (xs : List V) : TypeV σ (.tup xs) "tuple"
  | list {u : V} {xs : List V} (h : ListV σ u xs) : TypeV σ u "list"
  | dict {u : V} {xs : List (Kx × V)} (h : DictV σ u xs) : TypeV σ u "dict"
theorem TypeV.is {x : V} {T : String} {s : Shared} {v : Value} (t : TypeV σ x T) (I : Inv B σ N s) (r : VRel B σ s.heap x v) : s.TypeIs v T ∧ ∀ a, v = .ref a → ∃ o, s.heap.get? a = some o ∧ o.dict = none := by
  cases t with
  | str x => obtain ⟨_, rfl⟩ := r.inv; exact ⟨rfl, fun _ e => nomatch e⟩
  | int x => obtain ⟨_, rfl⟩ := r.inv; exact ⟨rfl, fun _ e => nomatch e⟩
  | tup x => obtain ⟨_, _, _, rfl, ho, hs, hl⟩ := r.inv; exact ⟨⟨_, ho, rfl⟩, fun a e => by cases e; exact ⟨_, ho, rfl⟩⟩
  | list h => obtain ⟨a, items, n, rfl, ho, _⟩ := h.at I r; exact ⟨⟨_, ho, rfl⟩, fun a e => by cases e; exact ⟨_, ho, rfl⟩⟩
  | dict h => obtain ⟨a, kvs, ep, rfl, _, ⟨o, es, ho, hx, _⟩, _⟩ := h.at I r; exact ⟨⟨_, ho, hx.1⟩, fun a e => by cases e; exact ⟨_, ho, hx.2.1⟩⟩
end
end
end
noncomputable section
section
variable {B : Cx} {d : Nat} {env : Env} {l : Loc} {σ : Store} {N : Nat} {a : Nat} {xs : List V}

theorem VRelL.size {h : Heap} {items : Array Value} (r : VRelL B σ h xs items.toList) : xs.length = items.size := r.length.trans (by simp)
theorem get_mapSeq {h : Heap} {items : Array Value} {n : Nat} (ho : h.get? a = some (listObj items n)) (f : Array Value → Array Value) : ∃ n', (h.update a (Obj.mapSeq f)).get? a = some (listObj (f items) n') :=
  ⟨_, Heap.get?_update_self _ ho rfl⟩
theorem Inv.updList {s : Shared} (I : Inv B σ N s) (hs : σ a = some (.list xs)) {items : Array Value} {n : Nat} (ho : s.heap.get? a = some (listObj items n)) (f : Array Value → Array Value) {ys : List V} (r : VRelL B σ s.heap ys (f items).toList) :
    Inv B (pt σ a (.list ys)) N { s with heap := s.heap.update a (Obj.mapSeq f) } ∧ Step σ s.heap (pt σ a (.list ys)) (s.heap.update a (Obj.mapSeq f)) := by
  have hx : Heap.ExtBut a s.heap (s.heap.update a (Obj.mapSeq f)) := (Heap.SameBut.update ..).extBut
  have hi : σ a ≠ none ∨ (s.heap.get? a = none ∧ s.heap.objs.size ≤ a) := .inl (by rw [hs]; nofun)
  have S : Step σ s.heap (pt σ a (.list ys)) (s.heap.update a (Obj.mapSeq f)) := .put hx hi
  obtain ⟨n', e⟩ := get_mapSeq ho f
  exact ⟨Inv.put (s' := { s with heap := s.heap.update a (Obj.mapSeq f) }) I hx hi ⟨_, n', e, r.mono S⟩ (Nat.le_refl _) (I.top a _ hs) (Nat.le_trans I.size (Nat.le_of_eq (Heap.size_after_update ..).symm)) (Nat.le_of_eq (Heap.size_after_update ..).symm) rfl rfl, S⟩

theorem Inv.sameList {s : Shared} {h' : Heap} (I : Inv B σ N s) (hs : σ a = some (.list xs)) (hx : Heap.SameBut a s.heap h') {items : Array Value} (ho : h'.PlainList a items) {ys : List V} (r : VRelL B σ s.heap ys items.toList) :
    Inv B (pt σ a (.list ys)) N { s with heap := h' } ∧ Step σ s.heap (pt σ a (.list ys)) h' := by
  have hi : σ a ≠ none ∨ (s.heap.get? a = none ∧ s.heap.objs.size ≤ a) := .inl (by rw [hs]; nofun)
  have S : Step σ s.heap (pt σ a (.list ys)) h' := .put hx.extBut hi
  obtain ⟨n', e⟩ := ho
  exact ⟨Inv.put (s' := { s with heap := h' }) I hx.extBut hi ⟨_, n', e, r.mono S⟩ (Nat.le_refl _) (I.top a _ hs) (Nat.le_trans I.size (Nat.le_of_eq hx.1.symm)) (Nat.le_of_eq hx.1.symm) rfl rfl, S⟩
theorem seqIndex_nat {i : Int} {n : Nat} (h0 : 0 ≤ i) (h : i.toNat < n) : seqIndex? i n = some i.toNat := by
  unfold seqIndex?
  simp only [show ¬ i < 0 from Int.not_lt.mpr h0, if_false]
  simp; exact ar144 h0 h
theorem L_append {v : V} {Q : Post V} (hs : σ a = some (.list xs)) (hz : xs.length < 2 ^ 20) (h : Q .none (pt σ a (.list (xs ++ [v]))) N) : WC B d (.builtin "list.append") [.ref a, v] σ N Q := fun A s as k I r => by
  cases r with | cons r1 r2 => cases r2 with | cons r2 r3 =>
  cases r3; cases r1
  rename_i y
  obtain ⟨items, n, ho, rl⟩ := I.store a _ hs
  have hl := rl.size
  refine wpAny_list_append_plain ⟨n, ho⟩ (fun h' hp hsb => ?_) (by show _ ≤ 2 ^ 24; exact ar145 hz hl)
  obtain ⟨I', S'⟩ := I.sameList hs hsb hp (ys := xs ++ [v]) (by rw [Array.toList_push]; exact rl.app (.cons r2 .nil))
  exact ⟨.none, _, N, .none, I', S', Nat.le_refl _, h⟩
theorem L_popLast {v : V} {Q : Post V} {ys : List V} (hs : σ a = some (.list (ys ++ [v]))) (hz : ys.length < 2 ^ 20) (h : Q v (pt σ a (.list ys)) N) : WC B d (.builtin "list.pop") [.ref a] σ N Q := fun A s as k I r => by
  obtain ⟨_, _, rfl, r1, r2⟩ := r.cons'
  obtain rfl := r2.nil'; obtain ⟨_, rfl⟩ := r1.inv
  obtain ⟨items, n, ho, rl⟩ := I.store a _ hs
  have hl := rl.size
  rw [List.length_append, List.length_singleton] at hl
  obtain ⟨y, hy, ry⟩ := rl.get (i := ys.length) (a := v) (by simp)
  have e1 : items.size - 1 = ys.length := by exact ar146 hl
  have hy' : items[items.size - 1]? = some y := by rw [e1, ← Array.getElem?_toList]; exact hy
  obtain ⟨I', S'⟩ := I.updList hs ho (fun zs => zs.eraseIdxIfInBounds (items.size - 1)) (ys := ys) (by
    have : (items.eraseIdxIfInBounds (items.size - 1)).toList = items.toList.take ys.length := by
      rw [e1]
      have hlt : ys.length < items.size := by exact ar147 hl
      rw [Array.eraseIdxIfInBounds, dif_pos hlt, Array.toList_eraseIdx, List.eraseIdx_eq_take_drop_succ, List.drop_of_length_le (by simp; exact ar148 hl), List.append_nil]
    rw [this]
    have := rl.take ys.length
    rwa [List.take_left] at this)
  exact call_meets F.slot_list_pop ⟨_, ho, rfl⟩ F.entry_list_pop (F.args_list_pop_1 _) (MeetsSeq.list_pop_last a items n y hy' (by show _ ≤ 2 ^ 24; exact ar54 hz hl)) ⟨ho, ⟨v, _, N, ry.mono S', I', S', Nat.le_refl _, h⟩⟩
theorem L_pop0 {v : V} {Q : Post V} {ys : List V} (hs : σ a = some (.list (v :: ys))) (hz : ys.length < 2 ^ 20) (h : Q v (pt σ a (.list ys)) N) : WC B d (.builtin "list.pop") [.ref a, .int 0] σ N Q := fun A s as k I r => by
  cases r with | cons r1 r2 => cases r2 with | cons r2 r3 =>
  cases r3; cases r1; cases r2
  obtain ⟨items, n, ho, rl⟩ := I.store a _ hs
  have hl := rl.size
  rw [List.length_cons] at hl
  obtain ⟨y, hy, ry⟩ := rl.get (i := 0) (a := v) rfl
  have hy' : items[0]? = some y := by rw [← Array.getElem?_toList]; exact hy
  obtain ⟨I', S'⟩ := I.updList hs ho (fun zs => zs.eraseIdxIfInBounds 0) (ys := ys) (by
    have hlt : 0 < items.size := by exact ar55 hl
    have : (items.eraseIdxIfInBounds 0).toList = items.toList.drop 1 := by
      rw [Array.eraseIdxIfInBounds, dif_pos hlt, Array.toList_eraseIdx, List.eraseIdx_zero, List.drop_one]
    rw [this]
    exact rl.drop 1)
  have hk : seqIndex? 0 items.size = some 0 := seqIndex_nat (Int.le_refl _) (by show 0 < _; exact ar55 hl)
  exact call_meets F.slot_list_pop ⟨_, ho, rfl⟩ F.entry_list_pop (F.args_list_pop_2 _ _) (MeetsSeq.list_pop_at a items n 0 _ 0 y (by decide) hk hy' (by show _ ≤ 2 ^ 24; exact ar54 hz hl)) ⟨ho, ⟨v, _, N, ry.mono S', I', S', Nat.le_refl _, h⟩⟩
/- len, items -/
theorem C_lenList {u : V} {Q : Post V} (hs : ListV σ u xs) (hz : xs.length < 2 ^ 40) (h : Q (.int xs.length) σ N) : WC B d (.builtin "len") [u] σ N Q := fun A s as k I r => by
  obtain ⟨_, _, rfl, r1, r2⟩ := r.cons'
  obtain rfl := r2.nil'
  obtain ⟨a, items, n, rfl, ho, rl⟩ := hs.at I r1
  have hl := rl.size
  exact call_len_list (items := items) ⟨_, ho, rfl, n, rfl⟩ (by exact ar152 hz hl) (.here I.toks (.refl _ _) (by rw [← hl]; exact .int _ _) h)
theorem G_list {u : V} {i : Int} {v : V} {Q : Post V} (hs : ListV σ u xs) (h0 : 0 ≤ i) (hi : i < 2 ^ 60) (hx : xs[i.toNat]? = some v) (h : Q v σ N) : W2 B d (VRel B) getItem u (.int i) σ N Q := fun A s x y k I r r' => by
  obtain ⟨_, rfl⟩ := r'.inv
  obtain ⟨a, items, n, rfl, ho, rl⟩ := hs.at I r
  obtain ⟨y, hy, ry⟩ := rl.get hx
  exact wpAny_getItem_list (items := items) ⟨_, ho, rfl, n, rfl⟩ h0 (by exact ar56 hi) (by rw [← Array.getElem?_toList]; exact hy) (.here I (.refl _ _) ry h)
theorem G_tup {i : Int} {v : V} {Q : Post V} (h0 : 0 ≤ i) (hi : i < 2 ^ 60) (hx : xs[i.toNat]? = some v) (h : Q v σ N) : W2 B d (VRel B) getItem (.tup xs) (.int i) σ N Q := fun A s x y k I r r' => by
  obtain ⟨_, rfl⟩ := r'.inv
  cases r with
  | tup ho hs' rl =>
    rename_i items
    obtain ⟨y, hy, ry⟩ := rl.get hx
    have hlt : i.toNat < items.size := by have := (List.getElem?_eq_some_iff.mp hy).1; simpa using this
    exact PySem.P.getItem_tuple ho (by exact ar153 h0) (by exact ar56 hi) (seqIndex_nat h0 hlt) (by rw [← Array.getElem?_toList]; exact hy) (.here I (.refl _ _) ry h)
/- `o[i]` within an expression -/
theorem U_of {value slice : Expr} {o i : V} {T id : String} {Q : Post V} (ht : TypeV σ o T) (hl : typeLookup (.type T) "__getitem__" = pure (some (.builtin id))) (hsub : ∀ a b : Value, subscripted slice false a b = operate [a, b] (getItem a b))
    (h : W2 B d (VRel B) getItem o i σ N Q) : W2 B d (VRel B) (subscriptTail value slice) o i σ N Q := fun A s x y k I r r' =>
  tail_any (ht.is I r).1 hl (h A s x y k I r r') (hsub x y)
theorem WE_sub {value slice : Expr} {pos : Pos} {Q : Post V} (h : WE B d env l value σ N fun o σ₁ N₁ => WE B d env l slice σ₁ N₁ fun i σ₂ N₂ => W2 B d (VRel B) (subscriptTail value slice) o i σ₂ N₂ Q) : WE B d env l (.Subscript value slice pos) σ N Q :=
  fun A s k I F => Subscript_ (h.seq (ρ' := VRel B) k I F fun a u σ₁ N₁ s₁ r I₁ F₁ S₁ n₁ h₁ => h₁.seq (ρ' := VRel B) k I₁ F₁ fun b v σ₂ N₂ s₂ r₂ I₂ F₂ S₂ n₂ h₂ =>
    bot (h₂ A s₂ a b k I₂ (r.mono S₂) r₂) fun c s₃ e => e.after (S₁.trans S₂) (Nat.le_trans n₁ n₂))
theorem S_setList {i : Int} {v : V} {Q : Post Unit} (hs : σ a = some (.list xs)) (h0 : 0 ≤ i) (hi : i < xs.length) (hz : xs.length < 2 ^ 40) (h : Q () (pt σ a (.list (xs.set i.toNat v))) N) : W3 B d URel setItem (.ref a) (.int i) v σ N Q := fun A s x y c k I r r' rv => by
  obtain ⟨_, rfl⟩ := r.inv; obtain ⟨_, rfl⟩ := r'.inv
  obtain ⟨items, n, ho, rl⟩ := I.store a _ hs
  have hl := rl.size
  obtain ⟨I', S'⟩ := I.updList hs ho (fun zs => zs.setIfInBounds i.toNat c) (ys := xs.set i.toNat v) (by rw [Array.toList_setIfInBounds]; exact rl.set rv _)
  exact ki_setAt ho h0 (by exact ar154 hi hz) (by exact ar155 hi hl) ⟨(), _, N, trivial, I', S', Nat.le_refl _, h⟩
end
end
noncomputable section
/- tuples of ints and strs, compared -/
noncomputable def eqS : V → V → Bool
  | .int a, .int b => decide (a = b)
  | .str a, .str b => decide (a = b)
  | _, _ => false
noncomputable def ltS : V → V → Bool
  | .int a, .int b => decide (a < b)
  | .str a, .str b => decide (a.cps.toList < b.cps.toList)
  | _, _ => false
inductive SameS : V → V → Prop
  | int (a b : Int) : SameS (.int a) (.int b)
  | str (a b : Str) : SameS (.str a) (.str b)
noncomputable def lexLt : List V → List V → Bool
  | [], [] => false
  | [], _ :: _ => true
  | _ :: _, [] => false
  | x :: xs, y :: ys => if eqS x y = true then lexLt xs ys else ltS x y
inductive LexOk : List V → List V → Prop
  | nil : LexOk [] []
  | cons {x y : V} {xs ys : List V} (h : SameS x y) (r : LexOk xs ys) : LexOk (x :: xs) (y :: ys)

section
variable {prog : Program} {w : World} {A : Around} {E : Value → Shared → Prop} {s : Shared} {σ : Store} {h : Heap}
theorem eqBool_S {x y : V} {a b : Value} {Q : Bool → Shared → Prop} (k : SameS x y) (ra : VRel B σ h x a) (rb : VRel B σ h y b) (q : Q (eqS x y) s) : wpAny (model prog w) A (eqBool a b) Q E s := by
  cases k with
  | int i j => obtain ⟨_, rfl⟩ := ra.inv; obtain ⟨_, rfl⟩ := rb.inv; exact wpAny_eqBool_int q
  | str i j => obtain ⟨_, rfl⟩ := ra.inv; obtain ⟨_, rfl⟩ := rb.inv; exact wpAny_eqBool_str q
theorem lt_S {x y : V} {a b : Value} {Q : Value → Shared → Prop} (k : SameS x y) (ra : VRel B σ h x a) (rb : VRel B σ h y b) (q : Q (.bool (ltS x y)) s) : wpAny (model prog w) A (richCompare .Lt a b) Q E s := by
  cases k with
  | int i j => obtain ⟨_, rfl⟩ := ra.inv; obtain ⟨_, rfl⟩ := rb.inv; exact PyProof.Rows.lt_int q
  | str i j => obtain ⟨_, rfl⟩ := ra.inv; obtain ⟨_, rfl⟩ := rb.inv; exact PyProof.Rows.lt_str q
theorem tuple_lt_tree {xs ys : List V} {a b : Nat} {ia ib : Array Value} {na nb : Nat} {P : Fin → Shared → Prop} (ha : s.heap.get? a = some ⟨.type "tuple", none, .seq ia na, #[]⟩) (hb : s.heap.get? b = some ⟨.type "tuple", none, .seq ib nb, #[]⟩)
    (ra : VRelL B σ h xs ia.toList) (rb : VRelL B σ h ys ib.toList) (k : LexOk xs ys) (q : P (.done (.ret (.bool (lexLt xs ys)))) s) : wpAny (model prog w) A (Builtin.«tuple.__lt__» ⟨[.ref a, .ref b], []⟩) P E s := by
  show wpAny _ _ (isInstance (.ref b) (.type "tuple") >>= _) _ _ s
  refine wpAny_bind (wpAny_isInstance ⟨_, hb, rfl⟩ isSubtype_tuple_tuple ?_)
  simp only [Bool.not_true, Bool.false_eq_true, if_false]
  refine wpAny_bind (wpAny_tupleItemsOf ha rfl ?_)
  refine wpAny_bind (wpAny_tupleItemsOf hb rfl ?_)
  refine wpAny_bind ?_
  refine wpAny_forIn_list _ (fun rest r s' => r.1 = none ∧ s' = s ∧ ∃ xs' ys' us vs, rest = List.zip us vs ∧ VRelL B σ h xs' us ∧ VRelL B σ h ys' vs ∧ LexOk xs' ys' ∧ lexLt xs' ys' = lexLt xs ys ∧ ia.size = ib.size) _ ?_ ?_ _ _ ⟨rfl, rfl, xs, ys, ia.toList, ib.toList, rfl, ra, rb, k, rfl, ?_⟩
  · rintro ⟨u, v⟩ rest r s' ⟨hr, rfl, xs', ys', us, vs, hz, r1, r2, k', e, hsz⟩
    cases k' with
    | nil => obtain rfl := r1.nil'; cases hz
    | cons k1 k2 =>
      obtain ⟨_, _, rfl, c1, c2⟩ := r1.cons'
      obtain ⟨_, _, rfl, d1, d2⟩ := r2.cons'
      simp only [List.zip_cons_cons, List.cons.injEq, Prod.mk.injEq] at hz
      obtain ⟨⟨rfl, rfl⟩, rfl⟩ := hz
      refine wpAny_bind (eqBool_S k1 c1 d1 ?_)
      rw [lexLt] at e
      rename_i x y xs'' ys'' _ _
      cases z : eqS x y with
      | true =>
        rw [if_pos z] at e
        simp only [Bool.not_true, Bool.false_eq_true, if_false]
        exact wpAny_pure ⟨rfl, rfl, _, _, _, _, rfl, c2, d2, k2, e, hsz⟩
      | false =>
        rw [if_neg (by rw [z]; exact Bool.false_ne_true)] at e
        simp only [Bool.not_false, if_true]
        refine wpAny_bind (wpAny_rule (wpAny_bind (lt_S k1 c1 d1 (wpAny_bind (wpAny_pure (wpAny_pure ?_))))))
        rw [e]
        exact wpAny_pure q
  · rintro ⟨r1, r2⟩ s' ⟨hr, rfl, xs', ys', us, vs, hz, c1, c2, k', e, hsz⟩
    simp only at hr
    subst hr
    cases k' with
    | cons _ _ => cases c1 with | cons _ _ => cases c2 with | cons _ _ => cases hz
    | nil =>
      refine wpAny_pure ?_
      show P (.done (.ret (.bool (decide (ia.size < ib.size))))) s'
      rw [hsz, show decide (ib.size < ib.size) = false from decide_eq_false (Nat.lt_irrefl _), show false = lexLt xs ys from e]
      exact q
  · have h1 := ra.length
    have h2 := rb.length
    have : xs.length = ys.length := by
      clear q h1 h2 ra rb
      induction k with
      | nil => rfl
      | cons _ _ ih => simp [ih]
    simp only [Array.length_toList] at h1 h2
    exact ar156 h1 h2 this
end
section
variable {B : Cx} {d : Nat} {σ : Store} {N : Nat} {xs ys : List V}
theorem P_lt {Q : Post V} (k : LexOk xs ys) (h : Q (.bool (lexLt xs ys)) σ N) : W2 B d (VRel B) (compareOp .Lt) (.tup xs) (.tup ys) σ N Q := fun A s a b hk I r r' => by
  cases r with | tup ha _ ra =>
  cases r' with | tup hb _ rb =>
  refine cmp_ofLt (wpAny_richCompare_same_room (T := "tuple") ⟨_, ha, rfl⟩ ⟨_, hb, rfl⟩ F.slot_tuple_lt (wpAny_call_entry F.slot_tuple_lt ⟨_, ha, rfl⟩ F.entry_tuple_lt (tuple_lt_tree ha hb ra rb k ⟨_, rfl, by simp, ?_⟩) (F.args_tuple_lt_2 _ _)) ?_)
  · exact .here I (.refl _ _) (.bool _) h
  · have := hk.units; show _ < 9900; exact ar157 this
end
end
noncomputable section
/- no run makes the heap smaller -/
theorem runs_grow {M : Model} {Γ : PySem.Ctx} {p : Pos} {t : Sem Fin} {fs : List Frame} {s s' : Shared} {e : End} (h : Runs M Γ p t fs s e s') : s.heap.objs.size ≤ s'.heap.objs.size := by
  induction h with
  | done | raise | yield => exact Nat.le_refl _
  | again _ _ ih | rule _ ih | «at» _ ih | load _ _ ih | loadIfAlive _ ih | point _ ih | fresh _ ih | ask _ ih | choose _ _ ih | os _ ih | handled _ ih | genState _ _ ih | stack _ ih | thread _ ih | newGen _ ih | callSusp _ ih | resumeJustStarted _ _ _ ih | resumeThrowFresh _ _ ih | resumeRunning _ _ ih | resumeFinished _ _ ih | segSuspOut _ _ ih => exact ih
  | update _ _ ih => exact Nat.le_trans (Nat.le_of_eq (Heap.size_after_update ..).symm) ih
  | alloc _ ih => exact Nat.le_trans (Nat.le_succ _) (Nat.le_trans (Nat.le_of_eq (Heap.size_push ..).symm) ih)
  | call _ _ ih ih' | segRet _ _ ih ih' | segGen _ _ ih ih' => exact Nat.le_trans ih ih'
  | resumeFresh _ _ _ _ ih ih' | resumeSuspended _ _ _ _ ih ih' | segSuspGen _ _ _ _ ih ih' => exact Nat.le_trans ih ih'
theorem wakes_grow {M : Model} {Γ : PySem.Ctx} {p : Pos} {g : Nat} {r : Resume} {s s' : Shared} {res : GenResult} (h : Wakes M Γ p g r s res s') : s.heap.objs.size ≤ s'.heap.objs.size := by
  unfold Wakes at h
  split at h
  · exact h.elim
  · split at h
    · obtain ⟨e, s₁, hr, _, _, rfl⟩ := h; have := runs_grow hr; exact this
    · rw [h.2]; exact Nat.le_refl _
    · rw [h.2]; exact Nat.le_refl _
  · obtain ⟨e, s₁, hr, _, _, rfl⟩ := h; have := runs_grow hr; exact this
  · rw [h.2]; exact Nat.le_refl _
  · rw [h.2]; exact Nat.le_refl _
theorem wp_grow {α : Type} {M : Model} {Γ : PySem.Ctx} (n : Nat) (t : Sem α) {Q : α → Pos → Shared → Prop} {E : Value → Pos → Shared → Prop} (p : Pos) (s : Shared) (hn : n ≤ s.heap.objs.size) (h : Sem.wp M Γ t Q E p s) :
    Sem.wp M Γ t (fun a p' s' => Q a p' s' ∧ n ≤ s'.heap.objs.size) (fun a p' s' => E a p' s' ∧ n ≤ s'.heap.objs.size) p s := by
  induction t generalizing p s with
  | pure a => exact ⟨h, hn⟩
  | raise a => exact ⟨h, hn⟩
  | unsupported | finish | yield | fork | await | register => exact h
  | rule _ k ih | «at» _ k ih | loadIfAlive _ k ih | point _ k ih | fresh k ih | ask k ih | os _ _ k ih | handled _ k ih | newGen _ k ih | stack k ih | thread k ih => exact ih _ _ _ hn h
  | alloc o k ih => exact ih _ _ _ (Nat.le_trans hn (Nat.le_trans (Nat.le_succ _) (Nat.le_of_eq (Heap.size_push ..).symm))) h
  | load a _ k ih | genState a k ih => exact h.imp fun o h => ⟨h.1, ih _ _ _ hn h.2⟩
  | choose _ _ k ih => exact ⟨h.1, ih _ _ _ hn h.2⟩
  | update a _ f k ih => exact ⟨h.1, ih _ _ _ (Nat.le_trans hn (Nat.le_of_eq (Heap.size_after_update ..).symm)) h.2⟩
  | call c h' g l k ih => exact h.imp fun r h => h.imp fun s' h => ⟨h.1, ih _ _ _ (Nat.le_trans hn (runs_grow h.1)) h.2⟩
  | resume g r l k ih => exact h.imp fun r h => h.imp fun s' h => ⟨h.1, ih _ _ _ (Nat.le_trans hn (wakes_grow h.1)) h.2⟩
theorem any_grow {α : Type} {M : Model} {A : Around} {t : Sem α} {Q : α → Shared → Prop} {E : Value → Shared → Prop} {s : Shared} (h : wpAny M A t Q E s) : wpAny M A t (fun a s' => Q a s' ∧ s.heap.objs.size ≤ s'.heap.objs.size) E s :=
  fun Γ p hΓ => Sem.wp_mono M Γ t (fun _ _ _ x => x) (fun _ _ _ x => x.1) p s (wp_grow _ t p s (Nat.le_refl _) (h Γ p hΓ))
end
noncomputable section
noncomputable def isMany : Expr → Bool
  | .Tuple .. | .List .. => true
  | _ => false
theorem notMany {target : Expr} (h : isMany target = false) : ∀ it v, letOwnedTupleGo target it v = pure () := fun x v => by
  cases target <;> first | rfl | cases h
/- an iterator `it` that hands out `item 0 .. item (n - 1)`, to targets of the kind `many` -/
structure Iter (B : Cx) (many : Bool) (σ₁ : Store) (h₁ : Heap) (it n : Nat) (item : Nat → V) (Dep : Store → Prop) (St : Nat → Heap → Prop) : Prop where
  frame : ∀ i h h', St i h → (∀ o, h.get? it = some o → h'.get? it = some o) → St i h'
  notup : ∀ i h, St i h → NoFz it h ∧ ∃ o, h.get? it = some o
  self : ∀ i A s R E, St i s.heap → R (.ref it) s → wpAny (model B.prog B.w) A (pyIter (.ref it)) R E s
  next : ∀ target, isMany target = many → ∀ i A s σ N (R : Value → Shared → Prop) (E : Value → Shared → Prop), i < n → A.handled = none → Dep σ → Inv B σ N s → Pass σ₁ h₁ σ s.heap → σ it = none → St i s.heap →
    (∀ v h' tk, VRel B σ h' (item i) v → St (i + 1) h' → Heap.ExtBut it s.heap h' → R v { s with heap := h', toks := tk }) →
    wpAny (model B.prog B.w) A (pyNext (.ref it)) (fun r s₁ => ∃ v, r = some v ∧ wpAny (model B.prog B.w) A (letOwnedTupleGo target (.ref it) v) (fun _ s₂ => R v s₂) E s₁) E s
  stop : ∀ A s σ N R E, A.handled = none → Dep σ → Inv B σ N s → Pass σ₁ h₁ σ s.heap → St n s.heap →
    (∀ h' tk, Heap.ExtBut it s.heap h' → R none { s with heap := h', toks := tk }) → wpAny (model B.prog B.w) A (pyNext (.ref it)) R E s
/- what `iter(x)` hands out -/
noncomputable def IterOk (B : Cx) (many : Bool) (x : V) (σ : Store) (n : Nat) (item : Nat → V) (Dep : Store → Prop) : Prop :=
  Dep σ ∧ ∀ A s N a R E, A.handled = none → Inv B σ N s → VRel B σ s.heap x a →
    (∀ o St, Iter B many σ s.heap s.heap.objs.size n item Dep St → St 0 (s.heap.push o) → R (.ref s.heap.objs.size) { s with heap := s.heap.push o }) → wpAny (model B.prog B.w) A (pyIter a) R E s
noncomputable def ownTypes : List String := ["enumerate", "zip", "dict_itemiterator", "dict_reverseitemiterator", "odict_iterator", "itertools.zip_longest", "itertools.pairwise"]
theorem go_any {M : Model} {A : Around} {E : Value → Shared → Prop} {s : Shared} {target : Expr} {it : Nat} {v : Value} {o : Obj} {T : String} {Q : Shared → Prop} (ho : s.heap.get? it = some o) (hc : o.cls = .type T) (hT : ownTypes.contains T = false) (q : Q s) : wpAny M A (letOwnedTupleGo target (.ref it) v) (fun _ s' => Q s') E s := by
  have body : wpAny M A (do
      let (.ref r, .ref a) := (Value.ref it, v) | return
      let o ← load r
      match o.cls, o.data with
      | .type n, .fields vs =>
        if ["enumerate", "zip", "dict_itemiterator", "dict_reverseitemiterator", "odict_iterator", "itertools.zip_longest", "itertools.pairwise"].contains n && vs[0]? == some (rawInt a) then
          rule "for.unpacks-the-owned-tuple"
          updateField r 0 .none
      | _, _ => pure ()) (fun _ s' => Q s') E s := by
    cases v with
    | ref a =>
      refine wpAny_bind (wpAny_load ho ?_)
      obtain ⟨c, od, dt, sl⟩ := o
      dsimp only at hc
      subst hc
      cases dt with
      | fields vs =>
        show wpAny _ _ (if (ownTypes.contains T && _) = true then _ else _) _ _ _
        rw [hT, Bool.false_and, if_neg Bool.false_ne_true]
        exact wpAny_pure q
      | _ => exact wpAny_pure q
    | _ => exact wpAny_pure q
  cases target with
  | Tuple a b c => exact body
  | List a b => exact body
  | _ => exact wpAny_pure q

section
variable {B : Cx} {d : Nat} {env : Env} {l : Loc} {σ : Store} {N : Nat} {rest body : List Stmt} {Q : PostS}
theorem Inv.base_none {s : Shared} (I : Inv B σ N s) {a : Nat} (h : s.heap.get? a = none) : B.h₀.get? a = none := by
  cases q : B.h₀.get? a with
  | none => rfl
  | some o => have := (I.base _ _ q).1; rw [h] at this; cases this

theorem not_frozen {o : Obj} {T : String} (h : o.cls = .type T) (ht : T ∉ ["tuple", "range", "slice", "dict_items", "dict_values", "list", "dict"]) : ¬ Frozen o := fun f => by
  have := f
  unfold Frozen at this
  rw [h] at this
  simp only [List.mem_cons, List.not_mem_nil, or_false, Value.type.injEq] at this ht
  exact ht this

/- lists -/
theorem iter_list {many : Bool} {u : V} {xs : List V} (hs : ListV σ u xs) : IterOk B many u σ xs.length (fun i => xs.getD i .none) (fun σ => ListV σ u xs) :=
  ⟨hs, fun A s N v R E hh I r k => by
    obtain ⟨a, items, n, rfl, ho, rl⟩ := hs.at I r
    have hne : a ≠ s.heap.objs.size := Nat.ne_of_lt (Heap.lt_size ho)
    refine wpAny_pyIter_list (items := items) ⟨_, ho, rfl, n, rfl⟩ (k _ (fun i h => h.IsListIter s.heap.objs.size a i) ⟨?_, ?_, ?_, ?_, ?_⟩ ⟨_, Heap.get?_push_size _ rfl, rfl, rfl⟩)
    · exact fun i h h' ⟨o, e, r⟩ k => ⟨o, k o e, r⟩
    · exact fun i h ⟨o, e, hc, r⟩ => ⟨fun o' e' f => by rw [e] at e'; cases e'; exact not_frozen hc (by decide) f, o, e⟩
    · exact fun i A s R E st q => wpAny_pyIter_listiter st q
    · intro target _ i A s' σ' N' R E hi hh hd I' rx hou st q
      obtain ⟨a', its, m, e', ho', rl'⟩ := hd.at I' (r.pass rx)
      cases e'
      obtain ⟨y, hy, ry⟩ := rl'.get (List.getElem?_eq_getElem hi)
      have hN : NoTup σ' s.heap.objs.size s'.heap := by obtain ⟨o, e, hc, r⟩ := st; exact .inr fun o' e' f => by rw [e] at e'; cases e'; exact not_frozen hc (by decide) f
      refine wpAny_pyNext_list_item st (items := its) ⟨_, ho', rfl, m, rfl⟩ (by rw [← Array.getElem?_toList]; exact hy) fun h' st' hsb => ⟨y, rfl, ?_⟩
      obtain ⟨o, e, hc, r⟩ := id st'
      refine go_any (Q := R y) e hc (by decide) (q y h' _ ?_ st' hsb.extBut)
      show VRel B σ' _ (xs.getD i .none) y
      rw [List.getD_eq_getElem?_getD, List.getElem?_eq_getElem hi]; exact ry.pass (StepL.pass (.of_ext hsb.extBut hou) hN)
    · intro A s' σ' N' R E hh hd I' rx st q
      obtain ⟨a', its, m, e', ho', rl'⟩ := hd.at I' (r.pass rx)
      cases e'
      refine wpAny_pyNext_list_end hh st (items := its) ⟨_, ho', rfl, m, rfl⟩ ?_ fun h' hx => q h' _ hx
      rw [Array.getElem?_eq_none]; rw [← rl'.size]; exact Nat.le_refl _⟩

/- range(n) -/
noncomputable def rangeObj (n : Int) (t u v : Tok) : Obj := { cls := .type "range", data := .fields #[.int 0 t, .int n u, .int 1 v] }
theorem frozen_range {n : Int} {t u v : Tok} : Frozen (rangeObj n t u v) := .tail _ (.head _)
theorem C_range {n : Int} {Q : Post V} (h : ∀ t u v, Q (.imm (rangeObj n t u v)) σ N) : WC B d (.type "range") [.int n] σ N Q := fun A s as k I r => by
  obtain ⟨_, _, rfl, r1, r2⟩ := r.cons'
  obtain rfl := r2.nil'; obtain ⟨_, rfl⟩ := r1.inv
  exact call_range_1 (.here (Inv.toks (Inv.push I)) .push (.imm (Heap.get?_push_size _ rfl) I.free frozen_range) (h _ _ _))
theorem iter_range {many : Bool} {n : Nat} {t u v : Tok} (hn : (n : Int) < 2 ^ 60) : IterOk B many (.imm (rangeObj n t u v)) σ n (fun i => .int i) (fun _ => True) :=
  ⟨trivial, fun A s N a R E hh I r k => by
    obtain ⟨_, rfl, ho, hs, hf⟩ := r.inv
    have hsz : Builtin.Range.rangeSize 0 n 1 = n := by
      unfold Builtin.Range.rangeSize
      rw [if_pos (by decide)]
      by_cases z : (0 : Int) < n
      · rw [if_pos z]; exact ar158
      · rw [if_neg z]; exact ar159 z
    refine wpAny_pyIter_range ho (by
      have hf : Builtin.Range.rangeFitsLong (n : Int) = true := by unfold Builtin.Range.rangeFitsLong; simp; exact ar160 hn
      unfold Builtin.Range.small; rw [hsz, if_pos (by decide), show (n : Int) + (1 - 1) = n from by exact ar161, hf]; simp; decide) (k _ (fun i h => IsRangeIter h s.heap.objs.size i ((n : Int) - i) 1) ⟨?_, ?_, ?_, ?_, ?_⟩ ?_)
    · exact fun i h h' e k => k _ e
    · exact fun i h e => ⟨fun o' e' f => by rw [show h.get? s.heap.objs.size = _ from e] at e'; cases e'; exact not_frozen rfl (by decide) f, _, e⟩
    · exact fun i A s R E st q => wpAny_pyIter_rangeiter st q
    · intro target _ i A s' σ' N' R E hi hh hd I' rx hou st q
      refine wpAny_pyNext_range_item st (by exact ar162 hi) fun h' st' hsb => ⟨_, rfl, ?_⟩
      have : (n : Int) - (i : Nat) - 1 = (n : Int) - ((i + 1 : Nat) : Int) := by exact ar163
      rw [this] at st'
      exact go_any (Q := R _) (show h'.get? _ = _ from st') rfl (by decide) (q _ h' _ (.int _ _) st' hsb.extBut)
    · intro A s' σ' N' R E hh hd I' rx st q
      exact wpAny_pyNext_range_end hh st (by exact ar164) fun h' hx => q h' _ hx
    · show IsRangeIter _ _ _ _ _
      rw [hsz]
      have : (n : Int) - ((0 : Nat) : Int) = n := by exact ar165
      rw [this]
      exact Heap.get?_push_size _ rfl⟩

/- a target takes its value -/
noncomputable def WAs (B : Cx) (d : Nat) (env : Env) (l : Loc) (target : Expr) (v : V) (σ : Store) (N : Nat) (K : Loc → Store → Nat → Prop) : Prop :=
  ∀ A s a R E, Ok d A → Inv B σ N s → FRel B env l σ s.heap → VRel B σ s.heap v a →
    (∀ s' l' σ' N', Inv B σ' N' s' → StepL env.locals σ s.heap σ' s'.heap → FRel B env l' σ' s'.heap → N ≤ N' → K l' σ' N' → R () s') → wpAny (model B.prog B.w) A (assign target env a) R E s
theorem A_name {x : Str} {p : Pos} {v : V} {K : Loc → Store → Nat → Prop} (h : K (upd l x v) σ N) (hl : env.kindOf x = some .local := by rfl) (hk : env.scope.kind = .function := by rfl) : WAs B d env l (.Name x p) v σ N K :=
  fun A s a R E k I F r q => wpAny_assign_Name (store_local I F r hl hk fun s' I' F' S' => q s' _ σ N I' S' F' (Nat.le_refl _) h)
theorem A_cell {x : Str} {p : Pos} {c : Nat} {v : V} {v₀ : Option V} {K : Loc → Store → Nat → Prop} (hc : env.cells.lookup x = some c) (hs : σ c = some (.cell v₀)) (h : K l (pt σ c (.cell (some v))) N) (hl : env.kindOf x = some .cell := by rfl) (hk : env.scope.kind = .function := by rfl) : WAs B d env l (.Name x p) v σ N K :=
  fun A s a R E k I F r q => wpAny_assign_Name (store_cell I F r hl hk hc hs fun s' I' F' S' => q s' _ _ N I' (S'.toL _) F' (Nat.le_refl _) h)

/- what a turn of a for loop hands on -/
noncomputable def ForTurn (B : Cx) (d : Nat) (env : Env) (rest : List Stmt) (Q : PostS) (J : Loc → Store → Nat → Prop) : PostS := fun x l σ N => match x with
  | .next | .cont => ∃ l', LSub l' l ∧ J l' σ N
  | .brk => WX B d env l rest σ N Q
  | .ret v => Q (.ret v) l σ N
/- what follows the source of a for -/
noncomputable def ForAfter (B : Cx) (d : Nat) (env : Env) (target : Expr) (body rest : List Stmt) (Q : PostS) (x : V) (l : Loc) (σ : Store) (N : Nat) : Prop :=
  ∀ A s a, Ok d A → Inv B σ N s → FRel B env l σ s.heap → VRel B σ s.heap x a → wpAny (model B.prog B.w) A (pyIter a) (fun it s₂ =>
    codeAny (model B.prog B.w) A (.forLoop target it body [] env) (fun r s' => match r with | .ok f => EndS B env σ N s.heap (Then B d env rest Q) f s' | .error e => cameBackBy (model B.prog B.w) A env (fun _ _ => False) e s') s₂) (fun _ _ => False) s
theorem X_for {target iter : Expr} {pos : Pos} (h : WE B d env l iter σ N fun x σ₁ N₁ => ForAfter B d env target body rest Q x l σ₁ N₁) (hs : ∀ x, foldedSetIterable iter env x = pure x) : WX B d env l (.For target iter body [] pos :: rest) σ N Q :=
  X_cons fun A s k I F => wpAny_For (h.seq (ρ' := VRel B) k I F fun a x σ₁ N₁ s₁ r I₁ F₁ S₁ n₁ h₁ => bot (h₁ A s₁ a k I₁ F₁ r) fun it s₂ h₂ => codeAny_mono h₂ fun r s' q => by
    cases r with
    | ok f => exact EndS.after (S₁.toL _) n₁ q
    | error e => exact q) hs
inductive FI (B : Cx) (env : Env) (σ : Store) (N : Nat) (h : Heap) (n : Nat) (J : Nat → Loc → Store → Nat → Prop) (St : Nat → Heap → Prop) (m : Nat) (s' : Shared) : Prop
  | mk (i : Nat) (l' : Loc) (σ' : Store) (N' : Nat) (hi : i ≤ n) (hm : m = n - i) (hJ : J i l' σ' N') (I : Inv B σ' N' s') (S : StepL env.locals σ h σ' s'.heap) (F : FRel B env l' σ' s'.heap) (n' : N ≤ N') (st : St i s'.heap) (ho : σ' h.objs.size = none)
theorem For_items {target : Expr} {x : V} (h : ∃ n item Dep, IterOk B (isMany target) x σ n item Dep ∧ ∃ (J : Nat → Loc → Store → Nat → Prop) (l₀ : Loc), LSub l₀ l ∧ J 0 l₀ σ N ∧
      (∀ i l σ N', J i l σ N' → N ≤ N' → Dep σ) ∧
      (∀ i l σ N', i < n → J i l σ N' → N ≤ N' → WAs B d env l target (item i) σ N' fun l' σ' N'' => WX B d env l' body σ' N'' (ForTurn B d env rest Q (J (i + 1)))) ∧
      ∀ l σ N', J n l σ N' → N ≤ N' → WX B d env l rest σ N' Q) : ForAfter B d env target body rest Q x l σ N := fun A s₁ a k I₁ F₁ r => by
    obtain ⟨n, item, Dep, ⟨hdep, hit⟩, J, l₀, hl₀, h₀, hD, turn, fin⟩ := h
    refine hit A s₁ N a _ _ k.handled I₁ r fun o St W hst => ?_
    have S₀ : StepL env.locals σ s₁.heap σ (s₁.heap.push o) := (Step.push).toL _
    have hfresh : s₁.heap.get? s₁.heap.objs.size = none := get_fresh _
    have hb : B.h₀.get? s₁.heap.objs.size = none := I₁.base_none hfresh
    refine codeAny_forLoop_any (FI B env σ N s₁.heap n J St)
      (fun m s' ⟨i, l', σ', N', hi, hm, hJ, I', S', F', n', st, ho⟩ => ?_) n ⟨0, l₀, σ, N, Nat.zero_le _, rfl, h₀, I₁.push, ⟨fun b o _ e n => ⟨Heap.get?_push_of_some _ e, n⟩, rfl⟩, (F₁.mono .push).less hl₀, Nat.le_refl _, hst, I₁.fresh⟩
    have hLn : env.locals ≠ s₁.heap.objs.size := by
      obtain ⟨mm, hn, _⟩ := F₁.ns
      exact Nat.ne_of_lt hn.lt
    have fin' : ∀ {s'' : Shared} {σ'' : Store}, StepL env.locals σ s₁.heap σ'' s''.heap → StepL env.locals σ s₁.heap σ'' s''.heap := fun q => q
    by_cases hlt : i < n
    · refine bot (any_grow (W.next target rfl i A s' σ' N' (fun v s'' => ∃ h' tk, s'' = { s' with heap := h', toks := tk } ∧ VRel B σ' h' (item i) v ∧ St (i + 1) h' ∧ Heap.ExtBut s₁.heap.objs.size s'.heap h') (fun _ _ => False) hlt k.handled (hD i l' σ' N' hJ n') I' (S'.pass F₁.noTup) ho st fun v h' tk r1 r2 r3 => ⟨h', tk, rfl, r1, r2, r3⟩)) ?_
      rintro _ s'' ⟨⟨v, rfl, hgo⟩, hsz₀⟩
      refine bot (any_grow hgo) ?_
      rintro _ _ ⟨⟨h', tk, rfl, rv, st', hsb⟩, hsz₁⟩
      have hsz := Nat.le_trans hsz₀ hsz₁
      have hN : NoTup σ' s₁.heap.objs.size s'.heap := .inr (W.notup i _ st).1
      have SL : StepL s₁.heap.objs.size σ' s'.heap σ' h' := .of_ext hsb ho
      have I'' : Inv B σ' N' { s' with heap := h', toks := tk } := Inv.frame (s' := { s' with heap := h', toks := tk }) I' hsb ho hb hN hsz rfl rfl
      have F'' : FRel B env l' σ' h' := by
        obtain ⟨mm, hn, km⟩ := F'.ns
        exact ⟨F'.out, F'.new, F'.mark, mm, hn.extBut hsb hLn, fun y u e => let ⟨b, h1, h2⟩ := km y u e; ⟨b, h1, h2.pass (StepL.pass SL hN)⟩⟩
      refine turn i l' σ' N' hlt hJ n' A { s' with heap := h', toks := tk } v _ _ k I'' F'' rv fun s₃ l₃ σ₃ N₃ I₃ S₃ F₃ n₃ h₃ => ?_
      refine bot (h₃ A s₃ k I₃ F₃) fun f s₄ ⟨y, l₄, σ₄, N₄, rf, I₄, S₄, F₄, n₄, q⟩ => ?_
      have nn : N ≤ N₄ := Nat.le_trans (Nat.le_trans n' n₃) n₄
      have S₅ : StepL env.locals σ s₁.heap σ₄ s₄.heap := ⟨fun b o hb e nn => by
        obtain ⟨e1, e2⟩ := S'.keep b o hb e nn
        have hbn : b ≠ s₁.heap.objs.size := Nat.ne_of_lt (Heap.lt_size e)
        obtain ⟨e3, e4⟩ := S₃.keep b o hb (hsb b o hbn e1) e2
        exact S₄.keep b o hb e3 e4, S₄.fr.trans (S₃.fr.trans S'.fr)⟩
      obtain ⟨oi, hoi⟩ := (W.notup _ _ st').2
      have hi3 := S₃.keep _ _ (Ne.symm hLn) hoi ho
      have hi4 := S₄.keep _ _ (Ne.symm hLn) hi3.1 hi3.2
      have st4 : St (i + 1) s₄.heap := W.frame _ _ _ st' fun o e => by rw [hoi] at e; cases e; exact hi4.1
      cases rf with
      | next => obtain ⟨l₅, hl₅, hj⟩ := q; exact ⟨n - (i + 1), by exact arb1 hi hm hlt, i + 1, l₅, σ₄, N₄, hlt, rfl, hj, I₄, S₅, F₄.less hl₅, nn, st4, hi4.2⟩
      | cont => obtain ⟨l₅, hl₅, hj⟩ := q; exact ⟨n - (i + 1), by exact arb1 hi hm hlt, i + 1, l₅, σ₄, N₄, hlt, rfl, hj, I₄, S₅, F₄.less hl₅, nn, st4, hi4.2⟩
      | brk => exact ⟨.next, l₄, σ₄, N₄, .next, I₄, fin' S₅, F₄, nn, q⟩
      | ret rv => exact ⟨_, l₄, σ₄, N₄, .ret rv, I₄, fin' S₅, F₄, nn, q⟩
    · obtain rfl : i = n := by exact ar30 hi hlt
      refine bot (any_grow (W.stop A s' σ' N' (fun r s'' => ∃ h' tk, r = none ∧ s'' = { s' with heap := h', toks := tk } ∧ Heap.ExtBut s₁.heap.objs.size s'.heap h') (fun _ _ => False) k.handled (hD i l' σ' N' hJ n') I' (S'.pass F₁.noTup) st fun h' tk hx => ⟨h', tk, rfl, rfl, hx⟩)) ?_
      rintro _ _ ⟨⟨h', tk, rfl, rfl, hx⟩, hsz⟩
      have hN : NoTup σ' s₁.heap.objs.size s'.heap := .inr (W.notup i _ st).1
      have SL : StepL s₁.heap.objs.size σ' s'.heap σ' h' := .of_ext hx ho
      have I'' : Inv B σ' N' { s' with heap := h', toks := tk } := Inv.frame (s' := { s' with heap := h', toks := tk }) I' hx ho hb hN hsz rfl rfl
      have F'' : FRel B env l' σ' h' := by
        obtain ⟨mm, hn, km⟩ := F'.ns
        exact ⟨F'.out, F'.new, F'.mark, mm, hn.extBut hx hLn, fun y u e => let ⟨b, h1, h2⟩ := km y u e; ⟨b, h1, h2.pass (StepL.pass SL hN)⟩⟩
      refine wpAny_execs_nil ⟨.next, l', σ', N', .next, I'', fin' ⟨fun b o hb e nn => ?_, S'.fr⟩, F'', n', fin l' σ' N' hJ n'⟩
      obtain ⟨e1, e2⟩ := S'.keep b o hb e nn
      exact ⟨hx b o (Nat.ne_of_lt (Heap.lt_size e)) e1, e2⟩
end
end
noncomputable section
section
variable {B : Cx} {d : Nat} {env : Env} {l : Loc} {σ : Store} {N : Nat}

/- the tests of a comprehension -/
noncomputable abbrev WTs (B : Cx) (d : Nat) (env : Env) (l : Loc) (ifs : List Expr) (σ : Store) (N : Nat) (K : Post Bool) : Prop :=
  WF B d env l BRel (forIn ifs true fun c r => if r = true then do let ok ← isTrue c env (eval c env); pure (ForInStep.yield ok) else pure (ForInStep.yield r)) σ N K
theorem Ts_nil {K : Post Bool} (h : K true σ N) : WTs B d env l [] σ N K := fun A s k I F => wpAny_tests_nil (.here I (.refl _ _) rfl h)
theorem Ts_one {c : Expr} {K : Post Bool} (h : WB B d env l c σ N K) : WTs B d env l [c] σ N K := fun A s k I F => wpAny_tests_one (h A s k I F)

/- the two kinds of comprehension, by what they share -/
structure CK (e target iter : Expr) (ifs : List Expr) (act : Nat → Env → Sem Unit) : Prop where
  clauses : clausesOf e = [⟨target, iter, ifs, 0⟩]
  turn : ∀ it a env, compTurn e 0 it (.ref a) env = (do
      standAt iter.pos
      match ← pyNext it with
      | none => pure (.done .next)
      | some v =>
        letOwnedTupleGo target it v
        assign target env v
        let mut ok := true
        for c in ifs do
          if ok then ok ← isTrue c env (eval c env)
        if ok then act a env
        again (.compLoop e 0 it (.ref a) env))
  loop : ∀ {prog : Program} {w : World} {A : Around} {R : Result → Shared → Prop} {s : Shared} {it : Value} {a : Nat} {env : Env} (I : Nat → Shared → Prop), (∀ n s, I n s → wpAny (model prog w) A (compTurn e 0 it (.ref a) env)
      (fun fin s' => match fin with | .done f => R (.ok f) s' | .again c' => c' = .compLoop e 0 it (.ref a) env ∧ ∃ m, m < n ∧ I m s') (fun _ _ => False) s) → ∀ n, I n s → codeAny (model prog w) A (.compLoop e 0 it (.ref a) env) R s
  start : ∀ {prog : Program} {w : World} {A : Around} {R : Result → Shared → Prop} {s : Shared} {it acc : Value} {env : Env}, codeAny (model prog w) A (.compLoop e 0 it acc env) R s →
    wpAny (model prog w) A (pyIter it) (fun it' s' => codeAny (model prog w) A (.compLoop e 0 it' acc env) R s') (notedBy (model prog w) A env fun x s' => R (.error x) s') s → codeAny (model prog w) A (.compStart e 0 it acc env) R s
theorem ck_list (elt target iter : Expr) (ifs : List Expr) (scope : Scope) (pos : Pos) : CK (.ListComp elt [⟨target, iter, ifs, 0⟩] scope pos) target iter ifs (fun a env => do let _ ← call (.builtin "list.append") [.ref a, ← eval elt env]) :=
  ⟨rfl, fun it a env => compTurn_list _ _ _ _ _ _ _ _ _, fun {prog w A R s it a env} I h n h0 => codeAny_loop rfl I (fun n s hI => by
    show wpAny _ A ((compTurn (.ListComp elt [⟨target, iter, ifs, 0⟩] scope pos) 0 it (.ref a) env).onRaise (fun x => do noteFrame x env; theTreesLotGoes x)) _ _ s
    exact wpAny_noted (bot (h n s hI) fun _ _ x => x)) n h0, codeAny_compStart_list⟩
/- a marked thing taken in hand, and given back -/
noncomputable def own (σ : Store) (a : Nat) (o : AObj) : Store := ⟨fun b => if b = a then some o else σ b, fun b => σ.fr b ∧ b ≠ a⟩
theorem Pass.own {h : Heap} {a : Nat} {o : AObj} (hf : σ.fr a) : Pass σ h (own σ a o) h := ⟨fun b x e _ n => by
  have ne : b ≠ a := fun q => n.2 (q ▸ hf)
  exact ⟨e, (if_neg ne).trans n.1, fun q => n.2 q.1⟩⟩
theorem Inv.own {s : Shared} {a : Nat} {o : AObj} (I : Inv B σ N s) (hr : ORel B σ s.heap a o) (hf : σ.fr a) (ha : a < N) : Inv B (own σ a o) N s :=
  ⟨fun b x e => by
    by_cases z : b = a
    · subst z; rw [show Mine.own σ b o b = some o from if_pos rfl] at e; cases e; exact hr.pass (.own hf) fun _ q => q
    · rw [show Mine.own σ a o b = σ b from if_neg z] at e; exact (I.store b x e).pass (.own hf) fun _ q => q,
   fun b x e => ⟨(I.base b x e).1, (if_neg (fun q => by have z := (I.marks a hf).2.2; rw [← q, e] at z; cases z) : Mine.own σ a o b = σ b).trans (I.base b x e).2⟩, I.gens, I.os,
   fun b x e => by
    by_cases z : b = a
    · subst z; exact ha
    · rw [show Mine.own σ a o b = σ b from if_neg z] at e; exact I.top b x e, I.size,
   fun b f => let ⟨x, y, z⟩ := I.marks b f.1; ⟨x, (if_neg f.2 : Mine.own σ a o b = σ b).trans y, z⟩⟩
noncomputable def disown (σ : Store) (a : Nat) : Store := ⟨fun b => if b = a then none else σ b, fun b => b = a ∨ σ.fr b⟩
theorem Pass.disown {h : Heap} {a : Nat} {o : AObj} (hs : σ a = some o) : Pass σ h (disown σ a) h := ⟨fun b x e _ n => by
  have ne : b ≠ a := fun q => by have z := n.1; rw [q, hs] at z; cases z
  exact ⟨e, (if_neg ne).trans n.1, fun q => q.elim ne n.2⟩⟩
theorem Inv.disown {s : Shared} {a : Nat} {o : AObj} (I : Inv B σ N s) (hs : σ a = some o) : Inv B (disown σ a) N s :=
  have lk : ∀ {b x}, Mine.disown σ a b = some x → σ b = some x := fun {b x} e => by
    by_cases z : b = a
    · rw [show Mine.disown σ a b = none from if_pos z] at e; cases e
    · rwa [show Mine.disown σ a b = σ b from if_neg z] at e
  have ln : ∀ {b}, σ b = none → Mine.disown σ a b = none := fun {b} e => by
    by_cases z : b = a
    · exact if_pos z
    · exact (if_neg z).trans e
  ⟨fun b x e => (I.store b x (lk e)).pass (.disown hs) fun _ q => q, fun b x e => ⟨(I.base b x e).1, ln (I.base b x e).2⟩, I.gens, I.os, fun b x e => I.top b x (lk e), I.size, fun b f => by
    rcases f with q | q
    · subst q
      refine ⟨Nat.lt_of_lt_of_le (I.top b _ hs) I.size, if_pos rfl, ?_⟩
      cases q : B.h₀.get? b with
      | none => rfl
      | some y => have := (I.base b y q).2; rw [hs] at this; cases this
    · obtain ⟨x, y, z⟩ := I.marks b q; exact ⟨x, ln y, z⟩⟩
theorem disown_own {a : Nat} {o o' : AObj} (hs : σ a = none) (hf : σ.fr a) : disown (pt (own σ a o) a o') a = σ := Store.ext (fun b => by
  by_cases z : b = a
  · subst z; exact (if_pos rfl : Mine.disown _ b b = none).trans hs.symm
  · exact (if_neg z : Mine.disown _ a b = _).trans ((pt_ne z).trans (if_neg z))) (funext fun b => propext ⟨fun q => q.elim (fun q => q ▸ hf) (fun q => q.1), fun q => by
    by_cases z : b = a
    · exact .inl z
    · exact .inr ⟨q, z⟩⟩)
/- what the marked thing holds while a tree runs that does not know it -/
noncomputable abbrev Held (B : Cx) (σ : Store) (h : Heap) (a : Nat) (o : AObj) : Prop := ORel B σ h a o ∧ σ a = none ∧ σ.fr a
theorem Held.stepL {L a : Nat} {o : AObj} {σ' : Store} {h h' : Heap} (x : Held B σ h a o) (S : StepL L σ h σ' h') (hL : NoTup σ L h) (ne : a ≠ L) (hx : ∃ y, h.get? a = some y) : Held B σ' h' a o :=
  let ⟨y, hy⟩ := hx
  ⟨x.1.pass (S.pass hL) fun z e => (S.keep a z ne e x.2.1).1, (S.keep a y ne hy x.2.1).2, by rw [S.fr]; exact x.2.2⟩
theorem ORel.there {h : Heap} {a : Nat} {o : AObj} (r : ORel B σ h a o) : ∃ x, h.get? a = some x := by
  cases o with
  | list xs => obtain ⟨_, _, e, _⟩ := r; exact ⟨_, e⟩
  | dict es ep => obtain ⟨_, ⟨_, _, e, _⟩, _⟩ := r; exact ⟨_, e⟩
  | cell v => obtain ⟨_, ⟨_, e, _⟩, _⟩ := r; exact ⟨_, e⟩
  | obj x => exact ⟨_, r⟩
  | ns l => obtain ⟨m, ⟨_, _, _, e, _⟩, _⟩ := r; exact ⟨_, e⟩
theorem Held.step {a : Nat} {o : AObj} {σ' : Store} {h h' : Heap} (x : Held B σ h a o) (S : Step σ h σ' h') : Held B σ' h' a o :=
  let ⟨y, hy⟩ := x.1.there
  ⟨x.1.pass S.pass fun z e => (S.keep a z e x.2.1).1, (S.keep a y hy x.2.1).2, by rw [S.fr]; exact x.2.2⟩
inductive AE (B : Cx) (env : Env) (l : Loc) (a : Nat) (σ : Store) (N : Nat) (h : Heap) (K : AObj → Store → Nat → Prop) (u : Unit) (s' : Shared) : Prop
  | mk (o' : AObj) (σ' : Store) (N' : Nat) (hh : Held B σ' s'.heap a o') (I : Inv B σ' N' s') (S : StepL a σ h σ' s'.heap) (F : FRel B env l σ' s'.heap) (n : N ≤ N') (q : K o' σ' N')
/- what a turn does to the list or dict under way -/
noncomputable def WAct (B : Cx) (d : Nat) (env : Env) (l : Loc) (act : Sem Unit) (a : Nat) (o : AObj) (σ : Store) (N : Nat) (K : AObj → Store → Nat → Prop) : Prop :=
  ∀ A s, Ok d A → Inv B σ N s → FRel B env l σ s.heap → Held B σ s.heap a o → a < N → env.locals ≠ a →
    wpAny (model B.prog B.w) A act (AE B env l a σ N s.heap K) (fun _ _ => False) s
/- a turn -/
noncomputable def CompTurn (B : Cx) (d : Nat) (env : Env) (target : Expr) (ifs : List Expr) (act : Sem Unit) (a : Nat) (v : V) (o : AObj) (J : AObj → Store → Nat → Prop) (σ : Store) (N : Nat) : Prop :=
  WAs B d env [] target v σ N fun l σ₁ N₁ => WTs B d env l ifs σ₁ N₁ fun ok σ₂ N₂ => if ok = true then WAct B d env l act a o σ₂ N₂ J else J o σ₂ N₂
noncomputable abbrev Kept (σ₁ : Store) (h₁ : Heap) (σ' : Store) (h' : Heap) : Prop := ∀ b o, h₁.get? b = some o → σ₁ b = none → h'.get? b = some o ∧ σ' b = none
inductive CI (B : Cx) (cenv : Env) (σ₁ : Store) (h₁ : Heap) (σ₀ : Store) (it a N₂ n : Nat) (J : Nat → AObj → Store → Nat → Prop) (St : Nat → Heap → Prop) (m : Nat) (s' : Shared) : Prop
  | mk (i : Nat) (o : AObj) (σ' : Store) (N' : Nat) (hi : i ≤ n) (hm : m = n - i) (hJ : J i o σ' N') (I : Inv B σ' N' s') (S : Kept σ₁ h₁ σ' s'.heap) (F : FRel B cenv [] σ' s'.heap) (n' : N₂ ≤ N') (st : St i s'.heap) (ho : σ' it = none) (hh : Held B σ' s'.heap a o) (fr : σ'.fr = σ₀.fr)
theorem comp_loop {e target iter : Expr} {ifs : List Expr} {act : Nat → Env → Sem Unit} {cenv : Env} {n : Nat} {item : Nat → V} {Dep : Store → Prop} {St : Nat → Heap → Prop} {A : Around} {s₁ s : Shared} {it a C : Nat} {σ₁ σ₀ : Store} {N₂ : Nat} {o₀ : AObj} (ck : CK e target iter ifs act)
    (J : Nat → AObj → Store → Nat → Prop) (k : Ok d A) (W : Iter B (isMany target) σ₁ s₁.heap it n item Dep St) (hx : ∀ σ' h', Kept σ₁ s₁.heap σ' h' → σ'.fr = σ₀.fr → Pass σ₁ s₁.heap σ' h') (hC : cenv.locals = C) (hitC : it ≠ C) (hita : it ≠ a) (haC : a ≠ C) (hit1 : s₁.heap.get? it = none) (hC1 : s₁.heap.get? C = none) (ha1 : s₁.heap.get? a = none) (hitb : B.h₀.get? it = none)
    (hD : ∀ i o σ N, J i o σ N → Dep σ) (turn : ∀ i o σ N, i < n → J i o σ N → N₂ ≤ N → CompTurn B d cenv target ifs (act a cenv) a (item i) o (J (i + 1)) σ N)
    {R : Result → Shared → Prop} (hR : ∀ s' o σ' N', J n o σ' N' → Inv B σ' N' s' → Kept σ₁ s₁.heap σ' s'.heap → N₂ ≤ N' → σ' C = none → (∃ m, s'.heap.Ns C m) → Held B σ' s'.heap a o → σ'.fr = σ₀.fr → R (.ok .next) s')
    (hJ0 : J 0 o₀ σ₀ N₂) (I0 : Inv B σ₀ N₂ s) (S0 : Kept σ₁ s₁.heap σ₀ s.heap) (F0 : FRel B cenv [] σ₀ s.heap) (h0 : Held B σ₀ s.heap a o₀) (ha : a < N₂) (st0 : St 0 s.heap) (q0 : σ₀ it = none) :
    codeAny (model B.prog B.w) A (.compLoop e 0 (.ref it) (.ref a) cenv) R s := by
  subst hC
  refine ck.loop (CI B cenv σ₁ s₁.heap σ₀ it a N₂ n J St)
    (fun m s' ⟨i, o, σ', N', hi, hm, hJ, I', S', F', n', st, ho, hh, hfr⟩ => ?_) n ⟨0, _, _, N₂, Nat.zero_le _, rfl, hJ0, I0, S0, F0, Nat.le_refl _, st0, q0, h0, rfl⟩
  rw [ck.turn]
  refine wpAny_bind (wpAny_standAt (wpAny_bind ?_))
  have hN : NoTup σ' it s'.heap := .inr (W.notup i _ st).1
  by_cases hlt : i < n
  · refine bot (any_grow (W.next target rfl i A s' σ' N' (fun v s'' => ∃ h' tk, s'' = { s' with heap := h', toks := tk } ∧ VRel B σ' h' (item i) v ∧ St (i + 1) h' ∧ Heap.ExtBut it s'.heap h') (fun _ _ => False) hlt k.handled (hD _ _ _ _ hJ) I' (hx _ _ S' hfr) ho st fun v h' tk r1 r2 r3 => ⟨h', tk, rfl, r1, r2, r3⟩)) ?_
    rintro _ s'' ⟨⟨v, rfl, hgo⟩, hsz₀⟩
    refine wpAny_bind (bot (any_grow hgo) ?_)
    rintro _ _ ⟨⟨h', tk, rfl, rv, st', hsb⟩, hsz₁⟩
    have hsz := Nat.le_trans hsz₀ hsz₁
    have SL : StepL it σ' s'.heap σ' h' := .of_ext hsb ho
    have I'' : Inv B σ' N' { s' with heap := h', toks := tk } := Inv.frame (s' := { s' with heap := h', toks := tk }) I' hsb ho hitb hN hsz rfl rfl
    have F'' : FRel B cenv [] σ' h' := by
      obtain ⟨mm, hn, km⟩ := F'.ns
      exact ⟨F'.out, F'.new, F'.mark, mm, hn.extBut hsb (Ne.symm hitC), fun y u e => nomatch e⟩
    have hh'' := hh.stepL SL hN (Ne.symm hita) hh.1.there
    obtain ⟨oi, hoi⟩ := (W.notup _ _ st').2
    refine wpAny_bind (turn i o σ' N' hlt hJ n' A { s' with heap := h', toks := tk } v _ _ k I'' F'' rv fun s₃ l₃ σ₃ N₃ I₃ S₃ F₃ n₃ h₃ => ?_)
    have i3 := S₃.keep it oi hitC hoi ho
    have hh3 := hh''.stepL S₃ (.inl F''.mark) haC hh''.1.there
    refine wpAny_bind (bot (h₃ A s₃ k I₃ F₃) fun ok s₄ ⟨b, σ₄, N₄, rb, I₄, S₄, n₄, h₄⟩ => ?_)
    cases (show b = ok from rb)
    have i4 := S₄.keep it oi i3.1 i3.2
    have hh4 := hh3.step S₄
    have fr4 : σ₄.fr = σ₀.fr := S₄.fr.trans (S₃.fr.trans hfr)
    have K4 : Kept σ₁ s₁.heap σ₄ s₄.heap := fun b o e nn => by
      obtain ⟨e1, e2⟩ := S' b o e nn
      have q1 : b ≠ it := fun z => by rw [z, hit1] at e; cases e
      have q2 : b ≠ cenv.locals := fun z => by rw [z, hC1] at e; cases e
      obtain ⟨e3, e4⟩ := S₃.keep b o q2 (hsb b o q1 e1) e2
      exact S₄.keep b o e3 e4
    have F4 : FRel B cenv l₃ σ₄ s₄.heap := F₃.mono S₄
    have n5 : N₂ ≤ N₄ := Nat.le_trans (Nat.le_trans n' n₃) n₄
    cases ok with
    | true =>
      rw [if_pos rfl] at h₄
      refine wpAny_bind (bot (h₄ A s₄ k I₄ F4 hh4 (Nat.lt_of_lt_of_le ha n5) (Ne.symm haC)) fun _ s₅ ⟨o', σ₅, N₅, hh5, I₅, S₅, F₅, n₅, h₅⟩ => wpAny_pure ⟨rfl, ?_⟩)
      have i5 := S₅.keep it oi hita i4.1 i4.2
      exact ⟨n - (i + 1), by exact arb1 hi hm hlt, i + 1, o', σ₅, N₅, hlt, rfl, h₅, I₅, fun b o e nn => let z := K4 b o e nn; S₅.keep b o (fun q => by rw [q, ha1] at e; cases e) z.1 z.2, F₅.less (.nil _), Nat.le_trans n5 n₅, W.frame _ _ _ st' fun o e => (by rw [hoi] at e; cases e; exact i5.1), i5.2, hh5, S₅.fr.trans fr4⟩
    | false =>
      rw [if_neg Bool.false_ne_true] at h₄
      exact wpAny_pure ⟨rfl, n - (i + 1), by exact arb1 hi hm hlt, i + 1, o, σ₄, N₄, hlt, rfl, h₄, I₄, K4, F4.less (.nil _), n5, W.frame _ _ _ st' fun o e => (by rw [hoi] at e; cases e; exact i4.1), i4.2, hh4, fr4⟩
  · obtain rfl : i = n := by exact ar30 hi hlt
    refine bot (any_grow (W.stop A s' σ' N' (fun r s'' => ∃ h' tk, r = none ∧ s'' = { s' with heap := h', toks := tk } ∧ Heap.ExtBut it s'.heap h') (fun _ _ => False) k.handled (hD _ _ _ _ hJ) I' (hx _ _ S' hfr) st fun h' tk hx => ⟨h', tk, rfl, rfl, hx⟩)) ?_
    rintro _ _ ⟨⟨h', tk, rfl, rfl, hx⟩, hsz⟩
    have SL : StepL it σ' s'.heap σ' h' := .of_ext hx ho
    refine wpAny_pure (hR _ o σ' N' hJ (Inv.frame (s' := { s' with heap := h', toks := tk }) I' hx ho hitb hN hsz rfl rfl) (fun b o e nn => ?_) n' F'.out ?_ (hh.stepL SL hN (Ne.symm hita) hh.1.there) hfr)
    · obtain ⟨e1, e2⟩ := S' b o e nn
      exact ⟨hx b o (fun z => by rw [z, hit1] at e; cases e) e1, e2⟩
    · obtain ⟨mm, hn, _⟩ := F'.ns
      exact ⟨mm, hn.extBut hx (Ne.symm hitC)⟩
/- a list or a dict, done -/
inductive Done : AObj → V → Prop
  | list (ys : List V) : Done (.list ys) (.lst ys)
  | dict (es : List (Kx × V)) (ep : Nat) : Done (.dict es ep) (.dct es)
theorem Done.rel {h : Heap} {a : Nat} {o : AObj} {v : V} (x : Done o v) (hn : (a == sysModules) = false) (r : ORel B σ h a o) (hf : Free σ a) : VRel B σ h v (.ref a) := by
  cases x with
  | list ys => obtain ⟨items, n, e, q⟩ := r; exact .lst e hf q
  | dict es ep => obtain ⟨kvs, e, q⟩ := r; exact .dct hn e hf q
/- what is asked of a comprehension's source and turns -/
noncomputable def CompAsk (B : Cx) (d : Nat) (env : Env) (scope : Scope) (cl : List (Str × Nat)) (target : Expr) (ifs : List Expr) (act : Nat → Env → Sem Unit) (acc₀ : AObj) (K : Post V) : Post V := fun x σ₁ N₁ =>
  ∃ n item Dep, IterOk B (isMany target) x σ₁ n item Dep ∧ ∀ a C, N₁ ≤ a → a < C → ∃ J : Nat → AObj → Store → Nat → Prop, J 0 acc₀ ((σ₁.add a).add C) (a + 1) ∧ (∀ i o σ N, J i o σ N → Dep σ) ∧
    (∀ i o σ N, i < n → J i o σ N → N₁ ≤ N → CompTurn B d (compEnvC scope cl C env) target ifs (act a (compEnvC scope cl C env)) a (item i) o (J (i + 1)) σ N) ∧ ∀ o σ N, J n o σ N → N₁ ≤ N → ∃ v, Done o v ∧ K v (σ.reset σ₁.fr) N
theorem comp_core {e target iter : Expr} {ifs : List Expr} {act : Nat → Env → Sem Unit} {scope : Scope} {pos : Pos} {cl : List (Str × Nat)} {mk : Sem Value} {acc₀ : AObj} {K : Post V} {A : Around} {s : Shared} {use : Option (Value → Sem Unit)} {P : Value → Shared → Prop} (ck : CK e target iter ifs act)
    (hmk : ∀ {σ : Store} {N : Nat} {Q : Post V}, (∀ a, N ≤ a → Q (.ref a) (pt σ a acc₀) (a + 1)) → W0 B d (VRel B) mk σ N Q) (k : Ok d A) (I : Inv B σ N s) (F : FRel B env l σ s.heap)
    (hclos : closureFor scope env = pure cl) (hkind : scope.kind = .function) (hnames : ∀ x ∈ scope.names, x.2 = .local → scope.names.lookup x.1 = some .local) (hcell : ∀ x ∈ scope.names, x.2 ≠ .cell)
    (h : WE B d env l iter σ N (CompAsk B d env scope cl target ifs act acc₀ K)) (hs : ∀ x, foldedSetIterable iter env x = pure x)
    (hP : ∀ a C v σ' N' s', VRel B σ' s'.heap v (.ref a) → K v σ' N' → Inv B σ' N' s' → Inv B (σ'.add C) N' s' → VRel B (σ'.add C) s'.heap v (.ref a) → Step σ s.heap σ' s'.heap → FRel B env l σ' s'.heap → FRel B env l (σ'.add C) s'.heap → N ≤ N' → σ' C = none → B.h₀.get? C = none → (∃ m, s'.heap.Ns C m) → s.heap.get? C = none → compPost (model B.prog B.w) A (fun _ _ => False) use P (.ref a) C (.ok .next) s') :
    wpAny (model B.prog B.w) A (comprehension e scope env pos mk false (eval iter env) use) P (fun _ _ => False) s := by
  refine wpAny_comprehension_free (g := ⟨target, iter, ifs, 0⟩) (gs := []) ck.clauses hs hclos hkind hnames ?_
  refine bot (any_grow (h A s k I F)) ?_
  rintro x s₁ ⟨⟨xv, σ₁, N₁, r, I₁, S₁, n₁, n, item, Dep, ⟨hdep, hit⟩, hk⟩, hsz⟩
  refine hit A s₁ N₁ x _ _ k.handled I₁ r fun o St W hst => ?_
  have F₁ := F.mono S₁
  have I₂ : Inv B σ₁ N₁ { s₁ with heap := s₁.heap.push o } := I₁.push
  refine bot (hmk (Q := fun v σ' N' => ∃ a, v = .ref a ∧ σ' = pt σ₁ a acc₀ ∧ N₁ ≤ a ∧ N' = a + 1) (fun a ha => ⟨a, rfl, rfl, ha, rfl⟩) A _ k I₂) ?_
  rintro acc s₃ ⟨_, _, _, r₃, I₃, S₃, n₃, a, rfl, rfl, ha, rfl⟩
  cases r₃
  have hC : s₃.heap.get? s₃.heap.objs.size = none := get_fresh _
  have haC : a < s₃.heap.objs.size := I₃.size
  have hst3 : St 0 s₃.heap := W.frame _ _ _ hst fun x e => (S₃.keep _ _ e I₁.fresh).1
  obtain ⟨oi, hoi⟩ := (W.notup _ _ hst3).2
  obtain ⟨oi', hoi'⟩ := (W.notup _ _ hst).2
  have hit3 : pt σ₁ a acc₀ s₁.heap.objs.size = none := (S₃.keep _ _ hoi' I₁.fresh).2
  have hita : s₁.heap.objs.size ≠ a := fun q => by rw [q, pt_same] at hit3; cases hit3
  have sa : σ₁ a = none := I₁.above a ha
  have ha0 : s₁.heap.get? a = none := by
    cases q : s₁.heap.get? a with
    | none => rfl
    | some x => have := (S₃.keep a x (Heap.get?_push_of_some _ q) sa).2; rw [pt_same] at this; cases this
  have k3 : ∀ b x, s₁.heap.get? b = some x → s₃.heap.get? b = some x ∨ σ₁ b ≠ none := fun b x e => by
    by_cases z : σ₁ b = none
    · exact .inl (S₃.keep b x (Heap.get?_push_of_some _ e) z).1
    · exact .inr z
  have hC1 : s₁.heap.get? s₃.heap.objs.size = none := by
    cases q : s₁.heap.get? s₃.heap.objs.size with
    | none => rfl
    | some x =>
      rcases k3 _ _ q with z | z
      · rw [hC] at z; cases z
      · exfalso
        cases w : σ₁ s₃.heap.objs.size with
        | none => exact z w
        | some o' =>
          have h1 := I₁.top _ _ w
          exact ar166 ha haC h1
  refine wpAny_newFunctionEnv hcell (fun _ hx => nomatch hx) (fun h' hns hsb => ?_) hkind
  have kp : ∀ b x, s₃.heap.get? b = some x → h'.get? b = some x := fun b x e => by
    rw [hsb.2 b (Nat.ne_of_lt (Heap.lt_size e))]
    exact Heap.get?_push_of_some _ e
  have sz : s₃.heap.objs.size ≤ h'.objs.size := Nat.le_of_lt hns.lt
  obtain ⟨J, hJ0, hD, turn, fin⟩ := hk a s₃.heap.objs.size ha haC
  have oC : pt σ₁ a acc₀ s₃.heap.objs.size = none := I₃.fresh
  have bC := I₃.base_none hC
  -- the thing under way, marked; the frame, marked
  have e0 : disown (pt σ₁ a acc₀) a = σ₁.add a := Store.ext (fun b => by
    by_cases z : b = a
    · subst z; exact (if_pos rfl : Mine.disown _ b b = none).trans sa.symm
    · exact (if_neg z : Mine.disown _ a b = _).trans (pt_ne z)) rfl
  have I₄ : Inv B (σ₁.add a) (a + 1) s₃ := e0 ▸ I₃.disown (pt_same _ _ _)
  have I₅ : Inv B ((σ₁.add a).add s₃.heap.objs.size) (a + 1) { s₃ with heap := h', toks := s₃.toks + ([] : List (Str × Value)).length } := Inv.mark (s' := { s₃ with heap := h', toks := s₃.toks + ([] : List (Str × Value)).length }) I₄ hC I₄.fresh kp sz hns.lt rfl rfl
  have P₅ : Pass (pt σ₁ a acc₀) s₃.heap ((σ₁.add a).add s₃.heap.objs.size) h' := ⟨fun b x e hf n => by
    have y1 := (Pass.disown (h := s₃.heap) (pt_same σ₁ a acc₀)).free b x e hf n
    rw [e0] at y1
    have y2 := (Pass.add (σ := σ₁.add a) hC).free b x e hf y1.2
    exact ⟨kp b x e, y2.2⟩⟩
  have H₅ : Held B ((σ₁.add a).add s₃.heap.objs.size) h' a acc₀ := ⟨(I₃.store a _ (pt_same _ _ _)).pass P₅ fun x e => kp a x e, sa, .inr (.inl rfl)⟩
  have F₅ : FRel B (compEnvC scope cl s₃.heap.objs.size env) [] ((σ₁.add a).add s₃.heap.objs.size) h' := ⟨I₄.fresh, bC, .inl rfl, _, hns, fun _ _ e => nomatch e⟩
  have hitC : s₁.heap.objs.size ≠ s₃.heap.objs.size := Nat.ne_of_lt (Heap.lt_size hoi)
  have loop := comp_loop (R := compPost (model B.prog B.w) A (fun _ _ => False) use P (.ref a) s₃.heap.objs.size) (s₁ := s₁) (σ₁ := σ₁) (N₂ := a + 1) (cenv := compEnvC scope cl s₃.heap.objs.size env) ck J k W (fun σ' h' kk ff => ⟨fun b y e _ nn => ⟨(kk b y e nn.1).1, (kk b y e nn.1).2, by
      rw [ff]
      intro q
      rcases q with q | q | q
      · rw [q, hC1] at e; cases e
      · rw [q, ha0] at e; cases e
      · exact nn.2 q⟩⟩) rfl hitC hita (Nat.ne_of_lt haC) (get_fresh _) hC1 ha0 (I₁.base_none (get_fresh _)) hD
    (fun i o σ N hi hj hn => turn i o σ N hi hj (by exact ar3 ha hn))
    (fun s' o σ' N' hJ I' S' n' hc' hm hh hfr => by
      obtain ⟨v, hd, hK⟩ := fin o σ' N' hJ (by exact ar3 ha n')
      have kf : ∀ b, σ₁.fr b → σ'.fr b := fun b q => by rw [hfr]; exact .inr (.inr q)
      have kf2 : ∀ b, ((σ'.reset σ₁.fr).add s₃.heap.objs.size).fr b → σ'.fr b := fun b q => by
        rw [hfr]
        rcases q with q | q
        · exact .inl q
        · exact .inr (.inr q)
      have nfa : ¬ σ₁.fr a := fun q => by have := (I₃.marks a q).2.1; rw [pt_same] at this; cases this
      have rr := Pass.reset (σ := σ') (h := s'.heap) kf
      have r2 : Pass σ' s'.heap ((σ'.reset σ₁.fr).add s₃.heap.objs.size) s'.heap := ⟨fun b x e hf n => ⟨e, n.1, fun q => n.2 (kf2 b q)⟩⟩
      have SS : Step σ₁ s₁.heap (σ'.reset σ₁.fr) s'.heap := ⟨S', rfl⟩
      have FF := F₁.mono SS
      have nC : ¬ a = s₃.heap.objs.size := Nat.ne_of_lt haC
      have I6 : Inv B (σ'.reset σ₁.fr) N' s' := I'.reset kf
      have I7 : Inv B ((σ'.reset σ₁.fr).add s₃.heap.objs.size) N' s' := ⟨fun b x e => (I'.store b x e).pass r2 fun _ q => q, I'.base, I'.gens, I'.os, I'.top, I'.size, fun b q => I'.marks b (kf2 b q)⟩
      refine hP a s₃.heap.objs.size v (σ'.reset σ₁.fr) N' s' (hd.rel (I₃.notSys (pt_same _ _ _)) (hh.1.pass rr fun _ q => q) ⟨hh.2.1, nfa⟩) hK I6 I7 (hd.rel (I₃.notSys (pt_same _ _ _)) (hh.1.pass r2 fun _ q => q) ⟨hh.2.1, fun q => q.elim nC nfa⟩) (S₁.trans SS) FF ?_ (by exact ar167 n₁ ha n') hc' bC hm (by
        cases q : s.heap.get? s₃.heap.objs.size with
        | none => rfl
        | some x =>
          have z : (s₃.heap.objs.size : Nat) < s.heap.objs.size := Heap.lt_size q
          have z2 : (s₁.heap.objs.size : Nat) < s₃.heap.objs.size := Heap.lt_size hoi
          omega)
      obtain ⟨mm, hn, km⟩ := F₁.ns
      obtain ⟨oo, es, ep, he, hr⟩ := hn
      have hne : (s₃.heap.objs.size : Nat) ≠ env.locals := fun q => by rw [q, he] at hC1; cases hC1
      refine ⟨FF.out, FF.new, .inr FF.mark, mm, ⟨oo, es, ep, (S' _ _ he F₁.out).1, hr⟩, fun y u e => ?_⟩
      obtain ⟨b, h1, h2⟩ := km y u e
      refine ⟨b, h1, ?_⟩
      have p3 : Pass σ₁ s₁.heap ((σ'.reset σ₁.fr).add s₃.heap.objs.size) s'.heap := ⟨fun b x e hf n => by
        have z := S' b x e n.1
        exact ⟨z.1, z.2, fun q => q.elim (fun q => by rw [q, hC1] at e; cases e) n.2⟩⟩
      exact h2.pass p3)
    hJ0 I₅ (fun b o e nn => let z := S₃.keep b o (Heap.get?_push_of_some _ e) nn; ⟨kp _ _ z.1, nn⟩) F₅ H₅ (Nat.lt_succ_self a) (W.frame _ _ _ hst3 fun x e => kp _ _ e) (I₁.fresh)
  exact ck.start loop (W.self 0 A _ _ _ (W.frame _ _ _ hst3 fun x e => kp _ _ e) loop)

/- a comprehension as a value -/
theorem comp_value {e target iter : Expr} {ifs : List Expr} {act : Nat → Env → Sem Unit} {scope : Scope} {pos : Pos} {cl : List (Str × Nat)} {mk : Sem Value} {acc₀ : AObj} {Q : Post V} (ck : CK e target iter ifs act)
    (hmk : ∀ {σ : Store} {N : Nat} {Q : Post V}, (∀ a, N ≤ a → Q (.ref a) (pt σ a acc₀) (a + 1)) → W0 B d (VRel B) mk σ N Q) (he : eval e env = comprehension e scope env pos mk false (eval iter env) none)
    (hclos : closureFor scope env = pure cl) (hkind : scope.kind = .function) (hnames : ∀ x ∈ scope.names, x.2 = .local → scope.names.lookup x.1 = some .local) (hcell : ∀ x ∈ scope.names, x.2 ≠ .cell)
    (hs : ∀ x, foldedSetIterable iter env x = pure x) (h : WE B d env l iter σ N (CompAsk B d env scope cl target ifs act acc₀ Q)) : WE B d env l e σ N Q :=
  fun A s k I F => by
    rw [he]
    exact comp_core ck hmk k I F hclos hkind hnames hcell h hs fun a C v σ' N' s' r hK I' I'' r'' S' F' F'' n' oC bC ⟨m, hm⟩ hCs => ⟨m, hm, fun h' hsb => by
      have hN : NoTup (σ'.add C) C s'.heap := .inl (.inl rfl)
      have SL : StepL C (σ'.add C) s'.heap (σ'.add C) h' := .of_ext hsb.extBut oC
      have I3 : Inv B (σ'.add C) N' { s' with heap := h' } := Inv.frame (s' := { s' with heap := h' }) I'' hsb.extBut oC bC hN (Nat.le_of_eq hsb.1.symm) rfl rfl
      have kf : ∀ b, σ'.fr b → (σ'.add C).fr b := fun b q => .inr q
      exact ⟨v, σ', N', (r''.pass (SL.pass hN)).pass (Pass.reset (f := σ'.fr) kf), I3.reset (f := σ'.fr) kf, ⟨fun b o e nn => by
        have z := S'.keep b o e nn
        exact ⟨hsb.extBut b o (fun q => by rw [q, hCs] at e; cases e) z.1, z.2⟩, S'.fr⟩, n', hK⟩⟩
theorem comp_use {e target iter : Expr} {ifs : List Expr} {act : Nat → Env → Sem Unit} {scope : Scope} {x : Str} {p pos : Pos} {cl : List (Str × Nat)} {mk : Sem Value} {acc₀ : AObj} {A : Around} {s : Shared} {R : Value → Shared → Prop} (ck : CK e target iter ifs act)
    (hmk : ∀ {σ : Store} {N : Nat} {Q : Post V}, (∀ a, N ≤ a → Q (.ref a) (pt σ a acc₀) (a + 1)) → W0 B d (VRel B) mk σ N Q) (hl : env.kindOf x = some .local) (hk : env.scope.kind = .function) {K : Post V}
    (hclos : closureFor scope env = pure cl) (hkind : scope.kind = .function) (hnames : ∀ x ∈ scope.names, x.2 = .local → scope.names.lookup x.1 = some .local) (hcell : ∀ x ∈ scope.names, x.2 ≠ .cell)
    (hs : ∀ x, foldedSetIterable iter env x = pure x) (k : Ok d A) (I : Inv B σ N s) (F : FRel B env l σ s.heap) (h : WE B d env l iter σ N (CompAsk B d env scope cl target ifs act acc₀ K))
    (hR : ∀ v u s' σ' N', K u σ' N' → Inv B σ' N' s' → StepL env.locals σ s.heap σ' s'.heap → FRel B env (upd l x u) σ' s'.heap → N ≤ N' → R v s') :
    wpAny (model B.prog B.w) A (comprehension e scope env pos mk false (eval iter env) (some (assign (.Name x p) env))) R (fun _ _ => False) s :=
  comp_core ck hmk k I F hclos hkind hnames hcell h hs fun a C u σ' N' s' r hK I' I'' r'' S' F' F'' n' oC bC ⟨m, hm⟩ hCs => by
    show wpAny _ _ (assign (.Name x p) env (.ref a)) _ _ s'
    refine wpAny_assign_Name (store_local I'' F'' r'' hl hk fun s'' I3 F3 S'' => ?_)
    have hCL : C ≠ env.locals := fun q => by
      obtain ⟨mm, ⟨o, es, ep, ho, _⟩, _⟩ := F.ns
      rw [q, ho] at hCs; cases hCs
    obtain ⟨oC', es, ep, hoC, hd, r2⟩ := hm
    have hC'' := S''.keep C oC' hCL hoC oC
    have hm'' : s''.heap.Ns C m := ⟨oC', es, ep, hC''.1, hd, r2⟩
    refine ⟨m, hm'', fun h' hsb => ?_⟩
    have hN : NoTup (σ'.add C) C s''.heap := .inl (.inl rfl)
    have SL : StepL C (σ'.add C) s''.heap (σ'.add C) h' := .of_ext hsb.extBut oC
    have I4 : Inv B (σ'.add C) N' { s'' with heap := h' } := Inv.frame (s' := { s'' with heap := h' }) I3 hsb.extBut oC bC hN (Nat.le_of_eq hsb.1.symm) rfl rfl
    have kf : ∀ b, σ'.fr b → (σ'.add C).fr b := fun b q => .inr q
    have pk : Pass (σ'.add C) s''.heap σ' h' := ⟨fun b o e hf n => by
      have z := (SL.pass hN).free b o e hf n
      exact ⟨z.1, z.2.1, fun q => z.2.2 (.inr q)⟩⟩
    refine hR _ u _ σ' N' hK (I4.reset (f := σ'.fr) kf) ⟨fun b o hb e nn => ?_, S'.fr⟩ ?_ n'
    · have z := S'.keep b o e nn
      have z2 := S''.keep b o hb z.1 z.2
      exact ⟨hsb.extBut b o (fun q => by rw [q, hCs] at e; cases e) z2.1, z2.2⟩
    · obtain ⟨mm, hn, km⟩ := F3.ns
      exact ⟨F'.out, F'.new, F'.mark, mm, hn.extBut hsb.extBut (Ne.symm hCL), fun y u e => let ⟨b, h1, h2⟩ := km y u e; ⟨b, h1, h2.pass pk⟩⟩
/- lists -/
theorem mk_list {Q : Post V} (h : ∀ a, N ≤ a → Q (.ref a) (pt σ a (.list [])) (a + 1)) : W0 B d (VRel B) (newList []) σ N Q := fun A s k I => WN_newList (xs := []) h (Nat.zero_le _) A s [] k I .nil
/- a marked thing changed by a call that knows it -/
theorem Held.call {β : Type} {ρ : Store → Heap → β → Value → Prop} {a : Nat} {o o' : AObj} {σ' : Store} {s s' : Shared} {N' : Nat} (x : Held B σ s.heap a o) (e : σ' = pt (own σ a o) a o') (I' : Inv B σ' N' s') (S : Step (own σ a o) s.heap σ' s'.heap) :
    Held B σ s'.heap a o' ∧ Inv B σ N' s' ∧ StepL a σ s.heap σ s'.heap := by
  subst e
  have I2 := I'.disown (pt_same _ _ _)
  rw [disown_own x.2.1 x.2.2] at I2
  refine ⟨⟨?_, x.2⟩, I2, ⟨fun b y nb e n => ?_, rfl⟩⟩
  · have := (I'.store a _ (pt_same _ _ _)).pass (Pass.disown (pt_same _ _ _)) fun _ q => q
    rwa [disown_own x.2.1 x.2.2] at this
  · exact ⟨(S.keep b y e ((if_neg nb : own σ a o b = σ b).trans n)).1, n⟩
theorem FRel.stepL {a : Nat} {σ' : Store} {h h' : Heap} (F : FRel B env l σ h) (S : StepL a σ h σ' h') (hne : env.locals ≠ a) (hf : σ.fr a) : FRel B env l σ' h' := by
  obtain ⟨mm, ⟨oo, es, ep, he, hr⟩, km⟩ := F.ns
  have z := S.keep _ _ hne he F.out
  exact ⟨z.2, F.new, by rw [S.fr]; exact F.mark, mm, ⟨oo, es, ep, z.1, hr⟩, fun y u e => let ⟨b, q1, q2⟩ := km y u e; ⟨b, q1, q2.pass (S.pass (.inl hf))⟩⟩
theorem act_list {elt : Expr} {a : Nat} {ys : List V} {K : AObj → Store → Nat → Prop} (hz : ys.length < 2 ^ 20) (h : WE B d env l elt σ N fun u σ₁ N₁ => K (.list (ys ++ [u])) σ₁ N₁) :
    WAct B d env l (do let _ ← call (.builtin "list.append") [.ref a, ← eval elt env]) a (.list ys) σ N K := fun A s k I F hh ha hne =>
  wpAny_bind (h.seq (ρ' := VRel B) k I F fun x u σ₁ N₁ s₁ r I₁ F₁ S₁ n₁ h₁ => by
    have h1 := hh.step S₁
    have I2 := I₁.own h1.1 h1.2.2 (Nat.lt_of_lt_of_le ha n₁)
    refine wpAny_bind (bot (L_append (Q := fun _ σ' N' => σ' = pt (own σ₁ a (.list ys)) a (.list (ys ++ [u])) ∧ N' = N₁) (if_pos rfl : own σ₁ a (.list ys) a = _) hz ⟨rfl, rfl⟩ A s₁ [.ref a, x] k I2 (.cons (.ref a) (.cons (r.pass (.own h1.2.2)) .nil))) fun _ s₂ ⟨_, σ₂, N₂, _, I₂, S₂, n₂, e₂, e₃⟩ => wpAny_pure ?_)
    obtain ⟨z1, z2, z3⟩ := h1.call (ρ := VRel B) e₂ I₂ S₂
    exact ⟨_, σ₁, N₂, z1, z2, (S₁.toL a).trans z3, F₁.stepL z3 hne h1.2.2, by exact ar168 n₁ e₃, e₃ ▸ h₁⟩)
end
end
noncomputable section
/- instances and their attributes -/
theorem len_le_of_subset : ∀ (ks ns : List Str), ks.Pairwise (· ≠ ·) → (∀ k ∈ ks, k ∈ ns) → ks.length ≤ ns.length
  | [], _, _, _ => Nat.zero_le _
  | k :: r, ns, hp, hs => by
    have hk := hs k (.head _)
    have := len_le_of_subset r (ns.erase k) (List.pairwise_cons.mp hp).2 fun x hx => (List.mem_erase_of_ne (Ne.symm ((List.pairwise_cons.mp hp).1 x hx))).mpr (hs x (.tail _ hx))
    rw [List.length_erase_of_mem hk] at this
    have : 0 < ns.length := List.length_pos_of_mem hk
    simp only [List.length_cons]; lia
noncomputable def keyName (e : DictEntry) : Str := match e.key with
  | .str n _ => n
  | _ => Str.empty
theorem isStr_self (n : Str) (t : Tok) : (Value.str n t).isStr n = true := by simp [Value.isStr]
section
variable {B : Cx} {d : Nat} {env : Env} {l : Loc} {σ : Store} {N : Nat} {s : Shared} {a x D C : Nat} {name : Str} {at' : Loc}
theorem lookIn_ns {h : Heap} {m : Str → Option Value} {o : Obj} (hn : h.Ns1 a m) (ho : h.get? a = some o) : lookIn name o = some (m name) := by
  obtain ⟨o', es, ep, e, hd, hk, _, hf⟩ := hn
  rw [ho] at e; cases e
  unfold lookIn
  rw [hd]
  dsimp only
  have hf := hf name
  unfold nsFind findBy at hf
  rw [← Array.find?_toList] at hf
  cases q : es.toList.find? (fun e => e.key.isStr name) with
  | some e => rw [q] at hf; rw [← hf]; rfl
  | none =>
    rw [q] at hf
    have : es.toList.any (·.refKey) = false := by
      rw [List.any_eq_false]
      intro e he
      obtain ⟨n, t, h⟩ := hk e (Array.mem_toList_iff.mp he)
      simp [DictEntry.refKey, h]
    rw [← hf]
    simp [this]
theorem ns_size {h : Heap} {m : Str → Option Value} {o : Obj} {es : Array DictEntry} {ep : Nat} {names : List Str} (hn : h.Ns1 a m) (ho : h.get? a = some o) (hd : o.data = .dict es ep) (hm : ∀ y, m y ≠ none → y ∈ names) : es.size ≤ names.length := by
  obtain ⟨o', es', ep', e, hd', hk, hu, hf⟩ := hn
  rw [ho] at e; cases e
  rw [hd] at hd'; cases hd'
  have := len_le_of_subset (es.toList.map keyName) names (by
    rw [List.pairwise_map]
    refine hu.imp_of_mem fun {p q} hp hq h e => ?_
    obtain ⟨n, t, h1⟩ := hk p (Array.mem_toList_iff.mp hp)
    obtain ⟨n', t', h2⟩ := hk q (Array.mem_toList_iff.mp hq)
    have : n = n' := by simpa [keyName, h1, h2] using e
    subst this
    exact h n (by rw [h1]; exact isStr_self _ _) (by rw [h2]; exact isStr_self _ _)) fun k hk' => by
      obtain ⟨e, he, rfl⟩ := List.mem_map.mp hk'
      obtain ⟨n, t, h1⟩ := hk e (Array.mem_toList_iff.mp he)
      refine hm _ ?_
      rw [← hf]
      unfold nsFind findBy
      intro z
      rw [Option.map_eq_none_iff, ← Array.find?_toList, List.find?_eq_none] at z
      have := z e he
      simp only [keyName, h1] at this
      exact this (isStr_self _ _)
  simpa using this

noncomputable def AttrAt (B : Cx) (C : Nat) (name : Str) : Prop := ∃ K attr, K.In B.h₀ ∧ plainGet K C name = true ∧ hasDictIn K C = true ∧ findIn K (.ref C) name = some attr ∧ noGet K attr = true
noncomputable def SetAt (B : Cx) (C : Nat) (name : Str) : Prop := ∃ K, K.In B.h₀ ∧ findIn K (.ref C) "__setattr__" = some (some (.builtin "object.__setattr__")) ∧ plainOver K C = true ∧ takerIn K C name = some none ∧ hasDictIn K C = true
noncomputable def MethAt (B : Cx) (C : Nat) (name : Str) (f : Nat) : Prop := ∃ K, K.In B.h₀ ∧ plainGet K C name = true ∧ findIn K (.ref C) name = some (some (.ref f)) ∧ isFn K (.ref f) = true
theorem inst_at (I : Inv B σ N s) (hx : σ x = some (.obj (instObj C D))) (hD : σ D = some (.ns at')) : ∃ od m, InstAt s.heap x (instObj C D) C (some od) ∧ s.heap.Ns1 D m ∧ s.heap.get? D = some od ∧ MapRel B σ s.heap at' m := by
  have h1 := I.store x _ hx
  obtain ⟨m, hn, hm⟩ := I.store D _ hD
  obtain ⟨o, es, ep, e, r⟩ := id hn
  exact ⟨o, m, ⟨h1, rfl, rfl, e⟩, hn, e, hm⟩
noncomputable def handV : V → Bool
  | .lit v => handedIn v
  | _ => true
theorem handV_ok {v : V} {u : Value} {h : Heap} (r : VRel B σ h v u) (hv : handV v = true) : handedIn u = true := by
  cases r <;> first | rfl | exact hv
theorem MapRel.some_of {h : Heap} {m : Str → Option Value} {v : V} (x : MapRel B σ h at' m) (hl : at'.lookup name = some v) : ∃ u, m name = some u ∧ VRel B σ h v u := by
  have := x name
  rw [hl] at this
  cases q : m name with
  | none => rw [q] at this; exact this.elim
  | some u => rw [q] at this; exact ⟨u, rfl, this⟩
theorem MapRel.none_of {h : Heap} {m : Str → Option Value} (x : MapRel B σ h at' m) (hl : at'.lookup name = none) : m name = none := by
  have := x name
  rw [hl] at this
  cases q : m name with
  | none => rfl
  | some u => rw [q] at this; exact this.elim
theorem A_get {v : V} {Q : Post V} {e : Bool} (hx : σ x = some (.obj (instObj C D))) (hD : σ D = some (.ns at')) (ha : AttrAt B C name) (hl : at'.lookup name = some v) (hv : handV v = true) (h : Q v σ N) : W1 B d (VRel B) (fun o => getAttr o name e) (.ref x) σ N Q := fun A s a k I r => by
  obtain ⟨_, rfl⟩ := r.inv
  obtain ⟨od, m, IA, hn, ho, hm⟩ := inst_at I hx hD
  obtain ⟨K, attr, hK, h1, h2, h3, h4⟩ := ha
  obtain ⟨u, hu, ru⟩ := hm.some_of hl
  exact get_value (hK.keeps I.keep) IA (plainGet_of h1).1 (findObj_own h2 h3 h4 (by rw [lookIn_ns hn ho, hu])) (handV_ok ru hv) (.here I.toks (.refl _ _) ru h)
theorem M_inst {pos : Pos} {pl : Sem Bool} {args : List Expr} {f : Nat} {Q : Post V} (hx : σ x = some (.obj (instObj C D))) (hD : σ D = some (.ns at')) (hm : MethAt B C name f) (hl : at'.lookup name = none)
    (h : CW B d env l pos (.lit (.ref f)) [.ref x] args σ N Q) : ∀ A s a, Ok d A → Inv B σ N s → FRel B env l σ s.heap → VRel B σ s.heap (.ref x) a → wpAny (model B.prog B.w) A (getMethod a name pl) (fun fx s₂ => wpAny (model B.prog B.w) A (callWith pos fx.1 fx.2 (backTo pos (starEach args env)) []) (Ends B (VRel B) σ N s.heap Q) (fun _ _ => False) s₂) (fun _ _ => False) s :=
  fun A s a k I F r => by
    obtain ⟨_, rfl⟩ := r.inv
    obtain ⟨od, m, IA, hn, ho, hr⟩ := inst_at I hx hD
    obtain ⟨K, hK, h1, h2, h3⟩ := hm
    exact method_fn (hK.keeps I.keep) IA (plainGet_of h1).1 (plainGet_of h1).2 h2 (beq_iff_eq.mp h3) (by show (lookIn name od).map _ = _; rw [lookIn_ns hn ho, hr.none_of hl]; rfl) (h A s _ [.ref x] k I F (.lit _) (.cons (.ref x) .nil))
/- a name's value put -/
noncomputable def putA : Loc → Str → V → Loc
  | [], n, v => [(n, v)]
  | (x, u) :: r, n, v => if n = x then (n, v) :: r else (x, u) :: putA r n v
theorem putA_look : ∀ (l : Loc) (n : Str) (v : V) (y : Str), (putA l n v).lookup y = if y = n then some v else l.lookup y
  | [], n, v, y => upd_look [] n v y
  | (x, u) :: r, n, v, y => by
    unfold putA
    by_cases h : n = x
    · rw [if_pos h]; have := upd_look r n v y; rw [this, upd_look r x u y]; subst h; by_cases q : y = n <;> simp [q]
    · rw [if_neg h, upd_look (putA r n v) x u y, upd_look r x u y, putA_look r n v y]
      by_cases q : y = x
      · rw [if_pos q, if_pos q, if_neg (fun z => h (z.symm.trans q))]
      · rw [if_neg q, if_neg q]
theorem A_set {v : V} {Q : Post Unit} (hx : σ x = some (.obj (instObj C D))) (hD : σ D = some (.ns at')) (ha : SetAt B C name) (hz : at'.length < 1000) (h : Q () (pt σ D (.ns (putA at' name v))) N) : W2 B d URel (fun o u => setAttr o name u) (.ref x) v σ N Q := fun A s a u k I r rv => by
  obtain ⟨_, rfl⟩ := r.inv
  obtain ⟨od, m, IA, hn, ho, hm⟩ := inst_at I hx hD
  obtain ⟨K, hK, h1, h2, h3, h4⟩ := ha
  have X := hK.keeps I.keep
  refine set_plain X IA h1 (osa_open (s := { s with toks := s.toks + 1 }) X IA h2 h3 fun b => ?_)
  obtain ⟨cd, hc, hd'⟩ := any_some h4
  refine wpAny_bind (wpAny_pure (wpAny_bind (wpAny_bind (wpAny_loadPart IA.at_ (wpAny_bind (Looks.here (s := { s with toks := s.toks + 1 }) (looks_clsIn X hc) ?_))))))
  rw [hd']
  refine wpAny_pure (a := some D) (wpAny_bind (wpAny_pure (wpAny_bind ?_)))
  refine wpAny_nsSet1 (s := { s with toks := s.toks + 1 }) hn fun h' hn' hsb => ?_
  have hi : σ D ≠ none ∨ (s.heap.get? D = none ∧ s.heap.objs.size ≤ D) := .inl (by rw [hD]; nofun)
  have S : Step σ s.heap (pt σ D (.ns (putA at' name v))) h' := .put hsb.extBut hi
  have hm' : MapRel B (pt σ D (.ns (putA at' name v))) h' (putA at' name v) (fun y => if y = name then some u else m y) := fun y => by
    rw [putA_look]
    have := (hm.mono S) y
    by_cases z : y = name
    · simp only [if_pos z]; exact rv.mono S
    · simp only [if_neg z]; exact this
  obtain ⟨o', es', ep', e', hd2, r2⟩ := id hn'
  refine wpAny_bind (wpAny_lookBehind e' ?_ (wpAny_pure ?_))
  · rw [hd2]
    have hsz := ns_size (names := (putA at' name v).map (·.1)) hn' e' hd2 fun y hy => by
      have := hm' y
      have hmem : ∀ (l : Loc) (w : V), l.lookup y = some w → y ∈ l.map (·.1) := fun l w q => by
        induction l with
        | nil => cases q
        | cons p r ih =>
          rw [List.lookup_cons] at q
          cases z : y == p.1 with
          | true => rw [eq_of_beq z]; exact .head _
          | false => rw [z] at q; exact .tail _ (ih q)
      cases q : (putA at' name v).lookup y with
      | none => rw [q] at this; cases z : (if y = name then some u else m y) with
        | none => exact (hy z).elim
        | some w => simp only [z] at this
      | some w => exact hmem _ w q
    have hlen : ∀ l : Loc, (putA l name v).length ≤ l.length + 1 := fun l => by
      induction l with
      | nil => exact Nat.le_refl _
      | cons p r ih => unfold putA; split <;> simp only [List.length_cons] <;> lia
    have := hlen at'
    rw [List.length_map] at hsz
    exact pastItsLine_dict (by rw [sizeLine_eq]; exact ar169 hz hsz this)
  · exact ⟨(), pt σ D (.ns (putA at' name v)), N, trivial, Inv.put (s' := { s with heap := h', toks := s.toks + 1 + 1 }) I hsb.extBut hi ⟨_, hn', hm'⟩ (Nat.le_refl _) (I.top D _ hD) (Nat.le_trans I.size (Nat.le_of_eq hsb.1.symm)) (Nat.le_of_eq hsb.1.symm) rfl rfl, S, Nat.le_refl _, h⟩
end
end
noncomputable section
section
variable {B : Cx} {d : Nat} {env : Env} {l : Loc} {σ : Store} {N : Nat} {rest : List Stmt} {Q : PostS}
/- `o.name` -/
theorem WE_attr {o : Expr} {name : Str} {pos : Pos} {Q : Post V} (ha : attributeBase o name env (eval o env) = eval o env) (h : WE B d env l o σ N fun u σ₁ N₁ => W1 B d (VRel B) (fun x => getAttr x name true) u σ₁ N₁ Q) : WE B d env l (.Attribute o name pos) σ N Q :=
  fun A s k I F => by
    rw [arm_eval_Attribute, ha]
    refine wpAny_bind (h.seq (ρ' := VRel B) k I F fun a u σ₁ N₁ s₁ r I₁ F₁ S₁ n₁ h₁ => wpAny_bind (wpAny_standAt (wpAny_bind (wpAny_holding ?_))))
    exact bot (h₁ A s₁ a k I₁ r) fun c s₂ e => wpAny_bind (wpAny_letTemporaryGo (wpAny_pure (e.after S₁ n₁)))
/- `o.name = e` -/
theorem X_assignAttr {o e : Expr} {name : Str} {p pos : Pos} (h : WE B d env l e σ N fun v σ₁ N₁ => WE B d env l o σ₁ N₁ fun u σ₂ N₂ => W2 B d URel (fun x y => setAttr x name y) u v σ₂ N₂ fun _ σ₃ N₃ => WX B d env l rest σ₃ N₃ Q)
    (hs : swapsWith e (some (.Attribute o name p)) pos.line env = pure false) : WX B d env l (.Assign [.Attribute o name p] e pos :: rest) σ N Q :=
  X_cons fun A s k I F => plainObj_wpAny_Assign_Attribute (h.seq (ρ' := VRel B) k I F fun a v σ₁ N₁ s₁ r I₁ F₁ S₁ n₁ h₁ => h₁.seq (ρ' := VRel B) k I₁ F₁ fun b u σ₂ N₂ s₂ r₂ I₂ F₂ S₂ n₂ h₂ =>
    bot (h₂ A s₂ b a k I₂ r₂ (r.mono S₂)) fun _ s₃ ⟨_, σ₃, N₃, _, I₃, S₃, n₃, h₃⟩ => ⟨.next, l, σ₃, N₃, .next, I₃, ((S₁.trans S₂).trans S₃).toL _, F₂.mono S₃, Nat.le_trans (Nat.le_trans n₁ n₂) n₃, h₃⟩) hs
/- `x op= e`, a local name -/
theorem X_augName {x : Str} {e : Expr} {op : Operator} {p pos : Pos} {old : V} (hl : l.lookup x = some old) (hk : env.scope.kind = .function) (hx : env.kindOf x = some .local)
    (h : WE B d env l e σ N fun v σ₁ N₁ => W2 B d (VRel B) (inplaceOp op) old v σ₁ N₁ fun r σ₂ N₂ => WX B d env (upd l x r) rest σ₂ N₂ Q) : WX B d env l (.AugAssign (.Name x p) op e pos :: rest) σ N Q :=
  X_cons fun A s k I F => wpAny_AugAssign_Name ((WF_loadLocal (Q := fun v σ' N' => v = old ∧ σ' = σ ∧ N' = N) hl ⟨rfl, rfl, rfl⟩ hk hx).seq (ρ' := VRel B) k I F fun a u σ₀ N₀ s₀ r₀ I₀ F₀ S₀ n₀ ⟨e1, e2, e3⟩ => by
    subst e1 e2 e3
    exact h.seq (ρ' := VRel B) k I₀ F₀ fun b v σ₁ N₁ s₁ r I₁ F₁ S₁ n₁ h₁ => bot (h₁ A s₁ a b k I₁ (r₀.mono S₁) r) fun c s₂ ⟨w, σ₂, N₂, r₂, I₂, S₂, n₂, h₂⟩ =>
      store_local I₂ (F₁.mono S₂) r₂ hx hk fun s₃ I₃ F₃ S₃ => ⟨.next, _, σ₂, N₂, .next, I₃, (((S₀.trans S₁).trans S₂).toL _).trans S₃, F₃, Nat.le_trans n₁ n₂, h₂⟩)
/- `o.name op= e` -/
theorem X_augAttr {o e : Expr} {name : Str} {op : Operator} {p pos : Pos} (h : WE B d env l o σ N fun u σ₁ N₁ => W1 B d (VRel B) (fun x => getAttr x name true) u σ₁ N₁ fun old σ₂ N₂ => WE B d env l e σ₂ N₂ fun v σ₃ N₃ => W2 B d (VRel B) (inplaceOp op) old v σ₃ N₃ fun r σ₄ N₄ =>
      W2 B d URel (fun x y => setAttr x name y) u r σ₄ N₄ fun _ σ₅ N₅ => WX B d env l rest σ₅ N₅ Q) : WX B d env l (.AugAssign (.Attribute o name p) op e pos :: rest) σ N Q :=
  X_cons fun A s k I F => wpAny_AugAssign_AttributeAny (h.seq (ρ' := VRel B) k I F fun a u σ₁ N₁ s₁ r₁ I₁ F₁ S₁ n₁ h₁ => bot (h₁ A s₁ a k I₁ r₁) fun b s₂ ⟨old, σ₂, N₂, r₂, I₂, S₂, n₂, h₂⟩ =>
    h₂.seq (ρ' := VRel B) k I₂ (F₁.mono S₂) fun c v σ₃ N₃ s₃ r₃ I₃ F₃ S₃ n₃ h₃ => bot (h₃ A s₃ b c k I₃ (r₂.mono S₃) r₃) fun e s₄ ⟨w, σ₄, N₄, r₄, I₄, S₄, n₄, h₄⟩ =>
      bot (h₄ A s₄ a e k I₄ (((r₁.mono S₂).mono S₃).mono S₄) r₄) fun _ s₅ ⟨_, σ₅, N₅, _, I₅, S₅, n₅, h₅⟩ =>
        ⟨.next, l, σ₅, N₅, .next, I₅, ((((S₁.trans S₂).trans S₃).trans S₄).trans S₅).toL _, (F₃.mono S₄).mono S₅, Nat.le_trans (Nat.le_trans (Nat.le_trans (Nat.le_trans n₁ n₂) n₃) n₄) n₅, h₅⟩)
/- `o[i] op= e` -/
theorem X_augSub {o i e : Expr} {op : Operator} {p pos : Pos} (hi : ∀ ov iv new, augStore i ov iv new = (do holding [new, ov, iv] (setItem ov iv new); release [new, ov, iv] []; pure .next))
    (h : WE B d env l o σ N fun u σ₁ N₁ => WE B d env l i σ₁ N₁ fun j σ₂ N₂ => W2 B d (VRel B) getItem u j σ₂ N₂ fun old σ₃ N₃ => WE B d env l e σ₃ N₃ fun v σ₄ N₄ => W2 B d (VRel B) (inplaceOp op) old v σ₄ N₄ fun r σ₅ N₅ =>
      W3 B d URel setItem u j r σ₅ N₅ fun _ σ₆ N₆ => WX B d env l rest σ₆ N₆ Q) : WX B d env l (.AugAssign (.Subscript o i p) op e pos :: rest) σ N Q :=
  X_cons fun A s k I F => wpAny_AugAssign_SubscriptAny (h.seq (ρ' := VRel B) k I F fun a u σ₁ N₁ s₁ r₁ I₁ F₁ S₁ n₁ h₁ => h₁.seq (ρ' := VRel B) k I₁ F₁ fun b j σ₂ N₂ s₂ r₂ I₂ F₂ S₂ n₂ h₂ =>
    bot (h₂ A s₂ a b k I₂ (r₁.mono S₂) r₂) fun c s₃ ⟨old, σ₃, N₃, r₃, I₃, S₃, n₃, h₃⟩ => h₃.seq (ρ' := VRel B) k I₃ (F₂.mono S₃) fun e v σ₄ N₄ s₄ r₄ I₄ F₄ S₄ n₄ h₄ =>
      bot (h₄ A s₄ c e k I₄ (r₃.mono S₄) r₄) fun g s₅ ⟨w, σ₅, N₅, r₅, I₅, S₅, n₅, h₅⟩ =>
        bot (h₅ A s₅ a b g k I₅ ((((r₁.mono S₂).mono S₃).mono S₄).mono S₅) (((r₂.mono S₃).mono S₄).mono S₅) r₅) fun _ s₆ ⟨_, σ₆, N₆, _, I₆, S₆, n₆, h₆⟩ =>
          ⟨.next, l, σ₆, N₆, .next, I₆, (((((S₁.trans S₂).trans S₃).trans S₄).trans S₅).trans S₆).toL _, (F₄.mono S₅).mono S₆, Nat.le_trans (Nat.le_trans (Nat.le_trans (Nat.le_trans (Nat.le_trans n₁ n₂) n₃) n₄) n₅) n₆, h₆⟩) hi
theorem IP_int {a b : Int} {Q : Post V} (h : Q (.int (a + b)) σ N) : W2 B d (VRel B) (inplaceOp .Add) (.int a) (.int b) σ N Q := fun A s x y k I r r' => by
  obtain ⟨_, rfl⟩ := r.inv; obtain ⟨_, rfl⟩ := r'.inv; exact PyProof.Rows.iadd_int (.here I.toks (.refl _ _) (.int _ _) h)
theorem IP_str {x y : Str} {Q : Post V} (hz : x.length + y.length ≤ sizeLine) (h : Q (.str (x ++ y)) σ N) : W2 B d (VRel B) (inplaceOp .Add) (.str x) (.str y) σ N Q := fun A s _ _ k I r r' => by
  obtain ⟨_, rfl⟩ := r.inv; obtain ⟨_, rfl⟩ := r'.inv; exact PyProof.Rows.iadd_str (fun _ _ => .here I.toks (.refl _ _) (.str _ _) h) hz
/- an instance made -/
theorem C_cls {K : Frag} {C fI : Nat} {xs : List V} {Q : Post V} (hK : K.In B.h₀) (hm : makesIn K C = true) (hi : findIn K (.ref C) "__init__" = some (some (.ref fI))) (hf : typeIn K (.ref fI) = some (.type "function"))
    (h : ∀ D, N ≤ D → WK B d (.ref fI) (.ref (D + 1) :: xs) (pt (pt σ D (.ns [])) (D + 1) (.obj (instObj C D))) (D + 2) fun v σ' N' => v = .none ∧ Q (.ref (D + 1)) σ' N') : WC B (d + 1) (.ref C) xs σ N Q := fun A s as k I r => by
  have X := hK.keeps I.keep
  refine wpAny_call ?_
  obtain ⟨hp, g, dr, t, os⟩ := s
  refine make_core (makes_of X hm) (looks_findIn X hi) (fun self => bind_fn X self hf) (.inl rfl) ?_
  have sz : (hp.push emptyDict).objs.size = hp.objs.size + 1 := Heap.size_push ..
  have I₁ := I.new (x := emptyDict) (o := .ns []) ⟨fun _ => none, Heap.Ns1.of_empty ⟨_, #[], 0, Heap.get?_push_size _ rfl, rfl, fun e he => (Array.not_mem_empty _ he).elim, fun _ => rfl⟩, fun y => trivial⟩
  have I₂ := I₁.new (x := instObj C hp.objs.size) (o := .obj (instObj C hp.objs.size)) (by show ((hp.push emptyDict).push _).get? _ = _; exact Heap.get?_push_size _ rfl)
  have S₁ : Step σ hp (pt σ hp.objs.size (.ns [])) (hp.push emptyDict) := .new
  have S₂ : Step (pt σ hp.objs.size (.ns [])) (hp.push emptyDict) (pt (pt σ hp.objs.size (.ns [])) (hp.push emptyDict).objs.size (.obj (instObj C hp.objs.size))) ((hp.push emptyDict).push (instObj C hp.objs.size)) := .new
  simp only [sz] at I₂ S₂
  have hw : (Code.builtin "type.__call__" ⟨.ref C :: as, []⟩).weight ≤ 1 := by first | exact Nat.le_of_eq rfl | exact Nat.le_succ_of_le (Nat.le_of_eq rfl) | (unfold Code.weight; simp [Code.frames, Code.isCreation, Code.isGuard, Code.isCaller])
  have hu : (Code.builtin "type.__call__" ⟨.ref C :: as, []⟩).cUnits ≤ 50 := by first | exact Nat.le_trans (Nat.le_of_eq (rfl : _ = 1)) (by decide) | exact Nat.le_trans (Nat.le_of_eq (rfl : _ = 4)) (by decide) | (simp [Code.cUnits, Code.frames])
  have hO : Ok d (A.under (.builtin "type.__call__" ⟨.ref C :: as, []⟩)) := ⟨k.handled, by have := k.depth; show A.depth + Code.weight _ + d ≤ 900; exact ar170 hw this, by have := k.units; show A.units + Code.cUnits _ + 50 * d ≤ 9000; exact ar171 hu this⟩
  refine codeAny_mono (h hp.objs.size I.size _ _ (.ref (hp.objs.size + 1) :: as) hO I₂ (.cons (.ref _) ((r.mono S₁).mono S₂))) fun r s' z => ?_
  rcases r with e | (v | _ | _ | _) <;> first | exact z | exact z.elim | skip
  obtain ⟨b, σ', N', rb, I', S', n', hv, q⟩ := z
  subst hv
  obtain ⟨_, rfl⟩ := rb.inv
  exact ⟨rfl, ⟨_, σ', N', .ref _, I', (S₁.trans S₂).trans S', Nat.le_trans (Nat.le_trans I.size (by show hp.objs.size ≤ hp.objs.size + 2; exact ar172)) n', q⟩⟩
end
end
noncomputable section
/- attributes of functions -/
theorem slot_fn_ga : Slot "function" "__getattribute__" "object.__getattribute__" := .of (owner := "object") (n := "__getattribute__") (by rw [typeLookup_type, builtinLookup_eq_fast]; kernel_rfl) (by decide +kernel) (by decide +kernel) (by decide +kernel) (.inl (by decide +kernel)) (by rw [isSubtype_type]; kernel_rfl)
theorem slot_fn_sa : Slot "function" "__setattr__" "object.__setattr__" := .of (owner := "object") (n := "__setattr__") (by rw [typeLookup_type, builtinLookup_eq_fast]; kernel_rfl) (by decide +kernel) (by decide +kernel) (by decide +kernel) (.inl (by decide +kernel)) (by rw [isSubtype_type]; kernel_rfl)
theorem entry_ga : entryFor table "object.__getattribute__" = some Builtin.«object.__getattribute__» := entryFor_of_tree (by kernel_rfl)
theorem args_ga (o a : Value) : argsOk "object.__getattribute__" ⟨[o, a], []⟩ := by unfold argsOk; kernel_rfl
theorem fn_ga0 : typeLookup (.type "function") "__getattr__" = pure none := by kernel_rfl
theorem fn_read : typeLookup (.type "function") "read" = pure none := by kernel_rfl
theorem fn_mro : mroOf (.type "function") = pure [.type "function", .type "object"] := by kernel_rfl
theorem fn_refuse (self : Value) : refuseLoop self "__setattr__" [.type "function", .type "object"] = pure () := by kernel_rfl
theorem fn_dict : typeHasDict (.type "function") = true := by rfl
theorem fn_made (a b : Nat) : dictMade (.type "function") a b = pure (some b) := by kernel_rfl
section
variable {prog : Program} {w : World} {A : Around} {E : Value → Shared → Prop} {s : Shared} {x D : Nat} {o : Obj} {m : Str → Option Value} {v : Value}
theorem fn_find {M : Model} {name : Str} {Q : Builtin.ObjectAttr.Found → Shared → Prop} (hl : typeLookup (.type "function") name = pure none) (ho : s.heap.get? x = some o) (hc : o.cls = .type "function") (hd : o.dict = some D) {fd : FuncData} (hf : o.data = .func fd) (hn : s.heap.Ns D m) (hv : m name = some v)
    (h : Q (.value v) s) : wpAny M A (Builtin.ObjectAttr.find (.ref x) (.type "function") name) Q E s := by
  unfold Builtin.ObjectAttr.find
  rw [hl]
  refine wpAny_bind (wpAny_pure (wpAny_bind (wpAny_pure (wpAny_bind (wpAny_pure ?_)))))
  refine wpAny_bind (wpAny_bind (wpAny_bind (wpAny_loadPart ho ?_)))
  obtain ⟨oc, od, oda, osl⟩ := o
  dsimp only at hc hd hf
  subst hc hd hf
  refine wpAny_bind (wpAny_loadPart ho ?_)
  refine wpAny_pure (a := some D) ?_
  refine wpAny_nsGet hn ?_
  rw [hv]
  exact wpAny_bind (wpAny_rule (wpAny_pure h))
theorem fn_get {name : Str} {expr : Bool} {Q : Value → Shared → Prop} (hl : typeLookup (.type "function") name = pure none) (ho : s.heap.get? x = some o) (hc : o.cls = .type "function") (hd : o.dict = some D) {fd : FuncData} (hf : o.data = .func fd) (hn : s.heap.Ns D m) (hv : m name = some v) (hh : handedIn v = true)
    (h : Q v { s with toks := s.toks + 1 }) : wpAny (model prog w) A (getAttr (.ref x) name expr) Q E s := by
  have hT : ({ s with toks := s.toks + 1 } : Shared).TypeIs (.ref x) "function" := ⟨_, ho, hc⟩
  unfold getAttr getAttrBy
  refine wpAny_bind (wpAny_mkText (wpAny_holding (wpAny_bind (wpAny_typeOf hT (wpAny_bind (wpAny_of_eq slot_fn_ga.lookup ?_))))))
  show wpAny _ _ (getAttrByItsOwn (.ref x) (.str name s.toks) (.type "function") (.builtin "object.__getattribute__") true expr) _ _ _
  unfold getAttrByItsOwn hookBefore callGetattribute boundAndCalled
  refine wpAny_bind (wpAny_of_eq (show (if onTheHeap (.type "function") then typeLookup (.type "function") "__getattr__" else pure none) = pure none from rfl) ?_)
  refine wpAny_bind (wpAny_attempt (wpAny_holding ?_))
  rw [show (expr && onTheHeap (.builtin "object.__getattribute__")) = false from by cases expr <;> rfl]
  refine wpAny_bind (wpAny_of_eq (slot_fn_ga.bind _) ?_)
  refine wpAny_mono (Q := fun u s' => u = v ∧ s' = { s with toks := s.toks + 1 }) (E := fun _ _ => False) (wpAny_call_entry slot_fn_ga hT entry_ga ?_ (args_ga _ _)) (fun u s' hv => ?_) fun _ _ z => z.elim
  · refine wpAny_bind (wpAny_pure (wpAny_bind (wpAny_pure (wpAny_bind (wpAny_typeOf hT (wpAny_bind (fn_find (s := { s with toks := s.toks + 1 }) hl ho hc hd hf hn hv ?_)))))))
    exact wpAny_pure ⟨_, rfl, rfl, rfl⟩
  · obtain ⟨rfl, rfl⟩ := hv
    show wpAny _ _ (handedOut u) _ _ _
    rw [handedOut_of hh]
    exact wpAny_pure h
theorem fn_method {name : Str} {pl : Sem Bool} {Q : Value × List Value → Shared → Prop} (hl : typeLookup (.type "function") name = pure none) (ho : s.heap.get? x = some o) (hc : o.cls = .type "function") (hd : o.dict = some D) {fd : FuncData} (hf : o.data = .func fd) (hn : s.heap.Ns D m) (hv : m name = some v) (hh : handedIn v = true)
    (h : Q (v, []) { s with toks := s.toks + 1 }) : wpAny (model prog w) A (getMethod (.ref x) name pl) Q E s := by
  have hT : s.TypeIs (.ref x) "function" := ⟨_, ho, hc⟩
  have hcan := PySem.F.canon_object_ga
  unfold getMethod
  refine wpAny_bind (wpAny_specialOf hT slot_fn_ga.lookup ?_)
  dsimp only
  rw [hcan, if_neg (by decide)]
  refine wpAny_bind (wpAny_specialOf hT fn_ga0 ?_)
  refine wpAny_bind (wpAny_specialOf hT hl ?_)
  exact wpAny_bind (fn_get hl ho hc hd hf hn hv hh (wpAny_pure h))
theorem fn_set {name : Str} {Q : Unit → Shared → Prop} (hl : typeLookup (.type "function") name = pure none) (ho : s.heap.get? x = some o) (hc : o.cls = .type "function") (hd : o.dict = none) {fd : FuncData} (hf : o.data = .func fd)
    (h : ∀ h' tk, h'.Ns1 s.heap.objs.size (fun y => if y = name then some v else none) → h'.get? x = some { o with dict := some s.heap.objs.size } → (∀ b p, b ≠ x → s.heap.get? b = some p → h'.get? b = some p) → h'.objs.size = s.heap.objs.size + 1 → Q () { s with heap := h', toks := tk }) :
    wpAny (model prog w) A (setAttr (.ref x) name v) Q E s := by
  have hT : ({ s with toks := s.toks + 1 } : Shared).TypeIs (.ref x) "function" := ⟨_, ho, hc⟩
  unfold setAttr
  refine wpAny_bind (wpAny_mkText (wpAny_bind (wpAny_callSpecial?_slot (name := Str.ofString "__setattr__") hT slot_fn_sa (wpAny_call_entry slot_fn_sa hT PySem.F.store_object.entry ?_ (PySem.F.store_object.args _ _ _)))))
  rw [osa_eq, refuse_eq]
  refine wpAny_bind (wpAny_bind (wpAny_typeOf hT (wpAny_bind (wpAny_of_eq fn_mro ?_))))
  rw [fn_refuse]
  refine wpAny_pure (wpAny_bind (wpAny_typeOf hT (wpAny_bind (wpAny_of_eq hl (wpAny_bind (wpAny_pure ?_))))))
  obtain ⟨oc, od, oda, osl⟩ := o
  dsimp only at hc hd hf
  subst hc hd hf
  refine wpAny_bind (wpAny_pure (wpAny_bind (wpAny_bind (wpAny_loadPart ho ?_))))
  simp only [fn_dict, Bool.not_true, Bool.or_self, Bool.false_eq_true, if_false]
  refine wpAny_bind (wpAny_alloc ?_)
  have hne : x ≠ s.heap.objs.size := Nat.ne_of_lt (Heap.lt_size ho)
  refine wpAny_bind (wpAny_update (Heap.get?_push_of_some _ ho) ?_)
  rw [fn_made]
  refine wpAny_pure ?_
  generalize hf : (fun o : Obj => ({ cls := o.cls, dict := some s.heap.objs.size, data := o.data, slots := o.slots } : Obj)) = f
  have hu : Heap.SameBut x (s.heap.push emptyDict) ((s.heap.push emptyDict).update x f) := Heap.SameBut.update ..
  have hD : ((s.heap.push emptyDict).update x f).get? s.heap.objs.size = some emptyDict := (hu.2 _ (Ne.symm hne)).trans (Heap.get?_push_size _ rfl)
  have hX : ((s.heap.push emptyDict).update x f).get? x = some { cls := .type "function", dict := some s.heap.objs.size, data := .func fd, slots := osl } := by
    rw [← hf]; exact Heap.get?_update_self _ (Heap.get?_push_of_some _ ho) rfl
  have hn0 : ((s.heap.push emptyDict).update x f).Ns1 s.heap.objs.size (fun _ => none) := Heap.Ns1.of_empty ⟨_, #[], 0, hD, rfl, fun e he => (Array.not_mem_empty _ he).elim, fun _ => rfl⟩
  refine wpAny_bind (wpAny_pure (wpAny_bind (wpAny_nsSet1 (s := { s with heap := (s.heap.push emptyDict).update x f, toks := s.toks + 1 }) hn0 fun h' hn' hsb => ?_)))
  obtain ⟨o', es', ep', e', hd2, r2⟩ := id hn'
  refine wpAny_bind (wpAny_lookBehind e' ?_ (wpAny_pure ⟨_, rfl, wpAny_pure (h h' _ hn' ((hsb.2 x hne).trans hX) (fun b p hb e => ?_) ?_)⟩))
  · rw [hd2]
    have hsz := ns_size (names := [name]) hn' e' hd2 fun y hy => by
      by_cases z : y = name
      · rw [z]; exact .head _
      · rw [if_neg z] at hy; exact absurd rfl hy
    exact pastItsLine_dict (by rw [sizeLine_eq]; simp only [List.length_singleton] at hsz; exact ar173 hsz)
  · have hlt : b < s.heap.objs.size := Heap.lt_size e
    rw [hsb.2 b (Nat.ne_of_lt hlt)]
    exact (hu.2 b hb).trans (Heap.get?_push_of_some _ e)
  · rw [hsb.1, hu.1, Heap.size_push]
end
section
variable {B : Cx} {d : Nat} {env : Env} {l : Loc} {σ : Store} {N : Nat} {s : Shared} {x D : Nat} {o : Obj} {fd : FuncData} {name : Str} {v : V}
/- `f.name = v`, the first -/
theorem A_setFn {Q : Post Unit} (hl : typeLookup (.type "function") name = pure none) (hx : σ x = some (.obj o)) (hc : o.cls = .type "function") (hd : o.dict = none) (hf : o.data = .func fd)
    (h : ∀ D, N ≤ D → Q () (pt (pt σ x (.obj { o with dict := some D })) D (.ns [(name, v)])) (D + 1)) : W2 B d URel (fun o u => setAttr o name u) (.ref x) v σ N Q := fun A s a u k I r rv => by
  obtain ⟨_, rfl⟩ := r.inv
  have ho : s.heap.get? x = some o := I.store x _ hx
  refine fn_set hl ho hc hd hf fun h' tk hn' hx' hk hz => ?_
  have hlt : x < s.heap.objs.size := Heap.lt_size ho
  have hne : x ≠ s.heap.objs.size := Nat.ne_of_lt hlt
  have hfr : σ s.heap.objs.size = none := I.fresh
  have S : Step σ s.heap (pt (pt σ x (.obj { o with dict := some s.heap.objs.size })) s.heap.objs.size (.ns [(name, v)])) h' := ⟨fun b p e n => by
    have b1 : b ≠ x := fun z => by rw [z, hx] at n; cases n
    have b2 : b ≠ s.heap.objs.size := Nat.ne_of_lt (Heap.lt_size e)
    exact ⟨hk b p b1 e, by rw [pt_ne b2, pt_ne b1]; exact n⟩, rfl⟩
  refine ⟨(), _, s.heap.objs.size + 1, trivial, ⟨fun b p e => ?_, fun b p e => ?_, I.gens, I.os, fun b p e => ?_, Nat.le_of_eq hz.symm, fun b f => ?_⟩, S, Nat.le_succ_of_le I.size, h _ I.size⟩
  · by_cases z : b = s.heap.objs.size
    · subst z; rw [pt_same] at e; cases e
      refine ⟨_, hn', fun y => ?_⟩
      show match List.lookup y (upd [] name v), _ with | none, none => True | some v, some u => VRel B _ h' v u | _, _ => False
      rw [upd_look]
      by_cases q : y = name
      · simp only [if_pos q]; exact rv.mono S
      · simp only [if_neg q]; trivial
    · rw [pt_ne z] at e
      by_cases y : b = x
      · subst y; rw [pt_same] at e; cases e; exact hx'
      · rw [pt_ne y] at e; exact (I.store b p e).mono S fun q r => hk b q y r
  · obtain ⟨e1, e2⟩ := I.base b p e
    have b1 : b ≠ x := fun z => by rw [z, hx] at e2; cases e2
    exact ⟨hk b p b1 e1, (S.keep b p e1 e2).2⟩
  · by_cases z : b = s.heap.objs.size
    · subst z; exact Nat.lt_succ_self _
    · rw [pt_ne z] at e
      have : b < N := by
        by_cases y : b = x
        · subst y; exact I.top _ _ hx
        · rw [pt_ne y] at e; exact I.top _ _ e
      exact Nat.lt_succ_of_le (Nat.le_trans (Nat.le_of_lt this) I.size)
  · obtain ⟨x1, y1, z1⟩ := I.marks b f
    have b1 : b ≠ x := fun z => by rw [z, hx] at y1; cases y1
    exact ⟨by show b < h'.objs.size; rw [hz]; exact Nat.lt_succ_of_lt x1, by rw [pt_ne (Nat.ne_of_lt x1), pt_ne b1]; exact y1, z1⟩
theorem M_fn {pos : Pos} {pl : Sem Bool} {args : List Expr} {at' : Loc} {Q : Post V} (hl : typeLookup (.type "function") name = pure none) (hx : σ x = some (.obj o)) (hc : o.cls = .type "function") (hd : o.dict = some D) (hf : o.data = .func fd) (hD : σ D = some (.ns at')) (hv : at'.lookup name = some v) (hh : handV v = true)
    (h : CW B d env l pos v [] args σ N Q) : ∀ A s a, Ok d A → Inv B σ N s → FRel B env l σ s.heap → VRel B σ s.heap (.ref x) a → wpAny (model B.prog B.w) A (getMethod a name pl) (fun fx s₂ => wpAny (model B.prog B.w) A (callWith pos fx.1 fx.2 (backTo pos (starEach args env)) []) (Ends B (VRel B) σ N s.heap Q) (fun _ _ => False) s₂) (fun _ _ => False) s :=
  fun A s a k I F r => by
    obtain ⟨_, rfl⟩ := r.inv
    obtain ⟨m, hn, hm⟩ := I.store D _ hD
    obtain ⟨u, hu, ru⟩ := hm.some_of hv
    exact fn_method hl (I.store x _ hx) hc hd hf hn.ns hu (handV_ok ru hh) (h A { s with toks := s.toks + 1 } u [] k I.toks F ru .nil)
end
end
noncomputable section
/- functions made while running -/
section
variable {B : Cx} {d : Nat} {env : Env} {l : Loc} {σ : Store} {N : Nat} {s : Shared} {rest : List Stmt} {Q : PostS}
noncomputable abbrev madeSt (σ : Store) (P : Nat) (oP : Obj) (c : Nat) (oc : Obj) (f : Nat) (fo : Obj) : Store := pt (pt (pt σ P (.obj oP)) c (.obj oc)) f (.obj fo)
theorem Inv.made {P c : Nat} {oP oP' oc fo : Obj} {h' : Heap} {tk : Nat} (I : Inv B σ N s) (hP : σ P = some (.obj oP)) (hx : Heap.ExtBut P s.heap h') (hc : s.heap.objs.size ≤ c) (hc' : c < h'.objs.size) (hoc : h'.get? c = some oc) (hP' : h'.get? P = some oP') (hfo : fo.isFreed = false) :
    Inv B (madeSt σ P oP' c oc h'.objs.size fo) (h'.objs.size + 1) { s with heap := h'.push fo, toks := tk } ∧ Step σ s.heap (madeSt σ P oP' c oc h'.objs.size fo) (h'.push fo) := by
  have hPl : P < s.heap.objs.size := by obtain ⟨x, e⟩ := I.there hP; exact Heap.lt_size e
  have kp : ∀ b p, b ≠ P → s.heap.get? b = some p → (h'.push fo).get? b = some p := fun b p n e => Heap.get?_push_of_some _ (hx b p n e)
  have low : ∀ b, b < s.heap.objs.size → b ≠ P → madeSt σ P oP' c oc h'.objs.size fo b = σ b := fun b hb n => by
    unfold madeSt
    rw [pt_ne (by exact ar174 hc hc' hb), pt_ne (by exact ar57 hc hb), pt_ne n]
  have S : Step σ s.heap (madeSt σ P oP' c oc h'.objs.size fo) (h'.push fo) := ⟨fun b p e n => by
    have b1 : b ≠ P := fun z => by rw [z, hP] at n; cases n
    exact ⟨kp b p b1 e, (low b (Heap.lt_size e) b1).trans n⟩, rfl⟩
  refine ⟨⟨fun b p e => ?_, fun b p e => ?_, I.gens, I.os, fun b p e => ?_, by show _ ≤ (h'.push fo).objs.size; rw [Heap.size_push]; exact Nat.le_refl _, fun b f => ?_⟩, S⟩
  · unfold madeSt at e
    by_cases z1 : b = h'.objs.size
    · subst z1; rw [pt_same] at e; cases e; exact Heap.get?_push_size _ hfo
    · rw [pt_ne z1] at e
      by_cases z2 : b = c
      · subst z2; rw [pt_same] at e; cases e; exact Heap.get?_push_of_some _ hoc
      · rw [pt_ne z2] at e
        by_cases z3 : b = P
        · subst z3; rw [pt_same] at e; cases e; exact Heap.get?_push_of_some _ hP'
        · rw [pt_ne z3] at e; exact (I.store b p e).mono S fun q r => kp b q z3 r
  · obtain ⟨e1, e2⟩ := I.base b p e
    exact S.keep b p e1 e2
  · unfold madeSt at e
    by_cases z1 : b = h'.objs.size
    · subst z1; exact Nat.lt_succ_self _
    · rw [pt_ne z1] at e
      by_cases z2 : b = c
      · exact ar175 hc' z2
      · rw [pt_ne z2] at e
        by_cases z3 : b = P
        · exact ar176 hc hc' hPl z3
        · rw [pt_ne z3] at e
          have h1 := I.top b p e
          have h2 := I.size
          exact ar177 hc hc' h1 h2
  · obtain ⟨x1, y1, z1⟩ := I.marks b f
    have b1 : b ≠ P := fun z => by rw [z, hP] at y1; cases y1
    exact ⟨by show b < (h'.push fo).objs.size; rw [Heap.size_push]; exact ar178 hc hc' x1, (low b x1 b1).trans y1, z1⟩
/- a code object's head -/
noncomputable def CodeOb (oc : Obj) (qual : Str) : Prop := ∃ vs t, oc.data = .fields vs ∧ vs[1]? = some (.str qual t)
structure Nest (B : Cx) (c P : Nat) : Prop where
  code : CodeHd B.h₀ c P
  glob : ∃ mg, B.h₀.Ns mainGlobals mg ∧ B.h₀.BuiltinsAt mg P
  ne : mainGlobals ≠ P
theorem BuiltinsAt.up {h h' : Heap} {mg : Str → Option Value} {P : Nat} (x : h.BuiltinsAt mg P) (k : ∀ b o, h.get? b = some o → h'.get? b = some o) : h'.BuiltinsAt mg P :=
  let ⟨bm, o, a, b, c, e, g, r⟩ := x; ⟨bm, o, a, b, c, e, k _ _ g, r⟩
theorem def_exec {M : Model} {A : Around} {E : Value → Shared → Prop} {name : Str} {params : Arguments} {body : List Stmt} {scope : Scope} {pos : Pos} {Q : Flow → Shared → Prop} (hd : params.defaults = []) (hk0 : params.kw_defaults = []) (ha : annTrees params none env = [])
    (h : wpAny M A (makeFunction name (qualnameIn env name name) params (.stmts body) scope env [] [] [] pos pos.line)
      (fun v s' => wpAny M A (storeName env name v) (fun _ s'' => Q .next s'') E s') E s) :
    wpAny M A (exec (.FunctionDef name params body [] none [] scope none name pos) env) Q E s := by
  rw [exec_def]
  refine wpAny_bind (wpAny_standAt (wpAny_bind (wpAny_holding ?_)))
  rw [defaultsOf_eq, hk0, ha, hd]
  refine wpAny_bind (kdv_all0 (env := env) ?_)
  refine wpAny_bind (wpAny_holding (wpAny_pure ?_))
  refine wpAny_holding (wpAny_bind (wpAny_pure ?_))
  exact wpAny_mono h (fun v s' h' => wpAny_bind (wpAny_standAt (wpAny_bind (wpAny_bindName (wpAny_mono h' (fun _ _ h'' => wpAny_pure h'') fun _ _ x => x))))) fun _ _ x => x
theorem X_def {name : Str} {params : Arguments} {body : List Stmt} {scope : Scope} {pos : Pos} {c P : Nat} {ps : Array Value} {clos : List (Str × Nat)} (hn : Nest B c P) (hcl : closureFor scope env = pure clos) (hg0 : env.globals = mainGlobals) (hk : env.scope.kind = .function) (hcode : env.code = .ref c)
    (hP : σ P = some (.obj (tabObj ps))) (ht : TriplesOk ps.toList) (hnf : codeAmong pos ps.toList = none) (hl : env.kindOf name = some .local) (hd : params.defaults = []) (hk0 : params.kw_defaults = []) (ha : annTrees params none env = [])
    (h : ∀ c' f oc ctv doc pm, N ≤ c' → c' < f → CodeOb oc (qualnameIn env name name) →
      WX B d env (upd l name (.ref f)) rest (madeSt σ P (tabObj (ps ++ #[rawInt pos.line, rawInt pos.col, .ref c'])) c' oc f (fnMade name (qualnameIn env name name) params body scope clos doc pm c' ctv)) (f + 1) Q) :
    WX B d env l (.FunctionDef name params body [] none [] scope none name pos :: rest) σ N Q :=
  X_cons fun A s k I F => def_exec hd hk0 ha (by
    obtain ⟨mg, hg, hb⟩ := hn.glob
    refine makeFunction_K hcl hg0 (hg.keeps I.keep) hcode (hn.code.keeps I.keep) (I.store P _ hP) ht hnf hn.ne (BuiltinsAt.up hb I.keep) fun c' ctv doc h' tk hx hge hlt hrec hP' => ?_
    obtain ⟨c₂, oc, vs, t, e, hoc, hdt, hq⟩ := hrec
    cases e
    obtain ⟨I₁, S₁⟩ := I.made (fo := fnMade name (qualnameIn env name name) params body scope clos doc ((mg "__name__").getD .none) c' ctv) (tk := tk) hP hx hge hlt hoc hP' rfl
    refine store_local I₁ (F.mono S₁) (.ref _) hl hk fun s₂ I₂ F₂ S₂ => ?_
    exact ⟨.next, _, _, _, .next, I₂, (S₁.toL _).trans S₂, F₂, by have := I.size; exact ar58 hge hlt this, h c' h'.objs.size oc ctv doc _ (Nat.le_trans I.size hge) hlt ⟨vs, t, hdt, hq⟩⟩)
theorem X_defHit {name : Str} {params : Arguments} {body : List Stmt} {scope : Scope} {pos : Pos} {c P c' : Nat} {ps : Array Value} {clos : List (Str × Nat)} (hn : Nest B c P) (hcl : closureFor scope env = pure clos) (hg0 : env.globals = mainGlobals) (hk : env.scope.kind = .function) (hcode : env.code = .ref c)
    (hP : σ P = some (.obj (tabObj ps))) (ht : TriplesOk ps.toList) (hf : codeAmong pos ps.toList = some (.ref c')) (hl : env.kindOf name = some .local) (hd : params.defaults = []) (hk0 : params.kw_defaults = []) (ha : annTrees params none env = [])
    (h : ∀ f ctv doc pm, N ≤ f → WX B d env (upd l name (.ref f)) rest (pt σ f (.obj (fnMade name (qualnameIn env name name) params body scope clos doc pm c' ctv))) (f + 1) Q) :
    WX B d env l (.FunctionDef name params body [] none [] scope none name pos :: rest) σ N Q :=
  X_cons fun A s k I F => def_exec hd hk0 ha (by
    obtain ⟨mg, hg, hb⟩ := hn.glob
    refine makeFunction_hit hcl hg0 (hg.keeps I.keep) hcode (hn.code.keeps I.keep) (I.store P _ hP) ht hf (BuiltinsAt.up hb I.keep) fun ctv doc h' tk hk' hz => ?_
    have I₀ : Inv B σ N { s with heap := h', toks := tk } := I.grow hk' hz rfl rfl
    have S₀ : Step σ s.heap σ h' := .grow hk'
    have I₁ := I₀.new (x := fnMade name (qualnameIn env name name) params body scope clos doc ((mg "__name__").getD .none) c' ctv) (o := .obj (fnMade name (qualnameIn env name name) params body scope clos doc ((mg "__name__").getD .none) c' ctv)) (by show (h'.push _).get? _ = _; exact Heap.get?_push_size _ rfl)
    have S₁ : Step σ s.heap _ _ := S₀.trans (.new (x := fnMade name (qualnameIn env name name) params body scope clos doc ((mg "__name__").getD .none) c' ctv) (o := .obj (fnMade name (qualnameIn env name name) params body scope clos doc ((mg "__name__").getD .none) c' ctv)))
    refine store_local I₁ (F.mono S₁) (.ref _) hl hk fun s₂ I₂ F₂ S₂ => ?_
    exact ⟨.next, _, _, _, .next, I₂, (S₁.toL _).trans S₂, F₂, by have := I₀.size; exact Nat.le_succ_of_le this, h h'.objs.size ctv doc _ I₀.size⟩)
theorem WE_lambda {params : Arguments} {body : Expr} {scope : Scope} {pos : Pos} {c P : Nat} {ps : Array Value} {clos : List (Str × Nat)} {Q : Post V} (hn : Nest B c P) (hcl : closureFor scope env = pure clos) (hg0 : env.globals = mainGlobals) (hcode : env.code = .ref c)
    (hP : σ P = some (.obj (tabObj ps))) (ht : TriplesOk ps.toList) (hnf : codeAmong pos ps.toList = none) (hd : defaultsOf params env = ([], []))
    (h : ∀ c' f oc ctv pm, N ≤ c' → c' < f → Q (.ref f) (madeSt σ P (tabObj (ps ++ #[rawInt pos.line, rawInt pos.col, .ref c'])) c' oc f (kla_obj "<lambda>" (env.qual ++ "<lambda>") params body scope clos pm c' ctv)) (f + 1)) :
    WE B d env l (.Lambda params body scope pos) σ N Q :=
  fun A s k I F => kla_eval hd (by
    obtain ⟨mg, hg, hb⟩ := hn.glob
    refine kla_makeFunction hcl hg0 (hg.keeps I.keep) hcode (hn.code.keeps I.keep) (I.store P _ hP) ht hnf hn.ne (BuiltinsAt.up hb I.keep) fun c' ctv h' tk hx hge hlt hrec hP' => ?_
    obtain ⟨c₂, oc, vs, t, e, hoc, hdt, hq⟩ := hrec
    cases e
    obtain ⟨I₁, S₁⟩ := I.made (fo := kla_obj "<lambda>" (env.qual ++ "<lambda>") params body scope clos ((mg "__name__").getD .none) c' ctv) (tk := tk) hP hx hge hlt hoc hP' rfl
    exact ⟨.ref _, _, _, .ref _, I₁, S₁, by have := I.size; exact ar58 hge hlt this, h c' h'.objs.size oc ctv _ (Nat.le_trans I.size hge) hlt⟩)
theorem WE_lambdaHit {params : Arguments} {body : Expr} {scope : Scope} {pos : Pos} {c P c' : Nat} {ps : Array Value} {clos : List (Str × Nat)} {Q : Post V} (hn : Nest B c P) (hcl : closureFor scope env = pure clos) (hg0 : env.globals = mainGlobals) (hcode : env.code = .ref c)
    (hP : σ P = some (.obj (tabObj ps))) (ht : TriplesOk ps.toList) (hf : codeAmong pos ps.toList = some (.ref c')) (hd : defaultsOf params env = ([], []))
    (h : ∀ f ctv pm, N ≤ f → Q (.ref f) (pt σ f (.obj (kla_obj "<lambda>" (env.qual ++ "<lambda>") params body scope clos pm c' ctv))) (f + 1)) :
    WE B d env l (.Lambda params body scope pos) σ N Q :=
  fun A s k I F => kla_eval hd (by
    obtain ⟨mg, hg, hb⟩ := hn.glob
    refine kla_makeFunctionHit hcl hg0 (hg.keeps I.keep) hcode (hn.code.keeps I.keep) (I.store P _ hP) ht hf (BuiltinsAt.up hb I.keep) fun ctv h' tk hk' hz => ?_
    have I₀ : Inv B σ N { s with heap := h', toks := tk } := I.grow hk' hz rfl rfl
    have S₀ : Step σ s.heap σ h' := .grow hk'
    have I₁ := I₀.new (x := kla_obj "<lambda>" (env.qual ++ "<lambda>") params body scope clos ((mg "__name__").getD .none) c' ctv) (o := .obj (kla_obj "<lambda>" (env.qual ++ "<lambda>") params body scope clos ((mg "__name__").getD .none) c' ctv)) (by show (h'.push _).get? _ = _; exact Heap.get?_push_size _ rfl)
    have S₁ : Step σ s.heap _ _ := S₀.trans (.new (x := kla_obj "<lambda>" (env.qual ++ "<lambda>") params body scope clos ((mg "__name__").getD .none) c' ctv) (o := .obj (kla_obj "<lambda>" (env.qual ++ "<lambda>") params body scope clos ((mg "__name__").getD .none) c' ctv)))
    exact ⟨.ref _, _, _, .ref _, I₁, S₁, by have := I₀.size; exact Nat.le_succ_of_le this, h h'.objs.size ctv _ I₀.size⟩)
end
end
noncomputable section
/- bound methods, iter(callable, sentinel) -/
theorem slot_cit_next : Slot "callable_iterator" "__next__" "callable_iterator.__next__" :=
  .of (owner := "callable_iterator") (n := "__next__") (by rw [typeLookup_type, builtinLookup_eq_fast]; kernel_rfl) (by decide +kernel) (by decide +kernel) (by decide +kernel)
    (by first | exact .inl (by decide +kernel) | exact .inr (by decide +kernel)) (by rw [isSubtype_type]; kernel_rfl)
theorem slot_cit_iter : Slot "callable_iterator" "__iter__" "callable_iterator.__iter__" :=
  .of (owner := "callable_iterator") (n := "__iter__") (by rw [typeLookup_type, builtinLookup_eq_fast]; kernel_rfl) (by decide +kernel) (by decide +kernel) (by decide +kernel)
    (by first | exact .inl (by decide +kernel) | exact .inr (by decide +kernel)) (by rw [isSubtype_type]; kernel_rfl)
theorem entry_cit_next : entryFor table "callable_iterator.__next__" = some Builtin.«callable_iterator.__next__» := entryFor_of_tree (by kernel_rfl)
theorem entry_cit_iter : entryFor table "callable_iterator.__iter__" = some Builtin.«dict_keyiterator.__iter__» :=
  entryFor_alias (id' := "dict_keyiterator.__iter__") (by kernel_rfl) rfl (by decide +kernel) (by kernel_rfl)
theorem args_cit_next (a : Value) : argsOk "callable_iterator.__next__" ⟨[a], []⟩ := by unfold argsOk; kernel_rfl
theorem args_cit_iter (a : Value) : argsOk "callable_iterator.__iter__" ⟨[a], []⟩ := by unfold argsOk; kernel_rfl
theorem kind_iter : builtinKind "iter" = none := by decide +kernel
theorem plain_iter : plainId "iter" = true := by decide +kernel
theorem entry_iter : entryFor table "iter" = some Builtin.«iter» := entryFor_of_tree (by kernel_rfl)
theorem args_iter2 (a b : Value) : argsOk "iter" ⟨[a, b], []⟩ := by unfold argsOk; kernel_rfl
theorem meth_call : typeLookup (.type "method") "__call__" = pure (some (.builtin "method.__call__")) := by rw [typeLookup_type, builtinLookup_eq_fast]; kernel_rfl
noncomputable abbrev citObj (f s e : Value) : Obj := { cls := .type "callable_iterator", data := .fields #[f, s, e] }
section
variable {B : Cx} {d : Nat} {env : Env} {l : Loc} {σ : Store} {N : Nat} {s : Shared} {x D C f : Nat} {name : Str} {at' : Loc}
noncomputable def BoundAt (B : Cx) (C : Nat) (name : Str) (f : Nat) : Prop := ∃ K, K.In B.h₀ ∧ plainGet K C name = true ∧ hasDictIn K C = true ∧ findIn K (.ref C) name = some (some (.ref f)) ∧ isFn K (.ref f) = true ∧
  specialIn K (.ref f) "__get__" = some (some (.builtin "function.__get__")) ∧ takesIn K (.ref f) = some false ∧ copiedNames.contains name = false
theorem A_bound {Q : Post V} {e : Bool} (hx : σ x = some (.obj (instObj C D))) (hD : σ D = some (.ns at')) (ha : BoundAt B C name f) (hl : at'.lookup name = none) (h : ∀ q, N ≤ q → Q (.ref q) (pt σ q (.obj (methodObj (.ref f) (.ref x)))) (q + 1)) : W1 B d (VRel B) (fun o => getAttr o name e) (.ref x) σ N Q := fun A s a k I r => by
  obtain ⟨_, rfl⟩ := r.inv
  obtain ⟨od, m, IA, hn, ho, hm⟩ := inst_at I hx hD
  obtain ⟨K, hK, h1, h2, h3, h4, h5, h6, h7⟩ := ha
  have X := hK.keeps I.keep
  refine get_bind X IA (plainGet_of h1).1 (findObj_fn h2 h3 h5 h6 h7 (by rw [lookIn_ns hn ho, hm.none_of hl])) (plainGet_of h1).2
    (wpAny_call (PySem.W.fn_get (s := { s with toks := s.toks + 1 }) X (beq_iff_eq.mp h4) (handed_on rfl ?_)))
  exact ⟨.ref s.heap.objs.size, _, s.heap.objs.size + 1, .ref _, (I.new (o := .obj (methodObj (.ref f) (.ref x))) (Heap.get?_push_size _ rfl)).toks, .new, Nat.le_succ_of_le I.size, h _ I.size⟩
theorem C_iter2 {bm : Nat} {y : Str} {g : Value} {Q : Post V} (hb : σ bm = some (.obj (methodObj g (.ref x)))) (h : ∀ q t, N ≤ q → Q (.ref q) (pt σ q (.obj (citObj (.ref bm) (.str y t) (.bool false)))) (q + 1)) : WC B d (.builtin "iter") [.ref bm, .str y] σ N Q := fun A s as k I r => by
  cases r with | cons r1 r2 => cases r2 with | cons r2 r3 =>
  cases r3; cases r1; cases r2
  rename_i t
  have ho := I.store bm _ hb
  refine call_function_entry kind_iter plain_iter entry_iter (args_iter2 _ _) ?_
  unfold Builtin.«iter»
  refine wpAny_bind (m := someArgs "iter" 1 2 _) (wpAny_pure ?_)
  refine wpAny_bind (wpAny_specialOf ⟨_, ho, rfl⟩ meth_call ?_)
  simp only [Option.isNone_some, Bool.false_eq_true, if_false]
  refine wpAny_bind (wpAny_rule (wpAny_bind (wpAny_newObj_type ?_ (by size_fits))))
  exact wpAny_pure ⟨_, rfl, ⟨.ref s.heap.objs.size, _, s.heap.objs.size + 1, .ref _, I.new (x := citObj (.ref bm) (.str y t) (.bool false)) (o := .obj (citObj (.ref bm) (.str y t) (.bool false))) (Heap.get?_push_size _ rfl), .new, Nat.le_succ_of_le I.size, h _ t I.size⟩⟩
/- an iterator by calls -/
structure CIt (B : Cx) (σ : Store) (it bm f x : Nat) (y : Str) (t : Tok) : Prop where
  it : σ it = some (.obj (citObj (.ref bm) (.str y t) (.bool false)))
  bm : σ bm = some (.obj (methodObj (.ref f) (.ref x)))
  fn : ∃ fd, FnAt B σ f fd
theorem wpAny_callBorrowed {M : Model} {A : Around} {E : Value → Shared → Prop} {g : Value} {Q : Value → Shared → Prop} (hc : codeAny M A (.call g ⟨[], []⟩) (fun r s' => match r with | .ok (.ret v) => Q v s' | .ok _ => False | .error e => E e s') s) : wpAny M A (callBorrowed g []) Q E s :=
  fun Γ p hΓ => by
    have := wpAny_runValue (E := E) hc Γ p hΓ
    rw [Sem.wp_runValue] at this
    unfold callBorrowed
    rw [Sem.wp_call]
    refine cast (congrArg (fun R => wpCode M (Γ.enter (.call g ⟨[], []⟩) none p) R p s) ?_) this
    funext r s'
    rcases r with e | (v | _ | _ | _) <;> rfl
theorem next_cit {it bm f x : Nat} {y : Str} {t : Tok} {A : Around} {R : Option Value → Shared → Prop} {E : Value → Shared → Prop} {K : Str → Post Unit} (c : CIt B σ it bm f x y t) (k : Ok (d + 1) A) (I : Inv B σ N s)
    (h : WK B d (.ref f) [.ref x] σ N fun v σ' N' => ∃ z, v = .str z ∧ CIt B σ' it bm f x y t ∧ K z () (if z = y then pt σ' it (.obj (citObj .none .none (.bool true))) else σ') N')
    (g : ∀ z u s' σ' N', Inv B σ' N' s' → Step σ s.heap σ' s'.heap → N ≤ N' → K z () σ' N' → R (if z = y then none else some (.str z u)) s') : wpAny (model B.prog B.w) A (pyNext (.ref it)) R E s := by
  have hit := I.store it _ c.it
  have hbm := I.store bm _ c.bm
  obtain ⟨fd, hf⟩ := c.fn
  obtain ⟨of, hof, hfd⟩ := hf.get I
  have hT : s.TypeIs (.ref it) "callable_iterator" := ⟨_, hit, rfl⟩
  unfold pyNext
  refine wpAny_bind (wpAny_attempt (wpAny_callSpecial?_slot (name := Str.ofString "__next__") hT slot_cit_next (wpAny_call_entry slot_cit_next hT entry_cit_next ?_ (args_cit_next _))))
  show wpAny _ _ (field (.ref it) 2 >>= _) _ _ s
  refine wpAny_bind (wpAny_field hit rfl (x := .bool false) rfl ?_)
  show wpAny _ _ (field (.ref it) 0 >>= _) _ _ s
  refine wpAny_bind (wpAny_field hit rfl (x := .ref bm) rfl ?_)
  refine wpAny_bind (wpAny_attempt ?_)
  have hbo : wpAny (model B.prog B.w) A.in1 (borrowsExactly (.ref bm)) (fun b s' => b = true ∧ s' = s) (fun _ _ => False) s := by
    unfold borrowsExactly
    refine wpAny_bind (wpAny_load hbm ?_)
    refine wpAny_bind (wpAny_load hof ?_)
    rw [hfd]
    exact wpAny_pure ⟨rfl, rfl⟩
  refine wpAny_bind (bot hbo ?_)
  rintro _ s₀ ⟨rfl, e₀⟩
  obtain rfl : s = s₀ := e₀.symm
  rw [if_pos rfl]
  refine wpAny_callBorrowed (method_call hbm (codeAny_mono (h A.in1 s [.ref x] k.in1 I (.cons (.ref x) .nil)) fun r s₁ q => ?_))
  rcases r with e | (v | _ | _ | _) <;> first | exact q.elim | skip
  obtain ⟨b, σ₁, N₁, rb, I₁, S₁, n₁, z, rfl, c₁, hk⟩ := q
  cases rb with | str z u =>
  have hit₁ := I₁.store it _ c₁.it
  have hbm₁ := I₁.store bm _ c₁.bm
  obtain ⟨fd₁, hf₁⟩ := c₁.fn
  obtain ⟨of₁, hof₁, hfd₁⟩ := hf₁.get I₁
  show wpAny _ _ (field (.ref it) 2 >>= _) _ _ s₁
  refine wpAny_bind (wpAny_field hit₁ rfl (x := .bool false) rfl ?_)
  show wpAny _ _ (field (.ref it) 1 >>= _) _ _ s₁
  refine wpAny_bind (wpAny_field hit₁ rfl (x := .str y t) rfl ?_)
  refine wpAny_bind (wpAny_holding (wpAny_eqBool_str ?_))
  by_cases hz : z = y
  · rw [if_pos hz] at hk
    subst hz
    simp only [Bool.not_true, Bool.false_eq_true, if_false, decide_true]
    refine wpAny_bind (wpAny_rule (wpAny_bind ?_))
    show wpAny _ _ (field (.ref it) 0 >>= _) _ _ s₁
    refine wpAny_bind (wpAny_field hit₁ rfl (x := .ref bm) rfl (wpAny_bind ?_))
    have hbo₁ : wpAny (model B.prog B.w) A.in1 (borrowsExactly (.ref bm)) (fun b s' => b = true ∧ s' = s₁) (fun _ _ => False) s₁ := by
      unfold borrowsExactly
      refine wpAny_bind (wpAny_load hbm₁ ?_)
      refine wpAny_bind (wpAny_load hof₁ ?_)
      rw [hfd₁]
      exact wpAny_pure ⟨rfl, rfl⟩
    unfold slotLetsGo
    refine wpAny_bind (bot hbo₁ ?_)
    rintro _ s₂ ⟨rfl, e₂⟩
    obtain rfl : s₁ = s₂ := e₂.symm
    rw [if_pos rfl]
    refine wpAny_pure ?_
    refine wpAny_bind (wpAny_setField hit₁ rfl (Nat.lt_of_sub_ne_zero (by simp)) ?_)
    have e1 : (s₁.heap.update it (Obj.mapFields (·.setIfInBounds 0 .none))).get? it = some (citObj .none (.str z t) (.bool false)) := Heap.get?_update_self _ hit₁ rfl
    refine wpAny_bind (wpAny_setField (s := { s₁ with heap := s₁.heap.update it (Obj.mapFields (·.setIfInBounds 0 .none)) }) e1 rfl (Nat.lt_of_sub_ne_zero (by simp)) ?_)
    have e2 : ((s₁.heap.update it (Obj.mapFields (·.setIfInBounds 0 .none))).update it (Obj.mapFields (·.setIfInBounds 1 .none))).get? it = some (citObj .none .none (.bool false)) := Heap.get?_update_self _ e1 rfl
    refine wpAny_setField (s := { s₁ with heap := (s₁.heap.update it (Obj.mapFields (·.setIfInBounds 0 .none))).update it (Obj.mapFields (·.setIfInBounds 1 .none)) }) e2 rfl (Nat.lt_of_sub_ne_zero (by simp)) ?_
    have e3 : (((s₁.heap.update it (Obj.mapFields (·.setIfInBounds 0 .none))).update it (Obj.mapFields (·.setIfInBounds 1 .none))).update it (Obj.mapFields (·.setIfInBounds 2 (.bool true)))).get? it = some (citObj .none .none (.bool true)) := Heap.get?_update_self _ e2 rfl
    have b1 : Heap.SameBut it s₁.heap (((s₁.heap.update it (Obj.mapFields (·.setIfInBounds 0 .none))).update it (Obj.mapFields (·.setIfInBounds 1 .none))).update it (Obj.mapFields (·.setIfInBounds 2 (.bool true)))) := ((Heap.SameBut.update ..).trans (Heap.SameBut.update ..)).trans (Heap.SameBut.update ..)
    generalize ((s₁.heap.update it (Obj.mapFields (·.setIfInBounds 0 .none))).update it (Obj.mapFields (·.setIfInBounds 1 .none))).update it (Obj.mapFields (·.setIfInBounds 2 (.bool true))) = hq at e3 b1
    show wpAny _ _ (newExc (.type "StopIteration") [] >>= _) _ _ _
    refine wpAny_bind ?_
    simp only [newExc, newTuple]
    refine wpAny_bind (wpAny_newObj_type ?_ (by size_fits))
    refine wpAny_bind (m := firstArgMember _ _) (wpAny_of_eq (a := Value.none) (by first | rfl | (simp only [firstArgMember]; rfl)) ?_)
    refine wpAny_newObj_type ?_ (by size_fits)
    simp only [raiseNew]
    refine wpAny_bind (wpAny_handled ?_)
    rw [show A.in1.handled = none from k.handled]
    refine wpAny_bind (wpAny_pure (wpAny_throw ?_))
    refine wpAny_bind (wpAny_isInstance (T := "StopIteration") (b := true) ⟨_, Heap.get?_push_size _ rfl, rfl⟩ isSubtype_stop ?_)
    rw [if_pos rfl]
    refine wpAny_pure ?_
    have hi : σ₁ it ≠ none ∨ (s₁.heap.get? it = none ∧ s₁.heap.objs.size ≤ it) := .inl (by rw [c₁.it]; nofun)
    have S₂ : Step σ₁ s₁.heap (pt σ₁ it (.obj (citObj .none .none (.bool true)))) hq := .put b1.extBut hi
    have I₂ : Inv B (pt σ₁ it (.obj (citObj .none .none (.bool true)))) N₁ { s₁ with heap := hq } := Inv.put (s' := { s₁ with heap := hq }) I₁ b1.extBut hi e3 (Nat.le_refl _) (I₁.top it _ c₁.it) (Nat.le_trans I₁.size (Nat.le_of_eq b1.1.symm)) (Nat.le_of_eq b1.1.symm) rfl rfl
    rw [show (none : Option Value) = (if z = z then none else some (.str z u)) from (if_pos rfl).symm]
    exact g z u _ _ N₁ I₂.push.push ((S₁.trans S₂).trans (Step.push.trans .push)) n₁ hk
  · rw [if_neg hz] at hk
    rw [show (!decide (y = z)) = true from by simp [Ne.symm hz], if_pos rfl]
    have := g z u s₁ σ₁ N₁ I₁ S₁ n₁ hk
    rw [if_neg hz] at this
    exact wpAny_pure ⟨_, rfl, wpAny_pure this⟩
/- a for over calls -/
structure ForCall (B : Cx) (d : Nat) (env : Env) (target : Expr) (body rest : List Stmt) (Q : PostS) (it bm f x : Nat) (y : Str) (t : Tok) (J : Nat → Loc → Store → Nat → Prop) (n : Nat) (l : Loc) (σ : Store) (N : Nat) : Prop where
  cit : CIt B σ it bm f x y t
  call : WK B d (.ref f) [.ref x] σ N fun v σ' N' => ∃ z, v = .str z ∧ CIt B σ' it bm f x y t ∧ (if z = y then WX B (d + 1) env l rest (pt σ' it (.obj (citObj .none .none (.bool true)))) N' Q
    else WAs B (d + 1) env l target (.str z) σ' N' fun l₁ σ₁ N₁ => WX B (d + 1) env l₁ body σ₁ N₁ (ForTurn B (d + 1) env rest Q fun l σ N => ∃ m, m < n ∧ J m l σ N))
theorem For_calls {target : Expr} {body rest : List Stmt} {Q : PostS} {it bm f x : Nat} {y : Str} {t : Tok} {n : Nat} {l₀ : Loc} (J : Nat → Loc → Store → Nat → Prop) (ht : ∀ it v, letOwnedTupleGo target it v = pure ()) (hl₀ : LSub l₀ l) (h₀ : J n l₀ σ N)
    (turn : ∀ n l σ N', J n l σ N' → N ≤ N' → ForCall B d env target body rest Q it bm f x y t J n l σ N') : ForAfter B (d + 1) env target body rest Q (.ref it) l σ N := fun A s₁ a k I₁ F₁ r => by
    obtain ⟨_, rfl⟩ := r.inv
    have c₀ := (turn n l₀ σ N h₀ (Nat.le_refl _)).cit
    have hT : s₁.TypeIs (.ref it) "callable_iterator" := ⟨_, I₁.store it _ c₀.it, rfl⟩
    refine wpAny_pyIter_slot hT slot_cit_iter (wpAny_call_entry slot_cit_iter hT entry_cit_iter ?_ (args_cit_iter _))
    show wpAny _ _ (ret (.ref it)) _ _ s₁
    refine wpAny_pure ⟨_, rfl, "callable_iterator", _, hT, slot_cit_next.lookup, ?_⟩
    refine codeAny_forLoop (LI B env σ N s₁.heap J)
      (fun m s' ⟨l', σ', N', hJ, I', S', F', n'⟩ => ?_) n ⟨l₀, σ, N, h₀, I₁, .refl _ _ _, F₁.less hl₀, Nat.le_refl _⟩ (fun v => ht _ v)
    have W := turn m l' σ' N' hJ n'
    refine next_cit (K := fun z _ σ₂ N₂ => if z = y then WX B (d + 1) env l' rest σ₂ N₂ Q else WAs B (d + 1) env l' target (.str z) σ₂ N₂ fun l₁ σ₁ N₁ => WX B (d + 1) env l₁ body σ₁ N₁ (ForTurn B (d + 1) env rest Q fun l σ N => ∃ m', m' < m ∧ J m' l σ N)) W.cit k I'
      (fun A s as k I r => codeAny_mono (W.call A s as k I r) fun r s' q => ?_) fun z u s₂ σ₂ N₂ I₂ S₂ n₂ hk => ?_
    · rcases r with e | (v | _ | _ | _) <;> first | exact q | skip
      obtain ⟨b, σ₁, N₁, rb, I₁, S₁, n₁, z, e, c₁, hz⟩ := q
      refine ⟨b, σ₁, N₁, rb, I₁, S₁, n₁, z, e, c₁, ?_⟩
      by_cases q : z = y
      · rw [if_pos q] at hz ⊢; rw [if_pos q]; exact hz
      · rw [if_neg q] at hz ⊢; rw [if_neg q]; exact hz
    · have S₃ := S'.trans (S₂.toL env.locals)
      by_cases q : z = y
      · rw [if_pos q] at hk ⊢
        exact wpAny_execs_nil ⟨.next, l', σ₂, N₂, .next, I₂, S₃, F'.mono S₂, by exact ar59 n' n₂, hk⟩
      · rw [if_neg q] at hk ⊢
        refine hk A s₂ (.str z u) _ _ k I₂ (F'.mono S₂) (.str _ _) fun s₃ l₃ σ₃ N₃ I₃ S₄ F₃ n₃ h₃ => ?_
        refine bot (h₃ A s₃ k I₃ F₃) fun fl s₄ ⟨w, l₄, σ₄, N₄, rf, I₄, S₅, F₄, n₄, h₄⟩ => ?_
        have S₆ := (S₃.trans S₄).trans S₅
        have n₅ : N ≤ N₄ := by exact ar179 n' n₂ n₃ n₄
        cases rf with
        | next => obtain ⟨l₅, hl₅, m', hm', hj⟩ := h₄; exact ⟨m', hm', l₅, σ₄, N₄, hj, I₄, S₆, F₄.less hl₅, n₅⟩
        | cont => obtain ⟨l₅, hl₅, m', hm', hj⟩ := h₄; exact ⟨m', hm', l₅, σ₄, N₄, hj, I₄, S₆, F₄.less hl₅, n₅⟩
        | brk => exact ⟨.next, l₄, σ₄, N₄, .next, I₄, S₆, F₄, n₅, h₄⟩
        | ret rv => exact ⟨_, l₄, σ₄, N₄, .ret rv, I₄, S₆, F₄, n₅, h₄⟩
end
end
noncomputable section
/- dicts -/
noncomputable abbrev Dk := List (Kx × V)
noncomputable def dget (es : Dk) (k : Kx) : Option V := (es.find? fun kv => kv.1 = k).map (·.2)
noncomputable def dset (es : Dk) (k : Kx) (v : V) : Dk := if es.any (fun kv => kv.1 = k) then es.map (fun kv => if kv.1 = k then (kv.1, v) else kv) else es ++ [(k, v)]
section
variable {B : Cx} {d : Nat} {env : Env} {l : Loc} {σ : Store} {N : Nat} {s : Shared} {a : Nat} {es : Dk} {ep : Nat} {k : Kx}
theorem DRel.get {h : Heap} : ∀ {es : Dk} {kvs : List (Kx × Value)}, DRel B σ h es kvs → match dget es k, valueAt kvs k with | none, none => True | some v, some u => VRel B σ h v u | _, _ => False
  := by
  intro es
  induction es with
  | nil => intro kvs r; rw [r.nil']; trivial
  | cons p es ih =>
    intro kvs r
    obtain ⟨u, y, rfl, hd, tl⟩ := r.cons'
    have := ih tl
    unfold dget valueAt at this ⊢
    rw [List.find?_cons, List.find?_cons]
    by_cases z : p.1 = k
    · simp only [z, decide_true]; exact hd
    · simp only [z, decide_false]; exact this
theorem DRel.some_of {h : Heap} {kvs : List (Kx × Value)} {v : V} (r : DRel B σ h es kvs) (e : dget es k = some v) : ∃ u, valueAt kvs k = some u ∧ VRel B σ h v u := by
  have := r.get (k := k)
  rw [e] at this
  cases q : valueAt kvs k with
  | none => rw [q] at this; exact this.elim
  | some u => rw [q] at this; exact ⟨u, rfl, this⟩
theorem DRel.isSome {h : Heap} {kvs : List (Kx × Value)} (r : DRel B σ h es kvs) : (valueAt kvs k).isSome = (dget es k).isSome := by
  have := r.get (k := k)
  cases q : dget es k <;> cases q' : valueAt kvs k <;> rw [q, q'] at this <;> first | rfl | exact this.elim
theorem DRel.any {h : Heap} : ∀ {es : Dk} {kvs : List (Kx × Value)}, DRel B σ h es kvs → es.any (fun kv => kv.1 = k) = kvs.any (fun kv => kv.1 = k)
  := by
  intro es
  induction es with
  | nil => intro kvs r; rw [r.nil']; rfl
  | cons p es ih => intro kvs r; obtain ⟨u, y, rfl, hd, tl⟩ := r.cons'; rw [List.any_cons, List.any_cons, ih tl]
theorem DRel.mapSet {h : Heap} {v : V} {u : Value} (rv : VRel B σ h v u) : ∀ {es : Dk} {kvs : List (Kx × Value)}, DRel B σ h es kvs → DRel B σ h (es.map fun kv => if kv.1 = k then (kv.1, v) else kv) (kvs.map fun kv => if kv.1 = k then (kv.1, u) else kv)
  := by
  intro es
  induction es with
  | nil => intro kvs r; rw [r.nil']; exact .nil
  | cons p es ih =>
    intro kvs r
    obtain ⟨u, y, rfl, hd, tl⟩ := r.cons'
    rw [List.map_cons, List.map_cons]
    by_cases z : p.1 = k
    · simp only [z, if_true]; exact .cons rv (ih tl)
    · simp only [z, if_false]; exact .cons hd (ih tl)
theorem DRel.app {h : Heap} {es' : Dk} {kvs' : List (Kx × Value)} (q : DRel B σ h es' kvs') : ∀ {es : Dk} {kvs : List (Kx × Value)}, DRel B σ h es kvs → DRel B σ h (es ++ es') (kvs ++ kvs')
  := by
  intro es
  induction es with
  | nil => intro kvs r; rw [r.nil']; exact q
  | cons p es ih => intro kvs r; obtain ⟨u, y, rfl, hd, tl⟩ := r.cons'; exact .cons hd (ih tl)
theorem DRel.set {h : Heap} {kvs : List (Kx × Value)} {v : V} {u : Value} (r : DRel B σ h es kvs) (rv : VRel B σ h v u) : DRel B σ h (dset es k v) (stored kvs k u) := by
  unfold dset stored
  rw [r.any]
  split
  · exact r.mapSet rv
  · exact DRel.app (.cons rv .nil) r
theorem Kx.is_of {h : Heap} {u : Value} (r : VRel B σ h k.v u) : (kxKind B.prog B.w).is k u = true := by
  cases k with
  | s x => obtain ⟨_, rfl⟩ := r.inv; simp [kxKind, Kx.is, Value.isStrOf]
  | i x => obtain ⟨_, rfl⟩ := r.inv; simp [kxKind, Kx.is, Value.isInt]
theorem D_get {u v : V} {Q : Post V} (hs : DictV σ u es) (hv : dget es k = some v) (h : Q v σ N) : W2 B d (VRel B) getItem u k.v σ N Q := fun A s x y hk I r r' => by
  obtain ⟨a, kvs, ep, rfl, _, ho, rl⟩ := hs.at I r
  obtain ⟨u, hu, ru⟩ := rl.some_of hv
  exact wpAny_getItem_of (Kx.is_of r') ho.dictOf.mapOf hu (.here I.toks (.refl _ _) ru h)
theorem D_in {u : V} {Q : Post V} (hs : DictV σ u es) (h : Q (.bool (dget es k).isSome) σ N) : W2 B d (VRel B) (compareOp .In) k.v u σ N Q := fun A s x y hk I r r' => by
  obtain ⟨a, kvs, ep, rfl, hn, ho, rl⟩ := hs.at I r'
  exact wpAny_in_of (Kx.is_of r) hn ho.dictOf.mapOf (.here I.toks (.refl _ _) (by rw [rl.isSome]; exact .bool _) h)
theorem Inv.setDict {h' : Heap} {es' : Dk} {ep' : Nat} {kvs' : List (Kx × Value)} {tk : Nat} (I : Inv B σ N s) (hs : σ a = some (.dict es ep)) (hx : Heap.SameBut a s.heap h') (ho : h'.DictAt (kxKind B.prog B.w) a kvs' ep') (r : DRel B σ s.heap es' kvs') :
    Inv B (pt σ a (.dict es' ep')) N { s with heap := h', toks := tk } ∧ Step σ s.heap (pt σ a (.dict es' ep')) h' := by
  have hi : σ a ≠ none ∨ (s.heap.get? a = none ∧ s.heap.objs.size ≤ a) := .inl (by rw [hs]; nofun)
  have S : Step σ s.heap (pt σ a (.dict es' ep')) h' := .put hx.extBut hi
  exact ⟨Inv.put (s' := { s with heap := h', toks := tk }) I hx.extBut hi ⟨_, ho, r.mono S⟩ (Nat.le_refl _) (I.top a _ hs) (Nat.le_trans I.size (Nat.le_of_eq hx.1.symm)) (Nat.le_of_eq hx.1.symm) rfl rfl, S⟩
theorem D_set {v : V} {Q : Post Unit} (hs : σ a = some (.dict es ep)) (hz : es.length < 2 ^ 20) (h : ∀ ep', Q () (pt σ a (.dict (dset es k v) ep')) N) : W3 B d URel setItem (.ref a) k.v v σ N Q := fun A s x y c hk I r r' rv => by
  obtain ⟨_, rfl⟩ := r.inv
  obtain ⟨kvs, ho, rl⟩ := I.store a _ hs
  refine wpAny_setItem_pairs (Kx.is_of r') ho.dictOf (fun h' ho' hsb => ?_) (by rw [← rl.length, sizeLine_eq]; exact ar60 hz)
  obtain ⟨ep', ho'⟩ := ho'.dictAt
  obtain ⟨I', S'⟩ := I.setDict (tk := s.toks + 1) hs hsb ho' (rl.set rv)
  exact ⟨(), _, N, trivial, I', S', Nat.le_refl _, h ep'⟩
theorem D_getD {u v : V} {Q : Post V} (hs : DictV σ u es) (h : Q ((dget es k).getD v) σ N) : WC B d (.builtin "dict.get") [u, k.v, v] σ N Q := fun A s as hk I r => by
  cases r with | cons r1 r2 => cases r2 with | cons r2 r3 => cases r3 with | cons r3 r4 =>
  cases r4
  rename_i y z
  obtain ⟨a, kvs, ep, rfl, hn, ho, rl⟩ := hs.at I r1
  refine call_meetsIn F.slot_dict_get ho.dictOf.typeIs F.entry_dict_get (F.args_dict_get_3 _ _ _) (meets_dict_get_default (kxKind B.prog B.w) a (Kx.is_of r2) hn z) ⟨_, ho.dictOf.mapOf, ?_⟩
  have := rl.get (k := k)
  cases q : dget es k with
  | none =>
    rw [q] at this h
    cases q' : valueAt kvs k with
    | none => exact .here I.toks (.refl _ _) r3 h
    | some u => rw [q'] at this; exact this.elim
  | some w =>
    rw [q] at this h
    cases q' : valueAt kvs k with
    | none => rw [q'] at this; exact this.elim
    | some u => rw [q'] at this; exact .here I.toks (.refl _ _) this h
/- a new dict: one of the store, or one that nobody changes -/
inductive VDictAt (σ : Store) (N : Nat) (Q : Post V) (es : Dk) (a : Nat) : Prop
  | mut (h : ∀ ep, Q (.ref a) (pt σ a (.dict es ep)) N)
  | froz (h : Q (.dct es) σ N)
theorem VDictAt.ends {h : Heap} {s' : Shared} {σ₁ : Store} {N₁ : Nat} {ep : Nat} {Q : Post V} (x : VDictAt (σ₁.reset σ.fr) N₁ Q es a) (hh : Held B σ₁ s'.heap a (.dict es ep)) (I : Inv B σ₁ N₁ s') (hf : σ₁.fr = (σ.add a).fr) (nf : ¬ σ.fr a) (ha : a < N₁) (S : ∀ b o, h.get? b = some o → σ b = none → s'.heap.get? b = some o ∧ σ₁ b = none) (hne : h.get? a = none) (hN : N ≤ N₁) :
    Ends B (VRel B) σ N h Q (.ref a) s' := by
  have kf : ∀ b, σ.fr b → σ₁.fr b := fun b q => by rw [hf]; exact .inr q
  have I1 := I.own hh.1 hh.2.2 ha
  cases x with
  | «mut» h1 =>
    have e : own σ₁ a (.dict es ep) = pt (σ₁.reset σ.fr) a (.dict es ep) := Store.ext (fun b => rfl) (funext fun b => propext ⟨fun q => by
      have q1 := q.1
      rw [hf] at q1
      exact q1.elim (fun z => absurd z q.2) id, fun q => ⟨kf b q, fun z => nf (z ▸ q)⟩⟩)
    rw [e] at I1
    exact ⟨_, _, N₁, .ref a, I1, ⟨fun b o eo n => by
      have nb : b ≠ a := fun z => by rw [z, hne] at eo; cases eo
      exact ⟨(S b o eo n).1, (pt_ne nb).trans (S b o eo n).2⟩, rfl⟩, hN, h1 ep⟩
  | froz h1 =>
    obtain ⟨kvs, e, q⟩ := hh.1
    exact ⟨_, σ₁.reset σ.fr, N₁, .dct (I1.notSys (if_pos rfl)) e ⟨hh.2.1, nf⟩ (q.pass (.reset kf)), I.reset kf, ⟨S, rfl⟩, hN, h1⟩
theorem Held.new {x : Obj} {o : AObj} {s : Shared} (I : Inv B σ N s) (hr : ORel B (pt σ s.heap.objs.size o) (s.heap.push x) s.heap.objs.size o) :
    Held B (σ.add s.heap.objs.size) (s.heap.push x) s.heap.objs.size o ∧ Inv B (σ.add s.heap.objs.size) (s.heap.objs.size + 1) { s with heap := s.heap.push x } := by
  have I1 := I.new hr
  have e0 : disown (pt σ s.heap.objs.size o) s.heap.objs.size = σ.add s.heap.objs.size := Store.ext (fun b => by
    by_cases z : b = s.heap.objs.size
    · subst z; exact (if_pos rfl : disown _ _ _ = none).trans I.fresh.symm
    · exact (if_neg z : disown _ _ b = _).trans (pt_ne z)) rfl
  have I2 := I1.disown (pt_same _ _ _)
  rw [e0] at I2
  have P := Pass.disown (h := s.heap.push x) (pt_same σ s.heap.objs.size o)
  rw [e0] at P
  exact ⟨⟨hr.pass P fun _ q => q, I.fresh, .inl rfl⟩, I2⟩
theorem WE_dict0 {pos : Pos} {Q : Post V} (h : ∀ a, N ≤ a → VDictAt σ (a + 1) Q [] a) : WE B d env l (.Dict [] [] pos) σ N Q := fun A s k I F => by
  rw [eval_Dict_empty]
  refine wpAny_bind (wpAny_standAt ?_)
  obtain ⟨ep, hd⟩ := (Heap.DictOf.new (knd := kxKind B.prog B.w) s.heap).dictAt
  obtain ⟨h1, h2⟩ := Held.new (o := .dict [] ep) I ⟨[], hd, .nil⟩
  exact wpAny_newObj_type (VDictAt.ends (σ₁ := σ.add s.heap.objs.size) (h _ I.size) h1 h2 rfl I.free.2 (Nat.lt_succ_self _) (fun b o e n => ⟨Heap.get?_push_of_some _ e, n⟩) (get_fresh _) (Nat.le_succ_of_le I.size)) (by size_fits)
noncomputable def dmerge (es more : Dk) : Dk := more.foldl (fun acc kv => dset acc kv.1 kv.2) es
theorem DRel.merge {h : Heap} : ∀ {more : Dk} {kvs' : List (Kx × Value)} {es : Dk} {kvs : List (Kx × Value)}, DRel B σ h es kvs → DRel B σ h more kvs' → DRel B σ h (dmerge es more) (merged kvs kvs') := by
  intro more
  induction more with
  | nil => intro kvs' es kvs r q; rw [q.nil']; exact r
  | cons p m ih =>
    intro kvs' es kvs r q
    obtain ⟨u, y, rfl, hd, tl⟩ := q.cons'
    exact ih (es := dset es p.1 p.2) (kvs := stored kvs p.1 u) (r.set hd) tl
/- pairs, evaluated -/
inductive PRel (B : Cx) (σ : Store) (h : Heap) : List (V × V) → List (Value × Value) → Prop
  | nil : PRel B σ h [] []
  | cons {k v : V} {a b : Value} {xs : List (V × V)} {ys : List (Value × Value)} (hk : VRel B σ h k a) (hv : VRel B σ h v b) (tl : PRel B σ h xs ys) : PRel B σ h ((k, v) :: xs) ((a, b) :: ys)
noncomputable def kvV (es : Dk) : List (V × V) := es.map fun p => (p.1.v, p.2)
theorem PRel.carries {h : Heap} {es : Dk} : ∀ {ys : List (Value × Value)}, PRel B σ h (kvV es) ys → ∃ kvs, Carries (kxKind B.prog B.w) ys kvs ∧ DRel B σ h es kvs := by
  induction es with
  | nil => intro ys r; cases r; exact ⟨[], trivial, .nil⟩
  | cons p es ih =>
    intro ys r
    cases r with | cons hk hv tl => obtain ⟨kvs, c, r⟩ := ih tl; exact ⟨(p.1, _) :: kvs, ⟨Kx.is_of hk, rfl, c⟩, .cons hv r⟩
noncomputable abbrev WPs (B : Cx) (d : Nat) (env : Env) (l : Loc) (pos : Pos) (ps : List (Expr × Expr)) (σ : Store) (N : Nat) (Q : Post (List (V × V))) : Prop :=
  WF B d env l (PRel B) (evalPairs (ps.map fun p => (eval p.1 env, do let x ← eval p.2 env; standAt pos; pure x))) σ N Q
theorem Ps_nil {pos : Pos} {Q : Post (List (V × V))} (h : Q [] σ N) : WPs B d env l pos [] σ N Q := fun A s k I F => evalPairs_nil (.here I (.refl _ _) .nil h)
theorem Ps_cons {pos : Pos} {x y : Expr} {ps : List (Expr × Expr)} {Q : Post (List (V × V))} (h : WE B d env l x σ N fun u σ₁ N₁ => WE B d env l y σ₁ N₁ fun v σ₂ N₂ => WPs B d env l pos ps σ₂ N₂ fun r σ₃ N₃ => Q ((u, v) :: r) σ₃ N₃) : WPs B d env l pos ((x, y) :: ps) σ N Q :=
  fun A s k I F => evalPairs_cons (h.seq (ρ' := VRel B) k I F fun a u σ₁ N₁ s₁ r I₁ F₁ S₁ n₁ h₁ => wpAny_bind (h₁.seq (ρ' := VRel B) k I₁ F₁ fun b v σ₂ N₂ s₂ r₂ I₂ F₂ S₂ n₂ h₂ => wpAny_bind (wpAny_standAt (wpAny_pure
    (bot (h₂ A s₂ k I₂ F₂) fun _ s₃ ⟨rs, σ₃, N₃, r₃, I₃, S₃, n₃, h₃⟩ => ⟨_, σ₃, N₃, .cons ((r.mono S₂).mono S₃) (r₂.mono S₃) r₃, I₃, (S₁.trans S₂).trans S₃, Nat.le_trans (Nat.le_trans n₁ n₂) n₃, h₃⟩)))))
theorem zip_shape (env : Env) (pos : Pos) : ∀ (ps : List (Expr × Expr)), (evalEachOpt (ps.map fun p => some p.1) env).zip ((evalEach (ps.map (·.2)) env).map fun v => (do let x ← v; standAt pos; pure x : Sem Value)) = (ps.map fun p => (eval p.1 env, (do let x ← eval p.2 env; standAt pos; pure x : Sem Value))).map fun p => (some p.1, p.2)
  | [] => rfl
  | p :: ps => by
    exact congrArg (List.cons (some (eval p.1 env), (do let x ← eval p.2 env; standAt pos; pure x : Sem Value))) (zip_shape env pos ps)
theorem WE_dict {ps : List (Expr × Expr)} {pos : Pos} {Q : Post V} (h0 : ps ≠ []) (hz : ps.length ≤ 15)
    (h : ∀ a, N ≤ a → WPs B d env l pos ps (σ.add a) (a + 1) fun kvs σ₁ N₁ => ∃ es : Dk, kvs = kvV es ∧ VDictAt (σ₁.reset σ.fr) N₁ Q (dmerge [] es) a) :
    WE B d env l (.Dict (ps.map fun p => some p.1) (ps.map (·.2)) pos) σ N Q := fun A s k I F => by
  obtain ⟨ep, hd⟩ := (Heap.DictOf.new (knd := kxKind B.prog B.w) s.heap).dictAt
  obtain ⟨H₀, I₀⟩ := Held.new (x := emptyDict) (o := .dict [] ep) I ⟨[], hd, .nil⟩
  have F₀ : FRel B env l (σ.add s.heap.objs.size) (s.heap.push emptyDict) := by
    obtain ⟨mm, ⟨oo, es, ep, he, hr⟩, km⟩ := F.ns
    exact ⟨F.out, F.new, .inr F.mark, mm, ⟨oo, es, ep, Heap.get?_push_of_some _ he, hr⟩, fun y u e => let ⟨b, q1, q2⟩ := km y u e; ⟨b, q1, (q2.pass (.add (get_fresh _))).mono .push⟩⟩
  refine wpAny_Dict_pairs (knd := kxKind B.prog B.w) (zip_shape env pos ps) (fun q => h0 (List.map_eq_nil_iff.mp q)) (by rw [List.length_map]; exact hz) ?_
  refine bot (h s.heap.objs.size I.size A _ k I₀ F₀) fun vs s₁ ⟨kv, σ₁, N₁, r, I₁, S₁, n₁, es, e, h₁⟩ => ?_
  subst e
  obtain ⟨kvs, c, rd⟩ := PRel.carries (B := B) r
  have H₁ := H₀.step S₁
  have hlt : s.heap.objs.size < N₁ := n₁
  have I3 := I₁.own H₁.1 H₁.2.2 hlt
  have hs : own σ₁ s.heap.objs.size (.dict [] ep) s.heap.objs.size = some (.dict [] ep) := if_pos rfl
  obtain ⟨kvs₀, ho, r₀⟩ := I3.store _ _ hs
  cases r₀
  refine ⟨kvs, c, ho.dictOf, fun h' hd' hsb => ?_⟩
  obtain ⟨ep', hd'⟩ := hd'.dictAt
  obtain ⟨I₂, S₂⟩ := I3.setDict (tk := s₁.toks + vs.length) hs hsb hd' (DRel.merge .nil (rd.pass (.own H₁.2.2)))
  obtain ⟨z1, z2, z3⟩ := H₁.call (ρ := VRel B) (s' := { s₁ with heap := h', toks := s₁.toks + vs.length }) rfl I₂ S₂
  exact h₁.ends z1 z2 S₁.fr I.free.2 hlt (fun b o eo n => by
    have nb : b ≠ s.heap.objs.size := fun z => by rw [z, get_fresh] at eo; cases eo
    have w1 := S₁.keep b o (Heap.get?_push_of_some _ eo) n
    exact z3.keep b o nb w1.1 w1.2) (get_fresh _) (Nat.le_trans (Nat.le_succ_of_le I.size) n₁)
/- dict comprehensions -/
noncomputable def dictAct (kx vx : Expr) (a : Nat) (env : Env) : Sem Unit := do
  let kv ← eval kx env
  let vv ← holding [kv] (eval vx env)
  standAt { kx.pos with endLine := vx.pos.endLine, endCol := vx.pos.endCol }
  holding [kv, vv] (dictSet a kv vv)
theorem ck_dict (kx vx target iter : Expr) (ifs : List Expr) (scope : Scope) (pos : Pos) : CK (.DictComp kx vx [⟨target, iter, ifs, 0⟩] scope pos) target iter ifs (dictAct kx vx) :=
  ⟨rfl, fun it a env => compTurn_dict _ _ _ _ _ _ _ _ _ _, fun {prog w A R s it a env} I h n h0 => codeAny_loop rfl I (fun n s hI => by
    show wpAny _ A ((compTurn (.DictComp kx vx [⟨target, iter, ifs, 0⟩] scope pos) 0 it (.ref a) env).onRaise (fun x => do noteFrame x env; theTreesLotGoes x)) _ _ s
    exact wpAny_noted (bot (h n s hI) fun _ _ x => x)) n h0, codeAny_compStart_dict⟩
theorem mk_dict {Q : Post V} (h : ∀ a, N ≤ a → Q (.ref a) (pt σ a (.dict [] 0)) (a + 1)) : W0 B d (VRel B) newDict σ N Q := fun A s k I => by
  obtain ⟨o, es, ep, e, hx, hd, r⟩ := Heap.DictOf.new (knd := kxKind B.prog B.w) s.heap
  have e' : (s.heap.push emptyDict).get? s.heap.objs.size = some emptyDict := Heap.get?_push_size _ rfl
  rw [e'] at e
  cases e
  cases hd
  exact wpAny_newObj_type ⟨.ref s.heap.objs.size, pt σ s.heap.objs.size (.dict [] 0), s.heap.objs.size + 1, .ref _,
    I.new ⟨[], ⟨_, _, e', hx, rfl, r⟩, .nil⟩, .new, Nat.le_succ_of_le I.size, h _ I.size⟩ (by size_fits)
theorem act_dict {kx vx : Expr} {es : Dk} {ep : Nat} {K : AObj → Store → Nat → Prop} (hz : es.length < 2 ^ 20) (h : WE B d env l kx σ N fun u σ₁ N₁ => WE B d env l vx σ₁ N₁ fun v σ₂ N₂ => ∃ k, u = Kx.v k ∧ ∀ ep', K (.dict (dset es k v) ep') σ₂ N₂) :
    WAct B d env l (dictAct kx vx a env) a (.dict es ep) σ N K := fun A s hk I F hh ha hne =>
  wpAny_bind (h.seq (ρ' := VRel B) hk I F fun x u σ₁ N₁ s₁ r I₁ F₁ S₁ n₁ h₁ => wpAny_bind (wpAny_holding (h₁.seq (ρ' := VRel B) hk I₁ F₁ fun y v σ₂ N₂ s₂ r₂ I₂ F₂ S₂ n₂ ⟨k, e, h₂⟩ => wpAny_bind (wpAny_standAt (wpAny_holding (by
    subst e
    have h1 := (hh.step S₁).step S₂
    have I3 := I₂.own h1.1 h1.2.2 (by exact ar180 ha n₁ n₂)
    have hs : own σ₂ a (.dict es ep) a = some (.dict es ep) := if_pos rfl
    obtain ⟨kvs, ho, rl⟩ := I3.store a _ hs
    refine wpAny_dictSet_pairs (Kx.is_of (r.mono S₂)) ho.dictOf (fun h' ho' hsb => ?_) (by rw [← rl.length, sizeLine_eq]; exact ar60 hz)
    obtain ⟨ep', ho'⟩ := ho'.dictAt
    obtain ⟨I', S'⟩ := I3.setDict (tk := s₂.toks + 1) hs hsb ho' (rl.set (r₂.pass (.own h1.2.2)))
    obtain ⟨z1, z2, z3⟩ := h1.call (ρ := VRel B) rfl I' S'
    exact ⟨_, σ₂, N₂, z1, z2, ((S₁.trans S₂).toL a).trans z3, F₂.stepL z3 hne h1.2.2, by exact ar59 n₁ n₂, h₂ ep'⟩))))))
end
end
noncomputable section
/- dicts, walked -/
theorem slot_kit_iter : Slot "dict_keyiterator" "__iter__" "dict_keyiterator.__iter__" :=
  .of (owner := "dict_keyiterator") (n := "__iter__") (by rw [typeLookup_type, builtinLookup_eq_fast]; kernel_rfl) (by decide +kernel) (by decide +kernel) (by decide +kernel)
    (by first | exact .inl (by decide +kernel) | exact .inr (by decide +kernel)) (by rw [isSubtype_type]; kernel_rfl)
theorem entry_kit_iter : entryFor table "dict_keyiterator.__iter__" = some Builtin.«dict_keyiterator.__iter__» := entryFor_of_tree (by kernel_rfl)
theorem args_kit_iter (a : Value) : argsOk "dict_keyiterator.__iter__" ⟨[a], []⟩ := by unfold argsOk; kernel_rfl
theorem look_kit_next : typeLookup (.type "dict_keyiterator") "__next__" = pure (some (.builtin "dict_keyiterator.__next__")) := by rw [typeLookup_type, builtinLookup_eq_fast]; kernel_rfl
theorem slot_vit_iter : Slot "dict_valueiterator" "__iter__" "dict_valueiterator.__iter__" :=
  .of (owner := "dict_valueiterator") (n := "__iter__") (by rw [typeLookup_type, builtinLookup_eq_fast]; kernel_rfl) (by decide +kernel) (by decide +kernel) (by decide +kernel)
    (by first | exact .inl (by decide +kernel) | exact .inr (by decide +kernel)) (by rw [isSubtype_type]; kernel_rfl)
theorem entry_vit_iter : entryFor table "dict_valueiterator.__iter__" = some Builtin.«dict_keyiterator.__iter__» :=
  entryFor_alias (id' := "dict_keyiterator.__iter__") (by kernel_rfl) rfl (by decide +kernel) (by kernel_rfl)
theorem args_vit_iter (a : Value) : argsOk "dict_valueiterator.__iter__" ⟨[a], []⟩ := by unfold argsOk; kernel_rfl
theorem look_vit_next : typeLookup (.type "dict_valueiterator") "__next__" = pure (some (.builtin "dict_valueiterator.__next__")) := by rw [typeLookup_type, builtinLookup_eq_fast]; kernel_rfl
theorem slot_iit_iter : Slot "dict_itemiterator" "__iter__" "dict_itemiterator.__iter__" :=
  .of (owner := "dict_itemiterator") (n := "__iter__") (by rw [typeLookup_type, builtinLookup_eq_fast]; kernel_rfl) (by decide +kernel) (by decide +kernel) (by decide +kernel)
    (by first | exact .inl (by decide +kernel) | exact .inr (by decide +kernel)) (by rw [isSubtype_type]; kernel_rfl)
theorem entry_iit_iter : entryFor table "dict_itemiterator.__iter__" = some Builtin.«dict_keyiterator.__iter__» :=
  entryFor_alias (id' := "dict_keyiterator.__iter__") (by kernel_rfl) rfl (by decide +kernel) (by kernel_rfl)
theorem args_iit_iter (a : Value) : argsOk "dict_itemiterator.__iter__" ⟨[a], []⟩ := by unfold argsOk; kernel_rfl
theorem look_iit_next : typeLookup (.type "dict_itemiterator") "__next__" = pure (some (.builtin "dict_itemiterator.__next__")) := by rw [typeLookup_type, builtinLookup_eq_fast]; kernel_rfl
/- a dict to be walked -/
inductive DictW (σ : Store) : V → Dk → (Store → Prop) → Prop
  | ref {a : Nat} {es : Dk} {ep : Nat} (h : σ a = some (.dict es ep)) : DictW σ (.ref a) es (fun σ => σ a = some (.dict es ep))
  | dct (es : Dk) : DictW σ (.dct es) es (fun _ => True)
section
variable {B : Cx} {d : Nat} {env : Env} {l : Loc} {σ : Store} {N : Nat} {s : Shared} {a : Nat} {es : Dk} {ep : Nat}
theorem DRel.at {h : Heap} {es : Dk} {kvs : List (Kx × Value)} (r : DRel B σ h es kvs) {i : Nat} {p : Kx × V} (e : es[i]? = some p) : ∃ u, kvs[i]? = some (p.1, u) ∧ VRel B σ h p.2 u := by
  induction es generalizing kvs i with
  | nil => cases e
  | cons q es ih =>
    obtain ⟨u, y, rfl, hd, tl⟩ := r.cons'
    cases i with
    | zero => cases e; exact ⟨_, rfl, hd⟩
    | succ i => exact ih tl e
theorem Kx.of_is {h : Heap} {k : Kx} {u : Value} (e : (kxKind B.prog B.w).is k u = true) : VRel B σ h k.v u := by
  cases k with
  | s x => obtain ⟨t, rfl⟩ := Value.isStrOf_shape e; exact .str _ _
  | i x => obtain ⟨t, rfl⟩ := Value.isInt_shape e; exact .int _ _
theorem dk_some {i : Nat} (h : i < es.length) : es[i]? = some (es.getD i (.i 0, .none)) := by rw [List.getD_eq_getElem?_getD, List.getElem?_eq_getElem h]; rfl
theorem DictW.at {D : Store → Prop} {u : V} {x : Value} (t : DictW σ u es D) (I : Inv B σ N s) (r : VRel B σ s.heap u x) : ∃ a kvs ep, x = .ref a ∧ (a == sysModules) = false ∧ s.heap.DictAt (kxKind B.prog B.w) a kvs ep ∧ DRel B σ s.heap es kvs ∧
    ∀ {σ' : Store} {N' : Nat} {s' : Shared}, D σ' → Inv B σ' N' s' → Pass σ s.heap σ' s'.heap → ∃ kvs', s'.heap.DictAt (kxKind B.prog B.w) a kvs' ep ∧ DRel B σ' s'.heap es kvs' := by
  cases t with
  | ref h =>
    obtain ⟨_, rfl⟩ := r.inv
    obtain ⟨kvs, e, q⟩ := I.store _ _ h
    exact ⟨_, kvs, _, rfl, I.notSys h, e, q, fun hd I' _ => I'.store _ _ hd⟩
  | dct =>
    obtain ⟨_, _, _, rfl, hn, e, hs, q⟩ := r.inv
    exact ⟨_, _, _, rfl, hn, e, q, fun _ I' P => ⟨_, (P.dict e hs).1, q.pass P⟩⟩
theorem DictW.dep {D : Store → Prop} {u : V} (t : DictW σ u es D) : D σ := by
  cases t with
  | ref h => exact h
  | dct => trivial
theorem iter_keys {many : Bool} {u : V} {D : Store → Prop} (hs : DictW σ u es D) : IterOk B many u σ es.length (fun i => (es.getD i (.i 0, .none)).1.v) D :=
  ⟨hs.dep, fun A s N v R E hh I r k => by
    obtain ⟨a, kvs, ep, rfl, hn, ho, rl, W⟩ := hs.at I r
    refine wpAny_pyIter_dict hn ho (k _ (fun i h => h.IsKeyIter s.heap.objs.size a i es.length ep) ⟨?_, ?_, ?_, ?_, ?_⟩ ?_)
    · exact fun i h h' ⟨o, e, r⟩ k => ⟨o, k o e, r⟩
    · exact fun i h ⟨o, e, hc, r⟩ => ⟨fun o' e' f => by rw [e] at e'; cases e'; exact not_frozen hc (by decide) f, o, e⟩
    · intro i A s R E st q
      refine wpAny_pyIter_slot st.typeIs slot_kit_iter (wpAny_call_entry slot_kit_iter st.typeIs entry_kit_iter ?_ (args_kit_iter _))
      show wpAny _ _ (ret (.ref _)) _ _ s
      exact wpAny_pure ⟨_, rfl, "dict_keyiterator", _, st.typeIs, look_kit_next, q⟩
    · intro target _ i A s' σ' N' R E hi hh hd I' rx hou st q
      obtain ⟨kvs', ho', rl'⟩ := W hd I' rx
      obtain ⟨u, hu, ru⟩ := rl'.at (dk_some hi)
      rw [rl'.length] at st
      refine wpAny_pyNext_dict_item st ho' hu fun key h' hk st' hsb => ⟨key, rfl, ?_⟩
      rw [← rl'.length] at st'
      obtain ⟨o, e, hc, r⟩ := id st'
      exact go_any (Q := R key) e hc (by decide) (q key h' s'.toks (Kx.of_is hk) st' hsb.extBut)
    · intro A s' σ' N' R E hh hd I' rx st q
      obtain ⟨kvs', ho', rl'⟩ := W hd I' rx
      rw [rl'.length] at st
      exact wpAny_pyNext_dict_end hh st ho' (List.getElem?_eq_none (Nat.le_refl _)) fun h' hx => q h' s'.toks hx
    · rw [rl.length]
      exact ⟨_, Heap.get?_push_size _ rfl, rfl, rfl⟩⟩
/- `values()`, `items()` of a dict that nobody changes any more, or of one of the store -/
theorem C_valuesF {Q : Post V} (h : Q (.view "dict_values" es) σ N) : WC B d (.builtin "dict.values") [.dct es] σ N Q := fun A s as k I r => by
  obtain ⟨_, _, rfl, r1, r2⟩ := r.cons'
  obtain rfl := r2.nil'; obtain ⟨_, _, _, rfl, hn, ho, hs, rl⟩ := r1.inv
  exact call_meetsIn F.slot_dict_values ho.dictOf.typeIs F.entry_dict_values (F.args_dict_values_1 _) (meets_dict_values (kxKind B.prog B.w) _ hn) ⟨⟨_, ho.dictOf⟩, .here I.push .push (.view (.tail _ (.head _)) (Heap.get?_push_size _ rfl) I.free hn (ho.keep fun b o e => Heap.get?_push_of_some _ e) hs (rl.mono .push)) h⟩
theorem C_itemsF {Q : Post V} (h : Q (.view "dict_items" es) σ N) : WC B d (.builtin "dict.items") [.dct es] σ N Q := fun A s as k I r => by
  obtain ⟨_, _, rfl, r1, r2⟩ := r.cons'
  obtain rfl := r2.nil'; obtain ⟨_, _, _, rfl, hn, ho, hs, rl⟩ := r1.inv
  exact call_meetsIn F.slot_dict_items ho.dictOf.typeIs F.entry_dict_items (F.args_dict_items_1 _) (meets_dict_items (kxKind B.prog B.w) _ hn) ⟨⟨_, ho.dictOf⟩, .here I.push .push (.view (.head _) (Heap.get?_push_size _ rfl) I.free hn (ho.keep fun b o e => Heap.get?_push_of_some _ e) hs (rl.mono .push)) h⟩
/- a view to be walked -/
inductive ViewW (σ : Store) (T : String) : V → Dk → (Store → Prop) → Prop
  | ref {a : Nat} {es : Dk} {ep : Nat} (h : σ a = some (.dict es ep)) : ViewW σ T (.imm (viewObj T a)) es (fun σ => σ a = some (.dict es ep))
  | view (es : Dk) : ViewW σ T (.view T es) es (fun _ => True)
theorem ViewW.at {T : String} {D : Store → Prop} {u : V} {x : Value} (t : ViewW σ T u es D) (I : Inv B σ N s) (r : VRel B σ s.heap u x) : ∃ b a kvs ep, x = .ref b ∧ s.heap.get? b = some (viewObj T a) ∧ s.heap.DictAt (kxKind B.prog B.w) a kvs ep ∧ DRel B σ s.heap es kvs ∧
    ∀ {σ' : Store} {N' : Nat} {s' : Shared}, D σ' → Inv B σ' N' s' → Pass σ s.heap σ' s'.heap → ∃ kvs', s'.heap.DictAt (kxKind B.prog B.w) a kvs' ep ∧ DRel B σ' s'.heap es kvs' := by
  cases t with
  | ref h =>
    cases r with | imm hv _ _ =>
    obtain ⟨kvs, e, q⟩ := I.store _ _ h
    exact ⟨_, _, kvs, _, rfl, hv, e, q, fun hd I' _ => I'.store _ _ hd⟩
  | view =>
    cases r with | view hT hb hb' hn e hs q =>
    exact ⟨_, _, _, _, rfl, hb, e, q, fun _ I' P => ⟨_, (P.dict e hs).1, q.pass P⟩⟩
theorem ViewW.dep {T : String} {D : Store → Prop} {u : V} (t : ViewW σ T u es D) : D σ := by
  cases t with
  | ref h => exact h
  | view => trivial
theorem iter_values {many : Bool} {u : V} {D : Store → Prop} (hs : ViewW σ "dict_values" u es D) : IterOk B many u σ es.length (fun i => (es.getD i (.i 0, .none)).2) D :=
  ⟨hs.dep, fun A s N v R E hh I r k => by
    obtain ⟨b, a, kvs, ep, rfl, hv, ho, rl, W⟩ := hs.at I r
    refine wpAny_pyIter_values ⟨_, hv, rfl, rfl⟩ ho (k _ (fun i h => h.IsValIter s.heap.objs.size a i es.length ep) ⟨?_, ?_, ?_, ?_, ?_⟩ ?_)
    · exact fun i h h' ⟨o, e, r⟩ k => ⟨o, k o e, r⟩
    · exact fun i h ⟨o, e, hc, r⟩ => ⟨fun o' e' f => by rw [e] at e'; cases e'; exact not_frozen hc (by decide) f, o, e⟩
    · intro i A s R E st q
      refine wpAny_pyIter_slot st.typeIs slot_vit_iter (wpAny_call_entry slot_vit_iter st.typeIs entry_vit_iter ?_ (args_vit_iter _))
      show wpAny _ _ (ret (.ref _)) _ _ s
      exact wpAny_pure ⟨_, rfl, "dict_valueiterator", _, st.typeIs, look_vit_next, q⟩
    · intro target _ i A s' σ' N' R E hi hh hd I' rx hou st q
      obtain ⟨kvs', ho', rl'⟩ := W hd I' rx
      obtain ⟨u, hu, ru⟩ := rl'.at (dk_some hi)
      have hN : NoTup σ' s.heap.objs.size s'.heap := by obtain ⟨o, e, hc, r⟩ := st; exact .inr fun o' e' f => by rw [e] at e'; cases e'; exact not_frozen hc (by decide) f
      rw [rl'.length] at st
      refine wpAny_pyNext_values_item st ho' hu fun h' st' hsb => ⟨u, rfl, ?_⟩
      rw [← rl'.length] at st'
      obtain ⟨o, e, hc, r⟩ := id st'
      exact go_any (Q := R u) e hc (by decide) (q u h' s'.toks (ru.pass (StepL.pass (.of_ext hsb.extBut hou) hN)) st' hsb.extBut)
    · intro A s' σ' N' R E hh hd I' rx st q
      obtain ⟨kvs', ho', rl'⟩ := W hd I' rx
      rw [rl'.length] at st
      exact wpAny_pyNext_values_end hh st ho' (List.getElem?_eq_none (Nat.le_refl _)) fun h' hx => q h' s'.toks hx
    · rw [rl.length]
      exact ⟨_, Heap.get?_push_size _ rfl, rfl, rfl⟩⟩
theorem iter_items {u : V} {D : Store → Prop} (hs : ViewW σ "dict_items" u es D) : IterOk B true u σ es.length (fun i => .tup [(es.getD i (.i 0, .none)).1.v, (es.getD i (.i 0, .none)).2]) D :=
  ⟨hs.dep, fun A s N v R E hh I r k => by
    obtain ⟨b, a, kvs, ep, rfl, hv, ho, rl, W⟩ := hs.at I r
    refine wpAny_pyIter_items ⟨_, hv, rfl, rfl⟩ ho (k _ (fun i h => ∃ ok ov, IsItemIter h s.heap.objs.size a i es.length ep ok ov) ⟨?_, ?_, ?_, ?_, ?_⟩ ?_)
    · exact fun i h h' ⟨ok, ov, e⟩ k => ⟨ok, ov, k _ e⟩
    · exact fun i h ⟨ok, ov, e⟩ => ⟨fun o' e' f => by rw [show h.get? s.heap.objs.size = _ from e] at e'; cases e'; exact not_frozen rfl (by decide) f, _, e⟩
    · rintro i A s' R E ⟨ok, ov, e⟩ q
      have hT : s'.TypeIs (.ref s.heap.objs.size) "dict_itemiterator" := ⟨_, e, rfl⟩
      refine wpAny_pyIter_slot hT slot_iit_iter (wpAny_call_entry slot_iit_iter hT entry_iit_iter ?_ (args_iit_iter _))
      show wpAny _ _ (ret (.ref _)) _ _ s'
      exact wpAny_pure ⟨_, rfl, "dict_itemiterator", _, hT, look_iit_next, q⟩
    · rintro target hm i A s' σ' N' R E hi hh hd I' rx hou ⟨ok, ov, st⟩ q
      obtain ⟨kvs', ho', rl'⟩ := W hd I' rx
      obtain ⟨u, hu, ru⟩ := rl'.at (dk_some hi)
      rw [rl'.length] at st
      have hN : NoTup σ' s.heap.objs.size s'.heap := .inr fun o' e' f => by rw [show s'.heap.get? s.heap.objs.size = _ from st] at e'; cases e'; exact not_frozen rfl (by decide) f
      refine wpAny_pyNext_items_item st ho' hu fun key h' hk st' ht hz hkp => ⟨_, rfl, ?_⟩
      have hlt : s.heap.objs.size < s'.heap.objs.size := Heap.lt_size st
      have go : ∀ ts x1 tp, wpAny (model B.prog B.w) A (letOwnedTupleGo (.Tuple ts x1 tp) (.ref s.heap.objs.size) (.ref s'.heap.objs.size)) (fun _ s₂ => R (.ref s'.heap.objs.size) s₂) E { s' with heap := h' } := fun ts x1 tp => by
        refine wpAny_letOwnedTupleGo_items st' fun h₂ st₂ hsb => ?_
        have x2 : Heap.ExtBut s.heap.objs.size s'.heap h₂ := fun b o nb e => by
          rw [hsb.2 b nb]; exact hkp b o nb e
        have SL : StepL s.heap.objs.size σ' s'.heap σ' h₂ := .of_ext x2 hou
        refine q _ h₂ s'.toks (.tup (n := 0) (items := #[key, u]) ((hsb.2 _ (Nat.ne_of_gt hlt)).trans ht) I'.free (.cons (Kx.of_is hk) (.cons (ru.pass (StepL.pass SL hN)) .nil))) ?_ x2
        rw [← rl'.length] at st₂
        exact ⟨_, _, st₂⟩
      cases target with
      | Tuple ts x1 tp => exact go ts x1 tp
      | List ts tp => exact go ts 0 tp
      | _ => cases hm
    · rintro A s' σ' N' R E hh hd I' rx ⟨ok, ov, st⟩ q
      obtain ⟨kvs', ho', rl'⟩ := W hd I' rx
      rw [rl'.length] at st
      exact wpAny_pyNext_items_end hh st ho' (List.getElem?_eq_none (Nat.le_refl _)) fun h' hx => q h' s'.toks hx
    · rw [rl.length]
      exact ⟨_, _, Heap.get?_push_size _ rfl⟩⟩
end
end
noncomputable section
/- tuples taken apart -/
noncomputable def noStar : List Expr → Bool
  | [] => true
  | .Starred _ _ :: _ => false
  | _ :: r => noStar r
section
variable {B : Cx} {d : Nat} {env : Env} {σ : Store} {N : Nat}
noncomputable def WAsL (B : Cx) (d : Nat) (env : Env) : List Expr → List V → Loc → Store → Nat → (Loc → Store → Nat → Prop) → Prop
  | [], [], l, σ, N, K => K l σ N
  | t :: ts, v :: vs, l, σ, N, K => WAs B d env l t v σ N fun l' σ' N' => WAsL B d env ts vs l' σ' N' K
  | _, _, _, _, _, _ => False
theorem noStar_each {t : Expr} {ts : List Expr} (hn : noStar (t :: ts) = true) : assignEach (t :: ts) env = (false, assign t env) :: assignEach ts env ∧ noStar ts = true := by
  cases t <;> first | exact ⟨rfl, hn⟩ | cases hn
theorem WAsL_in {A : Around} {R : Unit → Shared → Prop} {E : Value → Shared → Prop} {K : Loc → Store → Nat → Prop} (k : Ok d A) (ts : List Expr) : ∀ (vs : List V) (as : List Value) (l : Loc) (σ : Store) (N : Nat) (s : Shared), noStar ts = true → WAsL B d env ts vs l σ N K → Inv B σ N s → FRel B env l σ s.heap → VRelL B σ s.heap vs as →
    (∀ s' l' σ' N', Inv B σ' N' s' → StepL env.locals σ s.heap σ' s'.heap → FRel B env l' σ' s'.heap → N ≤ N' → K l' σ' N' → R () s') → wpAny (model B.prog B.w) A (assignInOrder ((assignEach ts env).map (·.2)) as) R E s := by
  induction ts with
  | nil =>
    intro vs as l σ N s hn h I F rs q
    cases rs with
    | nil => exact wpAny_pure (q s l σ N I (.refl _ _ _) F (Nat.le_refl _) h)
    | cons => exact h.elim
  | cons t ts ih =>
    intro vs as l σ N s hn h I F rs q
    cases rs with
    | nil => exact h.elim
    | cons r rs =>
      rename_i y _ ys
      have e := noStar_each (env := env) hn
      rw [e.1]
      show wpAny _ _ (do holding ys (assign t env y); assignInOrder ((assignEach ts env).map (·.2)) ys) _ _ _
      refine wpAny_bind (wpAny_holding (h A s y _ _ k I F r fun s₁ l₁ σ₁ N₁ I₁ S₁ F₁ n₁ h₁ => ?_))
      exact ih _ _ _ _ _ _ e.2 h₁ I₁ F₁ (rs.pass (S₁.pass F.noTup)) fun s' l' σ' N' I' S' F' n' h' => q s' l' σ' N' I' (S₁.trans S') F' (Nat.le_trans n₁ n') h'
theorem assignEach_star (ts : List Expr) : noStar ts = true → (assignEach ts env).length = ts.length ∧ (assignEach ts env).findIdx? (·.1) = none := by
  induction ts with
  | nil => exact fun _ => ⟨rfl, rfl⟩
  | cons t ts ih =>
    intro hn
    have e := noStar_each (env := env) hn
    obtain ⟨h1, h2⟩ := ih e.2
    rw [e.1]
    refine ⟨by rw [List.length_cons, List.length_cons, h1], ?_⟩
    rw [List.findIdx?_cons, h2]; rfl
theorem A_tuple {l : Loc} {ts : List Expr} {vs : List V} {x1 : Nat} {pos : Pos} {K : Loc → Store → Nat → Prop} (hn : noStar ts = true) (hl : ts.length = vs.length) (h : WAsL B d env ts vs l σ N K) : WAs B d env l (.Tuple ts x1 pos) (.tup vs) σ N K :=
  fun A s a R E k I F r q => by
    obtain ⟨_, _, _, rfl, ho, hs, rl⟩ := r.inv
    rename_i n items
    obtain ⟨h1, h2⟩ := assignEach_star (env := env) ts hn
    rw [arm_assign_Tuple]
    refine wpAny_bind (wpAny_standAt ?_)
    unfold unpack
    rw [show (assignEach ts env).length = items.size from by rw [h1, hl, rl.length, Array.length_toList], h2]
    refine wpAny_bind (wpAny_holding (bot (any_grow (wpAny_unpackItems_tuple (Q := fun its s' => its = items.toList ∧ ∃ h', s' = { s with heap := h' } ∧ Heap.ExtBut s.heap.objs.size s.heap h') (E := fun _ _ => False) k.handled ⟨_, ho, rfl, _, rfl⟩ fun h' hx => ⟨rfl, h', rfl, hx⟩)) ?_))
    rintro _ _ ⟨⟨rfl, h', rfl, hx⟩, hsz⟩
    have kp : ∀ b x, s.heap.get? b = some x → h'.get? b = some x := fun b x e => hx b x (Nat.ne_of_lt (Heap.lt_size e)) e
    have S : Step σ s.heap σ h' := .grow kp
    exact WAsL_in k ts _ _ _ _ _ _ hn h (I.grow (s' := { s with heap := h' }) kp hsz rfl rfl) (F.mono S) (rl.mono S) fun s' l' σ' N' I' S' F' n' q' => q s' l' σ' N' I' ((S.toL _).trans S') F' n' q'
end
end
noncomputable section
/- `o[i]` within an expression, whatever the texts of `o` and `i` -/
noncomputable def WItem (B : Cx) (d : Nat) (u v : V) (σ : Store) (N : Nat) (Q : Post V) : Prop := (∃ T id, TypeV σ u T ∧ typeLookup (.type T) "__getitem__" = pure (some (.builtin id))) ∧ W2 B d (VRel B) getItem u v σ N Q
/- of a type, by its class alone -/
inductive TypeS (σ : Store) : V → String → Prop
  | of {u : V} {T : String} (t : TypeV σ u T) : TypeS σ u T
  | imm {o : Obj} {T : String} (h : o.cls = .type T) : TypeS σ (.imm o) T
theorem TypeS.is {B : Cx} {σ : Store} {N : Nat} {x : V} {T : String} {s : Shared} {v : Value} (t : TypeS σ x T) (I : Inv B σ N s) (r : VRel B σ s.heap x v) : s.TypeIs v T := by
  cases t with
  | of t => exact (t.is I r).1
  | imm h => obtain ⟨_, rfl, ho, hs, hf⟩ := r.inv; exact ⟨_, ho, h⟩
/- `o[lo:hi:st]` -/
noncomputable def WSlice (B : Cx) (d : Nat) (u : V) (lo hi st : Option Int) (σ : Store) (N : Nat) (Q : Post V) : Prop := (∃ T id, TypeS σ u T ∧ typeLookup (.type T) "__getitem__" = pure (some (.builtin id))) ∧
  ∀ A s a sl vl vu vk, Ok d A → Inv B σ N s → VRel B σ s.heap u a → s.heap.IsSliceOf sl vl vu vk → IsPart vl lo → IsPart vu hi → IsPart vk st → wpAny (model B.prog B.w) A (getItem a (.ref sl)) (Ends B (VRel B) σ N s.heap Q) (fun _ _ => False) s
/- what a walk asks, as a function of the text -/
structure VIf (c : Bool) (p q : Prop) : Prop where
  t : c = true → p
  f : c = false → q
theorem VIf.pos {c : Bool} {p q : Prop} (h : c = true) (x : p) : VIf c p q := ⟨fun _ => x, fun e => (by rw [h] at e; cases e)⟩
theorem VIf.neg {c : Bool} {p q : Prop} (h : c = false) (x : q) : VIf c p q := ⟨fun e => (by rw [h] at e; cases e), fun _ => x⟩
inductive VIfS (p : Prop) (q : (Loc → Store → Nat → Prop) → Prop) : Prop
  | plain (h : p)
  | join (J : Loc → Store → Nat → Prop) (h : q J)
structure Need (p : Prop) : Prop where
  h : p
structure Tb where
  names : List (Str × Value)
  fns : List Nat
structure Rec where
  E : Env → Expr → Loc → Store → Nat → Post V → Prop
  T : Env → Expr → Loc → Store → Nat → Post Bool → Prop
  S : Env → List Stmt → Loc → Store → Nat → PostS → Prop
/- a test that the text itself decides -/
noncomputable def vG (c : Bool) (p : Prop) : Prop := match c with
  | true => p
  | false => False
noncomputable def vO {α : Type} (o : Option α) (p : α → Prop) : Prop := match o with
  | some a => p a
  | none => False
theorem vG.out {c : Bool} {p : Prop} (h : vG c p) : c = true ∧ p := by cases c with | true => exact ⟨rfl, h⟩ | false => exact h.elim
theorem vO.out {α : Type} {o : Option α} {p : α → Prop} (h : vO o p) : ∃ a, o = some a ∧ p a := by cases o with | some a => exact ⟨a, rfl, h⟩ | none => exact h.elim
noncomputable def vOpI (op : Operator) (a b : Int) (σ : Store) (N : Nat) (Q : Post V) : Prop := match op with
  | .Add => Q (.int (a + b)) σ N
  | .Sub => Q (.int (a - b)) σ N
  | .Mult => IntMulOk a b ∧ Q (.int (a * b)) σ N
  | .Mod => b ≠ 0 ∧ Q (.int (a.fmod b)) σ N
  | .FloorDiv => (b ≠ 0 ∧ b.natAbs < 1073741824) ∧ Q (.int (a.fdiv b)) σ N
  | .RShift => 0 ≤ b ∧ Q (.int (a.fdiv (2 ^ b.toNat))) σ N
  | _ => False
noncomputable def vOpS (op : Operator) (a b : Str) (σ : Store) (N : Nat) (Q : Post V) (other : Prop) : Prop := match op with
  | .Add => a.length + b.length ≤ sizeLine ∧ Q (.str (a ++ b)) σ N
  | _ => other
noncomputable def V.asInt : V → Option Int
  | .int i => some i
  | _ => Option.none
noncomputable def V.asStr : V → Option Str
  | .str i => some i
  | _ => Option.none
noncomputable def V.asTup : V → Option (List V)
  | .tup i => some i
  | _ => Option.none
theorem V.asInt_eq {v : V} {i : Int} (h : v.asInt = some i) : v = .int i := by cases v <;> cases h; rfl
theorem V.asStr_eq {v : V} {i : Str} (h : v.asStr = some i) : v = .str i := by cases v <;> cases h; rfl
theorem V.asTup_eq {v : V} {i : List V} (h : v.asTup = some i) : v = .tup i := by cases v <;> cases h; rfl
noncomputable def vOp (op : Operator) (u v : V) (σ : Store) (N : Nat) (Q : Post V) (other : Prop) : Prop := match u with
  | .int a => vO v.asInt fun b => vOpI op a b σ N Q
  | .str a => match v.asStr with
    | some b => vOpS op a b σ N Q other
    | none => other
  | _ => other
noncomputable def vCmpI (op : CmpOp) (a b : Int) (σ : Store) (N : Nat) (Q : Post V) : Prop := match op with
  | .Lt => Q (.bool (decide (a < b))) σ N
  | .LtE => Q (.bool (decide (a ≤ b))) σ N
  | .Gt => Q (.bool (decide (b < a))) σ N
  | .GtE => Q (.bool (decide (b ≤ a))) σ N
  | .Eq => Q (.bool (decide (a = b))) σ N
  | .NotEq => Q (.bool (!decide (a = b))) σ N
  | _ => False
noncomputable def vCmpS (op : CmpOp) (a b : Str) (σ : Store) (N : Nat) (Q : Post V) : Prop := match op with
  | .Eq => Q (.bool (decide (a = b))) σ N
  | .NotEq => Q (.bool (!decide (a = b))) σ N
  | .Gt => Q (.bool (decide (b.cps.toList < a.cps.toList))) σ N
  | .Lt => Q (.bool (decide (a.cps.toList < b.cps.toList))) σ N
  | .In => Q (.bool !(Builtin.Str.occurrences b a 0 b.length 1).isEmpty) σ N
  | _ => False
noncomputable def V.asBool : V → Option Bool
  | .bool i => some i
  | _ => Option.none
theorem V.asBool_eq {v : V} {i : Bool} (h : v.asBool = some i) : v = .bool i := by cases v <;> cases h; rfl
noncomputable def vCmpB (op : CmpOp) (a b : Bool) (σ : Store) (N : Nat) (Q : Post V) : Prop := match op with
  | .Eq => Q (.bool (decide (a = b))) σ N
  | _ => False
noncomputable def vCmp (op : CmpOp) (u v : V) (σ : Store) (N : Nat) (Q : Post V) (other : Prop) : Prop := match u with
  | .int a => match v.asInt with
    | some b => vCmpI op a b σ N Q
    | none => other
  | .str a => match v.asStr with
    | some b => vCmpS op a b σ N Q
    | none => other
  | .bool a => vO v.asBool fun b => vCmpB op a b σ N Q
  | _ => other
noncomputable def vTr (u : V) (σ : Store) (N : Nat) (Q : Post Bool) (other : Prop) : Prop :=
  match u with
  | .bool b => Q b σ N
  | .str x => x.length < 2 ^ 40 ∧ Q (decide (x.length ≠ 0)) σ N
  | .lst xs => xs.length < 2 ^ 40 ∧ Q (!xs.isEmpty) σ N
  | _ => other
noncomputable def methId : String → Str → Option String
  | "list", x => if x = "append" then some "list.append" else if x = "pop" then some "list.pop" else if x = "extend" then some "list.extend" else if x = "count" then some "list.count" else none
  | "dict", x => if x = "get" then some "dict.get" else if x = "items" then some "dict.items" else if x = "values" then some "dict.values" else none
  | "str", x => if x = "join" then some "str.join" else if x = "count" then some "str.count" else if x = "startswith" then some "str.startswith" else if x = "endswith" then some "str.endswith" else none
  | _, _ => none
inductive VMeth (B : Cx) (σ : Store) (name : Str) (K : V → List V → Prop) : V → Prop
  | builtin {u : V} {T id : String} (ht : TypeV σ u T) (hm : methId T name = some id) (h : K (.lit (.builtin id)) [u]) : VMeth B σ name K u
  | inst {x C D f : Nat} {at' : Loc} (hx : σ x = some (.obj (instObj C D))) (hD : σ D = some (.ns at')) (hm : MethAt B C name f) (hl : at'.lookup name = none) (h : K (.lit (.ref f)) [.ref x]) : VMeth B σ name K (.ref x)
  | fn {x D : Nat} {o : Obj} {fd : FuncData} {at' : Loc} {v : V} (hl : typeLookup (.type "function") name = pure none) (hx : σ x = some (.obj o)) (hc : o.cls = .type "function") (hd : o.dict = some D) (hf : o.data = .func fd) (hD : σ D = some (.ns at')) (hv : at'.lookup name = some v) (hh : handV v = true)
      (h : K v []) : VMeth B σ name K (.ref x)
/- things handed out, read anew -/
inductive OffL : Store → List V → Store → List V → Prop
  | refl {σ : Store} {vs : List V} : OffL σ vs σ vs
  | cons {σ : Store} {v v' : V} {vs vs' : List V} {σ₁ σ₂ : Store} (h : Off σ v σ₁ v') (r : OffL σ₁ vs σ₂ vs') : OffL σ (v :: vs) σ₂ (v' :: vs')
/- a list display: a list of the store, or one that nobody changes -/
inductive VList (σ : Store) (N : Nat) (Q : Post V) (vs : List V) : Prop
  | mut (hz : vs.length ≤ sizeLine) (h : ∀ a, N ≤ a → Q (.ref a) (pt σ a (.list vs)) (a + 1))
  | froz (hz : vs.length ≤ sizeLine) (h : ∀ N', N ≤ N' → Q (.lst vs) σ N')
section
variable (B : Cx) (tb : Tb) (d : Nat)
noncomputable def vName (env : Env) (x : Str) (l : Loc) (σ : Store) (N : Nat) (Q : Post V) : Prop := vO (env.kindOf x) fun k => match k with
  | .local => vO (l.lookup x) fun v => Q v σ N
  | .cell | .free => vO (env.cells.lookup x) fun c => ∃ v, σ c = some (.cell (some v)) ∧ Q v σ N
  | .globalImplicit => vO (tb.names.lookup x) fun v => Q (.lit v) σ N
  | _ => False
noncomputable def okName (x : Str) : Bool := !(x == ("__debug__" : Str)) && !(x == ("__classdict__" : Str))
noncomputable def eA (R : Rec) (env : Env) : List Expr → Loc → Store → Nat → Post (List V) → Prop
  | [], _, σ, N, Q => Q [] σ N
  | e :: es, l, σ, N, Q => R.E env e l σ N fun v σ₁ N₁ => eA R env es l σ₁ N₁ fun vs σ₂ N₂ => Q (v :: vs) σ₂ N₂
noncomputable def vCallL (R : Rec) (env : Env) (v : Value) (first : List V) (args : List Expr) (l : Loc) (σ : Store) (N : Nat) (Q : Post V) : Prop := match v with
  | .ref a => vG (tb.fns.contains a) (eA R env args l σ N fun vs σ₁ N₁ => Need (WC B d (.ref a) (first ++ vs) σ₁ N₁ Q))
  | .builtin id => eA R env args l σ N fun vs σ₁ N₁ => Need (WC B d (.builtin id) (first ++ vs) σ₁ N₁ Q)
  | .type T => eA R env args l σ N fun vs σ₁ N₁ => Need (WC B d (.type T) (first ++ vs) σ₁ N₁ Q)
  | _ => False
noncomputable def vCall (R : Rec) (env : Env) (f : V) (first : List V) (args : List Expr) (l : Loc) (σ : Store) (N : Nat) (Q : Post V) : Prop := match f with
  | .lit v => vCallL B tb d R env v first args l σ N Q
  | .ref a => eA R env args l σ N fun vs σ₁ N₁ => Need ((∃ fd, FnAt B σ₁ a fd) ∧ WC B d (.ref a) (first ++ vs) σ₁ N₁ Q)
  | _ => False
noncomputable def vAsN (env : Env) (x : Str) (v : V) (l : Loc) (σ : Store) (N : Nat) (K : Loc → Store → Nat → Prop) : Prop := vO (env.kindOf x) fun k => match k with
  | .local => K (upd l x v) σ N
  | .cell => vO (env.cells.lookup x) fun c => (∃ v₀, σ c = some (.cell v₀)) ∧ K l (pt σ c (.cell (some v))) N
  | _ => False
noncomputable def nameOf : Expr → Option Str
  | .Name x _ => some x
  | _ => none
noncomputable def uncons {α : Type} : List α → Option (α × List α)
  | [] => none
  | a :: r => some (a, r)
noncomputable def vAsL (env : Env) : List Expr → List V → Loc → Store → Nat → (Loc → Store → Nat → Prop) → Prop
  | [], vs, l, σ, N, K => vG vs.isEmpty (K l σ N)
  | t :: ts, vs, l, σ, N, K => vO (nameOf t) fun x => vO (uncons vs) fun p => vAsN env x p.1 l σ N fun l' σ' N' => vAsL env ts p.2 l' σ' N' K
noncomputable def vAsT (env : Env) (ts : List Expr) (v : V) (l : Loc) (σ : Store) (N : Nat) (K : Loc → Store → Nat → Prop) : Prop := vO v.asTup fun vs => vG (noStar ts && ts.length == vs.length) (vAsL env ts vs l σ N K)
noncomputable def vAs (env : Env) (t : Expr) (v : V) (l : Loc) (σ : Store) (N : Nat) (K : Loc → Store → Nat → Prop) : Prop := match t with
  | .Name x _ => vAsN env x v l σ N K
  | .Tuple ts _ _ => vAsT env ts v l σ N K
  | _ => False
noncomputable def vTs (R : Rec) (env : Env) (ifs : List Expr) (l : Loc) (σ : Store) (N : Nat) (Q : Post Bool) : Prop := match ifs with
  | [] => Q true σ N
  | c :: r => vG r.isEmpty (R.T env c l σ N Q)
noncomputable def cloOf (env : Env) : List (Str × NameKind) → List (Str × Nat) → Option (List (Str × Nat))
  | [], cs => some cs
  | (n, .free) :: r, cs => (match env.cells.lookup n with | some c => cloOf env r ((n, c) :: cs) | none => none)
  | _ :: r, cs => cloOf env r cs
noncomputable def okScope (names : List (Str × NameKind)) : Bool := names.all fun x => decide (x.2 ≠ .cell) && (decide (x.2 ≠ .local) || decide (names.lookup x.1 = some .local))
noncomputable def isSet : Expr → Bool
  | .Set .. => true
  | _ => false
/- a comprehension: by what holds ahead of each turn, or by a function where a turn changes nothing -/
inductive VComp (B : Cx) (R : Rec) (env : Env) (vact : Env → Loc → Store → Nat → AObj → (AObj → Store → Nat → Prop) → Prop) (acc₀ : AObj) (target : Expr) (ifs : List Expr) (scope : Scope) (cl : List (Str × Nat)) (σ₁ : Store) (N₁ : Nat) (K : Post V) (x : V) : Prop
  | mk {n : Nat} {item : Nat → V} {Dep : Store → Prop} (it : IterOk B (isMany target) x σ₁ n item Dep)
      (h : ∀ a C, N₁ ≤ a → a < C → ∃ J : Nat → AObj → Store → Nat → Prop, J 0 acc₀ ((σ₁.add a).add C) (a + 1) ∧ (∀ i o σ N, J i o σ N → Dep σ) ∧
        (∀ i o σ N, i < n → J i o σ N → N₁ ≤ N → vAs (compEnvC scope cl C env) target (item i) [] σ N fun l σ' N' => vTs R (compEnvC scope cl C env) ifs l σ' N' fun ok σ₂ N₂ =>
          VIf ok (vact (compEnvC scope cl C env) l σ₂ N₂ o (J (i + 1))) (J (i + 1) o σ₂ N₂)) ∧
        ∀ o σ N, J n o σ N → N₁ ≤ N → ∃ v, Done o v ∧ K v (σ.reset σ₁.fr) N)
noncomputable def vComp (R : Rec) (env : Env) (vact : Env → Loc → Store → Nat → AObj → (AObj → Store → Nat → Prop) → Prop) (acc₀ : AObj) (target iter : Expr) (ifs : List Expr) (scope : Scope) (l : Loc) (σ : Store) (N : Nat) (K : Post V) : Prop :=
  vO (cloOf env scope.names []) fun cl => vG (okScope scope.names && decide (scope.kind = .function) && !isSet iter) (R.E env iter l σ N fun x σ₁ N₁ => VComp B R env vact acc₀ target ifs scope cl σ₁ N₁ K x)
noncomputable def vactL (R : Rec) (elt : Expr) (env : Env) (l : Loc) (σ : Store) (N : Nat) (o : AObj) (K : AObj → Store → Nat → Prop) : Prop := match o with
  | .list ys => ys.length < 2 ^ 20 ∧ R.E env elt l σ N fun u σ₁ N₁ => K (.list (ys ++ [u])) σ₁ N₁
  | _ => False
noncomputable def vactD (R : Rec) (kx vx : Expr) (env : Env) (l : Loc) (σ : Store) (N : Nat) (o : AObj) (K : AObj → Store → Nat → Prop) : Prop := match o with
  | .dict es ep => es.length < 2 ^ 20 ∧ R.E env kx l σ N fun u σ₁ N₁ => R.E env vx l σ₁ N₁ fun v σ₂ N₂ => ∃ k, u = Kx.v k ∧ ∀ ep', K (.dict (dset es k v) ep') σ₂ N₂
  | _ => False
/- the pairs of a display -/
noncomputable def pairsOf : List (Option Expr) → List Expr → Option (List (Expr × Expr))
  | [], [] => some []
  | some k :: ks, v :: vs => (pairsOf ks vs).map ((k, v) :: ·)
  | _, _ => none
theorem pairsOf_eq : ∀ {ks : List (Option Expr)} {vs : List Expr} {ps : List (Expr × Expr)}, pairsOf ks vs = some ps → ks = ps.map (fun p => some p.1) ∧ vs = ps.map (·.2)
  | [], [], _, h => by cases h; exact ⟨rfl, rfl⟩
  | some k :: ks, v :: vs, _, h => by
    unfold pairsOf at h
    cases q : pairsOf ks vs with
    | none => rw [q] at h; cases h
    | some r => rw [q] at h; cases h; obtain ⟨a, b⟩ := pairsOf_eq q; exact ⟨by rw [a]; rfl, by rw [b]; rfl⟩
  | [], _ :: _, _, h => by cases h
  | none :: _, _, _, h => by cases h
  | some _ :: _, [], _, h => by cases h
noncomputable def vPs (R : Rec) (env : Env) : List (Expr × Expr) → Loc → Store → Nat → Post (List (V × V)) → Prop
  | [], _, σ, N, Q => Q [] σ N
  | (k, v) :: ps, l, σ, N, Q => R.E env k l σ N fun u σ₁ N₁ => R.E env v l σ₁ N₁ fun w σ₂ N₂ => vPs R env ps l σ₂ N₂ fun r σ₃ N₃ => Q ((u, w) :: r) σ₃ N₃
noncomputable def vDict (R : Rec) (env : Env) (ps : List (Expr × Expr)) (l : Loc) (σ : Store) (N : Nat) (Q : Post V) : Prop := match ps with
  | [] => ∀ a, N ≤ a → VDictAt σ (a + 1) Q [] a
  | p :: ps => vG (decide ((p :: ps).length ≤ 15)) (∀ a, N ≤ a → vPs R env (p :: ps) l (σ.add a) (a + 1) fun kvs σ₁ N₁ => ∃ es : Dk, kvs = kvV es ∧ VDictAt (σ₁.reset σ.fr) N₁ Q (dmerge [] es) a)
noncomputable def plainBase : Expr → Bool
  | .Name .. | .Attribute .. | .Subscript .. | .Constant .. => true
  | _ => false
noncomputable def isSlice : Expr → Bool
  | .Slice .. => true
  | _ => false
noncomputable def vConst (c : Const) (σ : Store) (N : Nat) (Q : Post V) : Prop := match c with
  | .int i => Q (.int i) σ N
  | .str x => Q (.str x) σ N
  | .bool x => Q (.bool x) σ N
  | .none => Q .none σ N
  | _ => False
/- the one thing of a list -/
noncomputable def one {α : Type} : List α → Option α
  | [a] => some a
  | _ => none
noncomputable def two {α : Type} : List α → Option (α × α)
  | [a, b] => some (a, b)
  | _ => none
theorem one_eq {α : Type} {l : List α} {a : α} (h : one l = some a) : l = [a] := by
  cases l with
  | nil => cases h
  | cons b r => cases r with
    | nil => cases h; rfl
    | cons => cases h
theorem two_eq {α : Type} {l : List α} {a b : α} (h : two l = some (a, b)) : l = [a, b] := by
  cases l with
  | nil => cases h
  | cons b r => cases r with
    | nil => cases h
    | cons c r => cases r with
      | nil => cases h; rfl
      | cons => cases h
noncomputable def vTruth (u : V) (σ : Store) (N : Nat) (Q : Post Bool) : Prop := vTr u σ N Q (Need (W1 B d BRel truthy u σ N Q))
noncomputable def vBoolE (R : Rec) (env : Env) (op : BoolOp) (x y : Expr) (l : Loc) (σ : Store) (N : Nat) (Q : Post V) : Prop := R.E env x l σ N fun u σ₁ N₁ => vTruth B d u σ₁ N₁ fun c σ₂ N₂ => match op with
  | .And => VIf c (R.E env y l σ₂ N₂ Q) (Q u σ₂ N₂)
  | .Or => VIf c (Q u σ₂ N₂) (R.E env y l σ₂ N₂ Q)
noncomputable def vCallE (R : Rec) (env : Env) (f : Expr) (args : List Expr) (pos : Pos) (l : Loc) (σ : Store) (N : Nat) (Q : Post V) : Prop := match f with
  | .Name x _ => vG (okName x) (vName tb env x l σ N fun fv σ₁ N₁ => vCall B tb d R env fv [] args l σ₁ N₁ Q)
  | .Attribute o name apos => vG (plainBase o && apos.endLine == pos.line && decide (args.length < 30)) (R.E env o l σ N fun ov σ₁ N₁ => VMeth B σ₁ name (fun f first => vCall B tb d R env f first args l σ₁ N₁ Q) ov)
  | _ => False
noncomputable def genOf (gens : List Comprehension) : Option (Expr × Expr × List Expr) := match one gens with
  | some g => if g.is_async = 0 then some (g.target, g.iter, g.ifs) else none
  | none => none
theorem genOf_eq {gens : List Comprehension} {p : Expr × Expr × List Expr} (h : genOf gens = some p) : gens = [⟨p.1, p.2.1, p.2.2, 0⟩] := by
  unfold genOf at h
  cases q : one gens with
  | none => rw [q] at h; cases h
  | some g =>
    rw [q] at h
    rw [one_eq q]
    obtain ⟨a, b, c, n⟩ := g
    simp only at h
    split at h
    · rename_i e; cases h; rw [e]
    · cases h
/- a slice's part -/
noncomputable def vPart (R : Rec) (env : Env) (o : Option Expr) (l : Loc) (σ : Store) (N : Nat) (K : Option Int → Store → Nat → Prop) : Prop := match o with
  | none => K none σ N
  | some e => R.E env e l σ N fun v σ₁ N₁ => vO v.asInt fun i => K (some i) σ₁ N₁
noncomputable def vSubE (R : Rec) (env : Env) (o i : Expr) (l : Loc) (σ : Store) (N : Nat) (Q : Post V) : Prop := match i with
  | .Slice a b c _ => R.E env o l σ N fun u σ₁ N₁ => vPart R env a l σ₁ N₁ fun lo σ₂ N₂ => vPart R env b l σ₂ N₂ fun hi σ₃ N₃ => vPart R env c l σ₃ N₃ fun st σ₄ N₄ => Need (WSlice B d u lo hi st σ₄ N₄ Q)
  | i => vG (!isSlice i) (R.E env o l σ N fun u σ₁ N₁ => R.E env i l σ₁ N₁ fun v σ₂ N₂ => Need (WItem B d u v σ₂ N₂ Q))
noncomputable def vE (R : Rec) (env : Env) (e : Expr) (l : Loc) (σ : Store) (N : Nat) (Q : Post V) : Prop := match e with
  | .Constant c _ _ => vConst c σ N Q
  | .Name x _ => vG (okName x) (vName tb env x l σ N Q)
  | .BinOp x op y _ => R.E env x l σ N fun u σ₁ N₁ => R.E env y l σ₁ N₁ fun v σ₂ N₂ => vOp op u v σ₂ N₂ Q (Need (W2 B d (VRel B) (binaryOp op) u v σ₂ N₂ Q))
  | .Compare x ops ys _ => vO (one ops) fun op => vO (one ys) fun y => vG (!isSet y) (R.E env x l σ N fun u σ₁ N₁ => R.E env y l σ₁ N₁ fun v σ₂ N₂ => vCmp op u v σ₂ N₂ Q (Need (W2 B d (VRel B) (compareOp op) u v σ₂ N₂ Q)))
  | .UnaryOp op x _ => match op with
    | .Not => R.E env x l σ N fun u σ₁ N₁ => vTruth B d u σ₁ N₁ fun c σ₂ N₂ => Q (.bool (!c)) σ₂ N₂
    | .USub => R.E env x l σ N fun u σ₁ N₁ => vO u.asInt fun i => Q (.int (-i)) σ₁ N₁
    | _ => False
  | .BoolOp op vs _ => vO (two vs) fun p => vBoolE B d R env op p.1 p.2 l σ N Q
  | .IfExp t x y _ => R.T env t l σ N fun c σ₁ N₁ => VIf c (R.E env x l σ₁ N₁ Q) (R.E env y l σ₁ N₁ Q)
  | .Subscript o i _ => vSubE B d R env o i l σ N Q
  | .List es _ => vG (noStar es) (eA R env es l σ N fun vs σ₁ N₁ => VList σ₁ N₁ Q vs)
  | .Tuple es _ _ => vG (noStar es) (eA R env es l σ N fun vs σ₁ N₁ => ∃ σ₂ vs', OffL σ₁ vs σ₂ vs' ∧ vs.length ≤ sizeLine ∧ Q (.tup vs') σ₂ N₁)
  | .Call f args ks pos => vG (noStar args && ks.isEmpty) (vCallE B tb d R env f args pos l σ N Q)
  | .ListComp elt gens scope _ => vO (genOf gens) fun g => vComp B R env (vactL R elt) (.list []) g.1 g.2.1 g.2.2 scope l σ N Q
  | .DictComp kx vx gens scope _ => vO (genOf gens) fun g => vComp B R env (vactD R kx vx) (.dict [] 0) g.1 g.2.1 g.2.2 scope l σ N Q
  | .Attribute o name _ => vG (plainBase o) (R.E env o l σ N fun u σ₁ N₁ => Need (W1 B d (VRel B) (fun x => getAttr x name true) u σ₁ N₁ Q))
  | .Dict ks vs _ => vO (pairsOf ks vs) fun ps => vDict R env ps l σ N Q
  | _ => False
noncomputable def vBoolT (R : Rec) (env : Env) (op : BoolOp) : List Expr → Loc → Store → Nat → Post Bool → Prop
  | [], _, _, _, _ => False
  | [x], l, σ, N, Q => R.T env x l σ N Q
  | x :: y :: r, l, σ, N, Q => R.T env x l σ N fun b σ₁ N₁ => match op with
    | .And => VIf b (vBoolT R env op (y :: r) l σ₁ N₁ Q) (Q false σ₁ N₁)
    | .Or => VIf b (Q true σ₁ N₁) (vBoolT R env op (y :: r) l σ₁ N₁ Q)
noncomputable def plainT : Expr → Bool
  | .Name .. | .Attribute .. | .Subscript .. | .Call .. => true
  | _ => false
noncomputable def vT (R : Rec) (env : Env) (e : Expr) (l : Loc) (σ : Store) (N : Nat) (Q : Post Bool) : Prop := match e with
  | .UnaryOp op x _ => vG (op == .Not) (R.T env x l σ N fun b σ₁ N₁ => Q (!b) σ₁ N₁)
  | .BoolOp op vs _ => vBoolT R env op vs l σ N Q
  | .Compare x ops ys _ => vO (one ops) fun op => vO (one ys) fun y => vG (!isSet y) (R.E env x l σ N fun u σ₁ N₁ => R.E env y l σ₁ N₁ fun v σ₂ N₂ => vCmp op u v σ₂ N₂ (fun c σ₃ N₃ => vTruth B d c σ₃ N₃ Q) (Need (W2 B d (VRel B) (compareOp op) u v σ₂ N₂ fun c σ₃ N₃ => vTruth B d c σ₃ N₃ Q)))
  | e => vG (plainT e) (R.E env e l σ N fun u σ₁ N₁ => vTruth B d u σ₁ N₁ Q)
noncomputable def vThen (R : Rec) (env : Env) (rest : List Stmt) (Q : PostS) : PostS := fun x l σ N => match x with
  | .next => R.S env rest l σ N Q
  | .brk => Q .brk l σ N
  | .cont => Q .cont l σ N
  | .ret v => Q (.ret v) l σ N
noncomputable def vJoin (Q : PostS) (J : Loc → Store → Nat → Prop) : PostS := fun x l σ N => match x with
  | .next => ∃ l', LSub l' l ∧ J l' σ N
  | .brk => Q .brk l σ N
  | .cont => Q .cont l σ N
  | .ret v => Q (.ret v) l σ N
noncomputable def vTurn (R : Rec) (env : Env) (rest : List Stmt) (Q : PostS) (J : Loc → Store → Nat → Prop) : PostS := fun x l σ N => match x with
  | .next | .cont => ∃ l', LSub l' l ∧ J l' σ N
  | .brk => R.S env rest l σ N Q
  | .ret v => Q (.ret v) l σ N
noncomputable def isComp : Expr → Bool
  | .ListComp .. | .SetComp .. | .DictComp .. => true
  | _ => false
noncomputable def swaps (env : Env) (t : Str) (p pos : Pos) (scope : Scope) : Bool := env.blockKind == .function && env.kindOf t == some .local && p.line == pos.line && !(scope.names.any fun (n, k) => n == t && (k == .local || k == .cell))
noncomputable def vAssignC (R : Rec) (env : Env) (x : Str) (p : Pos) (vact : Env → Loc → Store → Nat → AObj → (AObj → Store → Nat → Prop) → Prop) (acc₀ : AObj) (target iter : Expr) (ifs : List Expr) (scope : Scope) (pos : Pos) (rest : List Stmt) (l : Loc) (σ : Store) (N : Nat) (Q : PostS) : Prop := match swaps env x p pos scope with
  | true => vComp B R env vact acc₀ target iter ifs scope l σ N fun a σ₁ N₁ => R.S env rest (upd l x a) σ₁ N₁ Q
  | false => vComp B R env vact acc₀ target iter ifs scope l σ N fun a σ₁ N₁ => vAsN env x a l σ₁ N₁ fun l σ₂ N₂ => R.S env rest l σ₂ N₂ Q
noncomputable def vAssignN (R : Rec) (env : Env) (x : Str) (p : Pos) (e : Expr) (rest : List Stmt) (l : Loc) (σ : Store) (N : Nat) (Q : PostS) : Prop := match e with
  | .ListComp elt gens scope pos => vO (genOf gens) fun g => vAssignC B R env x p (vactL R elt) (.list []) g.1 g.2.1 g.2.2 scope pos rest l σ N Q
  | .DictComp kx vx gens scope pos => vO (genOf gens) fun g => vAssignC B R env x p (vactD R kx vx) (.dict [] 0) g.1 g.2.1 g.2.2 scope pos rest l σ N Q
  | e => vG (!isComp e) (R.E env e l σ N fun v σ₁ N₁ => vAsN env x v l σ₁ N₁ fun l σ₂ N₂ => R.S env rest l σ₂ N₂ Q)
noncomputable def vAssign (R : Rec) (env : Env) (t e : Expr) (rest : List Stmt) (l : Loc) (σ : Store) (N : Nat) (Q : PostS) : Prop := match t with
  | .Name x p => vAssignN B R env x p e rest l σ N Q
  | .Subscript o i _ => vG (!isComp e) (R.E env e l σ N fun v σ₁ N₁ => R.E env o l σ₁ N₁ fun ov σ₂ N₂ => R.E env i l σ₂ N₂ fun iv σ₃ N₃ => Need (W3 B d URel setItem ov iv v σ₃ N₃ fun _ σ₄ N₄ => R.S env rest l σ₄ N₄ Q))
  | .Attribute o name _ => vG (!isComp e) (R.E env e l σ N fun v σ₁ N₁ => R.E env o l σ₁ N₁ fun ov σ₂ N₂ => Need (W2 B d URel (fun x y => setAttr x name y) ov v σ₂ N₂ fun _ σ₃ N₃ => R.S env rest l σ₃ N₃ Q))
  | .Tuple ts _ _ => vG (!isComp e && !isMany e) (R.E env e l σ N fun v σ₁ N₁ => vAsT env ts v l σ₁ N₁ fun l σ₂ N₂ => R.S env rest l σ₂ N₂ Q)
  | _ => False
/- `old += v` -/
noncomputable def vInp (op : Operator) (u v : V) (σ : Store) (N : Nat) (Q : Post V) : Prop := vG (op == .Add) (match u with
  | .int a => vO v.asInt fun b => Q (.int (a + b)) σ N
  | .str a => vO v.asStr fun b => a.length + b.length ≤ sizeLine ∧ Q (.str (a ++ b)) σ N
  | _ => False)
noncomputable def vAug (R : Rec) (env : Env) (t : Expr) (op : Operator) (e : Expr) (rest : List Stmt) (l : Loc) (σ : Store) (N : Nat) (Q : PostS) : Prop := match t with
  | .Name x _ => vG (env.kindOf x == some .local) (vO (l.lookup x) fun old => R.E env e l σ N fun v σ₁ N₁ => vInp op old v σ₁ N₁ fun r σ₂ N₂ => R.S env rest (upd l x r) σ₂ N₂ Q)
  | .Attribute o name _ => R.E env o l σ N fun u σ₁ N₁ => Need (W1 B d (VRel B) (fun x => getAttr x name true) u σ₁ N₁ fun old σ₂ N₂ => R.E env e l σ₂ N₂ fun v σ₃ N₃ => vInp op old v σ₃ N₃ fun r σ₄ N₄ => Need (W2 B d URel (fun x y => setAttr x name y) u r σ₄ N₄ fun _ σ₅ N₅ => R.S env rest l σ₅ N₅ Q))
  | .Subscript o i _ => vG (!isSlice i) (R.E env o l σ N fun u σ₁ N₁ => R.E env i l σ₁ N₁ fun j σ₂ N₂ => Need (W2 B d (VRel B) getItem u j σ₂ N₂ fun old σ₃ N₃ => R.E env e l σ₃ N₃ fun v σ₄ N₄ => vInp op old v σ₄ N₄ fun r σ₅ N₅ => Need (W3 B d URel setItem u j r σ₅ N₅ fun _ σ₆ N₆ => R.S env rest l σ₆ N₆ Q)))
  | _ => False
/- a for: over what is known ahead, or over calls -/
inductive VFor (B : Cx) (d : Nat) (R : Rec) (env : Env) (target : Expr) (body rest : List Stmt) (Q : PostS) (l : Loc) (σ : Store) (N : Nat) : V → Prop
  | items {x : V} {n : Nat} {item : Nat → V} {Dep : Store → Prop} (it : IterOk B (isMany target) x σ n item Dep) (J : Nat → Loc → Store → Nat → Prop) (l₀ : Loc) (hl : LSub l₀ l) (h₀ : J 0 l₀ σ N) (dep : ∀ i l σ N', J i l σ N' → N ≤ N' → Dep σ)
      (turn : ∀ i l σ N', i < n → J i l σ N' → N ≤ N' → vAs env target (item i) l σ N' fun l' σ' N'' => R.S env body l' σ' N'' (vTurn R env rest Q (J (i + 1))))
      (fin : ∀ l σ N', J n l σ N' → N ≤ N' → R.S env rest l σ N' Q) : VFor B d R env target body rest Q l σ N x
  | calls {it bm f x : Nat} {y : Str} {t : Tok} (hd : 0 < d) (hm : isMany target = false) (J : Nat → Loc → Store → Nat → Prop) (n : Nat) (l₀ : Loc) (hl : LSub l₀ l) (h₀ : J n l₀ σ N)
      (turn : ∀ n l σ N', J n l σ N' → N ≤ N' → CIt B σ it bm f x y t ∧ WK B (d - 1) (.ref f) [.ref x] σ N' fun v σ' N'' => ∃ z, v = .str z ∧ CIt B σ' it bm f x y t ∧
        (z = y → R.S env rest l (pt σ' it (.obj (citObj .none .none (.bool true)))) N'' Q) ∧ (z ≠ y → vAs env target (.str z) l σ' N'' fun l₁ σ₁ N₁ => R.S env body l₁ σ₁ N₁ (vTurn R env rest Q fun l σ N => ∃ m, m < n ∧ J m l σ N))) :
      VFor B d R env target body rest Q l σ N (.ref it)
noncomputable def vSt (R : Rec) (env : Env) (st : Stmt) (rest : List Stmt) (l : Loc) (σ : Store) (N : Nat) (Q : PostS) : Prop := match st with
  | .Assign ts e _ => vO (one ts) fun t => vAssign B d R env t e rest l σ N Q
  | .AugAssign t op e _ => vAug B d R env t op e rest l σ N Q
  | .Expr e _ => vG (!isComp e) (R.E env e l σ N fun _ σ₁ N₁ => R.S env rest l σ₁ N₁ Q)
  | .Return o _ => vO o fun e => R.E env e l σ N fun v σ₁ N₁ => Q (.ret v) l σ₁ N₁
  | .Break _ => Q .brk l σ N
  | .Continue _ => Q .cont l σ N
  | .If t b e _ => VIfS (R.T env t l σ N fun c σ₁ N₁ => VIf c (R.S env b l σ₁ N₁ (vThen R env rest Q)) (R.S env e l σ₁ N₁ (vThen R env rest Q)))
      fun J => (∀ l σ N', N ≤ N' → J l σ N' → R.S env rest l σ N' Q) ∧ R.T env t l σ N fun c σ₁ N₁ => VIf c (R.S env b l σ₁ N₁ (vJoin Q J)) (R.S env e l σ₁ N₁ (vJoin Q J))
  | .While t b o _ => vG o.isEmpty (∃ (J : Nat → Loc → Store → Nat → Prop) (n : Nat) (l₀ : Loc), LSub l₀ l ∧ J n l₀ σ N ∧ ∀ n l σ N', J n l σ N' → N ≤ N' →
      R.T env t l σ N' fun c σ₁ N₁ => VIf c (R.S env b l σ₁ N₁ (vTurn R env rest Q fun l σ N => ∃ m, m < n ∧ J m l σ N)) (R.S env rest l σ₁ N₁ Q))
  | .For target iter body o _ => vG (o.isEmpty && !isSet iter) (R.E env iter l σ N fun x σ₁ N₁ => VFor B d R env target body rest Q l σ₁ N₁ x)
  | _ => False
noncomputable def vS (R : Rec) (env : Env) (ss : List Stmt) (l : Loc) (σ : Store) (N : Nat) (Q : PostS) : Prop := match ss with
  | [] => Q .next l σ N
  | st :: rest => vSt B d R env st rest l σ N Q
noncomputable def vStep (R : Rec) : Rec := ⟨vE B tb d R, vT B d R, vS B d R⟩
noncomputable def vRun : Nat → Rec
  | 0 => ⟨fun _ _ _ _ _ _ => False, fun _ _ _ _ _ _ => False, fun _ _ _ _ _ _ => False⟩
  | n + 1 => vStep B tb d (vRun n)
end
end
noncomputable section
structure EnvOk (env : Env) : Prop where
  kind : env.scope.kind = .function
  glob : env.globals = mainGlobals
  bui : env.builtins = builtinsNs
theorem EnvOk.inter {env : Env} (h : EnvOk env) : interactive env = false := by unfold interactive; rw [h.kind]; rfl
noncomputable def Keeps (B : Cx) (a : Nat) : Prop := ∀ σ N s, Inv B σ N s → ∃ k, (k = Keeper.frame ∨ k = Keeper.machine ∨ k = Keeper.boundFrame) ∧ Looks (model B.prog B.w) s.heap (keeperOf (.ref a)) k
structure TabOk (B : Cx) (tb : Tb) : Prop where
  name : ∀ x v, tb.names.lookup x = some v → Glo B x v ∨ Bui B x v
  fn : ∀ a, tb.fns.contains a = true → Keeps B a
structure Sound (B : Cx) (d : Nat) (R : Rec) : Prop where
  E : ∀ {env e l σ N Q}, EnvOk env → R.E env e l σ N Q → WE B d env l e σ N Q
  T : ∀ {env e l σ N Q}, EnvOk env → R.T env e l σ N Q → WB B d env l e σ N Q
  S : ∀ {env e l σ N Q}, EnvOk env → R.S env e l σ N Q → WX B d env l e σ N Q
section
variable {B : Cx} {tb : Tb} {d : Nat} {env : Env} {l : Loc} {σ : Store} {N : Nat} {R : Rec}
theorem WF.mono {α β : Type} {ρ : Store → Heap → β → α → Prop} {t : Sem α} {Q Q' : Post β} (h : WF B d env l ρ t σ N Q) (k : ∀ b σ' N', Q b σ' N' → Q' b σ' N') : WF B d env l ρ t σ N Q' :=
  fun A s o I F => bot (h A s o I F) fun _ _ x => let ⟨b, σ', N', r, I', S', n, q⟩ := x; ⟨b, σ', N', r, I', S', n, k _ _ _ q⟩
theorem W1.mono {α β : Type} {ρ : Store → Heap → β → α → Prop} {f : Value → Sem α} {x : V} {Q Q' : Post β} (h : W1 B d ρ f x σ N Q) (k : ∀ b σ' N', Q b σ' N' → Q' b σ' N') : W1 B d ρ f x σ N Q' :=
  fun A s a o I r => bot (h A s a o I r) fun _ _ x => let ⟨b, σ', N', r, I', S', n, q⟩ := x; ⟨b, σ', N', r, I', S', n, k _ _ _ q⟩
theorem W2.mono {α β : Type} {ρ : Store → Heap → β → α → Prop} {f : Value → Value → Sem α} {x y : V} {Q Q' : Post β} (h : W2 B d ρ f x y σ N Q) (k : ∀ b σ' N', Q b σ' N' → Q' b σ' N') : W2 B d ρ f x y σ N Q' :=
  fun A s a b o I r r' => bot (h A s a b o I r r') fun _ _ x => let ⟨b, σ', N', r, I', S', n, q⟩ := x; ⟨b, σ', N', r, I', S', n, k _ _ _ q⟩
theorem W3.mono {α β : Type} {ρ : Store → Heap → β → α → Prop} {f : Value → Value → Value → Sem α} {x y z : V} {Q Q' : Post β} (h : W3 B d ρ f x y z σ N Q) (k : ∀ b σ' N', Q b σ' N' → Q' b σ' N') : W3 B d ρ f x y z σ N Q' :=
  fun A s a b c o I r r' r'' => bot (h A s a b c o I r r' r'') fun _ _ x => let ⟨b, σ', N', r, I', S', n, q⟩ := x; ⟨b, σ', N', r, I', S', n, k _ _ _ q⟩
theorem vOp_sound {op : Operator} {u v : V} {Q : Post V} (h : vOp op u v σ N Q (Need (W2 B d (VRel B) (binaryOp op) u v σ N Q))) : W2 B d (VRel B) (binaryOp op) u v σ N Q := by
  cases u with
  | int a =>
    obtain ⟨b, hb, h⟩ := vO.out h
    cases V.asInt_eq hb
    cases op with
    | Add => exact O_add h
    | Sub => exact O_sub h
    | Mult => exact O_mul h.1 h.2
    | Mod => exact O_mod h.1 h.2
    | FloorDiv => exact O_fdiv h.1.1 h.1.2 h.2
    | RShift => exact O_shr h.1 h.2
    | _ => exact h.elim
  | str a =>
    cases v with
    | str b =>
      cases op with
      | Add => exact S_add h.1 h.2
      | _ => exact Need.h h
    | _ => exact Need.h h
  | _ => exact Need.h h
theorem O_eqB {a b : Bool} {Q : Post V} (h : Q (.bool (decide (a = b))) σ N) : W2 B d (VRel B) (compareOp .Eq) (.bool a) (.bool b) σ N Q := fun A s x y k I r r' => by
  obtain ⟨_, rfl⟩ := r.inv; obtain ⟨_, rfl⟩ := r'.inv; exact PyProof.Rows.eq_bool (.here I (.refl _ _) (.bool _) (by rw [show (a == b) = decide (a = b) from by cases a <;> cases b <;> rfl]; exact h))
theorem vCmp_sound {op : CmpOp} {u v : V} {Q : Post V} (h : vCmp op u v σ N Q (Need (W2 B d (VRel B) (compareOp op) u v σ N Q))) : W2 B d (VRel B) (compareOp op) u v σ N Q := by
  cases u with
  | int a =>
    cases v with
    | int b =>
      cases op with
      | Lt => exact O_lt h
      | LtE => exact O_le h
      | Gt => exact O_gt h
      | GtE => exact O_ge h
      | Eq => exact O_eq h
      | NotEq => exact O_ne h
      | _ => exact h.elim
    | _ => exact Need.h h
  | str a =>
    cases v with
    | str b =>
      cases op with
      | Eq => exact S_eq h
      | NotEq => exact S_ne h
      | Gt => exact S_gt h
      | Lt => exact S_lt h
      | In => exact S_in h
      | _ => exact h.elim
    | _ => exact Need.h h
  | bool a =>
    obtain ⟨b, hb, h⟩ := vO.out h
    cases V.asBool_eq hb
    cases op with
    | Eq => exact O_eqB h
    | _ => exact h.elim
  | _ => exact Need.h h
theorem vTr_sound {u : V} {Q : Post Bool} (h : vTruth B d u σ N Q) : W1 B d BRel truthy u σ N Q := by
  cases u with
  | bool b => exact T_bool h
  | str x => exact T_str h.1 h.2
  | lst xs => exact T_list (.lst xs) h.1 h.2
  | _ => exact Need.h h
theorem vName_sound (ht : TabOk B tb) (he : EnvOk env) {x : Str} {p : Pos} {Q : Post V} (hx : okName x = true) (h : vName tb env x l σ N Q) : WE B d env l (.Name x p) σ N Q := by
  simp only [okName, Bool.and_eq_true, Bool.not_eq_true'] at hx
  obtain ⟨k, e, h⟩ := vO.out h
  cases k with
  | «local» => obtain ⟨v, ev, h⟩ := vO.out h; exact WE_local ev h he.kind e hx.1
  | cell => obtain ⟨c, ev, v, e2, h⟩ := vO.out h; exact WE_cell ev e2 h he.kind e hx.1
  | free => obtain ⟨c, ev, v, e2, h⟩ := vO.out h; exact WE_free ev e2 h he.kind e hx.1 hx.2
  | globalImplicit =>
    obtain ⟨v, ev, h⟩ := vO.out h
    exact (ht.name x v ev).elim (fun q => WE_glob q h he.kind e he.glob hx.1) fun q => WE_built q h he.kind e he.glob he.bui hx.1
  | _ => exact h.elim
theorem noStar_cons {e : Expr} {es : List Expr} (h : noStar (e :: es) = true) : starEach (e :: es) env = (false, eval e env) :: starEach es env ∧ noStar es = true := by
  cases e <;> first | exact ⟨rfl, h⟩ | cases h
theorem noStar_any {pos : Pos} (env : Env) : ∀ {es : List Expr}, noStar es = true → (backTo pos (starEach es env)).any (·.1) = false
  | [], _ => rfl
  | e :: es, h => by
    obtain ⟨h1, h2⟩ := noStar_cons (env := env) h
    have := noStar_any (pos := pos) env h2
    rw [h1]
    show (false || (backTo pos (starEach es env)).any (·.1)) = false
    rw [this]; rfl
theorem eA_sound (hR : Sound B d R) (he : EnvOk env) {pos : Pos} : ∀ {es : List Expr} {σ : Store} {N : Nat} {Q : Post (List V)}, noStar es = true → eA R env es l σ N Q → WA B d env l pos es σ N Q
  | [], _, _, _, _, h => WA_nil h
  | _ :: _, _, _, _, hn, h => WA_cons ((hR.E he h).mono fun _ _ _ h => eA_sound hR he (noStar_cons (env := env) hn).2 h) (noStar_cons hn).1
theorem CW_T0 {pos : Pos} {T : String} {first : List V} {Q : Post V} (h : WC B d (.type T) first σ N Q) : CW B d env l pos (.lit (.type T)) first [] σ N Q :=
  fun A s v fs k I F r rs => by
    obtain ⟨_, rfl⟩ := r.inv
    refine PySem.callWith_type rfl (evalArgs_nil3 ?_)
    show wpAny _ _ (call (.type T) (fs ++ []) []) _ _ _
    rw [List.append_nil]
    exact h A s fs k I rs
theorem cw_sound (ht : TabOk B tb) (hR : Sound B d R) (he : EnvOk env) {pos : Pos} {f : V} {first : List V} {args : List Expr} {Q : Post V} (hn : noStar args = true)
    (h : vCall B tb d R env f first args l σ N Q) : CW B d env l pos f first args σ N Q := by
  cases args with
  | nil =>
    cases f with
    | lit v =>
      cases v with
      | ref a =>
        obtain ⟨hc, h⟩ := vG.out h
        have h := Need.h h
        rw [List.append_nil] at h
        exact CW_of0 V.lit_is (fun N s I => ht.fn _ hc σ N s I) h
      | builtin id =>
        have h := Need.h h
        rw [List.append_nil] at h
        exact CW_B0 h
      | type T =>
        have h := Need.h h
        rw [List.append_nil] at h
        exact CW_T0 h
      | _ => exact h.elim
    | ref a =>
      have h := Need.h h
      rw [List.append_nil] at h
      obtain ⟨⟨fd, hf⟩, h⟩ := h
      exact CW_fn0 V.ref_is hf h
    | _ => exact h.elim
  | cons e es =>
    obtain ⟨h1, h2⟩ := noStar_cons (env := env) hn
    have h3 := noStar_any (pos := pos) env h2
    cases f with
    | lit v =>
      cases v with
      | ref a =>
        obtain ⟨hc, h⟩ := vG.out h
        exact CW_of V.lit_is (fun _ => True) (fun σ N s _ I => ht.fn _ hc σ N s I) ((eA_sound hR he (pos := pos) hn h).mono fun _ _ _ h => ⟨trivial, h.h⟩) h1 h3
      | builtin id =>
        have h : eA R env (e :: es) l σ N (fun vs σ₁ N₁ => Need (WC B d (.builtin id) (first ++ vs) σ₁ N₁ Q)) := h
        exact CW_B ((eA_sound hR he (pos := pos) hn h).mono fun _ _ _ h => h.h) h1 h3
      | type T =>
        have h : eA R env (e :: es) l σ N (fun vs σ₁ N₁ => Need (WC B d (.type T) (first ++ vs) σ₁ N₁ Q)) := h
        exact CW_T ((eA_sound hR he (pos := pos) hn h).mono fun _ _ _ h => h.h) h1 h3
      | _ => exact h.elim
    | ref a =>
      have h : eA R env (e :: es) l σ N (fun vs σ₁ N₁ => Need ((∃ fd, FnAt B σ₁ a fd) ∧ WC B d (.ref a) (first ++ vs) σ₁ N₁ Q)) := h
      exact CW_fn V.ref_is ((eA_sound hR he (pos := pos) hn h).mono fun _ _ _ h => h.h) h1 h3
    | _ => exact h.elim
theorem vAsN_sound (he : EnvOk env) {x : Str} {p : Pos} {v : V} {K : Loc → Store → Nat → Prop} (h : vAsN env x v l σ N K) : WAs B d env l (.Name x p) v σ N K := by
  obtain ⟨k, e, h⟩ := vO.out h
  cases k with
  | «local» => exact A_name h e he.kind
  | cell => obtain ⟨c, ec, ⟨v₀, h0⟩, h⟩ := vO.out h; exact A_cell ec h0 h e he.kind
  | _ => exact h.elim
theorem WAs.mono {t : Expr} {v : V} {K K' : Loc → Store → Nat → Prop} (h : WAs B d env l t v σ N K) (k : ∀ l σ N, K l σ N → K' l σ N) : WAs B d env l t v σ N K' :=
  fun A s a R E o I F r q => h A s a R E o I F r fun s' l' σ' N' I' S' F' n' h' => q s' l' σ' N' I' S' F' n' (k _ _ _ h')
theorem nameOf_eq {t : Expr} {x : Str} (h : nameOf t = some x) : ∃ p, t = .Name x p := by
  cases t with
  | Name y p => cases h; exact ⟨p, rfl⟩
  | _ => cases h
theorem uncons_eq {α : Type} {l : List α} {p : α × List α} (h : uncons l = some p) : l = p.1 :: p.2 := by
  cases l with
  | nil => cases h
  | cons => cases h; rfl
theorem vAsL_sound (he : EnvOk env) {K : Loc → Store → Nat → Prop} (ts : List Expr) : ∀ {vs : List V} {l : Loc} {σ : Store} {N : Nat}, vAsL env ts vs l σ N K → WAsL B d env ts vs l σ N K := by
  induction ts with
  | nil =>
    intro vs l σ N h
    obtain ⟨e, h⟩ := vG.out h
    cases vs with
    | nil => exact h
    | cons => cases e
  | cons t ts ih =>
    intro vs l σ N h
    obtain ⟨x, e1, h1⟩ := vO.out h
    obtain ⟨p, e2, h2⟩ := vO.out h1
    obtain ⟨q, e3⟩ := nameOf_eq e1
    rw [uncons_eq e2, e3]
    exact (vAsN_sound he h2).mono fun _ _ _ h => ih h
theorem vAsT_sound (he : EnvOk env) {ts : List Expr} {x1 : Nat} {p : Pos} {v : V} {K : Loc → Store → Nat → Prop} (h : vAsT env ts v l σ N K) : WAs B d env l (.Tuple ts x1 p) v σ N K := by
  obtain ⟨vs, e, h⟩ := vO.out h
  obtain ⟨q, h⟩ := vG.out h
  rw [Bool.and_eq_true] at q
  rw [V.asTup_eq e]
  exact A_tuple q.1 (eq_of_beq q.2) (vAsL_sound he ts h)
theorem vAs_sound (he : EnvOk env) {t : Expr} {v : V} {K : Loc → Store → Nat → Prop} (h : vAs env t v l σ N K) : WAs B d env l t v σ N K := by
  cases t with
  | Name x p => exact vAsN_sound he h
  | Tuple ts k p => exact vAsT_sound he h
  | _ => exact h.elim
theorem vTs_sound (hR : Sound B d R) (he : EnvOk env) {ifs : List Expr} {Q : Post Bool} (h : vTs R env ifs l σ N Q) : WTs B d env l ifs σ N Q := by
  cases ifs with
  | nil => exact Ts_nil h
  | cons c r =>
    obtain ⟨e, h⟩ := vG.out h
    cases r with
    | nil => exact Ts_one (hR.T he h)
    | cons => cases e
theorem cloOf_go : ∀ {names : List (Str × NameKind)} {cs cl : List (Str × Nat)}, cloOf env names cs = some cl →
    (forIn names cs fun (x : Str × NameKind) (cs : List (Str × Addr)) => (if (x.2 == .free) = true then cellOf env x.1 >>= fun c => pure (ForInStep.yield ((x.1, c) :: cs)) else pure (ForInStep.yield cs) : Sem (ForInStep (List (Str × Addr))))) = pure cl
  | [], cs, cl, h => by cases h; rfl
  | (n, k) :: r, cs, cl, h => by
    rw [List.forIn_cons]
    cases k
    case free =>
      cases hc : env.cells.lookup n with
      | some c =>
        simp only [cloOf, hc] at h
        have : cellOf env n = pure c := by unfold cellOf; rw [hc]
        show ((cellOf env n >>= fun c => pure (ForInStep.yield ((n, c) :: cs))) >>= _) = _
        rw [this]
        exact cloOf_go h
      | none => simp only [cloOf, hc] at h; cases h
    all_goals exact cloOf_go (cs := cs) h
theorem cloOf_sound {scope : Scope} {cl : List (Str × Nat)} (h : cloOf env scope.names [] = some cl) : closureFor scope env = pure cl := by
  have := cloOf_go h
  unfold closureFor
  show (forIn scope.names [] _ >>= fun cs => pure cs) = _
  exact (congrArg (· >>= fun cs => pure cs) this : _)
theorem compEnvOk {scope : Scope} {cl : List (Str × Nat)} {C : Nat} (he : EnvOk env) (hk : scope.kind = .function) : EnvOk (compEnvC scope cl C env) := ⟨hk, he.glob, he.bui⟩
theorem notSet {iter : Expr} (h : isSet iter = false) : ∀ x, foldedSetIterable iter env x = pure x := fun x => by
  cases iter <;> first | rfl | cases h
theorem okScope_names {names : List (Str × NameKind)} (h : okScope names = true) : (∀ x ∈ names, x.2 = .local → names.lookup x.1 = some .local) ∧ ∀ x ∈ names, x.2 ≠ .cell := by
  have z := List.all_eq_true.mp h
  refine ⟨fun x hx e => ?_, fun x hx => ?_⟩
  · have := z x hx
    rw [Bool.and_eq_true, Bool.or_eq_true] at this
    rcases this.2 with q | q
    · exact absurd e (of_decide_eq_true q)
    · exact of_decide_eq_true q
  · have := z x hx
    rw [Bool.and_eq_true] at this
    exact of_decide_eq_true this.1
theorem vComp_sound (hR : Sound B d R) (he : EnvOk env) {vact : Env → Loc → Store → Nat → AObj → (AObj → Store → Nat → Prop) → Prop} {act : Nat → Env → Sem Unit} {acc₀ : AObj} (hact : ∀ env a l σ N o K, EnvOk env → vact env l σ N o K → WAct B d env l (act a env) a o σ N K)
    {target iter : Expr} {ifs : List Expr} {scope : Scope} {K : Post V} (h : vComp B R env vact acc₀ target iter ifs scope l σ N K) :
    ∃ cl, closureFor scope env = pure cl ∧ scope.kind = .function ∧ (∀ x ∈ scope.names, x.2 = .local → scope.names.lookup x.1 = some .local) ∧ (∀ x ∈ scope.names, x.2 ≠ .cell) ∧ (∀ x, foldedSetIterable iter env x = pure x) ∧
      WE B d env l iter σ N (CompAsk B d env scope cl target ifs act acc₀ K) := by
  obtain ⟨cl, hc, h⟩ := vO.out h
  obtain ⟨hb, h⟩ := vG.out h
  simp only [Bool.and_eq_true, Bool.not_eq_true', decide_eq_true_eq] at hb
  obtain ⟨⟨h1, h2⟩, h3⟩ := hb
  obtain ⟨o1, o2⟩ := okScope_names h1
  refine ⟨cl, cloOf_sound hc, h2, o1, o2, notSet h3, (hR.E he h).mono fun x σ₁ N₁ h => ?_⟩
  cases h with
  | mk hit h =>
    refine ⟨_, _, _, hit, fun a C q1 q3 => ?_⟩
    obtain ⟨J, j0, jd, jt, jf⟩ := h a C q1 q3
    have ke : EnvOk (compEnvC scope cl C env) := compEnvOk he h2
    refine ⟨J, j0, jd, fun i o σ N hi hJ hN => ?_, jf⟩
    refine (vAs_sound ke (jt i o σ N hi hJ hN)).mono fun l σ₁ N₁ h => (vTs_sound hR ke h).mono fun ok σ₂ N₂ h => ?_
    cases ok with
    | true => rw [if_pos rfl]; exact hact _ _ _ _ _ _ _ ke (h.t rfl)
    | false => rw [if_neg Bool.false_ne_true]; exact h.f rfl
theorem vactL_sound (hR : Sound B d R) {elt : Expr} : ∀ env a l σ N o K, EnvOk env → vactL R elt env l σ N o K → WAct B d env l (do let _ ← call (.builtin "list.append") [.ref a, ← eval elt env]) a o σ N K :=
  fun _ _ _ _ _ o _ he h => by
    cases o with
    | list ys => exact act_list h.1 (hR.E he h.2)
    | _ => exact h.elim
theorem methId_ok {T : String} {x : Str} {id : String} (h : methId T x = some id) : PlainAttrs T ∧ Slot T x id ∧ typeOf (.builtin id) = pure (.type "method_descriptor") := by
  unfold methId at h
  split at h
  · repeat' split at h
    · rename_i e; cases h; subst e; exact ⟨F.plainAttrs_list, F.slot_list_append, F.type_list_append⟩
    · rename_i e; cases h; subst e; exact ⟨F.plainAttrs_list, F.slot_list_pop, F.type_list_pop⟩
    · rename_i e; cases h; subst e; exact ⟨F.plainAttrs_list, F.slot_list_extend, F.type_list_extend⟩
    · rename_i e; cases h; subst e; exact ⟨F.plainAttrs_list, F.slot_list_count, F.type_list_count⟩
    · cases h
  · repeat' split at h
    · rename_i e; cases h; subst e; exact ⟨F.plainAttrs_dict, F.slot_dict_get, F.type_dict_get⟩
    · rename_i e; cases h; subst e; exact ⟨F.plainAttrs_dict, F.slot_dict_items, F.type_dict_items⟩
    · rename_i e; cases h; subst e; exact ⟨F.plainAttrs_dict, F.slot_dict_values, F.type_dict_values⟩
    · cases h
  · repeat' split at h
    · rename_i e; cases h; subst e; exact ⟨F.plainAttrs_str, F.slot_str_join, F.type_str_join⟩
    · rename_i e; cases h; subst e; exact ⟨F.plainAttrs_str, F.slot_str_count, F.type_str_count⟩
    · rename_i e; cases h; subst e; exact ⟨F.plainAttrs_str, F.slot_str_startswith, F.type_str_startswith⟩
    · rename_i e; cases h; subst e; exact ⟨F.plainAttrs_str, F.slot_str_endswith, F.type_str_endswith⟩
    · cases h
  · cases h
theorem notSetMark {op : CmpOp} {y : Expr} (h : isSet y = false) : behindInMarks op y = false := by cases y <;> first | rfl | cases h
theorem notSlice {i : Expr} (h : isSlice i = false) : ∀ a b : Value, subscripted i false a b = operate [a, b] (getItem a b) := fun a b => by cases i <;> first | rfl | cases h
theorem noStar_all {pos : Pos} (env : Env) : ∀ {es : List Expr}, noStar es = true → (backTo pos (starEach es env)).all (!·.1) = true
  | [], _ => rfl
  | e :: es, h => by
    obtain ⟨h1, h2⟩ := noStar_cons (env := env) h
    have := noStar_all (pos := pos) env h2
    rw [h1]
    show (!false && (backTo pos (starEach es env)).all (!·.1)) = true
    rw [this]; rfl
theorem eval_meth {o : Expr} {name : Str} {apos pos : Pos} {args : List Expr} (hb : plainBase o = true) (hl : (apos.endLine == pos.line) = true) (hn : noStar args = true) (hz : args.length < 30) :
    eval (.Call (.Attribute o name apos) args [] pos) env = (do
      let ov ← eval o env
      standAt apos.atName
      let (f, first) ← holding [ov] (getMethod ov name (do return (← importBound o env).getD true))
      callWith pos f first (backTo pos (starEach args env)) (backToKw pos (keywordEach [] env))) := by
  have hf : methodCallForm (args.length + ([] : List Keyword).length) (backTo pos (starEach args env)) (backToKw pos (keywordEach [] env)) = true := by
    unfold methodCallForm
    rw [noStar_all env hn]
    show decide (args.length + 0 + 0 < 30) = true
    exact decide_eq_true (by exact ar181 hz)
  have hp : methodCallPos true o env apos pos = pure pos := by unfold methodCallPos; rw [hl]; rfl
  have hm : ∀ ov, methodCall o name apos pos env ov (args.length + ([] : List Keyword).length) (backTo pos (starEach args env)) (backToKw pos (keywordEach [] env)) = (do
      let (f, first) ← holding [ov] (getMethod ov name (do return (← importBound o env).getD true))
      callWith pos f first (backTo pos (starEach args env)) (backToKw pos (keywordEach [] env))) := fun ov => by
    unfold methodCall
    rw [hf, hp]
    rfl
  have ha : attributeBase o name env (eval o env) = eval o env := by cases o <;> first | rfl | cases hb
  show (attributeBase o name env (eval o env) >>= fun ov => standAt apos.atName >>= fun _ => methodCall o name apos pos env ov (args.length + ([] : List Keyword).length) (backTo pos (starEach args env)) (backToKw pos (keywordEach [] env))) = _
  rw [ha]
  congr 1
  funext ov
  congr 1
  funext _
  exact hm ov
/- a method's function and what is bound ahead -/
noncomputable def WM (B : Cx) (d : Nat) (env : Env) (l : Loc) (pos : Pos) (name : Str) (pl : Sem Bool) (args : List Expr) (ov : V) (σ : Store) (N : Nat) (Q : Post V) : Prop :=
  ∀ A s a, Ok d A → Inv B σ N s → FRel B env l σ s.heap → VRel B σ s.heap ov a → wpAny (model B.prog B.w) A (getMethod a name pl) (fun fx s₂ => wpAny (model B.prog B.w) A (callWith pos fx.1 fx.2 (backTo pos (starEach args env)) []) (Ends B (VRel B) σ N s.heap Q) (fun _ _ => False) s₂) (fun _ _ => False) s
theorem E_methV {o : Expr} {name : Str} {apos pos : Pos} {args : List Expr} {Q : Post V} (hb : plainBase o = true) (hl : (apos.endLine == pos.line) = true) (hn : noStar args = true) (hz : args.length < 30)
    (h : WE B d env l o σ N fun ov σ₁ N₁ => WM B d env l pos name (do return (← importBound o env).getD true) args ov σ₁ N₁ Q) : WE B d env l (.Call (.Attribute o name apos) args [] pos) σ N Q :=
  fun A s k I F => methodCall_KW (h.seq (ρ' := VRel B) k I F fun a u σ₁ N₁ s₁ r I₁ F₁ S₁ n₁ h₁ => bot (h₁ A s₁ a k I₁ F₁ r) fun fx s₂ h₂ => bot h₂ fun c s₃ q => q.after S₁ n₁) (eval_meth hb hl hn hz)
theorem M_builtin {pos : Pos} {name : Str} {pl : Sem Bool} {args : List Expr} {ov : V} {T id : String} {Q : Post V} (pa : PlainAttrs T) (slot : Slot T name id) (hty : typeOf (.builtin id) = pure (.type "method_descriptor")) (ht : TypeV σ ov T)
    (h : CW B d env l pos (.lit (.builtin id)) [ov] args σ N Q) : WM B d env l pos name pl args ov σ N Q :=
  fun A s a k I F r => getMethod_builtin (ht.is I r).1 pa slot hty (ht.is I r).2 (h A s _ [a] k I F (.lit _) (.cons r .nil))
theorem VMeth.sound {pos : Pos} {name : Str} {pl : Sem Bool} {args : List Expr} {ov : V} {Q : Post V} {K : V → List V → Prop} (hK : ∀ f first, K f first → CW B d env l pos f first args σ N Q) (h : VMeth B σ name K ov) : WM B d env l pos name pl args ov σ N Q := by
  cases h with
  | builtin ht hm h => obtain ⟨a, b, c⟩ := methId_ok hm; exact M_builtin a b c ht (hK _ _ h)
  | inst hx hD hm hl h => exact M_inst hx hD hm hl (hK _ _ h)
  | fn hl hx hc hd hf hD hv hh h => exact M_fn hl hx hc hd hf hD hv hh (hK _ _ h)
theorem vPs_sound (hR : Sound B d R) (he : EnvOk env) {pos : Pos} : ∀ {ps : List (Expr × Expr)} {σ : Store} {N : Nat} {Q : Post (List (V × V))}, vPs R env ps l σ N Q → WPs B d env l pos ps σ N Q
  | [], _, _, _, h => Ps_nil h
  | (_, _) :: _, _, _, _, h => Ps_cons ((hR.E he h).mono fun _ _ _ h => (hR.E he h).mono fun _ _ _ h => vPs_sound hR he h)
theorem vDict_sound (hR : Sound B d R) (he : EnvOk env) {pos : Pos} {ps : List (Expr × Expr)} {Q : Post V} (h : vDict R env ps l σ N Q) : WE B d env l (.Dict (ps.map fun p => some p.1) (ps.map (·.2)) pos) σ N Q := by
  cases ps with
  | nil => exact WE_dict0 h
  | cons p ps =>
    obtain ⟨hz, h⟩ := vG.out h
    exact WE_dict (ps := p :: ps) (by nofun) (of_decide_eq_true hz) fun a ha => vPs_sound hR he (h a ha)
theorem vactD_sound (hR : Sound B d R) {kx vx : Expr} : ∀ env a l σ N o K, EnvOk env → vactD R kx vx env l σ N o K → WAct B d env l (dictAct kx vx a env) a o σ N K :=
  fun _ _ _ _ _ o _ he h => by
    cases o with
    | dict es ep => exact act_dict h.1 ((hR.E he h.2).mono fun _ _ _ h => hR.E he h)
    | _ => exact h.elim
theorem nil_of {α : Type} {l : List α} (h : l.isEmpty = true) : l = [] := by cases l with | nil => rfl | cons => cases h
theorem vPart_sound (hR : Sound B d R) (he : EnvOk env) {o : Option Expr} {K : Option Int → Store → Nat → Prop} (h : vPart R env o l σ N K) : WF B d env l (fun _ _ p v => IsPart v p) (evalPart o env) σ N K := by
  cases o with
  | none => exact fun A s k I F => wpAny_pure (.here I (.refl _ _) .none h)
  | some e =>
    intro A s k I F
    refine (hR.E he h).seq (ρ' := VRel B) k I F fun a u σ₁ N₁ s₁ r I₁ F₁ S₁ n₁ h₁ => ?_
    obtain ⟨i, e1, h₁⟩ := vO.out h₁
    cases V.asInt_eq e1
    obtain ⟨_, rfl⟩ := r.inv
    exact ⟨some i, σ₁, N₁, .int _ _, I₁, S₁, n₁, h₁⟩
theorem vSlice_sound (hR : Sound B d R) (he : EnvOk env) {o : Expr} {a b c : Option Expr} {p pos : Pos} {Q : Post V}
    (h : R.E env o l σ N fun u σ₁ N₁ => vPart R env a l σ₁ N₁ fun lo σ₂ N₂ => vPart R env b l σ₂ N₂ fun hi σ₃ N₃ => vPart R env c l σ₃ N₃ fun st σ₄ N₄ => Need (WSlice B d u lo hi st σ₄ N₄ Q)) : WE B d env l (.Subscript o (.Slice a b c p) pos) σ N Q :=
  fun A s k I F => Subscript_ ((hR.E he h).seq (ρ' := VRel B) k I F fun x u σ₁ N₁ s₁ r I₁ F₁ S₁ n₁ h₁ => wpAny_Slice ((vPart_sound hR he h₁).seq (ρ' := VRel B) k I₁ F₁ fun vl lo σ₂ N₂ s₂ r₂ I₂ F₂ S₂ n₂ h₂ =>
    (vPart_sound hR he h₂).seq (ρ' := VRel B) k I₂ F₂ fun vu hi σ₃ N₃ s₃ r₃ I₃ F₃ S₃ n₃ h₃ => (vPart_sound hR he h₃).seq (ρ' := VRel B) k I₃ F₃ fun vk st σ₄ N₄ s₄ r₄ I₄ F₄ S₄ n₄ h₄ => by
      obtain ⟨⟨T, id, ht, hl⟩, h₄⟩ := Need.h h₄
      have S := (S₁.trans (S₂.trans (S₃.trans S₄))).trans (Step.push (o := { cls := .type "slice", data := .fields #[vl, vu, vk] }))
      have rx := (((r.mono S₂).mono S₃).mono S₄).mono (Step.push (o := { cls := .type "slice", data := .fields #[vl, vu, vk] }))
      have I5 := I₄.push (o := { cls := .type "slice", data := .fields #[vl, vu, vk] })
      have g : wpAny (model B.prog B.w) A (getItem x (.ref s₄.heap.objs.size)) (Ends B (VRel B) σ N s.heap Q) (fun _ _ => False) { s₄ with heap := s₄.heap.push { cls := .type "slice", data := .fields #[vl, vu, vk] } } :=
        bot (h₄ A _ x _ vl vu vk k I5 rx (Heap.IsSliceOf.new ..) r₂ r₃ r₄) fun _ _ e => e.after S (Nat.le_trans n₁ (Nat.le_trans n₂ (Nat.le_trans n₃ n₄)))
      cases c with
      | none => exact tail_any (ht.is I5 rx) hl g rfl
      | some c => exact tail_any (ht.is I5 rx) hl g rfl))
theorem OffL.rel {s : Shared} {σ : Store} {vs : List V} {σ' : Store} {vs' : List V} (h : OffL σ vs σ' vs') : ∀ {as : List Value}, Inv B σ N s → VRelL B σ s.heap vs as → VRelL B σ' s.heap vs' as ∧ Inv B σ' N s ∧ Sub σ' σ := by
  induction h with
  | refl => exact fun I r => ⟨r, I, .refl _⟩
  | cons h t ih =>
    intro as I r
    obtain ⟨y, as, rfl, r, rs⟩ := r.cons'
    obtain ⟨a, b, c⟩ := ih (I.sub h.store) (rs.sub h.store)
    exact ⟨.cons ((h.rel I r).sub c) a, b, ⟨fun x o e => h.store.sub x o (c.sub x o e), c.fr.trans h.store.fr⟩⟩
theorem WE_tupleV {es : List Expr} {k : Nat} {pos : Pos} {Q : Post V} (h : WA B d env l pos es σ N fun vs σ₁ N₁ => ∃ σ₂ vs', OffL σ₁ vs σ₂ vs' ∧ vs.length ≤ sizeLine ∧ Q (.tup vs') σ₂ N₁) : WE B d env l (.Tuple es k pos) σ N Q :=
  fun A s k I F => Tuple_ (h.seq (ρ' := VRel B) k I F fun as us σ₁ N₁ s₁ r I₁ F₁ S₁ n₁ ⟨σ₂, vs', o, hz, h₁⟩ => by
    obtain ⟨r2, I2, u⟩ := o.rel I₁ r
    have hz' : vs'.length ≤ sizeLine := by rw [r2.length, ← r.length]; exact hz
    exact bot (WN_newTuple h₁ hz' A s₁ as k I2 r2) fun _ s₂ ⟨b, σ', N', q1, q2, q3, q4, q5⟩ => ⟨b, σ', N', q1, q2, S₁.trans ((Step.sub (.refl _ _) u).trans q3), Nat.le_trans n₁ q4, q5⟩)
theorem WN_newListF {xs : List V} {Q : Post V} (hz : xs.length ≤ sizeLine) (h : ∀ N', N ≤ N' → Q (.lst xs) σ N') : WN B d (VRel B) newList xs σ N Q :=
  fun A s as k I r => wpAny_newObj_type (.here I.push .push (.lst (n := 0) (items := as.toArray) (Heap.get?_push_size _ rfl) I.free (r.mono .push)) (h N (Nat.le_refl _))) (by show as.toArray.size ≤ sizeLine; rw [List.size_toArray, ← r.length]; exact hz)
theorem WE_listV {es : List Expr} {pos : Pos} {Q : Post V} (h : WA B d env l pos es σ N fun vs σ₁ N₁ => VList σ₁ N₁ Q vs) : WE B d env l (.List es pos) σ N Q :=
  fun A s k I F => List_ (h.seq (ρ' := VRel B) k I F fun as us σ₁ N₁ s₁ r I₁ F₁ S₁ n₁ h₁ => by
    cases h₁ with
    | «mut» hz h => exact bot (WN_newList h hz A s₁ as k I₁ r) fun _ s₂ e => e.after S₁ n₁
    | froz hz h => exact bot (WN_newListF hz h A s₁ as k I₁ r) fun _ s₂ e => e.after S₁ n₁)
theorem vE_sound (ht : TabOk B tb) (hR : Sound B d R) (he : EnvOk env) {e : Expr} {Q : Post V} (h : vE B tb d R env e l σ N Q) : WE B d env l e σ N Q := by
  cases e with
  | Constant c k p =>
    cases c with
    | int i => exact WE_int h
    | str i => exact WE_str h
    | bool i => exact WE_bool h
    | none => exact WE_none h
    | _ => exact h.elim
  | Name x p => obtain ⟨hx, h⟩ := vG.out h; exact vName_sound ht he hx h
  | BinOp x op y p => exact WE_bin ((hR.E he h).mono fun _ _ _ h => (hR.E he h).mono fun _ _ _ h => vOp_sound h)
  | Compare x ops ys p =>
    obtain ⟨op, e1, h1⟩ := vO.out h
    obtain ⟨y, e2, h2⟩ := vO.out h1
    obtain ⟨hs, h3⟩ := vG.out h2
    clear h h1 h2
    cases one_eq e1; cases one_eq e2
    exact WE_cmp ((hR.E he h3).mono fun _ _ _ h => (hR.E he h).mono fun _ _ _ h => vCmp_sound h) (notSetMark (Bool.not_eq_true' _ ▸ hs))
  | UnaryOp op x p =>
    cases op with
    | Not => exact WE_una ((hR.E he h).mono fun _ _ _ h => O_not (vTr_sound h))
    | USub => exact WE_una ((hR.E he h).mono fun _ _ _ h => by
        obtain ⟨i, e, h⟩ := vO.out h
        cases V.asInt_eq e
        exact fun A s x k I r => by
          obtain ⟨_, rfl⟩ := r.inv
          exact neg_int (.here (s' := { s with toks := s.toks + 1 }) I.toks (.refl _ _) (.int _ _) h))
    | _ => exact h.elim
  | BoolOp op vs p =>
    obtain ⟨⟨x, y⟩, e1, h⟩ := vO.out h
    cases two_eq e1
    cases op with
    | And => exact WE_and ((hR.E he h).mono fun _ _ _ h => (vTr_sound h).mono fun b _ _ h => by
        cases b with
        | true => rw [if_pos rfl]; exact hR.E he (VIf.t h rfl)
        | false => rw [if_neg Bool.false_ne_true]; exact VIf.f h rfl)
    | Or => exact WE_or ((hR.E he h).mono fun _ _ _ h => (vTr_sound h).mono fun b _ _ h => by
        cases b with
        | true => rw [if_pos rfl]; exact VIf.t h rfl
        | false => rw [if_neg Bool.false_ne_true]; exact hR.E he (VIf.f h rfl))
  | IfExp t x y p => exact WE_ifexp ((hR.T he h).mono fun b _ _ h => by
      cases b with
      | true => exact hR.E he (h.t rfl)
      | false => exact hR.E he (h.f rfl))
  | Subscript o i p =>
    have pl : vG (!isSlice i) (R.E env o l σ N fun u σ₁ N₁ => R.E env i l σ₁ N₁ fun v σ₂ N₂ => Need (WItem B d u v σ₂ N₂ Q)) → WE B d env l (.Subscript o i p) σ N Q := fun h => by
      obtain ⟨hs, h⟩ := vG.out h
      exact WE_sub ((hR.E he h).mono fun _ _ _ h => (hR.E he h).mono fun _ _ _ h => let ⟨⟨T, id, ht, hl⟩, g⟩ := Need.h h; U_of ht hl (notSlice (Bool.not_eq_true' _ ▸ hs)) g)
    cases i with
    | Slice a b c q => exact vSlice_sound hR he h
    | _ => exact pl h
  | List es p => obtain ⟨hs, h⟩ := vG.out h; exact WE_listV (eA_sound hR he hs h)
  | Tuple es k p => obtain ⟨hs, h⟩ := vG.out h; exact WE_tupleV (eA_sound hR he hs h)
  | Call f args ks pos =>
    obtain ⟨hs, h1⟩ := vG.out h
    clear h
    rw [Bool.and_eq_true] at hs
    cases nil_of hs.2
    cases f with
    | Name x p => obtain ⟨hx, h⟩ := vG.out h1; exact E_call ((vName_sound ht he hx h).mono fun _ _ _ h => cw_sound ht hR he hs.1 h)
    | Attribute o name apos =>
      obtain ⟨hx, h⟩ := vG.out h1
      simp only [Bool.and_eq_true, decide_eq_true_eq] at hx
      exact E_methV hx.1.1 hx.1.2 hs.1 hx.2 ((hR.E he h).mono fun _ _ _ h => h.sound fun f first h => cw_sound ht hR he hs.1 h)
    | _ => exact h1.elim
  | ListComp elt gens scope pos =>
    obtain ⟨g, e1, h⟩ := vO.out h
    obtain ⟨cl, h1, h2, h3, h4, h5, h⟩ := vComp_sound hR he (vactL_sound hR) h
    rw [genOf_eq e1]
    exact comp_value (ck_list _ _ _ _ _ _) mk_list rfl h1 h2 h3 h4 h5 h
  | DictComp kx vx gens scope pos =>
    obtain ⟨g, e1, h⟩ := vO.out h
    obtain ⟨cl, h1, h2, h3, h4, h5, h⟩ := vComp_sound hR he (vactD_sound hR) h
    rw [genOf_eq e1]
    exact comp_value (ck_dict _ _ _ _ _ _ _) mk_dict rfl h1 h2 h3 h4 h5 h
  | Dict ks vs pos =>
    obtain ⟨ps, e1, h⟩ := vO.out h
    obtain ⟨e2, e3⟩ := pairsOf_eq e1
    rw [e2, e3]
    exact vDict_sound hR he h
  | Attribute o name pos =>
    obtain ⟨hb, h⟩ := vG.out h
    exact WE_attr (by cases o <;> first | rfl | cases hb) ((hR.E he h).mono fun _ _ _ h => h.h)
  | _ => exact h.elim
theorem vBoolT_sound (hR : Sound B d R) (he : EnvOk env) {op : BoolOp} : ∀ {vs : List Expr} {σ : Store} {N : Nat} {Q : Post Bool}, vBoolT R env op vs l σ N Q → WF B d env l BRel (isTrue (.BoolOp op vs ⟨0, 0, 0, 0⟩) env (eval (.BoolOp op vs ⟨0, 0, 0, 0⟩) env)) σ N Q
  | [], _, _, _, h => h.elim
  | [x], σ, N, Q, h => fun A s k I F => by
    cases op with
    | And =>
      refine isTrue_and ((hR.T he h).seq (ρ' := VRel B) k I F fun a u σ₁ N₁ s₁ e I₁ F₁ S₁ n₁ h₁ => ?_)
      cases (show u = a from e)
      cases a with
      | false => exact ⟨false, σ₁, N₁, rfl, I₁, S₁, n₁, h₁⟩
      | true => exact isTrue_and_nil ⟨true, σ₁, N₁, rfl, I₁, S₁, n₁, h₁⟩
    | Or =>
      refine isTrue_or ((hR.T he h).seq (ρ' := VRel B) k I F fun a u σ₁ N₁ s₁ e I₁ F₁ S₁ n₁ h₁ => ?_)
      cases (show u = a from e)
      cases a with
      | true => exact ⟨true, σ₁, N₁, rfl, I₁, S₁, n₁, h₁⟩
      | false => exact isTrue_or_nil ⟨false, σ₁, N₁, rfl, I₁, S₁, n₁, h₁⟩
  | x :: y :: r, σ, N, Q, h => fun A s k I F => by
    cases op with
    | And =>
      refine isTrue_and ((hR.T he h).seq (ρ' := VRel B) k I F fun a u σ₁ N₁ s₁ e I₁ F₁ S₁ n₁ h₁ => ?_)
      cases (show u = a from e)
      cases a with
      | false => exact ⟨false, σ₁, N₁, rfl, I₁, S₁, n₁, VIf.f h₁ rfl⟩
      | true => exact bot (vBoolT_sound hR he (VIf.t h₁ rfl) A s₁ k I₁ F₁) fun _ _ q => q.after S₁ n₁
    | Or =>
      refine isTrue_or ((hR.T he h).seq (ρ' := VRel B) k I F fun a u σ₁ N₁ s₁ e I₁ F₁ S₁ n₁ h₁ => ?_)
      cases (show u = a from e)
      cases a with
      | true => exact ⟨true, σ₁, N₁, rfl, I₁, S₁, n₁, VIf.t h₁ rfl⟩
      | false => exact bot (vBoolT_sound hR he (VIf.f h₁ rfl) A s₁ k I₁ F₁) fun _ _ q => q.after S₁ n₁
theorem vT_sound (hR : Sound B d R) (he : EnvOk env) {e : Expr} {Q : Post Bool} (h : vT B d R env e l σ N Q) : WB B d env l e σ N Q := by
  cases e with
  | UnaryOp op x p => obtain ⟨hs, h⟩ := vG.out h; cases (eq_of_beq hs); exact WB_not (hR.T he h)
  | BoolOp op vs p => exact vBoolT_sound hR he h
  | Compare x ops ys p =>
    obtain ⟨op, e1, h1⟩ := vO.out h
    obtain ⟨y, e2, h2⟩ := vO.out h1
    obtain ⟨hs, h3⟩ := vG.out h2
    clear h h1 h2
    cases one_eq e1; cases one_eq e2
    exact WB_cmp ((hR.E he h3).mono fun _ _ _ h => (hR.E he h).mono fun _ _ _ h => (vCmp_sound h).mono fun _ _ _ h => vTr_sound h) (notSetMark (Bool.not_eq_true' _ ▸ hs))
  | Name x p => exact WB_plain ((hR.E he h).mono fun _ _ _ h => vTr_sound h) rfl
  | Attribute o x p => exact WB_plain ((hR.E he h).mono fun _ _ _ h => vTr_sound h) rfl
  | Subscript o x p => exact WB_plain ((hR.E he h).mono fun _ _ _ h => vTr_sound h) rfl
  | Call f as ks p => exact WB_plain ((hR.E he h).mono fun _ _ _ h => vTr_sound h) rfl
  | _ => exact h.elim
end
end
noncomputable section
section
variable {B : Cx} {tb : Tb} {d : Nat} {env : Env} {l : Loc} {σ : Store} {N : Nat} {R : Rec} {rest : List Stmt} {Q : PostS}
theorem notComp {e : Expr} {t : Option Expr} {n : Nat} (h : isComp e = false) : swapsWith e t n env = pure false := by cases e <;> first | rfl | cases h
theorem X_assignN (he : EnvOk env) {x : Str} {p pos : Pos} {e : Expr} (h : WE B d env l e σ N fun v σ₁ N₁ => vAsN env x v l σ₁ N₁ fun l σ₂ N₂ => WX B d env l rest σ₂ N₂ Q) (hs : swapsWith e (some (.Name x p)) pos.line env = pure false) : WX B d env l (.Assign [.Name x p] e pos :: rest) σ N Q :=
  X_cons fun A s k I F => wpAny_Assign_Name (h.seq (ρ' := VRel B) k I F fun a v σ₁ N₁ s₁ r I₁ F₁ S₁ n₁ h₁ => by
    obtain ⟨kd, e, h₁⟩ := vO.out h₁
    cases kd with
    | «local» => exact store_local I₁ F₁ r e he.kind fun s₂ I₂ F₂ S₂ => ⟨.next, _, σ₁, N₁, .next, I₂, (S₁.toL _).trans S₂, F₂, n₁, h₁⟩
    | cell => obtain ⟨c, ec, ⟨v₀, h0⟩, h₁⟩ := vO.out h₁; exact store_cell I₁ F₁ r e he.kind ec h0 fun s₂ I₂ F₂ S₂ => ⟨.next, _, _, N₁, .next, I₂, (S₁.trans S₂).toL _, F₂, n₁, h₁⟩
    | _ => exact h₁.elim) hs
theorem vAsN.mono {x : Str} {v : V} {K K' : Loc → Store → Nat → Prop} (h : vAsN env x v l σ N K) (k : ∀ l σ N, K l σ N → K' l σ N) : vAsN env x v l σ N K' := by
  obtain ⟨kd, e, h⟩ := vO.out h
  unfold vAsN
  rw [e]
  cases kd with
  | «local» => exact k _ _ _ h
  | cell => obtain ⟨c, ec, h0, h⟩ := vO.out h; show vO (env.cells.lookup x) _; rw [ec]; exact ⟨h0, k _ _ _ h⟩
  | _ => exact h.elim
theorem CompAsk.mono {scope : Scope} {cl : List (Str × Nat)} {target : Expr} {ifs : List Expr} {act : Nat → Env → Sem Unit} {acc₀ : AObj} {K K' : Post V} {x : V} {σ₁ : Store} {N₁ : Nat} (h : CompAsk B d env scope cl target ifs act acc₀ K x σ₁ N₁) (k : ∀ v σ N, K v σ N → K' v σ N) : CompAsk B d env scope cl target ifs act acc₀ K' x σ₁ N₁ := by
  obtain ⟨n, item, Dep, hit, h⟩ := h
  refine ⟨n, item, Dep, hit, fun a C q1 q2 => ?_⟩
  obtain ⟨J, j0, jd, jt, jf⟩ := h a C q1 q2
  exact ⟨J, j0, jd, jt, fun o σ N a b => let ⟨v, hd, hk⟩ := jf o σ N a b; ⟨v, hd, k _ _ _ hk⟩⟩
theorem X_assignComp {e target iter : Expr} {ifs : List Expr} {act : Nat → Env → Sem Unit} {scope : Scope} {x : Str} {p pos spos : Pos} {cl : List (Str × Nat)} {mk : Sem Value} {acc₀ : AObj} (ck : CK e target iter ifs act)
    (hmk : ∀ {σ : Store} {N : Nat} {Q : Post V}, (∀ a, N ≤ a → Q (.ref a) (pt σ a acc₀) (a + 1)) → W0 B d (VRel B) mk σ N Q)
    (he : ∀ use, evalThenUse e env use = (do let _ ← comprehension e scope env pos mk false (eval iter env) (some use)))
    (h : WE B d env l iter σ N (CompAsk B d env scope cl target ifs act acc₀ fun v σ' N' => WX B d env (upd l x v) rest σ' N' Q)) (hsw : swapsWith e (some (.Name x p)) spos.line env = pure true) (hl : env.kindOf x = some .local) (hk : env.scope.kind = .function)
    (hclos : closureFor scope env = pure cl) (hkind : scope.kind = .function) (hnames : ∀ x ∈ scope.names, x.2 = .local → scope.names.lookup x.1 = some .local) (hcell : ∀ x ∈ scope.names, x.2 ≠ .cell) (hs : ∀ x, foldedSetIterable iter env x = pure x) :
    WX B d env l (.Assign [.Name x p] e spos :: rest) σ N Q :=
  X_cons fun A s k I F => by
    rw [exec_Assign_Name_used _ _ _ _ hsw]
    refine wpAny_bind (wpAny_standAt (wpAny_bind ?_))
    rw [he]
    exact wpAny_bind (comp_use ck hmk hl hk hclos hkind hnames hcell hs k I F h fun v u s' σ' N' hK I' S' F' n' => wpAny_pure (wpAny_pure ⟨.next, _, σ', N', .next, I', S', F', n', hK⟩))
theorem vThen_to (hR : Sound B d R) (he : EnvOk env) : ∀ x l σ N', N ≤ N' → vThen R env rest Q x l σ N' → Then B d env rest Q x l σ N' := fun x l σ N' _ h => by
  cases x with
  | next => exact hR.S he h
  | brk => exact h
  | cont => exact h
  | ret v => exact h
theorem vJoin_to {J : Loc → Store → Nat → Prop} : ∀ x l σ N', N ≤ N' → vJoin Q J x l σ N' → Joined Q J x l σ N' := fun x l σ N' n h => by
  cases x with
  | next => exact h
  | brk => exact h
  | cont => exact h
  | ret v => exact h
theorem not_of_bnot {b : Bool} (h : (!b) = true) : b = false := by cases b with | true => cases h | false => rfl
theorem vAssignC_sound (hR : Sound B d R) (he : EnvOk env) {x : Str} {p cpos pos : Pos} {e target iter : Expr} {ifs : List Expr} {scope : Scope} {vact : Env → Loc → Store → Nat → AObj → (AObj → Store → Nat → Prop) → Prop} {act : Nat → Env → Sem Unit} {mk : Sem Value} {acc₀ : AObj} (ck : CK e target iter ifs act)
    (hmk : ∀ {σ : Store} {N : Nat} {Q : Post V}, (∀ a, N ≤ a → Q (.ref a) (pt σ a acc₀) (a + 1)) → W0 B d (VRel B) mk σ N Q) {ppos : Pos}
    (hev : eval e env = comprehension e scope env ppos mk false (eval iter env) none) (heu : ∀ use, evalThenUse e env use = (do let _ ← comprehension e scope env ppos mk false (eval iter env) (some use)))
    (hsw : swapsWith e (some (.Name x p)) pos.line env = pure (swaps env x p cpos scope)) (hact : ∀ env a l σ N o K, EnvOk env → vact env l σ N o K → WAct B d env l (act a env) a o σ N K)
    (h : vAssignC B R env x p vact acc₀ target iter ifs scope cpos rest l σ N Q) : WX B d env l (.Assign [.Name x p] e pos :: rest) σ N Q := by
  cases hq : swaps env x p cpos scope with
  | true =>
    have h : vComp B R env vact acc₀ target iter ifs scope l σ N fun v σ₁ N₁ => R.S env rest (upd l x v) σ₁ N₁ Q := by
      have := h
      unfold vAssignC at this
      rw [hq] at this
      exact this
    obtain ⟨cl, h1, h2, h3, h4, h5, h⟩ := vComp_sound hR he hact h
    have hl := hq
    unfold swaps at hl
    simp only [Bool.and_eq_true, beq_iff_eq] at hl
    exact X_assignComp ck hmk heu (h.mono fun _ _ _ h => h.mono fun _ _ _ h => hR.S he h) (by rw [hsw, hq]) hl.1.1.2 he.kind h1 h2 h3 h4 h5
  | false =>
    have h : vComp B R env vact acc₀ target iter ifs scope l σ N fun v σ₁ N₁ => vAsN env x v l σ₁ N₁ fun l σ₂ N₂ => R.S env rest l σ₂ N₂ Q := by
      have := h
      unfold vAssignC at this
      rw [hq] at this
      exact this
    obtain ⟨cl, h1, h2, h3, h4, h5, h⟩ := vComp_sound hR he hact h
    exact X_assignN he (comp_value ck hmk hev h1 h2 h3 h4 h5 (h.mono fun _ _ _ h => h.mono fun _ _ _ h => h.mono fun _ _ _ h => hR.S he h)) (by rw [hsw, hq])
theorem X_assignTuple {ts : List Expr} {x1 : Nat} {p pos : Pos} {e : Expr} (h : WE B d env l e σ N fun v σ₁ N₁ => WAs B d env l (.Tuple ts x1 p) v σ₁ N₁ fun l σ₂ N₂ => WX B d env l rest σ₂ N₂ Q)
    (hs : swapsWith e (some (.Tuple ts x1 p)) pos.line env = pure false) (hw : swappedStores [.Tuple ts x1 p] e env = pure none) : WX B d env l (.Assign [.Tuple ts x1 p] e pos :: rest) σ N Q :=
  X_cons fun A s k I F => Assign_Tuple (h.seq (ρ' := VRel B) k I F fun a v σ₁ N₁ s₁ r I₁ F₁ S₁ n₁ h₁ => h₁ A s₁ a _ _ k I₁ F₁ r fun s₂ l₂ σ₂ N₂ I₂ S₂ F₂ n₂ h₂ =>
    ⟨.next, l₂, σ₂, N₂, .next, I₂, (S₁.toL _).trans S₂, F₂, Nat.le_trans n₁ n₂, h₂⟩) hs hw
theorem notSwap {ts : List Expr} {x1 : Nat} {p : Pos} {e : Expr} (h : (!isComp e && !isMany e) = true) : swappedStores [.Tuple ts x1 p] e env = pure none := by cases e <;> first | rfl | cases h
theorem vAssign_sound (hR : Sound B d R) (he : EnvOk env) {t e : Expr} {pos : Pos} (h : vAssign B d R env t e rest l σ N Q) : WX B d env l (.Assign [t] e pos :: rest) σ N Q := by
  cases t with
  | Name x p =>
    have pl : vG (!isComp e) (R.E env e l σ N fun v σ₁ N₁ => vAsN env x v l σ₁ N₁ fun l σ₂ N₂ => R.S env rest l σ₂ N₂ Q) → WX B d env l (.Assign [.Name x p] e pos :: rest) σ N Q := fun h => by
      obtain ⟨hs, h⟩ := vG.out h
      exact X_assignN he ((hR.E he h).mono fun _ _ _ h => h.mono fun _ _ _ h => hR.S he h) (notComp (not_of_bnot hs))
    cases e with
    | ListComp elt gens scope cpos =>
      obtain ⟨g, e1, h⟩ := vO.out h
      rw [genOf_eq e1]
      exact vAssignC_sound hR he (ck_list _ _ _ _ _ _) mk_list rfl (fun _ => rfl) rfl (vactL_sound hR) h
    | DictComp kx vx gens scope cpos =>
      obtain ⟨g, e1, h⟩ := vO.out h
      rw [genOf_eq e1]
      exact vAssignC_sound hR he (ck_dict _ _ _ _ _ _ _) mk_dict rfl (fun _ => rfl) rfl (vactD_sound hR) h
    | _ => exact pl h
  | Subscript o i p =>
    obtain ⟨hs, h⟩ := vG.out h
    exact X_assignSub ((hR.E he h).mono fun _ _ _ h => (hR.E he h).mono fun _ _ _ h => (hR.E he h).mono fun _ _ _ h => (Need.h h).mono fun _ _ _ h => hR.S he h) (notComp (not_of_bnot hs))
  | Attribute o name p =>
    obtain ⟨hs, h⟩ := vG.out h
    exact X_assignAttr ((hR.E he h).mono fun _ _ _ h => (hR.E he h).mono fun _ _ _ h => (Need.h h).mono fun _ _ _ h => hR.S he h) (notComp (not_of_bnot hs))
  | Tuple ts x1 p =>
    obtain ⟨hs, h⟩ := vG.out h
    exact X_assignTuple ((hR.E he h).mono fun _ _ _ h => (vAsT_sound he h).mono fun _ _ _ h => hR.S he h) (notComp (not_of_bnot ((Bool.and_eq_true _ _ ▸ hs).1))) (notSwap hs)
  | _ => exact h.elim
theorem vInp_sound {op : Operator} {u v : V} {Q : Post V} (h : vInp op u v σ N Q) : W2 B d (VRel B) (inplaceOp op) u v σ N Q := by
  obtain ⟨e, h⟩ := vG.out h
  cases (eq_of_beq e)
  cases u with
  | int a => obtain ⟨b, hb, h⟩ := vO.out h; cases V.asInt_eq hb; exact IP_int h
  | str a => obtain ⟨b, hb, h⟩ := vO.out h; cases V.asStr_eq hb; exact IP_str h.1 h.2
  | _ => exact h.elim
theorem augStore_plain {i : Expr} (h : isSlice i = false) : ∀ ov iv new, augStore i ov iv new = (do holding [new, ov, iv] (setItem ov iv new); release [new, ov, iv] []; pure .next) := fun _ _ _ => by cases i <;> first | rfl | cases h
theorem vAug_sound (hR : Sound B d R) (he : EnvOk env) {t e : Expr} {op : Operator} {pos : Pos} (h : vAug B d R env t op e rest l σ N Q) : WX B d env l (.AugAssign t op e pos :: rest) σ N Q := by
  cases t with
  | Name x p =>
    obtain ⟨hk, h⟩ := vG.out h
    obtain ⟨old, hl, h⟩ := vO.out h
    exact X_augName hl he.kind (eq_of_beq hk) ((hR.E he h).mono fun _ _ _ h => (vInp_sound h).mono fun _ _ _ h => hR.S he h)
  | Attribute o name p =>
    exact X_augAttr ((hR.E he h).mono fun _ _ _ h => (Need.h h).mono fun _ _ _ h => (hR.E he h).mono fun _ _ _ h => (vInp_sound h).mono fun _ _ _ h => (Need.h h).mono fun _ _ _ h => hR.S he h)
  | Subscript o i p =>
    obtain ⟨hs, h⟩ := vG.out h
    exact X_augSub (augStore_plain (not_of_bnot hs)) ((hR.E he h).mono fun _ _ _ h => (hR.E he h).mono fun _ _ _ h => (Need.h h).mono fun _ _ _ h => (hR.E he h).mono fun _ _ _ h => (vInp_sound h).mono fun _ _ _ h => (Need.h h).mono fun _ _ _ h => hR.S he h)
  | _ => exact h.elim
theorem vFor_sound (hR : Sound B d R) (he : EnvOk env) {target iter : Expr} {body : List Stmt} {pos : Pos} (hs : ∀ x, foldedSetIterable iter env x = pure x) (h : R.E env iter l σ N fun x σ₁ N₁ => VFor B d R env target body rest Q l σ₁ N₁ x) : WX B d env l (.For target iter body [] pos :: rest) σ N Q := by
  have tt : ∀ (J : Loc → Store → Nat → Prop) x l σ N, vTurn R env rest Q J x l σ N → ForTurn B d env rest Q J x l σ N := fun J x l σ N h => by
    cases x with
    | next => exact h
    | cont => exact h
    | brk => exact hR.S he h
    | ret v => exact h
  refine X_for ((hR.E he h).mono fun x σ₁ N₁ h => ?_) hs
  cases h with
  | items hi J l₀ hl h0 hd ht hf =>
    exact For_items ⟨_, _, _, hi, J, l₀, hl, h0, hd, fun i l σ N' hin hj hn => (vAs_sound he (ht i l σ N' hin hj hn)).mono fun l σ N h => WS.post (hR.S he h) fun x l σ N _ h => tt _ x l σ N h, fun l σ N' hj hn => hR.S he (hf l σ N' hj hn)⟩
  | calls hd hm J n l₀ hl h0 ht =>
    obtain ⟨d', rfl⟩ : ∃ d', d = d' + 1 := ⟨d - 1, by exact ar182 hd⟩
    rename_i it' bm' f' x' y' t'
    refine For_calls (bm := bm') (f := f') (x := x') (y := y') (t := t') J (notMany hm) hl h0 fun n l σ N' hj hn => ?_
    obtain ⟨c, w⟩ := ht n l σ N' hj hn
    refine ⟨c, fun A s as k I r => codeAny_mono (w A s as k I r) fun r s' q => ?_⟩
    rcases r with e | (v | _ | _ | _) <;> first | exact q | skip
    obtain ⟨b, σ₁, N₁, rb, I₁, S₁, n₁, z, e, c₁, h1, h2⟩ := q
    refine ⟨b, σ₁, N₁, rb, I₁, S₁, n₁, z, e, c₁, ?_⟩
    by_cases hz : z = y'
    · rw [if_pos hz]; exact hR.S he (h1 hz)
    · rw [if_neg hz]; exact (vAs_sound he (h2 hz)).mono fun l σ N h => WS.post (hR.S he h) fun x l σ N _ h => tt _ x l σ N h
theorem vSt_sound (hR : Sound B d R) (he : EnvOk env) {st : Stmt} (h : vSt B d R env st rest l σ N Q) : WX B d env l (st :: rest) σ N Q := by
  cases st with
  | Assign ts e pos =>
    obtain ⟨t, e1, h1⟩ := vO.out h
    rw [one_eq e1]
    exact vAssign_sound hR he h1
  | AugAssign t op e pos => exact vAug_sound hR he h
  | Expr e pos => obtain ⟨hs, h⟩ := vG.out h; exact X_expr ((hR.E he h).mono fun _ _ _ h => hR.S he h) he.inter (notComp (not_of_bnot hs))
  | Return o pos => obtain ⟨e, e1, h1⟩ := vO.out h; rw [e1]; exact X_return (hR.E he h1)
  | Break pos => exact X_break h
  | Continue pos => exact X_continue h
  | If t b e pos =>
    cases h with
    | plain h =>
      refine X_if ((hR.T he h).mono fun b σ₁ N₁ h => ?_)
      cases b with
      | true => exact WS.post (hR.S he (h.t rfl)) (vThen_to hR he)
      | false => exact WS.post (hR.S he (h.f rfl)) (vThen_to hR he)
    | join J h =>
      refine X_ifJ J (fun l σ N' n h' => hR.S he (h.1 l σ N' n h')) ((hR.T he h.2).mono fun b σ₁ N₁ h => ?_)
      cases b with
      | true => exact WS.post (hR.S he (h.t rfl)) vJoin_to
      | false => exact WS.post (hR.S he (h.f rfl)) vJoin_to
  | While t b o pos =>
    obtain ⟨ho, J, n, l₀, hl, h0, h1⟩ := vG.out h
    rw [nil_of ho]
    refine X_while J n hl h0 fun n l σ N' hj hn => (hR.T he (h1 n l σ N' hj hn)).mono fun c σ₁ N₁ h => ?_
    cases c with
    | true =>
      refine WS.post (hR.S he (h.t rfl)) fun x l σ N _ h => ?_
      cases x with
      | next => obtain ⟨l', a, m, b, c⟩ := h; exact ⟨m, l', b, a, c⟩
      | cont => obtain ⟨l', a, m, b, c⟩ := h; exact ⟨m, l', b, a, c⟩
      | brk => exact hR.S he h
      | ret v => exact h
    | false => exact hR.S he (h.f rfl)
  | For target iter body o pos =>
    obtain ⟨hs, h1⟩ := vG.out h
    rw [Bool.and_eq_true, Bool.not_eq_true'] at hs
    rw [nil_of hs.1]
    exact vFor_sound hR he (notSet hs.2) h1
  | _ => exact h.elim
theorem vS_sound (hR : Sound B d R) (he : EnvOk env) {ss : List Stmt} (h : vS B d R env ss l σ N Q) : WX B d env l ss σ N Q := by
  cases ss with
  | nil => exact X_nil h
  | cons st rest => exact vSt_sound hR he h
theorem vRun_sound (ht : TabOk B tb) : ∀ n, Sound B d (vRun B tb d n)
  | 0 => ⟨fun _ h => h.elim, fun _ h => h.elim, fun _ h => h.elim⟩
  | n + 1 => ⟨fun he h => vE_sound ht (vRun_sound ht n) he h, fun he h => vT_sound (vRun_sound ht n) he h, fun he h => vS_sound (vRun_sound ht n) he h⟩
/- a call of a plain function -/
theorem K_fun (ht : TabOk B tb) {a : Nat} {fd : FuncData} {body : List Stmt} {names : List Str} {xs : List V} {Q : Post V} (hf : FnAt B σ a fd) (hc : CodeAt B σ fd) (hlim : B.h₀.NoLimit) (hb : fd.body = .stmts body)
    (hbind : ∀ s (as : List Value), as.length = xs.length → BindsTo s fd ⟨as, []⟩ (names.zip as)) (hcell : ∀ x ∈ fd.scope.names, x.2 ≠ .cell) (hloc : ∀ x ∈ names, fd.scope.names.lookup x = some .local)
    (he : fd.scope.isCoroutine = false ∧ fd.scope.isGenerator = false ∧ fd.scope.kind = .function ∧ fd.globals = mainGlobals ∧ fd.builtins = builtinsNs)
    (h : ∀ L, N ≤ L → σ L = none → (∀ a, N ≤ a → σ a = none) → (vRun B tb d 200).S (callEnv fd L a) body (locs names xs) (σ.add L) N (Back σ.fr Q)) : WK B (d + 1) (.ref a) xs σ N Q :=
  K_def hf hc hlim hb hbind hcell hloc (fun L h1 h2 h3 => (vRun_sound ht 200).S ⟨he.2.2.1, he.2.2.2.1, he.2.2.2.2⟩ (h L h1 h2 h3)) he.1 he.2.1 he.2.2.1
theorem C_fun (ht : TabOk B tb) {a : Nat} {fd : FuncData} {body : List Stmt} {names : List Str} {xs : List V} {Q : Post V} (hf : FnAt B σ a fd) (hc : CodeAt B σ fd) (hlim : B.h₀.NoLimit) (hb : fd.body = .stmts body)
    (hbind : ∀ s (as : List Value), as.length = xs.length → BindsTo s fd ⟨as, []⟩ (names.zip as)) (hcell : ∀ x ∈ fd.scope.names, x.2 ≠ .cell) (hloc : ∀ x ∈ names, fd.scope.names.lookup x = some .local)
    (he : fd.scope.isCoroutine = false ∧ fd.scope.isGenerator = false ∧ fd.scope.kind = .function ∧ fd.globals = mainGlobals ∧ fd.builtins = builtinsNs)
    (h : ∀ L, N ≤ L → σ L = none → (∀ a, N ≤ a → σ a = none) → (vRun B tb d 200).S (callEnv fd L a) body (locs names xs) (σ.add L) N (Back σ.fr Q)) : WC B (d + 1) (.ref a) xs σ N Q :=
  (K_fun ht hf hc hlim hb hbind hcell hloc he h).c
/- a call of a function with names in cells -/
theorem K_funC (ht : TabOk B tb) {a : Nat} {fd : FuncData} {body : List Stmt} {names : List Str} {xs : List V} {Q : Post V} (hf : FnAt B σ a fd) (hc : CodeAt B σ fd) (hlim : B.h₀.NoLimit) (hb : fd.body = .stmts body) (hclo : fd.closure = [])
    (hbind : ∀ (as : List Value), as.length = xs.length → bindArgs fd ⟨as, []⟩ = pure (names.zip as))
    (hkind : ∀ n, ∀ x ∈ names, fd.scope.names.lookup x = some .local ∨ (fd.scope.names.lookup x = some .cell ∧ ((cellsFrom n fd.scope.names []).lookup x).isSome = true))
    (hnd : ∀ n, ((cellsFrom n fd.scope.names []).map (·.1)).Nodup)
    (he : fd.scope.isCoroutine = false ∧ fd.scope.isGenerator = false ∧ fd.scope.kind = .function ∧ fd.globals = mainGlobals ∧ fd.builtins = builtinsNs)
    (h : ∀ L N₁, N ≤ L → σ L = none → (∀ a, N ≤ a → σ a = none) → L < N₁ → (∀ p ∈ cellsFrom (L + 1) fd.scope.names [], p.2 < N₁) →
      (vRun B tb d 200).S (callEnvC fd L a) body (bL (kinds fd) (names.zip xs) []) (ptCells (bC (kinds fd) (names.zip xs) []) (cellsFrom (L + 1) fd.scope.names []) (σ.add L)) N₁ (Back σ.fr Q)) : WK B (d + 1) (.ref a) xs σ N Q :=
  K_cells hf hc hlim hb hclo hbind hkind hnd (fun L N₁ h1 h2 h3 h4 h5 => (vRun_sound ht 200).S ⟨he.2.2.1, he.2.2.2.1, he.2.2.2.2⟩ (h L N₁ h1 h2 h3 h4 h5)) he.1 he.2.1 he.2.2.1
end
end
noncomputable section
/- the rules, as a walk asks for them -/
section
variable {B : Cx} {d : Nat} {σ : Store} {N : Nat} {u v : V} {xs : List V} {es : Dk} {Q : Post V}
theorem iList {i : Int} (hs : ListV σ u xs) (h0 : 0 ≤ i) (hi : i < 2 ^ 60) (hx : xs[i.toNat]? = some v) (h : Q v σ N) : Need (WItem B d u (.int i) σ N Q) := ⟨⟨_, _, .list hs, slot_list_getitem.lookup⟩, G_list hs h0 hi hx h⟩
theorem iLst {i : Int} (h0 : 0 ≤ i) (hi : i < 2 ^ 60) (hx : xs[i.toNat]? = some v) (h : Q v σ N) : Need (WItem B d (.lst xs) (.int i) σ N Q) := iList (.lst xs) h0 hi hx h
theorem iTup {i : Int} (h0 : 0 ≤ i) (hi : i < 2 ^ 60) (hx : xs[i.toNat]? = some v) (h : Q v σ N) : Need (WItem B d (.tup xs) (.int i) σ N Q) := ⟨⟨_, _, .tup _, F.slot_tuple_getitem.lookup⟩, G_tup h0 hi hx h⟩
theorem iDict {k : Kx} (hs : DictV σ u es) (hv : dget es k = some v) (h : Q v σ N) : Need (WItem B d u k.v σ N Q) := ⟨⟨_, _, .dict hs, F.slot_dict_getitem.lookup⟩, D_get hs hv h⟩
theorem pList {a : Nat} {i : Int} {Q : Post Unit} (hs : σ a = some (.list xs)) (h0 : 0 ≤ i) (hi : i < xs.length) (hz : xs.length < 2 ^ 40) (h : Q () (pt σ a (.list (xs.set i.toNat v))) N) : Need (W3 B d URel setItem (.ref a) (.int i) v σ N Q) := ⟨S_setList hs h0 hi hz h⟩
theorem pDict {a ep : Nat} {k : Kx} {Q : Post Unit} (hs : σ a = some (.dict es ep)) (hz : es.length < 2 ^ 20) (h : ∀ ep', Q () (pt σ a (.dict (dset es k v) ep')) N) : Need (W3 B d URel setItem (.ref a) k.v v σ N Q) := ⟨D_set hs hz h⟩
theorem bLen (hs : ListV σ u xs) (hz : xs.length < 2 ^ 40) (h : Q (.int xs.length) σ N) : Need (WC B d (.builtin "len") [u] σ N Q) := ⟨C_lenList hs hz h⟩
theorem bPop {a : Nat} {ys : List V} (hs : σ a = some (.list (ys ++ [v]))) (hz : ys.length < 2 ^ 20) (h : Q v (pt σ a (.list ys)) N) : Need (WC B d (.builtin "list.pop") [.ref a] σ N Q) := ⟨L_popLast hs hz h⟩
theorem bPop0 {a : Nat} {ys : List V} (hs : σ a = some (.list (v :: ys))) (hz : ys.length < 2 ^ 20) (h : Q v (pt σ a (.list ys)) N) : Need (WC B d (.builtin "list.pop") [.ref a, .int 0] σ N Q) := ⟨L_pop0 hs hz h⟩
theorem WC.off {f : Value} {a : Nat} {v' : V} {σ' : Store} (o : Off σ v σ' v') (h : WC B d f [.ref a, v'] σ' N Q) : WC B d f [.ref a, v] σ N Q := fun A s as k I r => by
  cases r with | cons r1 r2 => cases r2 with | cons r2 r3 =>
  cases r3; cases r1
  exact bot (h A s _ k (I.sub o.store) (.cons (.ref a) (.cons (o.rel I r2) .nil))) fun _ s' ⟨b, σ₂, N₂, q1, q2, q3, q4, q5⟩ => ⟨b, σ₂, N₂, q1, q2, (Step.sub (.refl _ _) o.store).trans q3, q4, q5⟩
theorem bAppend {a : Nat} {v' : V} {σ' : Store} (o : Off σ v σ' v') (hs : σ' a = some (.list xs)) (hz : xs.length < 2 ^ 20) (h : Q .none (pt σ' a (.list (xs ++ [v']))) N) : Need (WC B d (.builtin "list.append") [.ref a, v] σ N Q) := ⟨WC.off o (L_append hs hz h)⟩
theorem bGet {k : Kx} (hs : DictV σ u es) (h : Q ((dget es k).getD v) σ N) : Need (WC B d (.builtin "dict.get") [u, k.v, v] σ N Q) := ⟨D_getD hs h⟩
theorem bItems (h : Q (.view "dict_items" es) σ N) : Need (WC B d (.builtin "dict.items") [.dct es] σ N Q) := ⟨C_itemsF h⟩
theorem bValues (h : Q (.view "dict_values" es) σ N) : Need (WC B d (.builtin "dict.values") [.dct es] σ N Q) := ⟨C_valuesF h⟩
theorem bRange {n : Int} (h : ∀ t u v, Q (.imm (rangeObj n t u v)) σ N) : Need (WC B d (.type "range") [.int n] σ N Q) := ⟨C_range h⟩
theorem aGet {x C D : Nat} {at' : Loc} {name : Str} {e : Bool} (hx : σ x = some (.obj (instObj C D))) (hD : σ D = some (.ns at')) (ha : AttrAt B C name) (hl : at'.lookup name = some v) (hv : handV v = true) (h : Q v σ N) : Need (W1 B d (VRel B) (fun o => getAttr o name e) (.ref x) σ N Q) := ⟨A_get hx hD ha hl hv h⟩
theorem aBound {x C D f : Nat} {at' : Loc} {name : Str} {e : Bool} (hx : σ x = some (.obj (instObj C D))) (hD : σ D = some (.ns at')) (ha : BoundAt B C name f) (hl : at'.lookup name = none) (h : ∀ q, N ≤ q → Q (.ref q) (pt σ q (.obj (methodObj (.ref f) (.ref x)))) (q + 1)) : Need (W1 B d (VRel B) (fun o => getAttr o name e) (.ref x) σ N Q) := ⟨A_bound hx hD ha hl h⟩
theorem aSet {x C D : Nat} {at' : Loc} {name : Str} {Q : Post Unit} (hx : σ x = some (.obj (instObj C D))) (hD : σ D = some (.ns at')) (ha : SetAt B C name) (hz : at'.length < 1000) (h : Q () (pt σ D (.ns (putA at' name v))) N) : Need (W2 B d URel (fun o u => setAttr o name u) (.ref x) v σ N Q) := ⟨A_set hx hD ha hz h⟩
theorem nLt {xs ys : List V} (k : LexOk xs ys) (h : Q (.bool (lexLt xs ys)) σ N) : Need (W2 B d (VRel B) (compareOp .Lt) (.tup xs) (.tup ys) σ N Q) := ⟨P_lt k h⟩
theorem tList {a : Nat} {Q : Post Bool} (hs : σ a = some (.list xs)) (hz : xs.length < 2 ^ 40) (h : Q (!xs.isEmpty) σ N) : Need (W1 B d BRel truthy (.ref a) σ N Q) := ⟨T_list (.ref hs) hz h⟩
theorem sub_pt {σ' : Store} {a : Nat} {o : AObj} (h : Sub σ' σ) (ha : σ' a = none) : Sub σ' (Mine.pt σ a o) := ⟨fun b x e => by
  have ne : b ≠ a := fun z => by rw [z, ha] at e; cases e
  rw [pt_ne ne]; exact h.sub b x e, h.fr⟩
end
end
noncomputable section
/- built-in calls on strs and lists -/
section
variable {B : Cx} {d : Nat} {σ : Store} {N : Nat} {u v : V} {xs ys : List V} {es : Dk} {Q : Post V}
theorem VRelL.strs {h : Heap} : ∀ {ss : List Str} {vs : List Value}, VRelL B σ h (ss.map V.str) vs → StrsAre vs ss
  | [], _, .nil => .nil
  | s :: r, _, .cons a b => by cases a; exact .cons _ _ b.strs
theorem bLenS {x : Str} (hz : x.length < 2 ^ 40) (h : Q (.int x.length) σ N) : Need (WC B d (.builtin "len") [.str x] σ N Q) := ⟨fun A s as k I r => by
  obtain ⟨_, _, rfl, r1, r2⟩ := r.cons'
  obtain rfl := r2.nil'; obtain ⟨_, rfl⟩ := r1.inv
  exact PySem.P.len_str (by exact ar53 hz) (.here I.toks (.refl _ _) (.int _ _) h)⟩
theorem iStr {x : Str} {i : Int} {c : Nat} (h0 : 0 ≤ i) (hi : i < 2 ^ 60) (hx : x.cps[i.toNat]? = some c) (h : Q (.str ⟨#[c]⟩) σ N) : Need (WItem B d (.str x) (.int i) σ N Q) := ⟨⟨_, _, .str _, F.slot_str_getitem.lookup⟩, fun A s a b k I r r' => by
  obtain ⟨_, rfl⟩ := r.inv; obtain ⟨_, rfl⟩ := r'.inv
  have hlt : i.toNat < x.length := by have := (Array.getElem?_eq_some_iff.mp hx).1; exact this
  exact PySem.P.getItem_str (c := c) (by rw [Bool.or_eq_false_iff]; exact ⟨decide_eq_false (by exact ar183 h0), decide_eq_false (by exact ar184 hi)⟩) (by rw [seqIndex_nat h0 hlt]; exact hx) (.here I.toks (.refl _ _) (.str _ _) h)⟩
theorem sStr {x : Str} {lo hi : Option Int} (hz : x.length ≤ sizeLine) (h : Q (.str (Txt.slice x lo hi)) σ N) : Need (WSlice B d (.str x) lo hi none σ N Q) := ⟨⟨_, _, .of (.str _), F.slot_str_getitem.lookup⟩, fun A s a sl vl vu vk k I r hs pl pu pk => by
  cases r with | str _ t =>
  have key : ∀ (l u : Option (Int × Tok)), lo = l.map (·.1) → hi = u.map (·.1) → vl = partValue l → vu = partValue u → vk = .none → wpAny (model B.prog B.w) A (getItem (.str x t) (.ref sl)) (Ends B (VRel B) σ N s.heap Q) (fun _ _ => False) s := by
    intro l u e1 e2 e3 e4 e5
    subst e1; subst e2; subst e3; subst e4; subst e5
    refine wpAny_getItem_str_slice (l := l) (u := u) (st := none) hs rfl ?_
    have : (if ((1 : Int) == 1 && (Builtin.Str.strSliceIndices (l.map (·.1)) (u.map (·.1)) 1 x.length).length == x.length) = true then Made.val (.str x t) else Made.str ⟨((Builtin.Str.strSliceIndices (l.map (·.1)) (u.map (·.1)) 1 x.length).filterMap (x.cps[·]?)).toArray⟩).post (Ends B (VRel B) σ N s.heap Q) s :=
      post_val_or_str ⟨Nat.le_trans (Txt.slice_le x (l.map (·.1)) (u.map (·.1))) hz, fun t' k' => .here (s := s) (s' := { s with toks := k' }) I.toks (.refl _ _) (.str (Txt.slice x (l.map (·.1)) (u.map (·.1))) _) h⟩
    exact this
  cases pl with
  | none => cases pu with
    | none => cases pk; exact key none none rfl rfl rfl rfl rfl
    | int j t => cases pk; exact key none (some (j, t)) rfl rfl rfl rfl rfl
  | int i t' => cases pu with
    | none => cases pk; exact key (some (i, t')) none rfl rfl rfl rfl rfl
    | int j t => cases pk; exact key (some (i, t')) (some (j, t)) rfl rfl rfl rfl rfl⟩
noncomputable def lpick (xs : List V) (lo hi st : Option Int) : List V := (sliceRange (sliceBounds lo hi st xs.length).1 (sliceBounds lo hi st xs.length).2.1 (sliceBounds lo hi st xs.length).2.2).filterMap (xs[·]?)
theorem VRelL.pick {h : Heap} {items : List Value} (r : VRelL B σ h xs items) : ∀ is : List Nat, VRelL B σ h (is.filterMap (xs[·]?)) (is.filterMap (items[·]?))
  | [] => .nil
  | i :: is => by
    rw [List.filterMap_cons, List.filterMap_cons]
    cases q : xs[i]? with
    | none =>
      have : items[i]? = none := by
        rw [List.getElem?_eq_none_iff] at q ⊢; rw [← r.length]; exact q
      rw [this]; exact r.pick is
    | some a => obtain ⟨b, e, rb⟩ := r.get q; rw [e]; exact .cons rb (r.pick is)
theorem sList {lo hi st : Option Int} (hs : ListV σ u xs) (h0 : st ≠ some 0) (hz : xs.length ≤ sizeLine) (h : Q (.lst (lpick xs lo hi st)) σ N) : Need (WSlice B d u lo hi st σ N Q) := ⟨⟨_, _, .of (.list hs), slot_list_getitem.lookup⟩, fun A s a sl vl vu vk k I r hs' pl pu pk => by
  obtain ⟨a', items, n, rfl, ho, rl⟩ := hs.at I r
  have hl := rl.size
  refine wpAny_getItem_list_slice (items := items) ⟨_, ho, rfl, n, rfl⟩ hs' pl pu pk h0 (.here I.push .push (.lst (n := 0) (items := slicePick items lo hi st) (Heap.get?_push_size _ rfl) I.free ?_) h) (by rw [← hl]; exact hz)
  unfold slicePick lpick
  rw [hl]
  have : ∀ is : List Nat, is.filterMap (items[·]?) = is.filterMap (items.toList[·]?) := fun is => by congr 1; funext i; rw [Array.getElem?_toList]
  simp only [this]
  exact (rl.mono .push).pick _⟩
theorem ints_rel {h : Heap} {vs : List Value} {ns : List Int} (r : PyProof.Rows.IntsAre vs ns) : VRelL B σ h (ns.map V.int) vs := by
  induction r with
  | nil => exact .nil
  | cons n t _ ih => exact .cons (.int n t) ih
/- the script: a list of ints that nobody changes, known by its class and its items alone -/
structure Scr (o : Obj) (ns : List Int) : Prop where
  cls : o.cls = .type "list"
  data : ∃ items n, o.data = .seq items n ∧ PyProof.Rows.IntsAre items.toList ns
theorem sScr {o : Obj} {ns : List Int} {lo hi st : Option Int} (ho : Scr o ns) (h0 : st ≠ some 0) (hz : ns.length ≤ sizeLine) (h : Q (.lst (lpick (ns.map V.int) lo hi st)) σ N) : Need (WSlice B d (.imm o) lo hi st σ N Q) := ⟨⟨_, _, .imm ho.cls, slot_list_getitem.lookup⟩, fun A s a sl vl vu vk k I r hs' pl pu pk => by
  obtain ⟨hc, items, n, hd, hia⟩ := ho
  obtain ⟨_, rfl, ho, hs, hf⟩ := r.inv
  have rl : VRelL B σ s.heap (ns.map V.int) items.toList := ints_rel hia
  have hl := rl.size
  refine wpAny_getItem_list_slice (items := items) ⟨_, ho, hc, n, hd⟩ hs' pl pu pk h0 (.here I.push .push (.lst (n := 0) (items := slicePick items lo hi st) (Heap.get?_push_size _ rfl) I.free ?_) h) (by rw [← hl, List.length_map]; exact hz)
  unfold slicePick lpick
  rw [hl]
  have : ∀ is : List Nat, is.filterMap (items[·]?) = is.filterMap (items.toList[·]?) := fun is => by congr 1; funext i; rw [Array.getElem?_toList]
  simp only [this]
  exact (rl.mono .push).pick _⟩
theorem bJoin {x : Str} {ss : List Str} (hs : ListV σ u (ss.map V.str)) (hok : (ss.map (·.length)).sum + ss.length * x.length ≤ 16777216) (h : Q (.str (Txt.join x ss)) σ N) : Need (WC B d (.builtin "str.join") [.str x, u] σ N Q) := ⟨fun A s as k I r => by
  cases r with | cons r1 r2 => cases r2 with | cons r2 r3 =>
  cases r3; cases r1
  obtain ⟨a, items, n, rfl, ho, rl⟩ := hs.at I r2
  exact PyProof.Rows.join_list (items := items) ⟨_, ho, rfl, n, rfl⟩ rl.strs hok fun t' k' => .here (s' := { s with toks := k' }) I.toks (.refl _ _) (.str _ _) h⟩
theorem bCountS {x y : Str} (h : Q (.int (Txt.count x y)) σ N) : Need (WC B d (.builtin "str.count") [.str x, .str y] σ N Q) := ⟨fun A s as k I r => by
  cases r with | cons r1 r2 => cases r2 with | cons r2 r3 =>
  cases r3; cases r1; cases r2
  exact PySem.SC.count (.here I.toks (.refl _ _) (.int _ _) h)⟩
theorem countIn_strs (x : Str) : ∀ ss : List Str, Spec.countIn (.str x) (ss.map PyData.str) = ((ss.count x : Nat) : Int)
  | [] => rfl
  | s :: r => by
    rw [List.map_cons, Spec.countIn, countIn_strs x r, List.count_cons]
    have : Spec.same (.str s) (.str x) = (s == x) := by
      rw [Spec.same]
    rw [this]
    by_cases e : s = x
    · simp [e]; exact ar185
    · have : (s == x) = false := beq_eq_false_iff_ne.mpr e
      simp [this]
theorem bStrI {i : Int} (hi : i.natAbs.log2 < 1920) (h : Q (.str (toString i)) σ N) : Need (WC B d (.type "str") [.int i] σ N Q) := ⟨fun A s as k I r => by
  obtain ⟨_, _, rfl, r1, r2⟩ := r.cons'
  obtain rfl := r2.nil'; obtain ⟨_, rfl⟩ := r1.inv
  exact PySem.P.str_of_int hi (.here (s' := { s with toks := s.toks + 1 }) I.toks (.refl _ _) (.str _ _) h)⟩
theorem bIsTup {i : Int} (h : Q (.bool false) σ N) : Need (WC B d (.builtin "isinstance") [.int i, .lit (.type "tuple")] σ N Q) := ⟨fun A s as k I r => by
  cases r with | cons r1 r2 => cases r2 with | cons r2 r3 =>
  cases r3; cases r1; cases r2
  exact PySem.IsiPair.int_tuple (.here (s' := { s with toks := s.toks + 1 }) I.toks (.refl _ _) (.bool _) h)⟩
theorem nInD {k : Kx} (hs : DictV σ u es) (h : Q (.bool (dget es k).isSome) σ N) : Need (W2 B d (VRel B) (compareOp .In) k.v u σ N Q) := ⟨D_in hs h⟩
end
end
noncomputable section
/- the signs of a str, one after the other -/
section
variable {B : Cx} {d : Nat} {σ : Store} {N : Nat} {u v : V} {xs ys : List V} {es : Dk} {Q : Post V}
noncomputable abbrev sign (x : Str) (i : Nat) : Str := ⟨#[x.cps.getD i 0]⟩
theorem iter_strOf {many : Bool} {x : Str} {T : String} (hT : ownTypes.contains T = false) (hF : T ∉ ["tuple", "range", "slice", "dict_items", "dict_values", "list", "dict"]) (W : ∀ A I t, A.handled = none → Walks B.prog B.w A I [I] [I] x.cps.size (SignAt x) (fun i h => h.IsStrIter I T x t i))
    (slf : ∀ {A : Around} {E : Value → Shared → Prop} {s : Shared} {it : Nat} {t : Tok} {i : Nat} {Q : Value → Shared → Prop}, s.heap.IsStrIter it T x t i → Q (.ref it) s → wpAny (model B.prog B.w) A (pyIter (.ref it)) Q E s)
    (mk : ∀ {A : Around} {E : Value → Shared → Prop} {s : Shared} {t : Tok} {Q : Value → Shared → Prop}, Q (.ref s.heap.objs.size) { s with heap := s.heap.push { cls := .type T, data := .fields #[.str x t, .int 0 0] } } → wpAny (model B.prog B.w) A (pyIter (.str x t)) Q E s) :
    IterOk B many (.str x) σ x.cps.size (fun i => .str (sign x i)) (fun _ => True) :=
  ⟨trivial, fun A s N v R E hh I r k => by
    cases r with | str _ t =>
    have self0 : ∀ it h i t, Heap.IsStrIter h it T x t i → NoFz it h ∧ ∃ o, h.get? it = some o := fun it h i t ⟨o, e, hc, _⟩ => ⟨fun o' e' f => by rw [e] at e'; cases e'; exact not_frozen hc hF f, o, e⟩
    refine mk (k _ (fun i h => h.IsStrIter s.heap.objs.size T x t i) ⟨?_, ?_, ?_, ?_, ?_⟩ ⟨_, Heap.get?_push_size _ rfl, rfl, rfl⟩)
    · exact fun i h h' ⟨o, e, r⟩ k => ⟨o, k o e, r⟩
    · exact fun i h e => self0 _ _ _ _ e
    · exact fun i A' s R E st q => slf st q
    · intro target _ i A' s' σ' N' R E hi hh hd I' rx hou st q
      refine (W A' _ t hh).item i s' _ E hi st fun v h' tk ⟨c, u, hc, hv⟩ st' hx => ⟨v, rfl, ?_⟩
      obtain ⟨o, e, hc', _⟩ := id st'
      refine go_any (Q := R v) e hc' hT (q v h' tk ?_ st' fun b o hb e => hx b o (by simpa using hb) e)
      subst hv
      have : sign x i = ⟨#[c]⟩ := by unfold sign; rw [Array.getD_eq_getD_getElem?, hc]; rfl
      show VRel B σ' h' (.str (sign x i)) _
      rw [this]; exact .str _ _
    · intro A' s' σ' N' R E hh hd I' rx st q
      exact (W A' _ t hh).done s' R E st fun h' tk hx => q h' tk fun b o hb e => hx b o (by simpa using hb) e⟩
theorem iter_str {many : Bool} {x : Str} : IterOk B many (.str x) σ x.cps.size (fun i => .str (sign x i)) (fun _ => True) := by
  cases ha : x.cps.all (· < 128)
  · exact iter_strOf (by decide) (by decide) (fun A I t hh => Walks.strWide hh I x t) (fun st q => wpAny_pyIter_striter_wide st q) (fun q => wpAny_pyIter_wide ha q)
  · exact iter_strOf (by decide) (by decide) (fun A I t hh => Walks.strAscii hh I x t) (fun st q => wpAny_pyIter_striter_ascii st q) (fun q => wpAny_pyIter_ascii ha q)
end
end
noncomputable section
/- '%s:%d(%s)' % (a, n, c) -/
section
theorem fmt_meets {a c : Str} {n : Int} {t t1 t2 t3 : Tok} {b : Addr} (ha : a.length ≤ 1000000) (hc : c.length ≤ 1000000) (hn : n.natAbs < 2 ^ 30) (hn0 : 0 ≤ n) :
    Meets (Builtin.«str.__mod__» ⟨[.str ⟨#[37, 115, 58, 37, 100, 40, 37, 115, 41]⟩ t, .ref b], []⟩) (fun _ R s => IsTup s.heap b #[.str a t1, .int n t2, .str c t3] ∧ ∀ t' k, R (.ok (.ret (.str (a ++ ⟨#[58]⟩ ++ Str.ofString (toString n) ++ ⟨#[40]⟩ ++ c ++ ⟨#[41]⟩) t'))) { s with toks := k }) := by
  have h1 : n < 1073741824 := by exact ar187 hn hn0
  kpt_run
end
end
noncomputable section
/- what compares equal -/
mutual
inductive PEq : Nat → V → V → Prop
  | int (n : Nat) (i : Int) : PEq n (.int i) (.int i)
  | str (n : Nat) (x : Str) : PEq n (.str x) (.str x)
  | tup {n : Nat} {xs ys : List V} (h : PEqL n xs ys) : PEq (n + 1) (.tup xs) (.tup ys)
  | lst {n : Nat} {xs ys : List V} (h : PEqL n xs ys) : PEq (n + 1) (.lst xs) (.lst ys)
inductive PEqL : Nat → List V → List V → Prop
  | nil (n : Nat) : PEqL n [] []
  | cons {n : Nat} {x y : V} {xs ys : List V} (h : PEq n x y) (r : PEqL n xs ys) : PEqL n (x :: xs) (y :: ys)
end
section
variable {B : Cx} {σ : Store} {h : Heap} {s : Shared}
theorem all_true (n : Nat) : (List.range n).all (fun _ => true) = true := by simp
noncomputable def PEqP (B : Cx) (σ : Store) (s : Shared) (n : Nat) (u v : V) : Prop := ∀ (A : Around) (x y : Value), VRel B σ s.heap u x → VRel B σ s.heap v y → A.units + 4 * n < cLine → SeqAt.EqAt A s x y true
noncomputable def PEqLP (B : Cx) (σ : Store) (s : Shared) (n : Nat) (xs ys : List V) : Prop := ∀ (A : Around) (us vs : List Value), VRelL B σ s.heap xs us → VRelL B σ s.heap ys vs → A.units + 4 * n < cLine → us.length = vs.length ∧ ∀ j (h1 : j < us.length) (h2 : j < vs.length), SeqAt.EqAt A s us[j] vs[j] true
theorem PEqP.int (n : Nat) (i : Int) : PEqP B σ s n (.int i) (.int i) := fun A x y r r' hu => by
  obtain ⟨_, rfl⟩ := r.inv; obtain ⟨_, rfl⟩ := r'.inv; exact fun prog w E Q q => wpAny_eqBool_int (by simpa using q)
theorem PEqP.str (n : Nat) (i : Str) : PEqP B σ s n (.str i) (.str i) := fun A x y r r' hu => by
  obtain ⟨_, rfl⟩ := r.inv; obtain ⟨_, rfl⟩ := r'.inv; exact fun prog w E Q q => wpAny_eqBool_str (by simpa using q)
theorem PEqP.tup {n : Nat} {xs ys : List V} (q : PEqLP B σ s n xs ys) : PEqP B σ s (n + 1) (.tup xs) (.tup ys) := fun A x y r r' hu => by
  obtain ⟨_, _, _, rfl, ho, hs, hl⟩ := r.inv
  rename_i a n' items
  obtain ⟨_, _, _, rfl, ho', hs', hl'⟩ := r'.inv
  rename_i b n'' items'
  by_cases e : a = b
  · subst e; exact SeqAt.EqAt.same _
  · obtain ⟨hn, hall⟩ := q A.in1 _ _ hl hl' (by show A.units + 1 + _ < _; exact ar15 hu)
    have := SeqAt.RcAt.tuples (A := A) (e := fun _ => true) ⟨_, ho, rfl, n', rfl⟩ ⟨_, ho', rfl, n'', rfl⟩ (by exact ar16 hu) hall
    rw [all_true, show items.size = items'.size from hn, beq_self_eq_true, Bool.true_and] at this
    exact SeqAt.EqAt.of_refs e this
theorem PEqP.lst {n : Nat} {xs ys : List V} (q : PEqLP B σ s n xs ys) : PEqP B σ s (n + 1) (.lst xs) (.lst ys) := fun A x y r r' hu => by
  obtain ⟨_, _, _, rfl, ho, hs, hl⟩ := r.inv
  rename_i a n' items
  obtain ⟨_, _, _, rfl, ho', hs', hl'⟩ := r'.inv
  rename_i b n'' items'
  by_cases e : a = b
  · subst e; exact SeqAt.EqAt.same _
  · obtain ⟨hn, hall⟩ := q A.in1 _ _ hl hl' (by show A.units + 1 + _ < _; exact ar15 hu)
    have := SeqAt.RcAt.lists (A := A) (e := fun _ => true) ⟨_, ho, rfl, n', rfl⟩ ⟨_, ho', rfl, n'', rfl⟩ hn (by exact ar16 hu) hall
    rw [all_true] at this
    exact SeqAt.EqAt.of_refs e this
theorem PEqLP.nil (n : Nat) : PEqLP B σ s n [] [] := fun A us vs r r' hu => by
  obtain rfl := r.nil'; obtain rfl := r'.nil'; exact ⟨rfl, fun j h1 _ => absurd h1 (Nat.not_lt_zero _)⟩
theorem PEqLP.cons {n : Nat} {x y : V} {xs ys : List V} (p : PEqP B σ s n x y) (q : PEqLP B σ s n xs ys) : PEqLP B σ s n (x :: xs) (y :: ys) := fun A us vs r r' hu => by
  obtain ⟨_, _, rfl, r1, r2⟩ := r.cons'
  obtain ⟨_, _, rfl, r1', r2'⟩ := r'.cons'
  obtain ⟨hn, hall⟩ := q A _ _ r2 r2' hu
  refine ⟨congrArg (· + 1) hn, fun j h1 h2 => ?_⟩
  cases j with
  | zero => exact p A _ _ r1 r1' hu
  | succ j => exact hall j (Nat.lt_of_succ_lt_succ h1) (Nat.lt_of_succ_lt_succ h2)
theorem PEq.at {n : Nat} {u v : V} (p : PEq n u v) : PEqP B σ s n u v := PEq.rec (motive_1 := fun n u v _ => PEqP B σ s n u v) (motive_2 := fun n u v _ => PEqLP B σ s n u v) .int .str (fun _ => .tup) (fun _ => .lst) .nil (fun _ _ => .cons) p
theorem PEqL.at {n : Nat} {xs ys : List V} (p : PEqL n xs ys) {A : Around} {us vs : List Value} : VRelL B σ s.heap xs us → VRelL B σ s.heap ys vs → A.units + 4 * n < cLine → us.length = vs.length ∧ ∀ j (h1 : j < us.length) (h2 : j < vs.length), SeqAt.EqAt A s us[j] vs[j] true := PEqL.rec (motive_1 := fun n u v _ => PEqP B σ s n u v) (motive_2 := fun n u v _ => PEqLP B σ s n u v) .int .str (fun _ => .tup) (fun _ => .lst) .nil (fun _ _ => .cons) p A us vs
theorem PEqL.map {α : Type} {n : Nat} {f : α → V} (k : ∀ a, PEq n (f a) (f a)) (ss : List α) : PEqL n (ss.map f) (ss.map f) := by
  induction ss with
  | nil => exact .nil n
  | cons s r ih => exact .cons (k s) ih
theorem PEqL.strs (n : Nat) (ss : List Str) : PEqL n (ss.map V.str) (ss.map V.str) := .map (.str n) ss
end
section
variable {B : Cx} {d : Nat} {σ : Store} {N : Nat} {u v : V} {xs ys : List V} {Q : Post V}
theorem Ok.room {A : Around} (k : Ok d A) : A.units ≤ 9000 := by have := k.units; exact ar188 this
/- `xs != ys` of equal lists -/
theorem nNeL {n : Nat} (hu : ListV σ u xs) (hv : ListV σ v ys) (p : PEqL n xs ys) (hn : n ≤ 50) (h : Q (.bool false) σ N) : Need (W2 B d (VRel B) (compareOp .NotEq) u v σ N Q) := ⟨fun A s a b k I r r' => by
  obtain ⟨a, items, n', rfl, ho, rl⟩ := hu.at I r
  obtain ⟨b, items', n'', rfl, ho', rl'⟩ := hv.at I r'
  have room := k.room
  obtain ⟨hl, hall⟩ := p.at (A := A.in1) rl rl' (by show A.units + 1 + _ < 9900; exact ar31 hn room)
  have key := SeqAt.RcNeAt.lists (A := A) (e := fun _ => true) ⟨_, ho, rfl, n', rfl⟩ ⟨_, ho', rfl, n'', rfl⟩ (by simpa using hl) (show A.units < 9900 by exact ar4 room) (fun j h1 h2 => by
    have := hall j (by simpa using h1) (by simpa using h2)
    simpa using this)
  rw [all_true] at key
  exact key B.prog B.w _ _ (.here I (.refl _ _) (.bool false) h)⟩
/- tuples of ints and strs -/
inductive EqS : List V → List V → Bool → Prop
  | nil : EqS [] [] true
  | cons {x y : V} {xs ys : List V} {b : Bool} (h : SameS x y) (r : EqS xs ys b) : EqS (x :: xs) (y :: ys) (eqS x y && b)
theorem eqAt_S {x y : V} {h : Heap} {a b : Value} {A : Around} {s : Shared} (k : SameS x y) (ra : VRel B σ h x a) (rb : VRel B σ h y b) : SeqAt.EqAt A s a b (eqS x y) := fun prog w E Q q => by
  cases k with
  | int i j => obtain ⟨_, rfl⟩ := ra.inv; obtain ⟨_, rfl⟩ := rb.inv; exact wpAny_eqBool_int q
  | str i j => obtain ⟨_, rfl⟩ := ra.inv; obtain ⟨_, rfl⟩ := rb.inv; exact wpAny_eqBool_str q
theorem EqS.at {h : Heap} {A : Around} {s : Shared} {b : Bool} (p : EqS xs ys b) : ∀ {us vs : List Value}, VRelL B σ h xs us → VRelL B σ h ys vs → us.length = vs.length ∧ ∃ e : Nat → Bool, (∀ j (h1 : j < us.length) (h2 : j < vs.length), SeqAt.EqAt A s us[j] vs[j] (e j)) ∧ (List.range us.length).all e = b := by
  induction p with
  | nil => intro us vs r r'; obtain rfl := r.nil'; obtain rfl := r'.nil'; exact ⟨rfl, fun _ => true, fun j h1 _ => absurd h1 (Nat.not_lt_zero _), rfl⟩
  | cons k p ih =>
    rename_i x y xs ys b
    intro us vs r r'
    obtain ⟨_, _, rfl, r1, r2⟩ := r.cons'
    obtain ⟨_, _, rfl, r1', r2'⟩ := r'.cons'
    obtain ⟨hn, e, hall, he⟩ := ih r2 r2'
    refine ⟨congrArg (· + 1) hn, fun j => match j with | 0 => eqS x y | j + 1 => e j, fun j h1 h2 => ?_, ?_⟩
    · cases j with
      | zero => exact eqAt_S k r1 r1'
      | succ j => exact hall j (Nat.lt_of_succ_lt_succ h1) (Nat.lt_of_succ_lt_succ h2)
    · rw [List.length_cons, List.range_succ_eq_map, List.all_cons, List.all_map, ← he]
      rfl
theorem nEqT {b : Bool} (p : EqS xs ys b) (h : Q (.bool b) σ N) : Need (W2 B d (VRel B) (compareOp .Eq) (.tup xs) (.tup ys) σ N Q) := ⟨fun A s x y k I r r' => by
  obtain ⟨_, _, _, rfl, ho, hs, hl⟩ := r.inv
  obtain ⟨_, _, _, rfl, ho', hs', hl'⟩ := r'.inv
  have room := k.room
  obtain ⟨hn', e, hall, he⟩ := p.at (A := A.in1) (s := s) hl hl'
  have key := SeqAt.RcAt.tuples (A := A) (e := e) ⟨_, ho, rfl, _, rfl⟩ ⟨_, ho', rfl, _, rfl⟩ (show A.units < 9900 by exact ar4 room) (fun j h1 h2 => by
    have := hall j (by simpa using h1) (by simpa using h2)
    simpa using this)
  rename_i n1 items _ n2 items'
  have e1 : items.size = items'.size := by simpa using hn'
  rw [← e1, Nat.min_self, beq_self_eq_true, Bool.and_true, show (List.range items.size).all e = b from by rw [← he, Array.length_toList]] at key
  exact key B.prog B.w _ _ (.here I (.refl _ _) (.bool b) h)⟩
end
end
noncomputable section
section
variable {B : Cx} {d : Nat} {σ : Store} {N : Nat} {u v : V} {xs ys : List V} {es : Dk} {Q : Post V}
/- the first two of three -/
theorem sTup2 {x y z : V} (h : Q (.tup [x, y]) σ N) : Need (WSlice B d (.tup [x, y, z]) none (some 2) none σ N Q) := ⟨⟨_, _, .of (.tup _), F.slot_tuple_getitem.lookup⟩, fun A s a sl vl vu vk k I r hs pl pu pk => by
  cases pl; cases pk
  cases pu with | int _ t =>
  obtain ⟨_, _, _, rfl, ho, hs', hl⟩ := r.inv
  rename_i t' n items
  obtain ⟨c, e⟩ : ∃ c, items = ⟨c⟩ := ⟨_, rfl⟩
  subst e
  cases hl with | cons h1 hl =>
  cases hl with | cons h2 hl =>
  cases hl with | cons h3 hl =>
  cases hl
  rename_i v1 v2 v3
  have ht : IsTup s.heap t' #[v1, v2, v3] := ⟨_, ho, rfl, _, rfl⟩
  obtain ⟨os, hos, hcs, hds⟩ := id hs
  have hTs : s.TypeIs (.ref sl) "slice" := ⟨os, hos, hcs⟩
  unfold getItem
  refine wpAny_holding ?_
  refine wpAny_bind (wpAny_sequenceKey ht.typeIs (by decide) ?_)
  refine wpAny_bind (wpAny_callSpecial?_slot (name := Str.ofString "__getitem__") ht.typeIs slot_tuple_getitem
    (wpAny_call_entry slot_tuple_getitem ht.typeIs entry_tuple_getitem ?_ (args_tuple_getitem _ _)))
  show wpAny _ _ (Builtin.Tuple.tupleItemsOf (.ref t') >>= _) _ _ s
  refine wpAny_bind (tupleItemsOf_ ht ?_)
  refine wpAny_bind (wpAny_typeOf hTs ?_)
  rw [if_pos (by decide)]
  refine wpAny_bind (?_ : wpAny _ _ (Builtin.Slice.sliceApplied (.ref sl) (pure ((3 : Nat) : Int))) _ _ _)
  unfold Builtin.Slice.sliceApplied Builtin.Slice.sliceFields
  refine wpAny_bind (wpAny_bind (wpAny_field hos hds (x := .none) rfl (wpAny_bind (wpAny_field hos hds (x := .int 2 t) rfl (wpAny_bind (wpAny_field hos hds (x := .none) rfl (wpAny_pure ?_)))))))
  refine wpAny_bind (slicePart_none ?_)
  show wpAny _ _ (if ((1 : Int) == 0) = true then _ else _) _ _ s
  rw [if_neg (by decide)]
  refine wpAny_bind (slicePart_none (wpAny_bind (slicePart_int (wpAny_bind (wpAny_pure ?_)))))
  refine (?_ : wpAny _ _ (pure ((0 : Int), (1 : Int), 2)) _ _ _)
  refine wpAny_pure ?_
  show wpAny _ _ (if ((0 : Int) == 0 && (1 : Int) == 1 && (2 : Nat) == 3) = true then _ else _) _ _ s
  rw [if_neg (by decide)]
  have fin : Ends B (VRel B) σ N s.heap Q (.ref s.heap.objs.size) { s with heap := s.heap.push { cls := .type "tuple", data := .seq #[v1, v2] } } :=
    .here I.push .push (.tup (n := 0) (items := #[v1, v2]) (Heap.get?_push_size _ rfl) I.free (.cons (h1.mono .push) (.cons (h2.mono .push) .nil))) h
  first
    | exact wpAny_bind (m := Builtin.Tuple.tupleExact #[v1, v2]) (wpAny_newObj_type (wpAny_pure ⟨_, rfl, wpAny_pure fin⟩) (by show 2 ≤ sizeLine; decide))
    | exact wpAny_bind (m := Builtin.Tuple.tupleExact #[v1, v2]) (wpAny_newObj_type (wpAny_bind (wpAny_pure (wpAny_pure ⟨_, rfl, wpAny_pure fin⟩))) (by show 2 ≤ sizeLine; decide))
    | exact wpAny_bind (wpAny_bind (m := Builtin.Tuple.tupleExact #[v1, v2]) (wpAny_newObj_type (wpAny_pure (wpAny_pure ⟨_, rfl, wpAny_pure fin⟩)) (by show 2 ≤ sizeLine; decide)))
    | exact wpAny_bind (wpAny_bind (m := Builtin.Tuple.tupleExact #[v1, v2]) (wpAny_newObj_type (wpAny_pure ⟨_, rfl, wpAny_pure fin⟩) (by show 2 ≤ sizeLine; decide)))⟩
theorem nFmt {a c : Str} {n : Int} (ha : a.length ≤ 1000000) (hc : c.length ≤ 1000000) (hn : n.natAbs < 2 ^ 30) (hn0 : 0 ≤ n)
    (h : Q (.str (a ++ ⟨#[58]⟩ ++ Str.ofString (toString n) ++ ⟨#[40]⟩ ++ c ++ ⟨#[41]⟩)) σ N) : Need (W2 B d (VRel B) (binaryOp .Mod) (.str "%s:%d(%s)") (.tup [.str a, .int n, .str c]) σ N Q) := ⟨fun A s x y k I r r' => by
  cases r with | str _ t =>
  obtain ⟨_, _, _, rfl, ho, hs', hl⟩ := r'.inv
  rename_i b m items
  obtain ⟨l, e⟩ : ∃ l, items = ⟨l⟩ := ⟨_, rfl⟩
  subst e
  cases hl with | cons h1 hl =>
  cases hl with | cons h2 hl =>
  cases hl with | cons h3 hl =>
  cases hl; cases h1; cases h2; cases h3
  have ht : IsTup s.heap b _ := ⟨_, ho, rfl, _, rfl⟩
  exact KPt.bin_left (T := "str") (U := "tuple") (op := .Mod) (by decide) (typeIs_str s _ t) ⟨_, ho, rfl⟩ F.fills_str_mod KPt.fills_tuple F.slot_str_mod
    (call_meets F.slot_str_mod (typeIs_str s _ t) F.entry_str_mod (F.args_str_mod_2 _ _) (fmt_meets (t := t) (b := b) ha hc hn hn0) ⟨ht, fun t' k => ⟨(fun e => nomatch e), .here (s' := { s with toks := k }) I.toks (.refl _ _) (.str _ _) h⟩⟩)⟩
/- sum of a list of ints -/
theorem VRelL.ints {h : Heap} {ns : List Int} {vs : List Value} (r : VRelL B σ h (ns.map V.int) vs) : ∀ (i : Nat) (v : Value), vs[i]? = some v → ∃ t, v = .int (ns.getD i 0) t := fun i v e => by
  obtain ⟨a, ha, ra⟩ := r.get' e
  rw [List.getElem?_map] at ha
  cases q : ns[i]? with
  | none => rw [q] at ha; cases ha
  | some n =>
    rw [q] at ha
    cases ha
    obtain ⟨_, rfl⟩ := ra.inv
    rw [List.getD_eq_getElem?_getD, q]
    exact ⟨_, rfl⟩
theorem bSum {ns : List Int} (hs : ListV σ u (ns.map V.int)) (h : Q (.int ns.sum) σ N) : Need (WC B d (.builtin "sum") [u] σ N Q) := ⟨fun A s as k I r => by
  obtain ⟨_, _, rfl, r1, r2⟩ := r.cons'
  obtain rfl := r2.nil'
  obtain ⟨a, items, n, rfl, ho, rl⟩ := hs.at I r1
  have hsz : items.size = ns.length := by rw [← rl.size, List.length_map]
  have hne : a ≠ s.heap.objs.size := Nat.ne_of_lt (Heap.lt_size ho)
  have core : wpAny (model B.prog B.w) A (call (.builtin "sum") [.ref a]) (fun v s' => (∃ t, v = .int ns.sum t) ∧ (∀ b o, s.heap.get? b = some o → s'.heap.get? b = some o) ∧ s'.gens = s.gens ∧ s'.os = s.os) (fun _ _ => False) s := by
    refine call_sum_walkG (wpAny_pyIter_list (items := items) ⟨_, ho, rfl, n, rfl⟩ ⟨_, _, _, _, _, _, fun i => ns.getD i 0, rfl, Walks.list (A := A.in1) k.handled s.heap.objs.size a hne items, ⟨⟨_, Heap.get?_push_size _ rfl, rfl, rfl⟩, (⟨_, Heap.get?_push_of_some _ ho, rfl, n, rfl⟩)⟩, ?_, ?_, ?_⟩)
    · intro b hb
      have hlt := Heap.lt_size ho
      simp only [List.mem_cons, List.not_mem_nil, or_false] at hb
      rw [Heap.size_push]
      rcases hb with rfl | rfl
      · exact Nat.lt_succ_self _
      · exact Nat.lt_succ_of_lt hlt
    · exact fun i v e => rl.ints i v (by rw [Array.getElem?_toList]; exact e)
    · intro h' tk t' hk
      rw [preSum_getD, hsz, List.take_length]
      exact ⟨⟨t', rfl⟩, fun b o e => hk b o (fun q => by have := Heap.lt_size e; rw [List.mem_singleton] at q; rw [q] at this; exact absurd this (Nat.lt_irrefl _)) (Heap.get?_push_of_some _ e), rfl, rfl⟩
  refine bot (any_grow core) fun v s' ⟨⟨⟨t, e⟩, hx, hg, hos⟩, hz⟩ => ?_
  subst e
  exact .here (I.grow hx hz hg hos) (.grow hx) (.int _ _) h⟩
end
end
noncomputable section
/- dicts, and tuples that hold dicts, compared: what is equal -/
mutual
inductive VEq : Nat → V → V → Prop
  | plain {n : Nat} {u v : V} (p : PEq n u v) : VEq n u v
  | tup {n : Nat} {xs ys : List V} (h : VEqL n xs ys) : VEq (n + 1) (.tup xs) (.tup ys)
  | dct {n : Nat} {es fs : Dk} (hl : es.length = fs.length) (h : VEqD n fs es) : VEq (n + 1) (.dct es) (.dct fs)
inductive VEqL : Nat → List V → List V → Prop
  | nil (n : Nat) : VEqL n [] []
  | cons {n : Nat} {x y : V} {xs ys : List V} (h : VEq n x y) (r : VEqL n xs ys) : VEqL n (x :: xs) (y :: ys)
inductive VEqD : Nat → Dk → Dk → Prop
  | nil (n : Nat) (fs : Dk) : VEqD n fs []
  | cons {n : Nat} {fs es : Dk} {k : Kx} {v w : V} (hk : dget fs k = some w) (h : VEq n v w) (r : VEqD n fs es) : VEqD n fs ((k, v) :: es)
end
noncomputable def EqIn (B : Cx) (A : Around) (s : Shared) (x y : Value) : Prop := ∀ (E : Value → Shared → Prop) (Q : Bool → Shared → Prop), Q true s → wpAny (model B.prog B.w) A (eqBool x y) Q E s
section
variable {B : Cx} {σ : Store} {s : Shared} {A : Around} {E : Value → Shared → Prop}
theorem EqIn.refs {a b : Nat} (h : a ≠ b → ∀ (E : Value → Shared → Prop) (Q : Value → Shared → Prop), Q (.bool true) s → wpAny (model B.prog B.w) A (richCompare .Eq (.ref a) (.ref b)) Q E s) : EqIn B A s (.ref a) (.ref b) := fun E Q q => by
  by_cases e : a = b
  · subst e; exact SeqAt.EqAt.same (A := A) (s := s) (.ref a) B.prog B.w E Q q
  · unfold eqBool
    refine wpAny_holding ?_
    rw [if_neg (fun z => e (by have := eq_of_beq z; injection this))]
    exact wpAny_bind (h e E _ (wpAny_truthy_bool q))
theorem tuple_eq_tree {xs ys : List Value} {a b na nb : Nat} {P : Fin → Shared → Prop} (ha : s.heap.get? a = some ⟨.type "tuple", none, .seq xs.toArray na, #[]⟩) (hb : s.heap.get? b = some ⟨.type "tuple", none, .seq ys.toArray nb, #[]⟩)
    (hn : xs.length = ys.length) (hall : ∀ p ∈ List.zip xs ys, EqIn B A s p.1 p.2) (q : P (.done (.ret (.bool true))) s) : wpAny (model B.prog B.w) A (Builtin.«tuple.__eq__» ⟨[.ref a, .ref b], []⟩) P E s := by
  show wpAny _ _ (isInstance (.ref b) (.type "tuple") >>= _) _ _ s
  refine wpAny_bind (wpAny_isInstance ⟨_, hb, rfl⟩ isSubtype_tuple_tuple ?_)
  simp only [Bool.not_true, Bool.false_eq_true, if_false]
  refine wpAny_bind (wpAny_tupleItemsOf ha rfl ?_)
  refine wpAny_bind (wpAny_tupleItemsOf hb rfl ?_)
  refine wpAny_bind ?_
  refine wpAny_forIn_list _ (fun rest r s' => r.1 = none ∧ s' = s ∧ ∀ p ∈ rest, EqIn B A s p.1 p.2) _ ?_ ?_ _ _ ⟨rfl, rfl, hall⟩
  · rintro ⟨u, v⟩ rest r s' ⟨hr, rfl, hall⟩
    refine wpAny_bind (hall _ (.head _) _ _ ?_)
    simp only [Bool.not_true, Bool.false_eq_true, if_false]
    exact wpAny_pure ⟨rfl, rfl, fun p hp => hall p (.tail _ hp)⟩
  · rintro ⟨r1, r2⟩ s' ⟨hr, rfl, _⟩
    simp only at hr
    subst hr
    refine wpAny_pure ?_
    show P (.done (.ret (.bool (xs.toArray.size == ys.toArray.size)))) s'
    rw [List.size_toArray, List.size_toArray, hn, beq_self_eq_true]
    exact q
theorem same_pairs {nm : String} {a b : Nat} {ka kb : List (Kx × Value)} {Q : Bool → Shared → Prop} (ha : (a == sysModules) = false) (hb : (b == sysModules) = false) (da : s.heap.DictOf (kxKind B.prog B.w) a ka) (db : s.heap.DictOf (kxKind B.prog B.w) b kb)
    (hn : ka.length = kb.length) (hall : ∀ k v, (k, v) ∈ ka → ∃ y, valueAt kb k = some y ∧ EqIn B A s v y) (q : Q true s) : wpAny (model B.prog B.w) A (Builtin.Dict.samePairs nm a b) Q E s := by
  obtain ⟨oa, es, ep, hoa, _, hda, hka, hpa, _⟩ := da
  obtain ⟨ob, fs, ep', hob, _, hdb, hkb, hpb, _⟩ := db
  have hla : ka.length = es.size := by rw [← hpa.length]; exact Array.length_toList
  have hlb : kb.length = fs.size := by rw [← hpb.length]; exact Array.length_toList
  unfold Builtin.Dict.samePairs Builtin.Dict.showsAll
  rw [ha, hb, if_neg Bool.false_ne_true]
  refine wpAny_bind (wpAny_pure (wpAny_bind (wpAny_pure (wpAny_bind (wpAny_dictEntries hoa hda ?_)))))
  refine wpAny_bind (wpAny_dictEntries hob hdb ?_)
  rw [if_neg (by rw [← hla, ← hlb, hn]; simp)]
  refine wpAny_bind (wpAny_dictEpoch hoa hda (wpAny_bind ?_))
  rw [Std.Legacy.Range.forIn_eq_forIn_range']
  simp only [Std.Legacy.Range.size, Nat.sub_zero, Nat.add_sub_cancel, Nat.div_one]
  refine wpAny_forIn_list _ (fun rest r s' => s' = s ∧ r = (none, ()) ∧ ∀ i ∈ rest, i < es.size) _ ?_ ?_ _ _ ⟨rfl, rfl, fun i hi => by have := (List.mem_range'_1.mp hi).2; exact ar190 this⟩
  · rintro i rest r s' ⟨rfl, rfl, hr⟩
    have hlt : i < es.size := hr i (.head _)
    refine wpAny_bind (wpAny_dictEntries hoa hda ?_)
    rw [Array.getElem?_eq_getElem hlt]
    obtain ⟨k, v, hkv⟩ : ∃ k v, ka[i]? = some (k, v) := ⟨_, _, List.getElem?_eq_getElem (by rw [hla]; exact hlt)⟩
    obtain ⟨hkey, hval⟩ := hpa.get? (i := i) (e := es[i]) (k := k) (v := v) (by rw [Array.getElem?_toList]; exact Array.getElem?_eq_getElem hlt) hkv
    obtain ⟨k', hk', hh⟩ := hka es[i] (Array.getElem_mem hlt)
    obtain rfl : k' = k := (kxKind B.prog B.w).inj _ _ _ hk' hkey
    obtain ⟨y, hy, heq⟩ := hall k' v (List.mem_of_getElem? hkv)
    show wpAny _ _ (holding [es[i].key, es[i].val] _ >>= _) _ _ _
    rw [hh]
    refine wpAny_bind (wpAny_holding (wpAny_bind (wpAny_dictFind_of hkey hob hdb hkb ?_)))
    have hfy : (fs.toList.find? fun e => (kxKind B.prog B.w).is k' e.key).map (·.val) = some y := (hpb.find k').trans hy
    cases hj : fs.findIdx? fun e => (kxKind B.prog B.w).is k' e.key with
    | none =>
      rw [Array.findIdx?_eq_none_iff] at hj
      cases z : fs.toList.find? fun e => (kxKind B.prog B.w).is k' e.key with
      | none => rw [z] at hfy; cases hfy
      | some e => have := hj e (by simpa using List.mem_of_find?_eq_some z); rw [List.find?_some z] at this; cases this
    | some j =>
      obtain ⟨hjlt, hj1, hj2⟩ := Array.findIdx?_eq_some_iff_getElem.mp hj
      have hv' : fs[j].val = y := by
        have : findBy (kxKind B.prog B.w).is fs k' = some fs[j].val := by rw [findBy_of_findIdx?, hj]; simp [Array.getElem?_eq_getElem hjlt]
        have h2 : findBy (kxKind B.prog B.w).is fs k' = some y := by
          rw [← hfy]
          obtain ⟨l⟩ := fs
          simp [findBy]
        exact Option.some.inj (this.symm.trans h2)
      refine wpAny_bind (wpAny_dictEntries hob hdb ?_)
      rw [Array.getElem?_eq_getElem hjlt]
      rw [← hv', ← hval] at heq
      refine wpAny_holding (heq _ _ ?_)
      show wpAny _ _ (if (!true) = true then _ else _) _ _ _
      rw [if_neg (by decide)]
      refine wpAny_bind (wpAny_dictEpoch hoa hda ?_)
      rw [if_neg (by simp)]
      exact wpAny_pure ⟨rfl, rfl, fun i hi => hr i (.tail _ hi)⟩
  · rintro r s' ⟨rfl, rfl, _⟩
    exact wpAny_pure q
theorem dict_eq_tree {a b : Nat} {ka kb : List (Kx × Value)} {P : Fin → Shared → Prop} (ha : (a == sysModules) = false) (hb : (b == sysModules) = false) (da : s.heap.DictOf (kxKind B.prog B.w) a ka) (db : s.heap.DictOf (kxKind B.prog B.w) b kb)
    (hn : ka.length = kb.length) (hall : ∀ k v, (k, v) ∈ ka → ∃ y, valueAt kb k = some y ∧ EqIn B A s v y) (q : P (.done (.ret (.bool true))) s) : wpAny (model B.prog B.w) A (Builtin.«dict.__eq__» ⟨[.ref a, .ref b], []⟩) P E s := by
  show wpAny _ _ (Builtin.Dict.dictSlotArgs "__eq__" ⟨[.ref a, .ref b], []⟩ >>= _) _ _ s
  refine wpAny_bind ?_
  unfold Builtin.Dict.dictSlotArgs
  refine wpAny_bind (wpAny_notOrdered_dict da.typeIs ?_)
  show wpAny _ _ (pure (Value.ref a, Value.ref b)) _ _ s
  refine wpAny_pure ?_
  refine wpAny_bind (wpAny_isInstance (T := "dict") db.typeIs PySem.F.sub_dict_dict ?_)
  simp only [Bool.not_true, Bool.false_eq_true, if_false]
  refine wpAny_bind (wpAny_pure (wpAny_bind (wpAny_pure ?_)))
  exact wpAny_bind (same_pairs ha hb da db hn hall (wpAny_pure q))
noncomputable def VEqP (B : Cx) (σ : Store) (s : Shared) (n : Nat) (u v : V) : Prop := ∀ (A : Around) (x y : Value), VRel B σ s.heap u x → VRel B σ s.heap v y → A.units + 4 * n < cLine → EqIn B A s x y
noncomputable def VEqLP (B : Cx) (σ : Store) (s : Shared) (n : Nat) (xs ys : List V) : Prop := ∀ (A : Around) (us vs : List Value), VRelL B σ s.heap xs us → VRelL B σ s.heap ys vs → A.units + 4 * n < cLine → us.length = vs.length ∧ ∀ p ∈ List.zip us vs, EqIn B A s p.1 p.2
noncomputable def VEqDP (B : Cx) (σ : Store) (s : Shared) (n : Nat) (fs es : Dk) : Prop := ∀ (A : Around) (kb ka : List (Kx × Value)), DRel B σ s.heap fs kb → DRel B σ s.heap es ka → A.units + 4 * n < cLine → ∀ k v, (k, v) ∈ ka → ∃ y, valueAt kb k = some y ∧ EqIn B A s v y
theorem VEqP.tup {n : Nat} {xs ys : List V} (p : VEqLP B σ s n xs ys) : VEqP B σ s (n + 1) (.tup xs) (.tup ys) := fun A x y r r' hu => by
  obtain ⟨_, _, _, rfl, ho, hs, hl⟩ := r.inv
  obtain ⟨_, _, _, rfl, ho', hs', hl'⟩ := r'.inv
  rename_i a n1 items b n2 items'
  obtain ⟨l1⟩ := items
  obtain ⟨l2⟩ := items'
  obtain ⟨hn, hall⟩ := p A.in1 _ _ hl hl' (by show A.units + 1 + _ < _; exact ar15 hu)
  exact .refs fun _ E Q q => wpAny_richCompare_same_room (op := .Eq) ⟨_, ho, rfl⟩ ⟨_, ho', rfl⟩ F.slot_tuple_eq (wpAny_call_entry F.slot_tuple_eq ⟨_, ho, rfl⟩ F.entry_tuple_eq (tuple_eq_tree ho ho' hn hall ⟨_, rfl, (fun x => nomatch x), q⟩) (F.args_tuple_eq_2 _ _)) (by exact ar16 hu)
theorem VEqP.dct {n : Nat} {es fs : Dk} (hl : es.length = fs.length) (p : VEqDP B σ s n fs es) : VEqP B σ s (n + 1) (.dct es) (.dct fs) := fun A x y r r' hu => by
  obtain ⟨_, _, _, rfl, hm, ho, hs, hd⟩ := r.inv
  obtain ⟨_, _, _, rfl, hm', ho', hs', hd'⟩ := r'.inv
  have hall := p A.in1 _ _ hd' hd (by show A.units + 1 + _ < _; exact ar15 hu)
  exact .refs fun _ E Q q => wpAny_richCompare_same_room (op := .Eq) ho.dictOf.typeIs ho'.dictOf.typeIs F.slot_dict_eq (wpAny_call_entry F.slot_dict_eq ho.dictOf.typeIs F.entry_dict_eq (dict_eq_tree hm hm' ho.dictOf ho'.dictOf (by rw [← hd.length, ← hd'.length]; exact hl) hall ⟨_, rfl, (fun x => nomatch x), q⟩) (F.args_dict_eq_2 _ _)) (by exact ar16 hu)
theorem VEqLP.nil (n : Nat) : VEqLP B σ s n [] [] := fun A us vs r r' hu => by
  obtain rfl := r.nil'; obtain rfl := r'.nil'; exact ⟨rfl, fun _ h => nomatch h⟩
theorem VEqLP.cons {n : Nat} {x y : V} {xs ys : List V} (p : VEqP B σ s n x y) (q : VEqLP B σ s n xs ys) : VEqLP B σ s n (x :: xs) (y :: ys) := fun A us vs r r' hu => by
  obtain ⟨_, _, rfl, r1, r2⟩ := r.cons'
  obtain ⟨_, _, rfl, r1', r2'⟩ := r'.cons'
  obtain ⟨hn, hall⟩ := q A _ _ r2 r2' hu
  refine ⟨congrArg (· + 1) hn, fun z hz => ?_⟩
  rw [List.zip_cons_cons, List.mem_cons] at hz
  obtain rfl | hz := hz
  · exact p A _ _ r1 r1' hu
  · exact hall z hz
theorem VEqDP.nil (n : Nat) (fs : Dk) : VEqDP B σ s n fs [] := fun A kb ka r r' hu k v h => by rw [r'.nil'] at h; cases h
theorem VEqDP.cons {n : Nat} {fs es : Dk} {k : Kx} {v w : V} (hk : dget fs k = some w) (p : VEqP B σ s n v w) (q : VEqDP B σ s n fs es) : VEqDP B σ s n fs ((k, v) :: es) := fun A kb ka r r' hu k v hm => by
  obtain ⟨_, _, rfl, r1, r2⟩ := r'.cons'
  rw [List.mem_cons] at hm
  obtain e | hm := hm
  · cases e; obtain ⟨y, hy, ry⟩ := r.some_of hk; exact ⟨y, hy, p A _ _ r1 ry hu⟩
  · exact q A _ _ r r2 hu k v hm
theorem VEqP.of {n : Nat} {u v : V} (p : PEq n u v) : VEqP B σ s n u v := fun A _ _ r r' hu E Q q => p.at A _ _ r r' hu B.prog B.w E Q q
theorem VEqL.at {n : Nat} {xs ys : List V} (p : VEqL n xs ys) {A : Around} {us vs : List Value} : VRelL B σ s.heap xs us → VRelL B σ s.heap ys vs → A.units + 4 * n < cLine → us.length = vs.length ∧ ∀ p ∈ List.zip us vs, EqIn B A s p.1 p.2 :=
  VEqL.rec (motive_1 := fun n u v _ => VEqP B σ s n u v) (motive_2 := fun n u v _ => VEqLP B σ s n u v) (motive_3 := fun n u v _ => VEqDP B σ s n u v) .of (fun _ => .tup) (fun hl _ => .dct hl) .nil (fun _ _ => .cons) .nil (fun hk _ _ => .cons hk) p A us vs
end
section
variable {B : Cx} {d : Nat} {σ : Store} {N : Nat} {es fs : Dk} {Q : Post V}
end
end
noncomputable section
/- sorting: what the questions of a sort lead to -/
section
variable {α : Type} {O : KeyOrd} {key : Nat → O.α} {n : Nat}
noncomputable def ok (n : Nat) (lt : Nat → Nat → Bool) : KasT α → (α → Prop) → Prop
  | .ret a, G => G a
  | .ask i j k, G => i < n ∧ j < n ∧ ok n lt (k (lt i j)) G
theorem ok_bind {β : Type} {lt : Nat → Nat → Bool} {f : α → KasT β} {G : β → Prop} : ∀ (t : KasT α), ok n lt t (fun a => ok n lt (f a) G) → ok n lt (t.bind f) G
  | .ret _, h => h
  | .ask _ _ k, h => ⟨h.1, h.2.1, ok_bind (k _) h.2.2⟩
noncomputable def Pm (n : Nat) (p : Array Nat) : Prop := p.toList.Perm (List.range n)
theorem Pm.size {p : Array Nat} (h : Pm n p) : p.size = n := by have := h.length_eq; simpa using this
theorem Pm.lt {p : Array Nat} (h : Pm n p) {i : Nat} (hi : i < n) : p.getD i 0 < n := by
  have hz : i < p.size := by rw [h.size]; exact hi
  have : p.getD i 0 ∈ p.toList := by simp [Array.getD, hz]
  exact List.mem_range.mp (h.mem_iff.mp this)
noncomputable abbrev kk (key : Nat → O.α) (p : Array Nat) (i : Nat) : O.α := key (p.getD i 0)
noncomputable def Chn (key : Nat → O.α) (R : O.α → O.α → Prop) (p : Array Nat) (m : Nat) : Prop := ∀ i j, i ≤ j → j < m → R (kk key p i) (kk key p j)
theorem Chn.one {R : O.α → O.α → Prop} (hr : ∀ a, R a a) {p : Array Nat} {m : Nat} (h : m ≤ 1) : Chn key R p m := fun i j h1 h2 => by
  have : i = j := by exact ar191 h h1 h2
  subst this; exact hr _
theorem Chn.succ {R : O.α → O.α → Prop} (hr : ∀ a, R a a) (ht : ∀ a b c, R a b → R b c → R a c) {p : Array Nat} {m : Nat} (c : Chn key R p m) (h1 : 1 ≤ m) (h : R (kk key p (m - 1)) (kk key p m)) : Chn key R p (m + 1) := fun i j hij hj => by
  by_cases e : j < m
  · exact c i j hij e
  · have : j = m := by exact ar192 hj e
    subst this
    by_cases e2 : i = j
    · subst e2; exact hr _
    · exact ht _ _ _ (c i (j - 1) (by exact ar193 hij h1 e2) (by exact ar61 h1)) h
theorem getD_of {p q : Array Nat} {i j : Nat} (h : p[i]? = q[j]?) : kk key p i = kk key q j := by unfold kk; rw [Array.getD_eq_getD_getElem?, Array.getD_eq_getD_getElem?, h]
theorem kk_rev {p : Array Nat} {i j : Nat} (hj : j ≤ p.size) (k : Nat) : kk key (kas_rev p i j) k = if i ≤ k ∧ k < j then kk key p (i + j - 1 - k) else kk key p k := by
  have e := getElem?_mirror_all (i := i) hj k
  by_cases h : i ≤ k ∧ k < j
  · rw [if_pos h] at e ⊢; exact getD_of e
  · rw [if_neg h] at e ⊢; exact getD_of e
theorem kk_bub {p : Array Nat} {s d : Nat} (hs : s < p.size) (hd : d ≤ s) (k : Nat) : kk key (bubble p s d) k = if k = s - d then kk key p s else if s - d < k ∧ k ≤ s then kk key p (k - 1) else kk key p k := by
  have e := getElem?_bubble hs d hd k
  by_cases h : k = s - d
  · rw [if_pos h] at e ⊢; exact getD_of e
  · rw [if_neg h] at e ⊢
    by_cases h2 : s - d < k ∧ k ≤ s
    · rw [if_pos h2] at e ⊢; exact getD_of e
    · rw [if_neg h2] at e ⊢; exact getD_of e
theorem Pm.rev {p : Array Nat} (h : Pm n p) (i j : Nat) : Pm n (kas_rev p i j) := (Array.perm_iff_toList_perm.mp (mirror_perm ..)).trans h
theorem Pm.bub {p : Array Nat} (h : Pm n p) (s d : Nat) : Pm n (bubble p s d) := (Array.perm_iff_toList_perm.mp (bubble_perm ..)).trans h
noncomputable abbrev ltK (key : Nat → O.α) : Nat → Nat → Bool := fun i j => O.blt (key i) (key j)
noncomputable abbrev geK (O : KeyOrd) : O.α → O.α → Prop := fun a b => O.kle b a
theorem asc_ok {p : Array Nat} {G : Nat → Prop} (hp : Pm n p) : ∀ (f m : Nat), 1 ≤ m → m + f ≤ n → Chn key O.kle p m → (∀ r, m ≤ r → r ≤ m + f → Chn key O.kle p r → (r = m + f ∨ O.klt (kk key p r) (kk key p (r - 1))) → G r) → ok n (ltK key) (kas_asc p f m) G := by
  intro f
  induction f with
  | zero => intro m h1 hm c h; exact h m (Nat.le_refl _) (Nat.le_refl _) c (.inl rfl)
  | succ f ih =>
    intro m h1 hm c h
    refine ⟨hp.lt (by exact ar32 hm), hp.lt (by exact ar33 h1 hm), ?_⟩
    show ok n (ltK key) (if O.blt (kk key p m) (kk key p (m - 1)) = true then KasT.ret m else kas_asc p f (m + 1)) G
    cases e : O.blt (kk key p m) (kk key p (m - 1)) with
    | true => rw [if_pos rfl]; exact h m (Nat.le_refl _) (by exact ar62) c (.inr e)
    | false =>
      rw [if_neg Bool.false_ne_true]
      exact ih (m + 1) (by exact ar9) (by exact ar17 hm) (c.succ KeyOrd.kle_refl (fun _ _ _ => KeyOrd.kle_trans) h1 e) fun r a b c d => h r (by exact ar5 a) (by exact ar18 b) c (d.imp (fun d => by exact ar194 d) id)
theorem kk_rev_eq {p : Array Nat} {m q : Nat} (hm : m ≤ p.size) (he : ∀ i, m - (q + 1) ≤ i → i < m → kk key p i = kk key p (m - 1)) (k : Nat) : kk key (kas_rev p (m - (q + 1)) m) k = kk key p k := by
  rw [kk_rev hm]
  split
  · rename_i h; rw [he _ (by exact ar195 h) (by exact ar196 h), he k h.1 h.2]
  · rfl
theorem Chn.of_eq {R : O.α → O.α → Prop} {p p' : Array Nat} {m : Nat} (h : ∀ k, kk key p' k = kk key p k) (c : Chn key R p m) : Chn key R p' m := fun i j a b => by rw [h, h]; exact c i j a b
theorem desc_ok {G : Array Nat × Nat × Nat → Prop} : ∀ (f : Nat) (p : Array Nat) (m q : Nat), Pm n p → 1 ≤ m → m + f ≤ n → Chn key (geK O) p m → q + 1 ≤ m → (∀ i, m - (q + 1) ≤ i → i < m → kk key p i = kk key p (m - 1)) →
    (∀ p' m' q', Pm n p' → m ≤ m' → m' ≤ m + f → Chn key (geK O) p' m' → q' + 1 ≤ m' → (∀ i, m' - (q' + 1) ≤ i → i < m' → kk key p' i = kk key p' (m' - 1)) → G (p', m', q')) → ok n (ltK key) (kas_desc f p m q) G := by
  intro f
  induction f with
  | zero => intro p m q hp h1 hm c hq he h; exact h p m q hp (Nat.le_refl _) (Nat.le_refl _) c hq he
  | succ f ih =>
    intro p m q hp h1 hm c hq he h
    have up : ∀ p', (∀ k, kk key p' k = kk key p k) → O.kle (kk key p m) (kk key p (m - 1)) → Chn key (geK O) p' (m + 1) := fun p' e l => (c.succ (R := geK O) KeyOrd.kle_refl (fun _ _ _ a b => KeyOrd.kle_trans b a) h1 l).of_eq e
    have one : ∀ p' : Array Nat, ∀ i, m + 1 - (0 + 1) ≤ i → i < m + 1 → kk key p' i = kk key p' (m + 1 - 1) := fun p' i a b => by congr 1; exact ar63 a b
    refine ⟨hp.lt (by exact ar32 hm), hp.lt (by exact ar33 h1 hm), ?_⟩
    show ok n (ltK key) (if O.blt (kk key p m) (kk key p (m - 1)) = true then (if q > 0 then kas_desc f (kas_rev p (m - (q + 1)) m) (m + 1) 0 else kas_desc f p (m + 1) 0) else .ask (p.getD (m - 1) 0) (p.getD m 0) fun d => if d = true then .ret (p, m, q) else kas_desc f p (m + 1) (q + 1)) G
    cases e : O.blt (kk key p m) (kk key p (m - 1)) with
    | true =>
      rw [if_pos rfl]
      by_cases hq0 : q > 0
      · rw [if_pos hq0]
        exact ih _ _ _ (hp.rev _ _) (by exact ar9) (by exact ar17 hm) (up _ (kk_rev_eq (by rw [hp.size]; exact ar197 hm) he) (KeyOrd.kle_of_klt e)) (by exact ar34) (one _) fun p' m' q' a b c' d e' f' => h p' m' q' a (by exact ar5 b) (by exact ar18 c') d e' f'
      · rw [if_neg hq0]
        exact ih _ _ _ hp (by exact ar9) (by exact ar17 hm) (up _ (fun _ => rfl) (KeyOrd.kle_of_klt e)) (by exact ar34) (one _) fun p' m' q' a b c' d e' f' => h p' m' q' a (by exact ar5 b) (by exact ar18 c') d e' f'
    | false =>
      rw [if_neg Bool.false_ne_true]
      refine ⟨hp.lt (by exact ar33 h1 hm), hp.lt (by exact ar32 hm), ?_⟩
      show ok n (ltK key) (if O.blt (kk key p (m - 1)) (kk key p m) = true then .ret (p, m, q) else kas_desc f p (m + 1) (q + 1)) G
      cases e2 : O.blt (kk key p (m - 1)) (kk key p m) with
      | true => rw [if_pos rfl]; exact h p m q hp (Nat.le_refl _) (by exact ar62) c hq he
      | false =>
        rw [if_neg Bool.false_ne_true]
        have heq : kk key p m = kk key p (m - 1) := KeyOrd.kle_antisymm e2 e
        refine ih _ _ _ hp (by exact ar9) (by exact ar17 hm) (up _ (fun _ => rfl) e2) (by exact ar198 hq) (fun i a b => ?_) fun p' m' q' a b c' d e' f' => h p' m' q' a (by exact ar5 b) (by exact ar18 c') d e' f'
        show _ = kk key p m
        by_cases hi : i = m
        · rw [hi]
        · rw [heq]; exact he i (by exact ar199 a) (by exact ar35 b hi)
theorem tail_ok {G : Nat × Array Nat → Prop} {p : Array Nat} {m : Nat} (hp : Pm n p) (h1 : 1 ≤ m) (hm : m ≤ n) (c : Chn key (geK O) p m) (h : ∀ r p', Pm n p' → 1 ≤ r → r ≤ n → Chn key O.kle p' r → G (r, p')) : ok n (ltK key) (kas_tail3 m n p) G := by
  refine ok_bind _ (asc_ok (hp.rev 0 m) _ _ h1 (by exact ar200 hm) (fun i j hij hj => ?_) fun r a b c _ => h r _ (hp.rev 0 m) (by exact ar201 h1 a) (by exact ar202 hm b) c)
  rw [kk_rev (by rw [hp.size]; exact hm), kk_rev (by rw [hp.size]; exact hm), if_pos (by exact ar203 hij hj), if_pos (by exact ar204 hj)]
  exact c _ _ (by exact ar205 hij hj) (by exact ar64 h1)
theorem part_ok {G : Nat × Array Nat → Prop} {p : Array Nat} {m : Nat} (hp : Pm n p) (hm : m + 1 ≤ n) (c : Chn key (geK O) p (m + 1)) (h : ∀ r p', Pm n p' → 1 ≤ r → r ≤ n → Chn key O.kle p' r → G (r, p')) : ok n (ltK key) (kas_descPart m n p) G := by
  refine ok_bind _ (desc_ok _ _ _ _ hp (by exact ar9) (by exact ar206 hm) c (by exact ar34) (fun i a b => by congr 1; exact ar63 a b) fun p' m' q' a b c' d e f => ?_)
  dsimp only
  by_cases hq : q' > 0
  · rw [if_pos hq]; exact tail_ok (a.rev _ _) (by exact ar65 b) (by exact ar36 hm c') (d.of_eq (kk_rev_eq (by rw [a.size]; exact ar36 hm c') f)) h
  · rw [if_neg hq]; exact tail_ok a (by exact ar65 b) (by exact ar36 hm c') d h
theorem count_ok {G : Nat × Array Nat → Prop} {p : Array Nat} (hp : Pm n p) (hn : 1 ≤ n) (h : ∀ r p', Pm n p' → 1 ≤ r → r ≤ n → Chn key O.kle p' r → G (r, p')) : ok n (ltK key) (kas_count n p) G := by
  refine ok_bind _ (asc_ok hp _ _ (Nat.le_refl _) (by exact ar207 hn) (.one KeyOrd.kle_refl (Nat.le_refl _)) fun r a b c d => ?_)
  by_cases hr : r = n
  · rw [if_pos (by simpa using hr)]; exact h r p hp a (by exact ar19 hr) c
  rw [if_neg (by simpa using hr)]
  have d : O.klt (kk key p r) (kk key p (r - 1)) := d.resolve_left (by exact ar208 hn hr)
  by_cases h1 : r > 1
  · rw [if_pos h1]
    refine ⟨hp.lt (by exact ar209 hn), hp.lt (by exact ar210 hn a b hr), ?_⟩
    show ok n (ltK key) (if O.blt (kk key p 0) (kk key p (r - 1)) = true then KasT.ret (r, p) else kas_descPart r n (kas_rev p 0 r)) G
    cases e : O.blt (kk key p 0) (kk key p (r - 1)) with
    | true => rw [if_pos rfl]; exact h r p hp a (by exact ar66 hn b hr) c
    | false =>
      rw [if_neg Bool.false_ne_true]
      have all : ∀ k, k < r → kk key p k = kk key p (r - 1) := fun k hk => KeyOrd.kle_antisymm (c k (r - 1) (by exact ar211 a hk) (by exact ar61 a)) (KeyOrd.kle_trans e (c 0 k (Nat.zero_le _) hk))
      have er : ∀ k, kk key (kas_rev p 0 r) k = kk key p k := fun k => by
        rw [kk_rev (by rw [hp.size]; exact ar66 hn b hr)]
        split
        · rename_i z; rw [all _ (by exact ar64 a), all k z.2]
        · rfl
      refine part_ok (hp.rev _ _) (by exact ar212 hn b hr) (Chn.of_eq er (Chn.succ (R := geK O) KeyOrd.kle_refl (fun _ _ _ a b => KeyOrd.kle_trans b a) (fun i j _ hj => ?_) (by exact ar67 a) (KeyOrd.kle_of_klt d))) h
      rw [all i (by lia), all j hj]; exact KeyOrd.kle_refl _
  · rw [if_neg h1]
    have : r = 1 := by exact ar213 a h1
    subst this
    exact part_ok hp (by exact ar214 hn hr) (Chn.succ (R := geK O) KeyOrd.kle_refl (fun _ _ _ a b => KeyOrd.kle_trans b a) (Chn.one (R := geK O) KeyOrd.kle_refl (Nat.le_refl _)) (Nat.le_refl _) (KeyOrd.kle_of_klt d)) h
theorem place_ok {p : Array Nat} {k : Nat} (hp : Pm n p) (hk : k < n) (c : Chn key O.kle p k) {G : Nat → Prop} : ∀ (f l r : Nat), l ≤ r → r ≤ k → r ≤ l + f → (∀ x, x < l → O.kle (kk key p x) (kk key p k)) → (∀ x, r ≤ x → x < k → O.kle (kk key p k) (kk key p x)) →
    (∀ l, l ≤ k → (∀ x, x < l → O.kle (kk key p x) (kk key p k)) → (∀ x, l ≤ x → x < k → O.kle (kk key p k) (kk key p x)) → G l) → ok n (ltK key) (kas_place p k f l r) G := by
  intro f
  induction f with
  | zero => intro l r a b d u v h; have : l = r := by exact ar215 a d
            subst this; exact h l b u v
  | succ f ih =>
    intro l r a b d u v h
    unfold kas_place
    by_cases e : l ≥ r
    · rw [if_pos e]; have : l = r := by exact ar216 a e
      subst this; exact h l b u v
    · rw [if_neg e]
      refine ⟨hp.lt hk, hp.lt (by exact ar217 hk b e), ?_⟩
      show ok n (ltK key) (if O.blt (kk key p k) (kk key p ((l + r) / 2)) = true then kas_place p k f l ((l + r) / 2) else kas_place p k f ((l + r) / 2 + 1) r) G
      cases z : O.blt (kk key p k) (kk key p ((l + r) / 2)) with
      | true => rw [if_pos rfl]; exact ih _ _ (by exact ar218 e) (by exact ar219 b e) (by exact ar220 a d e) u (fun x h1 h2 => KeyOrd.kle_trans (KeyOrd.kle_of_klt z) (c _ x h1 h2)) h
      | false => rw [if_neg Bool.false_ne_true]; exact ih _ _ (by exact ar221 a e) b (by exact ar222 d) (fun x hx => KeyOrd.kle_trans (c x _ (by exact ar223 hx) (by exact ar224 b e)) z) v h
theorem bin_ok : ∀ (f : Nat) (p : Array Nat) (k : Nat), Pm n p → 1 ≤ k → k + f = n → Chn key O.kle p k → ok n (ltK key) (kas_bin f p k) (fun p' => Pm n p' ∧ Chn key O.kle p' n) := by
  intro f
  induction f with
  | zero => intro p k hp h1 hn c; have : k = n := by exact ar225 hn
            subst this; exact ⟨hp, c⟩
  | succ f ih =>
    intro p k hp h1 hn c
    refine ok_bind _ (place_ok hp (by exact ar68 hn) c _ _ _ (Nat.zero_le _) (Nat.le_refl _) (by exact ar37) (fun x h => absurd h (Nat.not_lt_zero _)) (fun x h h' => absurd h (by exact ar226 h h')) fun l hl u v => ih _ _ (hp.bub _ _) (by exact ar9) (by exact ar227 hn) fun i j hij hj => ?_)
    have hz : k < p.size := by rw [hp.size]; exact ar68 hn
    rw [kk_bub hz (by exact ar69 h1), kk_bub hz (by exact ar69 h1), show k - (k - l) = l from by exact ar228 hl]
    by_cases i1 : i = l
    · rw [if_pos i1]
      by_cases j1 : j = l
      · rw [if_pos j1]; exact KeyOrd.kle_refl _
      · rw [if_neg j1, if_pos (by exact ar229 hij hj i1 j1)]; exact v _ (by exact ar230 hij i1 j1) (by exact ar38 h1 hj)
    · rw [if_neg i1]
      by_cases j1 : j = l
      · rw [if_pos j1, if_neg (by exact ar231 hij i1 j1)]; exact u _ (by exact ar232 hij i1 j1)
      · rw [if_neg j1]
        by_cases i2 : l < i ∧ i ≤ k
        · rw [if_pos i2, if_pos (by exact ar233 hij hj j1 i2)]; exact c _ _ (by exact ar234 hij i1 i2) (by exact ar38 h1 hj)
        · rw [if_neg i2]
          by_cases j2 : l < j ∧ j ≤ k
          · rw [if_pos j2]; exact c _ _ (by exact ar235 hij hj i1 i2 j2) (by exact ar38 h1 hj)
          · rw [if_neg j2]; exact c _ _ (by exact ar2 hij) (by exact ar236 hl hj j1 j2)
theorem sort_ok (hn : 1 ≤ n) : ok n (ltK key) (kas_sort n) (fun p => Pm n p ∧ Chn key O.kle p n) := by
  refine ok_bind _ (count_ok (by unfold Pm; exact .refl _) hn fun r p hp h1 h2 c => ?_)
  dsimp only
  by_cases h : r < n
  · rw [if_pos h, show max r 1 = r from by exact ar237 h1]; exact bin_ok _ _ _ hp h1 (by exact ar238 h) c
  · rw [if_neg h]
    have : r = n := by exact ar30 h2 h
    subst this; exact ⟨hp, c⟩
end
end
noncomputable section
/- sorted: tuples of ints and strs, lists of strs -/
@[reducible] def LL : KeyOrd where
  α := List (List Nat)
  blt a b := decide (a < b)
  irrefl a := decide_eq_false (List.lt_irrefl a)
  trans a b c h1 h2 := by simp only [decide_eq_true_eq] at *; exact List.lt_trans h1 h2
  negTrans a b c h := by
    simp only [decide_eq_true_eq] at *
    by_cases hab : a < b
    · exact .inl hab
    · exact .inr (List.lt_of_le_of_lt (List.not_lt.mp hab) h)
  total a b h1 h2 := by simp only [decide_eq_false_iff_not] at *; exact List.le_antisymm (List.not_lt.mp h2) (List.not_lt.mp h1)
noncomputable def kv : V → List Nat
  | .str s => s.cps.toList
  | .int i => [i.toNat]
  | _ => []
noncomputable def kl : V → List (List Nat)
  | .tup xs => xs.map kv
  | .lst xs => xs.map kv
  | .str x => [x.cps.toList]
  | _ => []
noncomputable def NonNeg : V → Prop
  | .int i => 0 ≤ i
  | _ => True
theorem eqS_kv {x y : V} (h : SameS x y) (hx : NonNeg x) (hy : NonNeg y) : eqS x y = decide (kv x = kv y) := by
  cases h with
  | int a b =>
    have hx : 0 ≤ a := hx
    have hy : 0 ≤ b := hy
    show decide (a = b) = decide ([a.toNat] = [b.toNat])
    rw [decide_eq_decide]
    exact ⟨fun e => by rw [e], fun e => by have := List.singleton_inj.mp e; exact arb54 hx hy this⟩
  | str a b =>
    show decide (a = b) = decide (a.cps.toList = b.cps.toList)
    rw [decide_eq_decide]
    exact ⟨fun e => by rw [e], fun e => by cases a; cases b; exact congrArg _ (Array.toList_inj.mp e)⟩
theorem ltS_kv {x y : V} (h : SameS x y) (hx : NonNeg x) (hy : NonNeg y) : ltS x y = decide (kv x < kv y) := by
  cases h with
  | int a b =>
    have hx : 0 ≤ a := hx
    have hy : 0 ≤ b := hy
    show decide (a < b) = decide ([a.toNat] < [b.toNat])
    rw [decide_eq_decide, List.cons_lt_cons_iff]
    refine ⟨fun e => .inl (by exact ar239 hx hy e), fun e => ?_⟩
    rcases e with e | ⟨_, e⟩
    · exact ar240 hx hy e
    · exact absurd e (List.lt_irrefl _)
  | str a b => rfl
theorem lexLt_kl {xs ys : List V} (h : LexOk xs ys) (hx : ∀ x ∈ xs, NonNeg x) (hy : ∀ x ∈ ys, NonNeg x) : lexLt xs ys = decide (xs.map kv < ys.map kv) := by
  induction h with
  | nil => rfl
  | cons h r ih =>
    rename_i x y xs ys
    have ih := ih (fun a m => hx a (.tail _ m)) (fun a m => hy a (.tail _ m))
    rw [lexLt, List.map_cons, List.map_cons, eqS_kv h (hx _ (.head _)) (hy _ (.head _)), ltS_kv h (hx _ (.head _)) (hy _ (.head _))]
    by_cases e : kv x = kv y
    · rw [if_pos (decide_eq_true e), ih, e, decide_eq_decide, List.cons_lt_cons_iff]
      exact ⟨fun z => .inr ⟨rfl, z⟩, fun z => z.elim (fun z => absurd z (List.lt_irrefl _)) (·.2)⟩
    · rw [if_neg (by rw [decide_eq_false e]; exact Bool.false_ne_true), decide_eq_decide, List.cons_lt_cons_iff]
      exact ⟨.inl, fun z => z.elim id fun z => absurd z.1 e⟩
section
variable {B : Cx} {σ : Store} {s : Shared} {A : Around} {E : Value → Shared → Prop} {h : Heap}
theorem bool_back {b : Bool} {Q : Bool → Shared → Prop} {s : Shared} (q : Q b s) : PySem.W.BoolBack Q (.bool b) s := q
theorem oneLt_S {x y : V} {a b : Value} {c : Bool} {Q : Bool → Shared → Prop} (k : SameS x y) (ra : VRel B σ h x a) (rb : VRel B σ h y b) (q : Q (ltS x y) s) : wpAny (model B.prog B.w) A (oneLt' c a b) Q E s := by
  cases c with
  | true =>
    cases k with
    | int i j => obtain ⟨_, rfl⟩ := ra.inv; obtain ⟨_, rfl⟩ := rb.inv; exact oneLt_int q
    | str i j => obtain ⟨_, rfl⟩ := ra.inv; obtain ⟨_, rfl⟩ := rb.inv; exact oneLt_str q
  | false =>
    refine kat_one _ _ ?_
    cases k with
    | int i j => obtain ⟨_, rfl⟩ := ra.inv; obtain ⟨_, rfl⟩ := rb.inv; exact PyProof.Rows.lt_int (bool_back q)
    | str i j => obtain ⟨_, rfl⟩ := ra.inv; obtain ⟨_, rfl⟩ := rb.inv; exact PyProof.Rows.lt_str (bool_back q)
theorem katlex_ok {xs ys : List V} (k : LexOk xs ys) {c : Bool} {Q : Bool → Shared → Prop} : ∀ {us vs : List Value} (i : Nat), VRelL B σ h xs us → VRelL B σ h ys vs → Q (lexLt xs ys) s → KatLex B.prog B.w A c false Q (us.zip vs) i s := by
  induction k with
  | nil => intro us vs i r r' q; obtain rfl := r.nil'; obtain rfl := r'.nil'; exact kat_nil q
  | cons k r ih =>
    intro us vs i ra rb q
    obtain ⟨_, _, rfl, a1, a2⟩ := ra.cons'
    obtain ⟨_, _, rfl, b1, b2⟩ := rb.cons'
    rename_i x y xs ys _ _ _ _
    rw [lexLt] at q
    refine kat_cons (eqBool_S k a1 b1 ?_)
    cases e : eqS x y with
    | true => rw [if_pos e] at q; exact kat_yes (ih _ a2 b2 q)
    | false => rw [if_neg (by rw [e]; exact Bool.false_ne_true)] at q; exact kat_no (oneLt_S k a1 b1 q)
theorem LexOk.len {xs ys : List V} (k : LexOk xs ys) : xs.length = ys.length := by
  induction k with
  | nil => rfl
  | cons _ _ ih => exact congrArg (· + 1) ih
theorem key_tup {xs ys : List V} {a b : Value} {c : Bool} {Q : Bool → Shared → Prop} (k : LexOk xs ys) (ra : VRel B σ s.heap (.tup xs) a) (rb : VRel B σ s.heap (.tup ys) b) (q : Q (lexLt xs ys) s) : wpAny (model B.prog B.w) A (keyLt' (tuples' c) a b) Q E s := by
  obtain ⟨_, _, _, rfl, ho, hs, hl⟩ := ra.inv
  obtain ⟨_, _, _, rfl, ho', hs', hl'⟩ := rb.inv
  refine kat_lt ho rfl ho' rfl ?_
  rename_i items _ _ items'
  rw [show decide (items.size < items'.size) = false from decide_eq_false (by have := k.len; rw [hl.length, hl'.length] at this; simp only [Array.length_toList] at this; exact ar241 this)]
  exact katlex_ok k 0 hl hl' q
end
end
noncomputable section
/- sorted(xs) -/
section
variable {B : Cx} {σ : Store} {s : Shared} {A : Around} {E : Value → Shared → Prop}
theorem ok_ask {α : Type} {n : Nat} {lt : Nat → Nat → Bool} {cmp : Nat → Nat → (Bool → Shared → Prop) → Shared → Prop} {s : Shared} {G : α → Prop} {Q : α → Shared → Prop} (hc : ∀ i j C, i < n → j < n → C (lt i j) s → cmp i j C s) (hG : ∀ a, G a → Q a s) : ∀ t : KasT α, ok n lt t G → t.kasWp cmp Q s
  | .ret a, h => hG a h
  | .ask i j k, h => hc i j _ h.1 h.2.1 (ok_ask hc hG (k _) h.2.2)
theorem lsort_tree {O : KeyOrd} {key : Nat → O.α} {κ : SortKind} {a n : Nat} {vs : List Value} {P : Fin → Shared → Prop} (ho : s.heap.get? a = some (seqObj "list" vs.toArray n)) (h1 : 1 ≤ vs.length) (h64 : vs.length < 64)
    (kind : ∀ s' : Shared, (∀ b o, b ≠ a → s.heap.get? b = some o → s'.heap.get? b = some o) → 2 ≤ vs.length → ∀ Q, Q κ s' → wpAny (model B.prog B.w) A (keyKind' vs.toArray) Q E s')
    (lt : ∀ s' : Shared, (∀ b o, b ≠ a → s.heap.get? b = some o → s'.heap.get? b = some o) → ∀ i j C, i < vs.length → j < vs.length → C (ltK key i j) s' → wpAny (model B.prog B.w) A (keyLt' κ (vs.getD i .none) (vs.getD j .none)) C (fun _ _ => False) s')
    (h : ∀ p, Pm vs.length p → Chn key O.kle p vs.length → P (.done (.ret .none)) { s with heap := sortedHeap s.heap a vs (p.map (fun i => vs.getD i .none)) }) :
    wpAny (model B.prog B.w) A (Builtin.«list.sort» ⟨[.ref a], []⟩) P E s := by
  rw [list_sort_plain]
  have ha : a < s.heap.objs.size := Heap.lt_size ho
  have hsz : vs.toArray.size = vs.length := by simp
  refine wpAny_bind (listItems_at ho rfl (wpAny_bind (listUpdate_at ho rfl ?_ (by rw [hsz, sizeLine_eq]; exact ar20 h64) (Nat.zero_le _))))
  obtain ⟨e1, ho1⟩ : ∃ e1, (s.heap.update a (Obj.mapSeq fun _ => #[])).get? a = some (seqObj "list" #[] e1) := ⟨_, get?_update_seq ho (fun _ => #[])⟩
  refine wpAny_bind (seqEpoch_at ho1 rfl (wpAny_bind (wpAny_newTuple ?_ (by show vs.length ≤ _; rw [sizeLine_eq]; exact ar20 h64))))
  refine wpAny_bind (wpAny_newList ?_ (Nat.zero_le _))
  refine wpAny_holding ?_
  have ho6 : (((s.heap.update a (Obj.mapSeq fun _ => #[])).push (seqObj "tuple" vs.toArray 0)).push (seqObj "list" #[] 0)).get? a = some (seqObj "list" #[] e1) := Heap.get?_push_of_some _ (Heap.get?_push_of_some _ ho1)
  have hx : ∀ b o, b ≠ a → s.heap.get? b = some o → (((s.heap.update a (Obj.mapSeq fun _ => #[])).push (seqObj "tuple" vs.toArray 0)).push (seqObj "list" #[] 0)).get? b = some o := fun b o hb e => Heap.get?_push_of_some _ (Heap.get?_push_of_some _ ((Heap.get?_update_ne _ _ _ _ hb).trans e))
  show wpAny (model B.prog B.w) A _ P E { s with heap := ((s.heap.update a (Obj.mapSeq fun _ => #[])).push (seqObj "tuple" vs.toArray 0)).push (seqObj "list" #[] 0) }
  dsimp only
  have fin : ∀ (st' : SortSt) (p : Array Nat), Pm vs.length p → Chn key O.kle p vs.length → arrOf st' = p.map (kas_item (PyProof.Rows.pairsOf vs)) → P (.done (.ret .none)) { s with heap := sortedHeap s.heap a vs ((arrOf st').map (·.2)) } := by
    intro st' p hp c e
    rw [e, Array.map_map]
    have : (Prod.snd ∘ kas_item (PyProof.Rows.pairsOf vs)) = fun i => vs.getD i .none := funext fun i => by show (kas_item (PyProof.Rows.pairsOf vs) i).2 = _; rw [kas_item_eq]
    rw [this]
    exact h p hp c
  have outsz : ∀ (st' : SortSt) (p : Array Nat), Pm vs.length p → arrOf st' = p.map (kas_item (PyProof.Rows.pairsOf vs)) → ((arrOf st').map (·.2)).size ≤ sizeLine + 1 := by
    intro st' p hp e
    rw [e, Array.size_map, Array.size_map, hp.size, sizeLine_eq]; exact ar245 h64
  have hr : List.toArray (List.range (PyProof.Rows.pairsOf vs).size) = List.toArray (List.range vs.length) := by rw [PyProof.Rows.pairsOf_size]
  by_cases h2 : vs.toArray.size < 2
  · rw [if_pos h2, if_pos h2]
    refine wpAny_bind (wpAny_pure ?_)
    rw [StateT.run_pure]
    refine wpAny_bind (wpAny_pure ?_)
    dsimp only
    have hp : Pm vs.length (List.toArray (List.range vs.length)) := by unfold Pm; exact .refl _
    have e : arrOf (SortSt.mk' general' (vs.toArray.zip vs.toArray) #[] 7 none) = (List.toArray (List.range vs.length)).map (kas_item (PyProof.Rows.pairsOf vs)) := by rw [← hr]; exact (kas_range (PyProof.Rows.pairsOf vs)).symm
    refine wpAny_bind (seqEpoch_at ho6 rfl ?_)
    refine wpAny_bind (listUpdate_at ho6 rfl ?_ (Nat.zero_le _) (outsz _ _ hp e))
    simp only [bne_self_eq_false, Bool.false_eq_true, if_false]
    exact wpAny_pure (fin _ _ hp (.one KeyOrd.kle_refl (by exact ar246 h1 hsz h2)) e)
  · rw [if_neg h2, if_neg h2]
    refine wpAny_bind (kind _ hx (by exact ar70 h1 hsz h2) _ ?_)
    have est : SortSt.mk' κ (vs.toArray.zip vs.toArray) #[] 7 none = kas_st κ (PyProof.Rows.pairsOf vs) (List.toArray (List.range vs.length)) := by
      show SortSt.mk' κ (PyProof.Rows.pairsOf vs) #[] 7 none = SortSt.mk' κ ((List.toArray (List.range vs.length)).map (kas_item (PyProof.Rows.pairsOf vs))) #[] 7 none
      rw [← hr, kas_range]
    have run := kas_runs (prog := B.prog) (w := B.w) (A := A) (E := E) (κ := κ) (it := PyProof.Rows.pairsOf vs) (n := vs.length) (s := { s with heap := ((s.heap.update a (Obj.mapSeq fun _ => #[])).push (seqObj "tuple" vs.toArray 0)).push (seqObj "list" #[] 0) })
      (Q := fun _ st' s' => s' = { s with heap := ((s.heap.update a (Obj.mapSeq fun _ => #[])).push (seqObj "tuple" vs.toArray 0)).push (seqObj "list" #[] 0) } ∧ failedOf st' = none ∧ ∃ p : Array Nat, Pm vs.length p ∧ Chn key O.kle p vs.length ∧ arrOf st' = p.map (kas_item (PyProof.Rows.pairsOf vs)))
      (G := fun p s' => s' = { s with heap := ((s.heap.update a (Obj.mapSeq fun _ => #[])).push (seqObj "tuple" vs.toArray 0)).push (seqObj "list" #[] 0) } ∧ Pm vs.length p ∧ Chn key O.kle p vs.length)
      (by exact ar70 h1 hsz h2) h64 (fun p' st' s' a1 a2 a3 a4 => ⟨a4.1, a3, p', a4.2.1, a4.2.2, a2⟩) (by
        rw [← kas_ask_eq]
        exact ok_ask (fun i j C hi hj hC => lt _ hx i j C hi hj hC) (fun p hp => ⟨rfl, hp⟩) _ (sort_ok h1))
    rw [← est] at run
    refine wpAny_bind (wpAny_mono run ?_ fun _ _ e => e)
    rintro ⟨⟨⟩, st'⟩ s' ⟨rfl, hf, p, hp, c, e⟩
    dsimp only
    refine wpAny_bind (seqEpoch_at ho6 rfl ?_)
    refine wpAny_bind (listUpdate_at ho6 rfl ?_ (Nat.zero_le _) (outsz _ _ hp e))
    rw [hf]
    simp only [bne_self_eq_false, Bool.false_eq_true, if_false]
    exact wpAny_pure (fin _ _ hp c e)
theorem sorted_call {O : KeyOrd} {key : Nat → O.α} {κ : SortKind} {l : Nat} {vs : List Value} {Q : Value → Shared → Prop} (hl : s.heap.IsList l vs.toArray) (h1 : 1 ≤ vs.length) (h64 : vs.length < 64)
    (kind : ∀ s' : Shared, (∀ b o, s.heap.get? b = some o → s'.heap.get? b = some o) → 2 ≤ vs.length → ∀ Q, Q κ s' → wpAny (model B.prog B.w) A.in1.in1 (keyKind' vs.toArray) Q E s')
    (lt : ∀ s' : Shared, (∀ b o, s.heap.get? b = some o → s'.heap.get? b = some o) → ∀ i j C, i < vs.length → j < vs.length → C (ltK key i j) s' → wpAny (model B.prog B.w) A.in1.in1 (keyLt' κ (vs.getD i .none) (vs.getD j .none)) C (fun _ _ => False) s')
    (h : ∀ p, Pm vs.length p → Chn key O.kle p vs.length → Q (.ref (s.heap.objs.size + 1)) { s with heap := sortedAll s.heap vs (p.map (fun i => vs.getD i .none)) }) :
    wpAny (model B.prog B.w) A (call (.builtin "sorted") [.ref l]) Q E s := by
  refine Calls.call_function_entry kind_sorted plain_sorted entry_sorted (args_sorted1 _) ?_
  unfold Builtin.«sorted»
  refine wpAny_bind (m := checkCount "sorted" 1 1 _) (wpAny_pure (wpAny_bind (collect_list hl ?_ (by rw [sizeLine_eq]; exact ar20 h64))))
  refine wpAny_bind (wpAny_newList ?_ (by show vs.length ≤ _; rw [sizeLine_eq]; exact ar20 h64))
  have hsz : ((s.heap.push (seqObj "list" #[] 0)).update s.heap.objs.size (Obj.mapSeq (· ++ vs.toArray))).objs.size = s.heap.objs.size + 1 := by rw [Heap.size_update, size_push']
  have hoL : (((s.heap.push (seqObj "list" #[] 0)).update s.heap.objs.size (Obj.mapSeq (· ++ vs.toArray))).push (seqObj "list" vs.toArray 0)).get? (s.heap.objs.size + 1) = some (seqObj "list" vs.toArray 0) := by
    rw [← hsz]; exact Heap.get?_push_size _ rfl
  have hx : ∀ b o, s.heap.get? b = some o → (((s.heap.push (seqObj "list" #[] 0)).update s.heap.objs.size (Obj.mapSeq (· ++ vs.toArray))).push (seqObj "list" vs.toArray 0)).get? b = some o := fun b o e =>
    Heap.get?_push_of_some _ ((Heap.get?_update_ne _ _ _ _ (Nat.ne_of_lt (Heap.lt_size e))).trans (Heap.get?_push_of_some _ e))
  show wpAny _ _ _ _ _ { s with heap := ((s.heap.push (seqObj "list" #[] 0)).update s.heap.objs.size (Obj.mapSeq (· ++ vs.toArray))).push (seqObj "list" vs.toArray 0) }
  rw [hsz]
  refine wpAny_bind (wpAny_holding (wpAny_call_entry slot_list_sort ⟨_, hoL, rfl⟩ entry_list_sort (lsort_tree hoL h1 h64 (fun s' k => kind s' fun b o e => k b o (Nat.ne_of_lt (Nat.lt_succ_of_lt (Heap.lt_size e))) (hx b o e)) (fun s' k => lt s' fun b o e => k b o (Nat.ne_of_lt (Nat.lt_succ_of_lt (Heap.lt_size e))) (hx b o e)) fun p a1 a2 => ⟨_, rfl, ?_⟩) (args_list_sort _)))
  exact wpAny_pure ⟨_, rfl, h p a1 a2⟩
theorem size_sortedAll (h : Heap) (vs : List Value) (out : Array Value) : h.objs.size ≤ (sortedAll h vs out).objs.size := by
  unfold sortedAll sortedHeap
  simp only [Heap.size_update, size_push']
  exact ar247
end
section
variable {B : Cx} {d : Nat} {σ : Store} {N : Nat} {u : V} {xs : List V} {Q : Post V}
/- what `sorted` makes of `xs` -/
noncomputable def IsSorted (xs zs : List V) : Prop := zs.Perm xs ∧ zs.Pairwise (fun a b => ¬ kl b < kl a)
theorem perm_map {n : Nat} {p : Array Nat} (hp : Pm n p) {α : Type} (f : Nat → α) : (p.toList.map f).Perm ((List.range n).map f) := List.Perm.map f hp
theorem map_range {α : Type} (l : List α) (d : α) : (List.range l.length).map (fun i => l.getD i d) = l := by
  apply List.ext_getElem (by simp)
  intro i h1 h2
  simp [h2]
theorem VRelL.mapAt {h : Heap} {vs : List Value} (r : VRelL B σ h xs vs) : ∀ is : List Nat, (∀ i ∈ is, i < xs.length) → VRelL B σ h (is.map fun i => xs.getD i .none) (is.map fun i => vs.getD i .none)
  | [], _ => .nil
  | i :: is, k => by
    have hi := k i (.head _)
    obtain ⟨b, e, rb⟩ := r.get (List.getElem?_eq_getElem hi)
    refine .cons ?_ (r.mapAt is fun j hj => k j (.tail _ hj))
    show VRel B σ h (xs.getD i .none) (vs.getD i .none)
    rw [List.getD_eq_getElem?_getD, List.getD_eq_getElem?_getD, e, List.getElem?_eq_getElem hi]
    exact rb
theorem bSorted {κ : SortKind} (hs : ListV σ u xs) (h1 : 1 ≤ xs.length) (h64 : xs.length < 64)
    (kind : ∀ (s' : Shared) (vs : List Value) A E Q, VRelL B σ s'.heap xs vs → 2 ≤ vs.length → Q κ s' → wpAny (model B.prog B.w) A (keyKind' vs.toArray) Q E s')
    (lt : ∀ (s' : Shared) A x y a b Q, x ∈ xs → y ∈ xs → VRel B σ s'.heap x a → VRel B σ s'.heap y b → A.units < cLine → Q (decide (kl x < kl y)) s' → wpAny (model B.prog B.w) A (keyLt' κ a b) Q (fun _ _ => False) s')
    (h : ∀ zs, IsSorted xs zs → Q (.lst zs) σ N) : Need (WC B d (.builtin "sorted") [u] σ N Q) := ⟨fun A s as k I r => by
  obtain ⟨_, _, rfl, r1, r2⟩ := r.cons'
  obtain rfl := r2.nil'
  obtain ⟨a, items, n, rfl, ho, rl⟩ := hs.at I r1
  obtain ⟨vs⟩ := items
  have rl : VRelL B σ s.heap xs vs := rl
  have hlen := rl.length
  have room := k.room
  refine sorted_call (O := LL) (key := fun i => kl (xs.getD i .none)) (κ := κ) (vs := vs) ⟨_, ho, rfl, n, rfl⟩ (by exact ar248 h1 hlen) (by exact ar249 h64 hlen) ?_ ?_ ?_
  · intro s' hx h2 Q q
    exact kind s' vs _ _ Q (rl.mono (.grow hx)) h2 q
  · intro s' hx i j C hi hj hC
    have g : ∀ i, i < vs.length → (xs.getD i .none) ∈ xs ∧ VRel B σ s'.heap (xs.getD i .none) (vs.getD i .none) := fun i hi => by
      have hi' : i < xs.length := by exact ar40 hlen hi
      obtain ⟨b, e, rb⟩ := (rl.mono (.grow hx : Step σ s.heap σ s'.heap)).get (List.getElem?_eq_getElem hi')
      rw [List.getD_eq_getElem?_getD, List.getD_eq_getElem?_getD, e, List.getElem?_eq_getElem hi']
      exact ⟨List.getElem_mem .., rb⟩
    exact lt s' _ _ _ _ _ C (g i hi).1 (g j hj).1 (g i hi).2 (g j hj).2 (by show A.units + 1 + 1 < 9900; exact ar250 room) hC
  · intro p hp c
    have hx : ∀ b o, s.heap.get? b = some o → (sortedAll s.heap vs (p.map fun i => vs.getD i .none)).get? b = some o := fun b o e => sortedAll_old e
    have I' : Inv B σ N { s with heap := sortedAll s.heap vs (p.map fun i => vs.getD i .none) } := I.grow hx (size_sortedAll ..) rfl rfl
    obtain ⟨e, he⟩ := sortedAll_at s.heap vs (p.map fun i => vs.getD i .none)
    have lt_n : ∀ i ∈ p.toList, i < xs.length := fun i hi => by rw [hlen]; exact List.mem_range.mp (hp.mem_iff.mp hi)
    have fr : Free σ (s.heap.objs.size + 1) := ⟨by
        cases q : σ (s.heap.objs.size + 1) with
        | none => rfl
        | some o => have := I.top _ _ q; have := I.size; lia, fun q => by have := (I.marks _ q).1; exact ar251 this⟩
    refine .here I' (.grow hx) (.lst (n := e) (items := p.map fun i => vs.getD i .none) he fr ?_) (h (p.toList.map fun i => xs.getD i .none) ⟨?_, ?_⟩)
    · rw [Array.toList_map]
      exact (rl.mono (.grow hx)).mapAt _ lt_n
    · have := perm_map hp (fun i => xs.getD i V.none)
      rw [← hlen, map_range] at this
      exact this
    · rw [List.pairwise_map, List.pairwise_iff_getElem]
      intro i j hi hj hij
      have hz := hp.size
      simp only [Array.length_toList] at hi hj
      have := c i j (Nat.le_of_lt hij) (by exact ar252 hlen hj hz)
      have e1 : p.getD i 0 = p.toList[i] := by simp [Array.getD, hi]
      have e2 : p.getD j 0 = p.toList[j] := by simp [Array.getD, hj]
      unfold KeyOrd.kle kk at this
      rw [e1, e2] at this
      exact of_decide_eq_false this⟩
theorem katTups {h : Heap} : ∀ {rows : List (V × List V)} {vs : List Value}, VRelL B σ h (rows.map fun p => V.tup (p.1 :: p.2)) vs → ∃ fs, KatTups h vs fs ∧ VRelL B σ h (rows.map (·.1)) fs := by
  intro rows
  induction rows with
  | nil => intro vs r; rw [r.nil']; exact ⟨[], .nil, .nil⟩
  | cons p rows ih =>
    intro vs r
    obtain ⟨a, as, rfl, hd, tl⟩ := r.cons'
    obtain ⟨fs, k, rf⟩ := ih tl
    obtain ⟨ad, n, ⟨l⟩, rfl, ho, _, hl⟩ := hd.inv
    obtain ⟨x, xs, e, h1, _⟩ := hl.cons'
    cases e
    exact ⟨_, .cons ho rfl rfl rfl k, .cons h1 rf⟩
theorem bSortT {T : String} {rows : List (V × List V)} (hs : ListV σ u (rows.map fun p => V.tup (p.1 :: p.2))) (hT : T ≠ "tuple" ∧ ∀ p ∈ rows, ∀ (h : Heap) v, VRel B σ h p.1 v → typeOf v = pure (.type T)) (hk : ∀ x ∈ rows, ∀ y ∈ rows, LexOk (x.1 :: x.2) (y.1 :: y.2)) (hp : ∀ x ∈ rows, ∀ y ∈ x.1 :: x.2, NonNeg y) (h1 : 1 ≤ rows.length) (h64 : rows.length < 64)
    (h : ∀ zs, IsSorted (rows.map fun p => V.tup (p.1 :: p.2)) zs → Q (.lst zs) σ N) : Need (WC B d (.builtin "sorted") [u] σ N Q) := by
  refine bSorted (κ := tuples' (Value.type T != Value.type "tuple")) hs (by simpa using h1) (by simpa using h64) ?_ ?_ h
  · intro s' vs A E Q r h2 q
    obtain ⟨fs, k, rf⟩ := katTups r
    have hl := rf.length
    have hl2 := r.length
    simp only [List.length_map] at hl hl2
    refine kat_kind (T := .type T) k (by exact ar253 h1 hl) (fun v hv => ?_) (by simp) q
    obtain ⟨i, hi, rfl⟩ := List.getElem_of_mem hv
    obtain ⟨a, ea, ra⟩ := rf.get' (List.getElem?_eq_getElem hi)
    obtain ⟨p, mp, rfl⟩ := List.mem_map.mp (List.mem_of_getElem? ea)
    exact Looks.of_pure (hT.2 p mp _ _ ra)
  · intro s' A x y a b Q hx hy ra rb hu q
    obtain ⟨x, mx, rfl⟩ := List.mem_map.mp hx
    obtain ⟨y, my, rfl⟩ := List.mem_map.mp hy
    exact key_tup (hk _ mx _ my) ra rb (by rw [lexLt_kl (hk _ mx _ my) (hp _ mx) (hp _ my)]; exact q)
end
end
noncomputable section
/- comprehensions that change nothing -/
section
variable {B : Cx} {R : Rec} {env : Env} {target : Expr} {ifs : List Expr} {scope : Scope} {cl : List (Str × Nat)} {σ₁ : Store} {N₁ : Nat} {K : Post V} {x : V}
theorem VComp.list {elt : Expr} {n : Nat} {item : Nat → V} {Dep : Store → Prop} (it : IterOk B (isMany target) x σ₁ n item Dep) (hD : ∀ a C, Dep ((σ₁.add a).add C)) (f : Nat → List V) (h0 : f 0 = [])
    (turn : ∀ a C i N', i < n → N₁ ≤ N' → vAs (compEnvC scope cl C env) target (item i) [] ((σ₁.add a).add C) N' fun l σ' N' => vTs R (compEnvC scope cl C env) ifs l σ' N' fun ok σ₂ N₂ =>
      VIf ok (vactL R elt (compEnvC scope cl C env) l σ₂ N₂ (.list (f i)) fun o σ _ => o = .list (f (i + 1)) ∧ σ = (σ₁.add a).add C) (AObj.list (f i) = .list (f (i + 1)) ∧ σ₂ = (σ₁.add a).add C))
    (fin : ∀ N', N₁ ≤ N' → K (.lst (f n)) σ₁ N') : VComp B R env (vactL R elt) (.list []) target ifs scope cl σ₁ N₁ K x :=
  .mk it fun a C ha hC => ⟨fun i o σ _ => o = .list (f i) ∧ σ = (σ₁.add a).add C, ⟨by rw [h0], rfl⟩, fun i o σ N h => by rw [h.2]; exact hD a C, fun i o σ N hi h hN => by obtain ⟨rfl, rfl⟩ := h; exact turn a C i N hi hN,
    fun o σ N h hN => by obtain ⟨rfl, rfl⟩ := h; exact ⟨_, .list _, fin N hN⟩⟩
theorem VComp.dict {kx vx : Expr} {n : Nat} {item : Nat → V} {Dep : Store → Prop} (it : IterOk B (isMany target) x σ₁ n item Dep) (hD : ∀ a C, Dep ((σ₁.add a).add C)) (f : Nat → Dk) (h0 : f 0 = [])
    (turn : ∀ a C i N' ep, i < n → N₁ ≤ N' → vAs (compEnvC scope cl C env) target (item i) [] ((σ₁.add a).add C) N' fun l σ' N' => vTs R (compEnvC scope cl C env) ifs l σ' N' fun ok σ₂ N₂ =>
      VIf ok (vactD R kx vx (compEnvC scope cl C env) l σ₂ N₂ (.dict (f i) ep) fun o σ _ => (∃ ep', o = .dict (f (i + 1)) ep') ∧ σ = (σ₁.add a).add C) ((∃ ep', AObj.dict (f i) ep = .dict (f (i + 1)) ep') ∧ σ₂ = (σ₁.add a).add C))
    (fin : ∀ N', N₁ ≤ N' → K (.dct (f n)) σ₁ N') : VComp B R env (vactD R kx vx) (.dict [] 0) target ifs scope cl σ₁ N₁ K x :=
  .mk it fun a C ha hC => ⟨fun i o σ _ => (∃ ep, o = .dict (f i) ep) ∧ σ = (σ₁.add a).add C, ⟨⟨0, by rw [h0]⟩, rfl⟩, fun i o σ N h => by rw [h.2]; exact hD a C, fun i o σ N hi h hN => by obtain ⟨⟨ep, rfl⟩, rfl⟩ := h; exact turn a C i N ep hi hN,
    fun o σ N h hN => by obtain ⟨⟨ep, rfl⟩, rfl⟩ := h; exact ⟨_, .dict _ _, fin N hN⟩⟩
end
end
noncomputable section
/- what slices pick -/
theorem range_one {a b : Nat} : sliceRange (a : Int) (b : Int) 1 = (List.range (b - a)).map fun k => a + k := by
  have e : (if (1 : Int) > 0 then (if (a : Int) < b then ((b : Int) - a + 1 - 1) / 1 else 0) else (if (a : Int) > b then ((a : Int) - b - 1 - 1) / (-1) else 0)).toNat = b - a := by
    rw [if_pos (by decide)]
    split <;> simp <;> lia
  unfold sliceRange
  dsimp only
  rw [e]
  refine List.map_congr_left fun k _ => ?_
  exact ar254
theorem fm_take {α : Type} (xs : List α) (a m : Nat) : ((List.range m).map fun k => a + k).filterMap (xs[·]?) = (xs.drop a).take m := by
  rw [List.filterMap_map]
  induction m generalizing a with
  | zero => simp
  | succ m ih =>
    rw [List.range_succ, List.filterMap_append, ih, List.take_add_one, List.getElem?_drop]
    congr 1
theorem lpick_is (xs : List V) (lo hi : Option Int) : lpick xs lo hi none = (xs.drop (kms_lo lo xs.length)).take (kms_hi hi xs.length - kms_lo lo xs.length) := by
  unfold lpick
  rw [kms_bounds, range_one, fm_take]
theorem kms_nat (a n : Nat) : kms_lo (some (a : Int)) n = min a n ∧ kms_hi (some (a : Int)) n = min a n := by
  have h : ¬ ((a : Int) < 0) := by exact ar255
  unfold kms_lo kms_hi
  simp only [h, if_false, Int.toNat_natCast, and_self]
theorem lpick_to (xs : List V) (a : Nat) : lpick xs none (some a) none = xs.take a := by
  rw [lpick_is, (kms_nat a _).2]
  show (xs.drop 0).take (min a xs.length - 0) = _
  rw [List.drop_zero, Nat.sub_zero]
  by_cases h : a ≤ xs.length
  · rw [Nat.min_eq_left h]
  · rw [Nat.min_eq_right (by exact ar21 h), List.take_of_length_le (Nat.le_refl _), List.take_of_length_le (by exact ar21 h)]
theorem slice_is (x : Str) (lo hi : Option Int) : (Txt.slice x lo hi).cps.toList = (x.cps.toList.drop (kms_lo lo x.length)).take (kms_hi hi x.length - kms_lo lo x.length) := by
  have e : Builtin.Str.strSliceIndices lo hi 1 x.length = (List.range (kms_hi hi x.length - kms_lo lo x.length)).map fun k => kms_lo lo x.length + k := by
    rw [← range_one]
    have : Builtin.Str.strSliceIndices lo hi 1 x.length = sliceRange (sliceBounds lo hi none x.length).1 (sliceBounds lo hi none x.length).2.1 1 := by cases lo <;> cases hi <;> rfl
    rw [this, kms_bounds]
  have g : ∀ is : List Nat, is.filterMap (x.cps[·]?) = is.filterMap (x.cps.toList[·]?) := fun is => by congr 1; funext i; rw [Array.getElem?_toList]
  have main : (x.cps.toList.drop (kms_lo lo x.length)).take (kms_hi hi x.length - kms_lo lo x.length) = (Builtin.Str.strSliceIndices lo hi 1 x.length).filterMap (x.cps[·]?) := by rw [g, e, fm_take]
  unfold Txt.slice
  split
  · rename_i h
    have h : (Builtin.Str.strSliceIndices lo hi 1 x.length).length = x.length := by simpa using h
    have hk : kms_hi hi x.length - kms_lo lo x.length = x.length := by rw [e] at h; simpa using h
    have hle : kms_hi hi x.length ≤ x.length := by
      unfold kms_hi
      split
      · exact Nat.le_refl _
      · split <;> lia
    by_cases h0 : x.length = 0
    · have : x.cps.toList = [] := List.eq_nil_of_length_eq_zero (by rw [Array.length_toList]; exact h0)
      rw [this, List.drop_nil, List.take_nil]
    rw [hk, show kms_lo lo x.length = 0 by exact ar256 hk hle h0, List.drop_zero, List.take_of_length_le (by rw [Array.length_toList]; exact Nat.le_refl _)]
  · rw [main]
end
noncomputable section
/- more built-in calls: what law 2 asks -/
section
variable {B : Cx} {d : Nat} {env : Env} {l : Loc} {σ : Store} {N : Nat} {u v : V} {xs ys : List V} {es : Dk} {Q : Post V}
theorem bStarts {x y : Str} (h : Q (.bool (Txt.startswith x y)) σ N) : Need (WC B d (.builtin "str.startswith") [.str x, .str y] σ N Q) := ⟨fun A s as k I r => by
  obtain ⟨_, _, rfl, r1, r⟩ := r.cons'
  obtain ⟨_, _, rfl, r2, r3⟩ := r.cons'
  obtain rfl := r3.nil'; obtain ⟨_, rfl⟩ := r1.inv; obtain ⟨_, rfl⟩ := r2.inv
  exact PySem.SC.startswith (.here I (.refl _ _) (.bool _) h)⟩
theorem bEnds {x y : Str} (h : Q (.bool (Txt.endswith x y)) σ N) : Need (WC B d (.builtin "str.endswith") [.str x, .str y] σ N Q) := ⟨fun A s as k I r => by
  obtain ⟨_, _, rfl, r1, r⟩ := r.cons'
  obtain ⟨_, _, rfl, r2, r3⟩ := r.cons'
  obtain rfl := r3.nil'; obtain ⟨_, rfl⟩ := r1.inv; obtain ⟨_, rfl⟩ := r2.inv
  exact PySem.SC.endswith (.here I (.refl _ _) (.bool _) h)⟩
theorem bMax {i j : Int} (h : Q (.int (max i j)) σ N) : Need (WC B d (.builtin "max") [.int i, .int j] σ N Q) := ⟨fun A s as k I r => by
  obtain ⟨_, _, rfl, r1, r⟩ := r.cons'
  obtain ⟨_, _, rfl, r2, r3⟩ := r.cons'
  obtain rfl := r3.nil'; obtain ⟨t, rfl⟩ := r1.inv; obtain ⟨u, rfl⟩ := r2.inv
  have core : wpAny (model B.prog B.w) A (call (.builtin "max") [.int i t, .int j u]) (fun v s' => (∃ t, v = .int (max i j) t) ∧ (∀ b o, s.heap.get? b = some o → s'.heap.get? b = some o) ∧ s'.gens = s.gens ∧ s'.os = s.os) (fun _ _ => False) s := by
    refine max_two_ints k.handled fun h' tk hk => ⟨?_, hk, rfl, rfl⟩
    by_cases c : j > i
    · rw [if_pos c]; exact ⟨u, by rw [Int.max_eq_right (Int.le_of_lt c)]⟩
    · rw [if_neg c]; exact ⟨t, by rw [Int.max_eq_left (Int.not_lt.mp c)]⟩
  refine bot (any_grow core) fun v s' ⟨⟨⟨t, e⟩, hx, hg, hos⟩, hz⟩ => ?_
  subst e
  exact .here (I.grow hx hz hg hos) (.grow hx) (.int _ _) h⟩
theorem iter_tup {many : Bool} {xs : List V} : IterOk B many (.tup xs) σ xs.length (fun i => xs.getD i .none) (fun _ => True) :=
  ⟨trivial, fun A s N v R E hh I r k => by
    obtain ⟨a, n, items, rfl, ho, hs, rl⟩ := id r.inv
    refine wpAny_pyIter_tuple (items := items) ⟨_, ho, rfl, n, rfl⟩ (k _ (fun i h => h.IsTupleIter s.heap.objs.size a i) ⟨?_, ?_, ?_, ?_, ?_⟩ ⟨_, Heap.get?_push_size _ rfl, rfl, rfl⟩)
    · exact fun i h h' ⟨o, e, r⟩ k => ⟨o, k o e, r⟩
    · exact fun i h ⟨o, e, hc, r⟩ => ⟨fun o' e' f => by rw [e] at e'; cases e'; exact not_frozen hc (by decide) f, o, e⟩
    · exact fun i A s R E st q => wpAny_pyIter_tupleiter st q
    · intro target _ i A s' σ' N' R E hi hh hd I' rx hou st q
      obtain ⟨a', m, its, e', ho', _, rl'⟩ := (r.pass rx).inv
      cases e'
      obtain ⟨y, hy, ry⟩ := rl'.get (List.getElem?_eq_getElem hi)
      have hN : NoTup σ' s.heap.objs.size s'.heap := by obtain ⟨o, e, hc, r⟩ := st; exact .inr fun o' e' f => by rw [e] at e'; cases e'; exact not_frozen hc (by decide) f
      refine wpAny_pyNext_tuple_item st (items := its) ⟨_, ho', rfl, m, rfl⟩ (by rw [← Array.getElem?_toList]; exact hy) fun h' st' hsb => ⟨y, rfl, ?_⟩
      obtain ⟨o, e, hc, r⟩ := id st'
      refine go_any (Q := R y) e hc (by decide) (q y h' _ ?_ st' hsb.extBut)
      show VRel B σ' _ (xs.getD i .none) y
      rw [List.getD_eq_getElem?_getD, List.getElem?_eq_getElem hi]; exact ry.pass (StepL.pass (.of_ext hsb.extBut hou) hN)
    · intro A s' σ' N' R E hh hd I' rx st q
      obtain ⟨a', m, its, e', ho', _, rl'⟩ := (r.pass rx).inv
      cases e'
      refine wpAny_pyNext_tuple_end hh st (items := its) ⟨_, ho', rfl, m, rfl⟩ ?_ fun h' hx => q h' _ hx
      rw [Array.getElem?_eq_none]; rw [← rl'.size]; exact Nat.le_refl _⟩
theorem DRel.ints {h : Heap} : ∀ {es : List (Kx × Int)} {kvs : List (Kx × Value)}, DRel B σ h (es.map fun p => (p.1, V.int p.2)) kvs → ∀ (i : Nat) (k : Kx) (v : Value), kvs[i]? = some (k, v) → ∃ t, v = .int ((es.map (·.2)).getD i 0) t := by
  intro es
  induction es with
  | nil => intro kvs r i k v e; cases r; cases e
  | cons p es ih =>
    intro kvs r i k v e
    cases r with | cons hd tl =>
    cases i with
    | zero => cases e; obtain ⟨t, rfl⟩ := hd.inv; exact ⟨t, rfl⟩
    | succ i => exact ih tl i k v (by simpa using e)
end
end
noncomputable section
/- law 2: '{%s}' % a, tuples with dicts compared -/
section
variable {B : Cx} {d : Nat} {σ : Store} {N : Nat} {s : Shared} {A : Around} {E : Value → Shared → Prop} {Q : Post V}
theorem brace_meets (z : Str) (t u : Tok) (hz : z.length ≤ 1000000) : Meets (Builtin.«str.__mod__» ⟨[.str ⟨#[123, 37, 115, 125]⟩ t, .str z u], []⟩) (fun _ R s => ∀ t' k, R (.ok (.ret (.str (⟨#[123]⟩ ++ z ++ ⟨#[125]⟩) t'))) { s with toks := k }) := by
  kpc_run_s
theorem nBrace {a : Str} (ha : a.length ≤ 1000000) (h : Q (.str (⟨#[123]⟩ ++ a ++ ⟨#[125]⟩)) σ N) : Need (W2 B d (VRel B) (binaryOp .Mod) (.str "{%s}") (.str a) σ N Q) := ⟨fun A s x y k I r r' => by
  obtain ⟨_, rfl⟩ := r.inv; obtain ⟨_, rfl⟩ := r'.inv
  exact KPc.mod_str (T := fun z => ⟨#[123]⟩ ++ z ++ ⟨#[125]⟩) (X' := ⟨#[123, 37, 115, 125]⟩) (by kernel_rfl) ha (fun z hz => brace_meets z _ _ hz) fun t' k => .here (s' := { s with toks := k }) I.toks (.refl _ _) (.str _ _) h⟩
end
end
noncomputable section
/- tuples that hold dicts: not unequal -/
section
variable {B : Cx} {d : Nat} {σ : Store} {N : Nat} {s : Shared} {A : Around} {E : Value → Shared → Prop} {Q : Post V}
theorem tuple_ne_tree {xs ys : List Value} {a b na nb : Nat} {P : Fin → Shared → Prop} (ha : s.heap.get? a = some ⟨.type "tuple", none, .seq xs.toArray na, #[]⟩) (hb : s.heap.get? b = some ⟨.type "tuple", none, .seq ys.toArray nb, #[]⟩)
    (hn : xs.length = ys.length) (hall : ∀ p ∈ List.zip xs ys, EqIn B A s p.1 p.2) (q : P (.done (.ret (.bool false))) s) : wpAny (model B.prog B.w) A (Builtin.«tuple.__ne__» ⟨[.ref a, .ref b], []⟩) P E s := by
  show wpAny _ _ (isInstance (.ref b) (.type "tuple") >>= _) _ _ s
  refine wpAny_bind (wpAny_isInstance ⟨_, hb, rfl⟩ isSubtype_tuple_tuple ?_)
  simp only [Bool.not_true, Bool.false_eq_true, if_false]
  refine wpAny_bind (wpAny_tupleItemsOf ha rfl ?_)
  refine wpAny_bind (wpAny_tupleItemsOf hb rfl ?_)
  refine wpAny_bind ?_
  refine wpAny_forIn_list _ (fun rest r s' => r.1 = none ∧ s' = s ∧ ∀ p ∈ rest, EqIn B A s p.1 p.2) _ ?_ ?_ _ _ ⟨rfl, rfl, hall⟩
  · rintro ⟨u, v⟩ rest r s' ⟨hr, rfl, hall⟩
    refine wpAny_bind (hall _ (.head _) _ _ ?_)
    simp only [Bool.not_true, Bool.false_eq_true, if_false]
    exact wpAny_pure ⟨rfl, rfl, fun p hp => hall p (.tail _ hp)⟩
  · rintro ⟨r1, r2⟩ s' ⟨hr, rfl, _⟩
    simp only at hr
    subst hr
    refine wpAny_pure ?_
    show P (.done (.ret (.bool (xs.toArray.size != ys.toArray.size)))) s'
    rw [List.size_toArray, List.size_toArray, hn, bne_self_eq_false]
    exact q
theorem nNeT {n : Nat} {xs ys : List V} (p : VEqL n xs ys) (hn : n ≤ 50) (h : Q (.bool false) σ N) : Need (W2 B d (VRel B) (compareOp .NotEq) (.tup xs) (.tup ys) σ N Q) := ⟨fun A s x y k I r r' => by
  obtain ⟨_, _, _, rfl, ho, hs, hl⟩ := r.inv
  obtain ⟨_, _, _, rfl, ho', hs', hl'⟩ := r'.inv
  rename_i a n1 items b n2 items'
  obtain ⟨l1⟩ := items
  obtain ⟨l2⟩ := items'
  have room := k.room
  obtain ⟨hn', hall⟩ := VEqL.at p (A := A.in1) hl hl' (by show A.units + 1 + _ < 9900; exact ar31 hn room)
  exact wpAny_richCompare_same_room (op := .NotEq) ⟨_, ho, rfl⟩ ⟨_, ho', rfl⟩ F.slot_tuple_ne (wpAny_call_entry F.slot_tuple_ne ⟨_, ho, rfl⟩ F.entry_tuple_ne (tuple_ne_tree ho ho' hn' hall ⟨_, rfl, (fun x => nomatch x), .here I (.refl _ _) (.bool false) h⟩) (F.args_tuple_ne_2 _ _)) (show A.units < 9900 by exact ar4 room)⟩
/- `xs != []` -/
theorem nNeL0 {xs : List V} {u w : V} (hu : ListV σ u xs) (hv : ListV σ w []) (h : Q (.bool (!xs.isEmpty)) σ N) : Need (W2 B d (VRel B) (compareOp .NotEq) u w σ N Q) := by
  cases xs with
  | nil => exact nNeL (n := 1) hu hv (.nil _) (by decide) h
  | cons v xs =>
    exact ⟨fun A s a b k I r r' => by
      obtain ⟨a, items, n', rfl, ho, rl⟩ := hu.at I r
      obtain ⟨b, items', n'', rfl, ho', rl'⟩ := hv.at I r'
      have room := k.room
      have h1 := rl.size
      have h2 := rl'.size
      exact SeqAt.RcNeAt.lists_lengths (A := A) ⟨_, ho, rfl, n', rfl⟩ ⟨_, ho', rfl, n'', rfl⟩ (by rw [← h1, ← h2]; simp) (show A.units < 9900 by exact ar4 room) B.prog B.w _ _ (.here I (.refl _ _) (.bool true) h)⟩
end
end
noncomputable section
/- what the heap's functions compute -/
noncomputable def ltT : V → V → Bool
  | .tup a, .tup b => lexLt a b
  | _, _ => false
/- `_siftdown`'s turns -/
noncomputable def sdGo (lt : V → V → Bool) (new : V) (start : Nat) : Nat → Nat → List V → List V
  | 0, pos, xs => xs.set pos new
  | f + 1, pos, xs => if start < pos then
      match xs[(pos - 1) / 2]? with
      | some p => if lt new p = true then sdGo lt new start f ((pos - 1) / 2) (xs.set pos p) else xs.set pos new
      | none => xs
    else xs.set pos new
noncomputable def sd (xs : List V) (start pos : Nat) : List V := match xs[pos]? with
  | some new => sdGo ltT new start pos pos xs
  | none => xs
/- `_siftup`'s first loop: the hole goes down to a leaf -/
noncomputable def suGo (lt : V → V → Bool) : Nat → Nat → List V → Nat × List V
  | 0, pos, xs => (pos, xs)
  | f + 1, pos, xs => if 2 * pos + 1 < xs.length then
      let c := if 2 * pos + 2 < xs.length ∧ lt (xs.getD (2 * pos + 1) .none) (xs.getD (2 * pos + 2) .none) = false then 2 * pos + 2 else 2 * pos + 1
      suGo lt f c (xs.set pos (xs.getD c .none))
    else (pos, xs)
noncomputable def su (xs : List V) (new : V) : List V := sd ((suGo ltT xs.length 0 xs).2.set (suGo ltT xs.length 0 xs).1 new) 0 (suGo ltT xs.length 0 xs).1
/- `heappop`: what is handed out, what is left -/
noncomputable def hpop (xs : List V) : V × List V := match xs.dropLast with
  | [] => (xs.getLastD .none, [])
  | x :: r => (x, su (xs.getLastD .none :: r) (xs.getLastD .none))
end
noncomputable section
/- the heap's functions keep a heap -/
noncomputable abbrev gd (xs : List V) (i : Nat) : V := xs.getD i .none
theorem gd_set (xs : List V) (i j : Nat) (v : V) (h : i < xs.length) : gd (xs.set i v) j = if i = j then v else gd xs j := by
  unfold gd
  rw [List.getD_eq_getElem?_getD, List.getD_eq_getElem?_getD, List.getElem?_set]
  by_cases e : i = j
  · rw [if_pos e, if_pos e, if_pos (e ▸ h)]; rfl
  · rw [if_neg e, if_neg e]
theorem get_gd {xs : List V} {i : Nat} (h : i < xs.length) : xs[i]? = some (gd xs i) := by unfold gd; rw [List.getD_eq_getElem?_getD, List.getElem?_eq_getElem h]; rfl
theorem swap_perm (xs : List V) {p q : Nat} (v : V) (hp : p < xs.length) (hq : q < xs.length) (h : p ≠ q) : ((xs.set p (gd xs q)).set q v).Perm (xs.set p v) := by
  have := List.set_set_perm (as := xs.set p v) (i := p) (j := q) (by simpa using hp) (by simpa using hq)
  rw [List.set_set, List.getElem_set_ne h, List.getElem_set_self] at this
  have e : gd xs q = xs[q] := by unfold gd; rw [List.getD_eq_getElem?_getD, List.getElem?_eq_getElem hq]; rfl
  rw [e]; exact this
noncomputable def le (x y : V) : Prop := ¬ kl y < kl x
theorem le_refl (x : V) : le x x := List.lt_irrefl _
theorem le_trans {x y z : V} (h : le x y) (k : le y z) : le x z := KeyOrd.kle_trans (O := LL) (a := kl x) (b := kl y) (c := kl z) (decide_eq_false h) (decide_eq_false k) |> of_decide_eq_false
theorem le_of_lt {x y : V} (h : kl x < kl y) : le x y := List.lt_asymm h
/- of one kind -/
noncomputable def Kind (xs : List V) : Prop := ∀ x ∈ xs, ∀ y ∈ xs, ltT x y = decide (kl x < kl y)
theorem Kind.perm {xs ys : List V} (k : Kind xs) (p : ys.Perm xs) : Kind ys := fun x hx y hy => k x (p.mem_iff.mp hx) y (p.mem_iff.mp hy)
theorem Kind.gd {xs : List V} (k : Kind xs) {i j : Nat} (hi : i < xs.length) (hj : j < xs.length) : ltT (gd xs i) (gd xs j) = decide (kl (gd xs i) < kl (gd xs j)) := k _ (List.mem_of_getElem? (get_gd hi)) _ (List.mem_of_getElem? (get_gd hj))
/- a heap, but for what stands above the place `p` -/
structure HB (xs : List V) (p : Nat) : Prop where
  a : ∀ i, 0 < i → i < xs.length → i ≠ p → le (gd xs ((i - 1) / 2)) (gd xs i)
  b : ∀ c, 0 < c → c < xs.length → (c - 1) / 2 = p → 0 < p → le (gd xs ((p - 1) / 2)) (gd xs c)
noncomputable def Hp (xs : List V) : Prop := ∀ i, 0 < i → i < xs.length → le (gd xs ((i - 1) / 2)) (gd xs i)
theorem sdGo_ok (new : V) : ∀ (f p : Nat) (xs : List V), p ≤ f → p < xs.length → Kind (xs.set p new) → HB (xs.set p new) p → (sdGo ltT new 0 f p xs).Perm (xs.set p new) ∧ Hp (sdGo ltT new 0 f p xs) := by
  intro f
  induction f with
  | zero => intro p xs hf hp k h; have : p = 0 := by exact ar257 hf
            subst this; exact ⟨.refl _, fun i h0 hi => h.a i h0 hi (by exact ar258 h0)⟩
  | succ f ih =>
    intro p xs hf hp k h
    rw [sdGo]
    by_cases h0 : 0 < p
    case neg =>
      rw [if_neg h0]
      exact ⟨.refl _, fun i a hi => h.a i a hi (by exact ar259 h0 a)⟩
    rw [if_pos h0]
    have hq : (p - 1) / 2 < xs.length := by exact ar260 hp h0
    have hne : (p - 1) / 2 ≠ p := by exact ar261 h0
    rw [get_gd hq]
    dsimp only
    have e1 : gd (xs.set p new) p = new := by rw [gd_set _ _ _ _ hp, if_pos rfl]
    have e2 : gd (xs.set p new) ((p - 1) / 2) = gd xs ((p - 1) / 2) := by rw [gd_set _ _ _ _ hp, if_neg (Ne.symm hne)]
    have hlt : ltT new (gd xs ((p - 1) / 2)) = decide (kl new < kl (gd xs ((p - 1) / 2))) := by
      have := k.gd (i := p) (j := (p - 1) / 2) (by simpa using hp) (by simpa using hq)
      rwa [e1, e2] at this
    by_cases c : kl new < kl (gd xs ((p - 1) / 2))
    · rw [if_pos (by rw [hlt]; exact decide_eq_true c)]
      have sw := swap_perm xs new hp hq (Ne.symm hne)
      have hq' : (p - 1) / 2 < (xs.set p (gd xs ((p - 1) / 2))).length := by simpa using hq
      have g : ∀ i, gd ((xs.set p (gd xs ((p - 1) / 2))).set ((p - 1) / 2) new) i = if (p - 1) / 2 = i then new else if p = i then gd xs ((p - 1) / 2) else gd xs i := fun i => by rw [gd_set _ _ _ _ hq', gd_set _ _ _ _ hp]
      have g0 : ∀ i, gd (xs.set p new) i = if p = i then new else gd xs i := fun i => gd_set _ _ _ _ hp
      have r := ih ((p - 1) / 2) (xs.set p (gd xs ((p - 1) / 2))) (by exact ar262 hf h0 hne) (by simpa using hq) (k.perm sw) ⟨?_, ?_⟩
      · exact ⟨r.1.trans sw, r.2⟩
      · intro i hi hl hip
        have hl : i < (xs.set p new).length := by simpa using hl
        rw [g, g, if_neg (Ne.symm hip)]
        by_cases ei : p = i
        · rw [if_pos ei, ← ei, if_pos rfl]; exact le_of_lt c
        · rw [if_neg ei]
          have ha := h.a i hi hl (Ne.symm ei)
          rw [g0, g0, if_neg ei] at ha
          by_cases e3 : (p - 1) / 2 = (i - 1) / 2
          · rw [if_pos e3]
            rw [← e3, if_neg (Ne.symm hne)] at ha
            exact le_trans (le_of_lt c) ha
          · rw [if_neg e3]
            by_cases e4 : p = (i - 1) / 2
            · rw [if_pos e4]
              have hb := h.b i hi hl e4.symm h0
              rw [g0, g0, if_neg ei, if_neg (Ne.symm hne)] at hb
              exact hb
            · rw [if_neg e4]; rw [if_neg e4] at ha; exact ha
      · intro j hj hl hjp hpp
        have hl : j < (xs.set p new).length := by simpa using hl
        rw [g, g, if_neg (by exact ar263 hpp), if_neg (by exact ar71 h0 hpp), if_neg (by exact ar264 hjp hpp)]
        have hpar := h.a ((p - 1) / 2) hpp (by simpa using hq) hne
        rw [g0, g0, if_neg (by exact ar71 h0 hpp), if_neg (Ne.symm hne)] at hpar
        by_cases ej : p = j
        · rw [if_pos ej]; exact hpar
        · rw [if_neg ej]
          have ha := h.a j hj hl (Ne.symm ej)
          rw [g0, g0, if_neg ej, hjp, if_neg (Ne.symm hne)] at ha
          exact le_trans hpar ha
    · rw [if_neg (by rw [hlt, decide_eq_false c]; exact Bool.false_ne_true)]
      refine ⟨.refl _, fun i hi hl => ?_⟩
      by_cases ei : i = p
      · subst ei; rw [e1, e2]; exact c
      · exact h.a i hi hl ei
theorem sd_ok {xs : List V} {p : Nat} (hp : p < xs.length) (k : Kind xs) (h : HB xs p) : (sd xs 0 p).Perm xs ∧ Hp (sd xs 0 p) := by
  have e : xs.set p (gd xs p) = xs := by
    apply List.ext_getElem? 
    intro i
    rw [List.getElem?_set]
    split
    · rename_i z; subst z; first | exact (get_gd hp).symm | (rw [if_pos hp]; exact (get_gd hp).symm)
    · rfl
  unfold sd
  rw [get_gd hp]
  have := sdGo_ok (gd xs p) p p xs (Nat.le_refl _) hp (by rw [e]; exact k) (by rw [e]; exact h)
  rwa [e] at this
theorem gd_app {xs : List V} {v : V} {i : Nat} (h : i < xs.length) : gd (xs ++ [v]) i = gd xs i := by
  unfold gd; rw [List.getD_eq_getElem?_getD, List.getD_eq_getElem?_getD, List.getElem?_append_left h]
theorem push_ok {xs : List V} {v : V} (k : Kind (xs ++ [v])) (h : Hp xs) : (sd (xs ++ [v]) 0 xs.length).Perm (xs ++ [v]) ∧ Hp (sd (xs ++ [v]) 0 xs.length) := by
  refine sd_ok (by simp) k ⟨fun i h0 hl hi => ?_, fun c h0 hl hc _ => ?_⟩
  · have hl : i < xs.length := by simp at hl; exact ar265 hi hl
    rw [gd_app hl, gd_app (by exact ar266 h0 hl)]
    exact h i h0 hl
  · simp at hl; lia
/- the hole goes down -/
structure HH (xs : List V) (p : Nat) : Prop where
  a : ∀ i, 0 < i → i < xs.length → i ≠ p → (i - 1) / 2 ≠ p → le (gd xs ((i - 1) / 2)) (gd xs i)
  b : ∀ c, 0 < c → c < xs.length → (c - 1) / 2 = p → 0 < p → le (gd xs ((p - 1) / 2)) (gd xs c)
theorem suGo_ok (new : V) : ∀ (f p : Nat) (xs : List V), xs.length ≤ p + f → p < xs.length → Kind (xs.set p new) → (∀ i, i < xs.length → i ≠ p → gd xs i ∈ xs.set p new) → HH xs p →
    (suGo ltT f p xs).1 < xs.length ∧ ((suGo ltT f p xs).2.set (suGo ltT f p xs).1 new).Perm (xs.set p new) ∧ HB ((suGo ltT f p xs).2.set (suGo ltT f p xs).1 new) (suGo ltT f p xs).1 ∧ (suGo ltT f p xs).2.length = xs.length := by
  intro f
  induction f with
  | zero => intro p xs hf hp; lia
  | succ f ih =>
    intro p xs hf hp k hm h
    rw [suGo]
    by_cases hc : 2 * p + 1 < xs.length
    · rw [if_pos hc]
      dsimp only
      generalize hcc : (if 2 * p + 2 < xs.length ∧ ltT (xs.getD (2 * p + 1) .none) (xs.getD (2 * p + 2) .none) = false then 2 * p + 2 else 2 * p + 1) = c
      have hcl : c < xs.length ∧ (c - 1) / 2 = p ∧ p < c ∧ ∀ i, i < xs.length → 0 < i → (i - 1) / 2 = p → le (gd xs c) (gd xs i) := by
        by_cases h2 : 2 * p + 2 < xs.length
        · have hk : ltT (gd xs (2 * p + 1)) (gd xs (2 * p + 2)) = decide (kl (gd xs (2 * p + 1)) < kl (gd xs (2 * p + 2))) := k _ (hm _ hc (by exact ar267)) _ (hm _ h2 (by exact ar268))
          by_cases z : kl (gd xs (2 * p + 1)) < kl (gd xs (2 * p + 2))
          · rw [if_neg (fun q => by have := hk.symm.trans q.2; rw [decide_eq_true z] at this; cases this)] at hcc
            subst hcc
            refine ⟨hc, by exact ar72, by exact ar41, fun i hi h0 hip => ?_⟩
            rcases (show i = 2 * p + 1 ∨ i = 2 * p + 2 by exact ar73 h0 hip) with e | e
            · rw [e]; exact le_refl _
            · rw [e]; exact le_of_lt z
          · rw [if_pos ⟨h2, hk.trans (decide_eq_false z)⟩] at hcc
            subst hcc
            refine ⟨h2, by exact ar269, by exact ar74, fun i hi h0 hip => ?_⟩
            rcases (show i = 2 * p + 1 ∨ i = 2 * p + 2 by exact ar73 h0 hip) with e | e
            · rw [e]; exact z
            · rw [e]; exact le_refl _
        · rw [if_neg (fun q => h2 q.1)] at hcc
          subst hcc
          refine ⟨hc, by exact ar72, by exact ar41, fun i hi h0 hip => ?_⟩
          rw [show i = 2 * p + 1 by exact ar270 hc h2 hi h0 hip]; exact le_refl _
      obtain ⟨hcl, hcp, hpc, hmin⟩ := hcl
      have sw := swap_perm xs new hp hcl (by exact ar42 hpc)
      have g : ∀ i, gd (xs.set p (gd xs c)) i = if p = i then gd xs c else gd xs i := fun i => gd_set _ _ _ _ hp
      have r := ih c (xs.set p (gd xs c)) (by simp; exact ar75 hf hpc) (by simpa using hcl) (k.perm sw) (fun i hi hic => ?_) ⟨?_, ?_⟩
      · simp only [List.length_set] at r
        exact ⟨r.1, r.2.1.trans sw, r.2.2⟩
      · have hi : i < xs.length := by simpa using hi
        rw [sw.mem_iff, g]
        by_cases e : p = i
        · rw [if_pos e]; exact hm c hcl (by exact ar271 hpc)
        · rw [if_neg e]; exact hm i hi (Ne.symm e)
      · intro i h0 hl hic hpc'
        have hl : i < xs.length := by simpa using hl
        rw [g, g]
        by_cases e : p = i
        · rw [if_pos e, if_neg (by exact ar272 h0 e), ← e]; exact h.b c (by exact ar273 hpc) hcl hcp (by exact ar274 h0 e)
        · rw [if_neg e]
          by_cases e2 : p = (i - 1) / 2
          · rw [if_pos e2]; exact hmin i hl h0 e2.symm
          · rw [if_neg e2]; exact h.a i h0 hl (Ne.symm e) (Ne.symm e2)
      · intro j h0 hl hjc hc0
        have hl : j < xs.length := by simpa using hl
        rw [g, g, hcp, if_pos rfl, if_neg (by exact ar275 hpc h0 hjc)]
        have := h.a j h0 hl (by exact ar276 hpc h0 hjc) (by exact ar277 hpc hjc)
        rwa [hjc] at this
    · rw [if_neg hc]
      refine ⟨hp, .refl _, ⟨fun i h0 hl hip => ?_, fun j h0 hl hjp _ => ?_⟩, rfl⟩
      · have hl : i < xs.length := by simpa using hl
        rw [gd_set _ _ _ _ hp, gd_set _ _ _ _ hp, if_neg (Ne.symm hip), if_neg (by exact ar278 hc h0 hl)]
        exact h.a i h0 hl hip (by exact ar279 hc h0 hl)
      · simp at hl; lia
theorem su_ok {new : V} {r : List V} (k : Kind (new :: r)) (h : ∀ i, 0 < i → i < (new :: r).length → (i - 1) / 2 ≠ 0 → le (gd (new :: r) ((i - 1) / 2)) (gd (new :: r) i)) : (su (new :: r) new).Perm (new :: r) ∧ Hp (su (new :: r) new) := by
  have g := suGo_ok new (new :: r).length 0 (new :: r) (by exact ar37) (by simp) k (fun i hi _ => List.mem_of_getElem? (get_gd hi)) ⟨fun i a b _ d => h i a b d, fun c _ _ _ z => absurd z (Nat.lt_irrefl _)⟩
  have e : (new :: r).set 0 new = new :: r := rfl
  rw [e] at g
  unfold su
  have s := sd_ok (xs := (suGo ltT (new :: r).length 0 (new :: r)).2.set (suGo ltT (new :: r).length 0 (new :: r)).1 new) (p := (suGo ltT (new :: r).length 0 (new :: r)).1) (by rw [List.length_set, g.2.2.2]; exact g.1) (k.perm g.2.1) g.2.2.1
  exact ⟨s.1.trans g.2.1, s.2⟩
theorem hp_min {xs : List V} (h : Hp xs) : ∀ i, i < xs.length → le (gd xs 0) (gd xs i) := by
  intro i
  induction i using Nat.strongRecOn with
  | _ i ih =>
    intro hi
    by_cases h0 : i = 0
    · subst h0; exact le_refl _
    · exact le_trans (ih ((i - 1) / 2) (by exact ar280 h0) (by exact ar281 hi h0)) (h i (by exact ar282 h0) hi)
theorem pop_ok {xs : List V} (k : Kind xs) (h : Hp xs) (h0 : 0 < xs.length) : ((hpop xs).1 :: (hpop xs).2).Perm xs ∧ Hp (hpop xs).2 ∧ ∀ y ∈ xs, le (hpop xs).1 y := by
  have hne : xs ≠ [] := fun z => by rw [z] at h0; exact absurd h0 (by decide)
  have hx : xs = xs.dropLast ++ [xs.getLastD .none] := by
    rw [List.getLastD_eq_getLast?, List.getLast?_eq_some_getLast hne]
    exact (List.dropLast_concat_getLast hne).symm
  have min : ∀ y ∈ xs, le (gd xs 0) y := fun y hy => by
    obtain ⟨i, hi, rfl⟩ := List.getElem_of_mem hy
    have := hp_min h i hi
    have e : gd xs i = xs[i] := by unfold gd; rw [List.getD_eq_getElem?_getD, List.getElem?_eq_getElem hi]; rfl
    rwa [e] at this
  unfold hpop
  cases q : xs.dropLast with
  | nil =>
    rw [q] at hx
    rw [hx] at min
    dsimp only
    rw [hx]
    exact ⟨.refl _, fun i _ hl => absurd hl (by simp), min⟩
  | cons x r =>
    rw [q] at hx
    dsimp only
    generalize xs.getLastD .none = last at hx
    have px : (x :: last :: r).Perm xs := by rw [hx]; exact (List.perm_append_singleton last r).symm.cons x
    have kk : Kind (last :: r) := fun a ha b hb => k a (px.mem_iff.mp (.tail _ ha)) b (px.mem_iff.mp (.tail _ hb))
    have s := su_ok kk fun i h0 hl hp => by
      have hl' : i < (x :: r).length := hl
      have hl2 : i < xs.length := by rw [hx]; simp at hl ⊢; exact ar283 hl
      have e : ∀ j, 0 < j → j < (x :: r).length → gd (last :: r) j = gd xs j := fun j h0 hj => by
        rw [hx, gd_app hj]
        cases j with
        | zero => lia
        | succ j => rfl
      rw [e _ h0 hl', e _ (by exact ar284 hp) (by exact ar285 h0 hp hl')]
      exact h i h0 hl2
    have e0 : gd xs 0 = x := by rw [hx]; rfl
    rw [e0] at min
    exact ⟨(s.1.cons x).trans px, s.2, min⟩
end
noncomputable section
structure Base (B : Cx) : Prop where
  K : (KK B.w.params).In B.h₀
  lim : B.h₀.NoLimit
  quals : ∀ c ∈ csP, ∃ o vs, B.h₀.get? c.1 = some o ∧ o.data = .fields vs ∧ vs[1]? = some c.2
  top : ∃ mg mb, B.h₀.Ns mainGlobals mg ∧ B.h₀.Ns builtinsNs mb ∧ (∀ x ∈ nsP, mg x.1 = x.2) ∧ ∀ x : Str, x ≠ "__name__" → mb x = bootBuiltins x
  nest : Nest B 118 114
theorem lookup_mem {α : Type} {x : Str} {v : α} : ∀ {l : List (Str × α)}, l.lookup x = some v → (x, v) ∈ l
  | [], h => by cases h
  | (n, u) :: r, h => by
    rw [List.lookup_cons] at h
    cases q : x == n with
    | true => rw [q] at h; cases h; rw [eq_of_beq q]; exact .head _
    | false => rw [q] at h; exact .tail _ (lookup_mem h)
theorem mem_of_look {α β : Type} [BEq α] [LawfulBEq α] {x : α} {v : β} : ∀ {l : List (α × β)}, l.lookup x = some v → (x, v) ∈ l
  | [], h => by cases h
  | (n, u) :: r, h => by
    rw [List.lookup_cons] at h
    cases q : x == n with
    | true => rw [q] at h; cases h; rw [eq_of_beq q]; exact .head _
    | false => rw [q] at h; exact .tail _ (mem_of_look h)
theorem Base.fn {B : Cx} {σ : Store} (b : Base B) {a : Nat} {fd : FuncData} (e : (KK B.w.params).lookup a = some (fnObj fd)) : FnAt B σ a fd := ⟨_, .inl (b.K _ _ e), rfl⟩
theorem Base.code {B : Cx} {σ : Store} (b : Base B) {fd : FuncData} {c : Nat} {t : Tok} (e : fd.code = .ref c) (e2 : csP.lookup c = some (.str fd.qualname t)) : CodeAt B σ fd :=
  let ⟨o, vs, h1, h2, h3⟩ := b.quals _ (mem_of_look e2); ⟨c, o, vs, t, e, .inl h1, h2, h3⟩
theorem keeps_cls {B : Cx} (b : Base B) : Keeps B 80 := fun σ N s I => keeps_K (by kernel_rfl) _ (b.K.keeps I.keep)
noncomputable def tb : Tb := ⟨tbNames, tbFns⟩
theorem Base.tabOk {B : Cx} (b : Base B) : TabOk B tb := by
  refine ⟨fun x v h => ?_, fun a h => ?_⟩
  · obtain ⟨mg, mb, h1, h2, h3, h4⟩ := b.top
    have hm := lookup_mem h
    revert hm
    have g : ∀ (i : Nat) (x : Str) (v : Value), nsP[i]? = some (x, some v) → Glo B x v ∨ Bui B x v := fun i x v q => .inl ⟨mg, h1, h3 _ (List.mem_of_getElem? q)⟩
    have u : ∀ (i : Nat) (x : Str) (v : Value), nsP[i]? = some (x, none) → bootBuiltins x = some v → x ≠ "__name__" → Glo B x v ∨ Bui B x v := fun i x v q e n => .inr ⟨mg, mb, h1, h3 _ (List.mem_of_getElem? q), h2, (h4 x n).trans e⟩
    have all : ∀ p ∈ tbNames, Glo B p.1 p.2 ∨ Bui B p.1 p.2 := by
      unfold tbNames
      simp only [List.forall_mem_cons, List.not_mem_nil, false_imp_iff, implies_true, and_true]
      refine ⟨g 0 _ _ rfl, g 1 _ _ rfl, g 2 _ _ rfl, g 3 _ _ rfl, g 4 _ _ rfl, g 5 _ _ rfl, g 6 _ _ rfl, g 7 _ _ rfl, g 8 _ _ rfl, g 9 _ _ rfl, g 10 _ _ rfl, g 11 _ _ rfl, g 12 _ _ rfl, g 13 _ _ rfl, g 14 _ _ rfl, g 15 _ _ rfl, g 16 _ _ rfl, g 17 _ _ rfl, g 18 _ _ rfl, g 19 _ _ rfl, u 20 _ _ rfl (by boot_by_name) (by decide), u 21 _ _ rfl (by boot_by_name) (by decide), u 22 _ _ rfl (by boot_by_name) (by decide), u 23 _ _ rfl (by boot_by_name) (by decide), u 24 _ _ rfl (by boot_by_name) (by decide), u 25 _ _ rfl (by boot_by_name) (by decide), u 26 _ _ rfl (by boot_by_name) (by decide), u 27 _ _ rfl (by boot_by_name) (by decide), u 28 _ _ rfl (by boot_by_name) (by decide), u 29 _ _ rfl (by boot_by_name) (by decide), u 30 _ _ rfl (by boot_by_name) (by decide)⟩
    exact fun q => all _ q
  · have hm : a ∈ tbFns := List.contains_iff_mem.mp h
    revert hm
    have k : ∀ (a : Nat) (fd : FuncData), (KK B.w.params).lookup a = some (fnObj fd) → Keeps B a := fun a fd e σ N s I => let ⟨o, a, b⟩ := (b.fn (σ := σ) e).get I; keeps_fn a b
    have all : ∀ a ∈ tbFns, Keeps B a := by
      unfold tbFns
      simp only [List.forall_mem_cons, List.not_mem_nil, false_imp_iff, implies_true, and_true]
      refine ⟨k _ fd21 rfl, k _ fd28 rfl, k _ fd35 rfl, k _ fd42 rfl, k _ fd56 rfl, k _ fd63 rfl, k _ fd70 rfl, k _ fd77 rfl, k _ fd91 rfl, k _ fd98 rfl, k _ fd105 rfl, k _ fd112 rfl, k _ fd119 rfl, k _ fd124 rfl, k _ fd131 rfl, k _ fd138 rfl, k _ fd145 rfl, k _ fd152 rfl, k _ fd159 rfl, k _ fd166 rfl, k _ fd173 rfl, k _ fd180 rfl, k _ fd185 rfl, keeps_cls b⟩
    exact fun q => all _ q

theorem lenS {α : Type} {as : List α} {n : Nat} (h : as.length = n + 1) : ∃ a r, as = a :: r ∧ r.length = n := by
  cases as with
  | nil => cases h
  | cons a r => exact ⟨a, r, rfl, Nat.succ.inj h⟩
theorem len0 {α : Type} {as : List α} (h : as.length = 0) : as = [] := List.eq_nil_of_length_eq_zero h
theorem len1 {α : Type} {as : List α} {x : V} (h : as.length = [x].length) : ∃ a, as = [a] := by
  obtain ⟨a, r, rfl, q⟩ := lenS h
  exact ⟨a, congrArg _ (len0 q)⟩
theorem len2 {α : Type} {as : List α} {x y : V} (h : as.length = [x, y].length) : ∃ a b, as = [a, b] := by
  obtain ⟨a, r, rfl, q⟩ := lenS h
  obtain ⟨b, e⟩ := len1 (x := x) q
  exact ⟨a, b, congrArg _ e⟩
theorem len3 {α : Type} {as : List α} {x y z : V} (h : as.length = [x, y, z].length) : ∃ a b c, as = [a, b, c] := by
  obtain ⟨a, r, rfl, q⟩ := lenS h
  obtain ⟨b, c, e⟩ := len2 (x := x) (y := x) q
  exact ⟨a, b, c, congrArg _ e⟩
theorem len4 {α : Type} {as : List α} {x y z u : V} (h : as.length = [x, y, z, u].length) : ∃ a b c d, as = [a, b, c, d] := by
  obtain ⟨a, r, rfl, q⟩ := lenS h
  obtain ⟨b, c, d, e⟩ := len3 (x := x) (y := x) (z := x) q
  exact ⟨a, b, c, d, congrArg _ e⟩
end
noncomputable section
section
variable {B : Cx} {d : Nat} {σ : Store} {N : Nat} {a : Nat}
noncomputable def SdJ (σ : Store) (a : Nat) (P : V → Prop) (xs : List V) (new : V) (start : Nat) (r : List V) : Nat → Loc → Store → Nat → Prop := fun f l σ' _ =>
  ∃ (p : Nat) (ys : List V), l = ([("heap", .ref a), ("startpos", .int start), ("pos", .int p), ("newitem", new)] : Loc) ∧ σ' = pt σ a (.list ys) ∧ ys.length = xs.length ∧ (∀ x ∈ ys, P x) ∧ p < xs.length ∧ p ≤ f ∧ sdGo ltT new start f p ys = r
theorem siftdown_ok (b : Base B) {xs : List V} {start pos : Nat} {P : V → Prop} (hP : ∀ x y, P x → P y → ∃ a b, x = .tup a ∧ y = .tup b ∧ LexOk a b) (hs : σ a = some (.list xs)) (hall : ∀ x ∈ xs, P x) (h2 : pos < xs.length) (hlen : xs.length < 2 ^ 20)
    {Q : Post V} (h : ∀ N', N ≤ N' → Q .none (pt σ a (.list (sd xs start pos))) N') : WC B (d + 1) (.ref 35) [.ref a, .int start, .int pos] σ N Q := by
  refine C_fun b.tabOk (names := ["heap", "startpos", "pos"]) (b.fn rfl) (b.code rfl rfl) b.lim rfl (fun s as hl => ?_) (by decide) (by decide) ⟨rfl, rfl, rfl, rfl, rfl⟩ (fun L hL hσL hab => ?_)
  · obtain ⟨x, y, z, rfl⟩ := len3 hl
    exact .of_eq rfl
  obtain ⟨new, hnew⟩ : ∃ v, xs[pos]? = some v := ⟨_, List.getElem?_eq_getElem h2⟩
  have hsd : sd xs start pos = sdGo ltT new start pos pos xs := by unfold sd; rw [hnew]
  refine iList (.ref hs) (by exact ar0) (by exact ar286 h2 hlen) (by simpa using hnew) ?_
  refine ⟨SdJ (σ.add L) a P xs new start (sd xs start pos), pos, [("heap", .ref a), ("startpos", .int start), ("pos", .int pos), ("newitem", new)], .cons rfl (.cons rfl (.cons rfl (.cons rfl (.nil _)))), ⟨pos, xs, rfl, (pt_id (σ := σ.add L) hs).symm, rfl, hall, h2, Nat.le_refl _, hsd.symm⟩, ?_⟩
  rintro f l σ' N' ⟨p, ys, rfl, rfl, hl, hy, hp2, hpf, he⟩ hN'
  have hsa : pt (σ.add L) a (.list ys) a = some (.list ys) := pt_same _ _ _
  have hnP : P new := hall _ (List.mem_of_getElem? hnew)
  refine ⟨fun hlt => ?_, fun hlt => ?_⟩
  · have hlt : start < p := by have := of_decide_eq_true hlt; exact ar478 this
    have e0 : ((p : Int) - 1).fdiv (2 ^ Int.toNat 1) = (((p - 1) / 2 : Nat) : Int) := by
      have : (2 : Int) ^ Int.toNat 1 = 2 := by decide
      rw [this, Int.fdiv_eq_ediv_of_nonneg _ (by exact ar287)]
      exact arb17 hlt
    have hpp : (p - 1) / 2 < ys.length := by exact arb18 hl hp2 hlt e0
    obtain ⟨pv, hpv⟩ : ∃ v, ys[(p - 1) / 2]? = some v := ⟨_, List.getElem?_eq_getElem hpp⟩
    have hpP : P pv := hy _ (List.mem_of_getElem? hpv)
    obtain ⟨f', rfl⟩ : ∃ f', f = f' + 1 := ⟨f - 1, by exact arb19 hpf hlt⟩
    rw [sdGo, if_pos hlt, hpv] at he
    refine ⟨by decide, ?_⟩
    rw [e0]
    refine iList (.ref hsa) (by exact ar288 e0) (by exact ar289 hlen hp2 e0) hpv ?_
    refine .plain ?_
    obtain ⟨ta, tb, ea, eb, hlex⟩ := hP new pv hnP hpP
    have elt : ltT new pv = lexLt ta tb := by rw [ea, eb]; rfl
    refine (?_ : vCmp .Lt new pv _ _ _ _)
    rw [ea, eb]
    refine nLt hlex ?_
    rw [← ea, ← eb, ← elt]
    refine ⟨fun hc => ?_, fun hc => ?_⟩
    · simp only [hc, if_true] at he
      refine pList hsa (by exact ar0) (by exact ar22 hl hp2) (by exact ar43 hlen hl) ?_
      refine ⟨[("heap", .ref a), ("startpos", .int start), ("pos", .int (((p - 1) / 2 : Nat) : Int)), ("newitem", new)], .cons rfl (.cons rfl (.cons rfl (.cons rfl (.nil _)))), f', by exact ar14, (p - 1) / 2, ys.set p pv, rfl, ?_, by simpa using hl, ?_, by exact arb20 hp2 hlt e0, by exact ar290 e0 hpf, he⟩
      · rw [pt_pt]; rfl
      · intro x hx
        rcases List.mem_or_eq_of_mem_set hx with hx | rfl
        · exact hy x hx
        · exact hpP
    · simp only [hc, Bool.false_eq_true, if_false] at he
      refine pList hsa (by exact ar0) (by exact ar22 hl hp2) (by exact ar43 hlen hl) ?_
      rw [pt_pt]
      refine ⟨_, .refl _, ?_⟩
      show Q .none (pt σ a _) _
      rw [show (p : Int).toNat = p from rfl, he]
      exact h _ hN'
  · have hlt : ¬ start < p := by have := of_decide_eq_false hlt; exact arb21 this
    refine pList hsa (by exact ar0) (by exact ar22 hl hp2) (by exact ar43 hlen hl) ?_
    rw [pt_pt]
    refine ⟨_, .refl _, ?_⟩
    show Q .none (pt σ a _) _
    have : sdGo ltT new start f p ys = ys.set p new := by
      cases f with
      | zero => rfl
      | succ f => rw [sdGo, if_neg hlt]
    rw [show (p : Int).toNat = p from rfl, ← this, he]
    exact h _ hN'
end
end
noncomputable section
section
variable {B : Cx} {d : Nat} {σ : Store} {N : Nat} {a : Nat}
theorem heappush_ok (b : Base B) {xs : List V} {v : V} {P : V → Prop} (hP : ∀ x y, P x → P y → ∃ a b, x = .tup a ∧ y = .tup b ∧ LexOk a b) (hs : σ a = some (.list xs)) (hall : ∀ x ∈ xs, P x) (hv : P v) (hlen : xs.length < 2 ^ 19)
    {Q : Post V} (h : ∀ N', N ≤ N' → Q .none (pt σ a (.list (sd (xs ++ [v]) 0 xs.length))) N') : WC B (d + 2) (.ref 21) [.ref a, v] σ N Q := by
  refine C_fun b.tabOk (names := ["heap", "item"]) (b.fn rfl) (b.code rfl rfl) b.lim rfl (fun s as hl => ?_) (by decide) (by decide) ⟨rfl, rfl, rfl, rfl, rfl⟩ (fun L hL hσL hab => ?_)
  · obtain ⟨x, y, rfl⟩ := len2 hl
    exact .of_eq rfl
  refine VMeth.builtin (.list (.ref hs)) rfl ?_
  refine bAppend .refl hs (by exact ar76 hlen) ?_
  refine bLen (xs := xs ++ [v]) (.ref (pt_same _ _ _)) (by rw [List.length_append, List.length_singleton]; exact ar291 hlen) ?_
  refine ⟨?_⟩
  show WC B (d + 1) (.ref 35) [.ref a, .int 0, .int (((xs ++ [v]).length : Nat) - 1 : Int)] _ _ _
  rw [show (((xs ++ [v]).length : Nat) : Int) - 1 = (xs.length : Nat) from by rw [List.length_append, List.length_singleton]; exact ar292]
  refine siftdown_ok (xs := xs ++ [v]) (start := 0) b hP (pt_same _ _ _) ?_ (by rw [List.length_append, List.length_singleton]; exact ar14) (by rw [List.length_append, List.length_singleton]; exact ar293 hlen) fun N' hN' => ?_
  · intro x hx
    rcases List.mem_append.mp hx with hx | hx
    · exact hall x hx
    · rw [List.mem_singleton.mp hx]; exact hv
  rw [pt_pt]
  exact ⟨_, .refl _, h N' hN'⟩

noncomputable def SuJ (σ : Store) (a : Nat) (P : V → Prop) (len : Nat) (new : V) (r : Nat × List V) : Nat → Loc → Store → Nat → Prop := fun f l σ' _ =>
  ∃ (p : Nat) (ys : List V), l = ([("heap", .ref a), ("pos", .int p), ("endpos", .int len), ("startpos", .int 0), ("newitem", new), ("childpos", .int ((2 * p + 1 : Nat) : Int))] : Loc) ∧ σ' = pt σ a (.list ys) ∧ ys.length = len ∧ (∀ x ∈ ys, P x) ∧ p < len ∧ len ≤ p + f ∧ suGo ltT f p ys = r
noncomputable def SuK (σ : Store) (a : Nat) (len : Nat) (new : V) (r : Nat × List V) (f p : Nat) (ys : List V) : Loc → Store → Nat → Prop := fun l σ' _ =>
  ∃ c : Nat, l = ([("heap", .ref a), ("pos", .int p), ("endpos", .int len), ("startpos", .int 0), ("newitem", new), ("childpos", .int (c : Int))] : Loc) ∧ σ' = pt σ a (.list ys) ∧ p < c ∧ c < ys.length ∧ suGo ltT f c (ys.set p (ys.getD c .none)) = r
theorem siftup_ok (b : Base B) {xs : List V} {new : V} {P : V → Prop} (hP : ∀ x y, P x → P y → ∃ a b, x = .tup a ∧ y = .tup b ∧ LexOk a b) (hs : σ a = some (.list xs)) (hall : ∀ x ∈ xs, P x) (hnew : xs[0]? = some new) (hlen : xs.length < 2 ^ 19)
    {Q : Post V} (h : ∀ N', N ≤ N' → Q .none (pt σ a (.list (su xs new))) N') : WC B (d + 2) (.ref 42) [.ref a, .int 0] σ N Q := by
  have hpos : 0 < xs.length := (List.getElem?_eq_some_iff.mp hnew).1
  have hnP : P new := hall _ (List.mem_of_getElem? hnew)
  refine C_fun b.tabOk (names := ["heap", "pos"]) (b.fn rfl) (b.code rfl rfl) b.lim rfl (fun s as hl => ?_) (by decide) (by decide) ⟨rfl, rfl, rfl, rfl, rfl⟩ (fun L hL hσL hab => ?_)
  · obtain ⟨x, y, rfl⟩ := len2 hl
    exact .of_eq rfl
  refine bLen (.ref hs) (by exact ar44 hlen) ?_
  refine iList (.ref hs) (by exact ar294) (by exact ar295) hnew ?_
  refine ⟨IntMulOk.of_left (by decide), ?_⟩
  refine ⟨SuJ (σ.add L) a P xs.length new (suGo ltT xs.length 0 xs), xs.length, [("heap", .ref a), ("pos", .int 0), ("endpos", .int xs.length), ("startpos", .int 0), ("newitem", new), ("childpos", .int ((2 * 0 + 1 : Nat) : Int))], .cons rfl (.cons rfl (.cons rfl (.cons rfl (.cons rfl (.cons rfl (.nil _)))))), ⟨0, xs, rfl, (pt_id (σ := σ.add L) hs).symm, rfl, hall, hpos, by exact ar37, rfl⟩, ?_⟩
  rintro f l σ' N' ⟨p, ys, rfl, rfl, hl, hy, hp, hpf, he⟩ hN'
  have hsa : pt (σ.add L) a (.list ys) a = some (.list ys) := pt_same _ _ _
  have get : ∀ i, i < ys.length → ys[i]? = some (ys.getD i .none) := fun i hi => by rw [List.getD_eq_getElem?_getD, List.getElem?_eq_getElem hi]; rfl
  have getP : ∀ i, i < ys.length → P (ys.getD i .none) := fun i hi => hy _ (List.mem_of_getElem? (get i hi))
  refine ⟨fun hlt => ?_, fun hlt => ?_⟩
  · have hlt : 2 * p + 1 < xs.length := by have := of_decide_eq_true hlt; exact arb22 this
    obtain ⟨f', rfl⟩ : ∃ f', f = f' + 1 := ⟨f - 1, by exact arb23 hpf hlt⟩
    rw [suGo, if_pos (by exact arb6 hl hlt)] at he
    refine .join (SuK (σ.add L) a xs.length new (suGo ltT xs.length 0 xs) f' p ys) ⟨?_, ?_⟩
    · rintro l' σ₂ N₂ hN₂ ⟨c, rfl, rfl, hc1, hc2, hc3⟩
      refine iList (.ref hsa) (by exact ar296 hc1) (by exact ar297 hlen hl hc2) (get c hc2) ?_
      refine pList hsa (by exact ar0) (by exact arb24 hpos hl hlt) (by exact ar77 hlen hl) ?_
      refine ⟨IntMulOk.of_left (by decide), ?_⟩
      refine ⟨[("heap", .ref a), ("pos", .int c), ("endpos", .int xs.length), ("startpos", .int 0), ("newitem", new), ("childpos", .int ((2 * c + 1 : Nat) : Int))], (.cons rfl (.cons rfl (.cons rfl (.cons rfl (.cons rfl (.cons ?_ (.nil _))))))), f', by exact ar14, c, ys.set p (ys.getD c .none), rfl, ?_, by simpa using hl, ?_, by exact ar39 hl hc2, by exact ar75 hpf hc1, hc3⟩
      · show some (V.int (2 * (c : Int) + 1)) = _
        rw [show 2 * (c : Int) + 1 = ((2 * c + 1 : Nat) : Int) from by exact ar298]
      · rw [pt_pt]; rfl
      · intro x hx
        rcases List.mem_or_eq_of_mem_set hx with hx | rfl
        · exact hy x hx
        · exact getP c hc2
    have left : ∀ N₂, ¬ (2 * p + 2 < ys.length ∧ ltT (ys.getD (2 * p + 1) .none) (ys.getD (2 * p + 2) .none) = false) → SuK (σ.add L) a xs.length new (suGo ltT xs.length 0 xs) f' p ys [("heap", .ref a), ("pos", .int p), ("endpos", .int xs.length), ("startpos", .int 0), ("newitem", new), ("childpos", .int ((2 * p + 1 : Nat) : Int))] (pt (σ.add L) a (.list ys)) N₂ := fun N₂ z =>
      ⟨2 * p + 1, rfl, rfl, by exact ar41, by exact arb6 hl hlt, by rw [if_neg z] at he; exact he⟩
    refine ⟨fun hr => ?_, fun hr => ?_⟩
    · have hr : 2 * p + 2 < xs.length := by have := of_decide_eq_true hr; exact arb25 hlt this
      refine iList (.ref hsa) (by exact ar299) (by exact arb26 hlen hr) (get (2 * p + 1) (by exact arb7 hl hr)) ?_
      refine iList (.ref hsa) (by exact ar300) (by exact arb27 hlen hr) (by rw [show (((2 * p + 1 : Nat) : Int) + 1).toNat = 2 * p + 2 from by exact ar301]; exact get (2 * p + 2) (by exact arb0 hl hlt hr)) ?_
      obtain ⟨ta, tb, ea, eb, hlex⟩ := hP _ _ (getP (2 * p + 1) (by exact arb7 hl hr)) (getP (2 * p + 2) (by exact arb0 hl hlt hr))
      have elt : ltT (ys.getD (2 * p + 1) .none) (ys.getD (2 * p + 2) .none) = lexLt ta tb := by rw [ea, eb]; rfl
      refine (?_ : vCmp .Lt (ys.getD (2 * p + 1) .none) (ys.getD (2 * p + 2) .none) _ _ _ _)
      rw [ea, eb]
      refine nLt hlex ?_
      rw [← elt]
      refine ⟨fun hc => ?_, fun hc => ?_⟩
      · have hc : ltT (ys.getD (2 * p + 1) .none) (ys.getD (2 * p + 2) .none) = false := not_of_bnot hc
        refine ⟨[("heap", .ref a), ("pos", .int p), ("endpos", .int xs.length), ("startpos", .int 0), ("newitem", new), ("childpos", .int ((2 * p + 2 : Nat) : Int))], (.cons rfl (.cons rfl (.cons rfl (.cons rfl (.cons rfl (.cons ?_ (.nil _))))))), 2 * p + 2, rfl, rfl, by exact ar74, by exact arb0 hl hlt hr, by rw [if_pos ⟨by exact arb0 hl hlt hr, hc⟩] at he; exact he⟩
        show some (V.int (((2 * p + 1 : Nat) : Int) + 1)) = _
        rw [show ((2 * p + 1 : Nat) : Int) + 1 = ((2 * p + 2 : Nat) : Int) from by exact ar302]
      · refine ⟨_, (.cons rfl (.cons rfl (.cons rfl (.cons rfl (.cons rfl (.cons rfl (.nil _))))))), left _ (fun z => ?_)⟩
        rw [z.2] at hc; cases hc
    · have hr : ¬ 2 * p + 2 < xs.length := by have := of_decide_eq_false hr; exact arb28 hlt this
      refine ⟨fun hc => (nomatch hc), fun _ => ⟨_, (.cons rfl (.cons rfl (.cons rfl (.cons rfl (.cons rfl (.cons rfl (.nil _))))))), left _ (fun z => by lia)⟩⟩
  · have hlt : ¬ 2 * p + 1 < xs.length := by have := of_decide_eq_false hlt; exact arb29 this
    have hfin : (p, ys) = suGo ltT xs.length 0 xs := by
      rw [← he]
      cases f with
      | zero => rfl
      | succ f => rw [suGo, if_neg (by exact arb30 hl hlt)]
    refine pList hsa (by exact ar0) (by exact ar22 hl hp) (by exact ar77 hlen hl) ?_
    refine ⟨?_⟩
    rw [pt_pt]
    refine siftdown_ok (xs := ys.set p new) (start := 0) b hP (pt_same _ _ _) ?_ (by simpa using by exact ar40 hl hp) (by simpa using by exact ar303 hlen hl) fun N'' hN'' => ?_
    · intro x hx
      rcases List.mem_or_eq_of_mem_set hx with hx | rfl
      · exact hy x hx
      · exact hnP
    rw [pt_pt]
    have := h N'' (Nat.le_trans hN' hN'')
    unfold su at this
    rw [← hfin] at this
    exact ⟨_, .refl _, this⟩
theorem heappop_ok (b : Base B) {xs : List V} {P : V → Prop} (hP : ∀ x y, P x → P y → ∃ a b, x = .tup a ∧ y = .tup b ∧ LexOk a b) (hs : σ a = some (.list xs)) (hall : ∀ x ∈ xs, P x) (h0 : 0 < xs.length) (hlen : xs.length < 2 ^ 19)
    {Q : Post V} (h : ∀ N', N ≤ N' → Q (hpop xs).1 (pt σ a (.list (hpop xs).2)) N') : WC B (d + 3) (.ref 28) [.ref a] σ N Q := by
  refine C_fun b.tabOk (names := ["heap"]) (b.fn rfl) (b.code rfl rfl) b.lim rfl (fun s as hl => ?_) (by decide) (by decide) ⟨rfl, rfl, rfl, rfl, rfl⟩ (fun L hL hσL hab => ?_)
  · obtain ⟨x, rfl⟩ := len1 hl
    exact .of_eq rfl
  have hne : xs ≠ [] := fun z => by rw [z] at h0; exact absurd h0 (by decide)
  have hx : xs = xs.dropLast ++ [xs.getLastD .none] := by
    rw [List.getLastD_eq_getLast?, List.getLast?_eq_some_getLast hne]
    exact (List.dropLast_concat_getLast hne).symm
  have hlast : P (xs.getLastD .none) := hall _ (by rw [hx]; exact List.mem_append.mpr (.inr (by rw [← hx]; exact .head _)))
  have hin : ∀ x ∈ xs.dropLast, P x := fun x q => hall x (List.dropLast_subset _ q)
  have hdl : xs.dropLast.length < 2 ^ 19 := by rw [List.length_dropLast]; exact ar304 h0 hlen
  unfold hpop at h
  refine VMeth.builtin (.list (.ref hs)) rfl ?_
  refine bPop (ys := xs.dropLast) (v := xs.getLastD .none) (hs.trans (congrArg (fun z => some (AObj.list z)) hx)) (by exact ar76 hdl) ?_
  refine .plain (tList (xs := xs.dropLast) (pt_same _ _ _) (by exact ar44 hdl) ⟨fun hc => ?_, fun hc => ?_⟩)
  · cases q : xs.dropLast with
    | nil => rw [q] at hc; cases hc
    | cons x r =>
      rw [q] at hdl hin h
      have hs1 : pt (σ.add L) a (.list (x :: r)) a = some (.list (x :: r)) := pt_same _ _ _
      refine iList (.ref hs1) (by decide) (by decide) rfl ?_
      refine pList hs1 (by decide) (by rw [List.length_cons]; exact ar305) (by exact ar44 hdl) ?_
      refine ⟨?_⟩
      rw [pt_pt]
      refine siftup_ok (xs := xs.getLastD .none :: r) b hP (pt_same _ _ _) (fun y hy => ?_) rfl hdl fun N' hN' => ?_
      · cases hy with
        | head => exact hlast
        | tail _ hy => exact hin y (.tail _ hy)
      rw [pt_pt]
      exact ⟨_, _, .refl, h N' hN'⟩
  · cases q : xs.dropLast with
    | nil => rw [q] at h; exact ⟨_, _, .refl, h N (Nat.le_refl _)⟩
    | cons x r => rw [q] at hc; cases hc
end
end
noncomputable section
/- more arithmetic -/
theorem arc0 {x0 : Nat} (h1 : (x0 < (4 : Nat))) : (((x0 : Nat) : Int) < ((2 : Int) ^ (60 : Nat))) := (Int.lt_of_lt_of_le (Int.ofNat_lt.mpr h1) (by decide))
theorem arc1 {x0 : Nat} (h1 : (x0 < (4 : Nat))) : ((x0 = (0 : Nat)) ∨ ((x0 = (1 : Nat)) ∨ ((x0 = (2 : Nat)) ∨ (x0 = (3 : Nat))))) := by lia
theorem arc2 {x0 : Nat} : ((0 : Nat) < (x0 + (1 : Nat))) := by lia
theorem arc3 : ((2 : Nat) < (3 : Nat)) := (by decide)
theorem arc4 (h1 : ((3 : Nat) < (3 : Nat))) : (¬ ((3 : Nat) < (3 : Nat))) := (Nat.not_lt.mpr (Nat.le_refl _))
theorem arc5 : ((0 : Nat) < (3 : Nat)) := (by decide)
theorem arc6 : ((1 : Nat) < (3 : Nat)) := (by decide)
theorem arc7 {x0 : Nat} (h1 : (x0 < (3 : Nat))) : (((x0 : Nat) : Int) < ((2 : Int) ^ (60 : Nat))) := (Int.lt_of_lt_of_le (Int.ofNat_lt.mpr h1) (by decide))
theorem arc8 {x0 : Nat} (h1 : ((x0 + (1 : Nat)) < (3 : Nat))) : (x0 < (3 : Nat)) := (Nat.lt_trans (Nat.lt_succ_self _) h1)
theorem arc9 {x0 : Nat} (h1 : (x0 < (3 : Nat))) (h2 : (¬ (((x0 : Nat) : Int) = (2 : Int)))) : ((x0 + (1 : Nat)) < (3 : Nat)) := by lia
theorem arc10 {x0 : Nat} (h1 : (x0 < (4 : Nat))) : (x0 < ((2 : Nat) ^ (20 : Nat))) := (Nat.lt_trans h1 (by decide))
theorem arc11 {x0 : Nat} (h1 : (x0 < (2 : Nat))) : ((x0 + (1 : Nat)) < (3 : Nat)) := (Nat.lt_of_le_of_lt (Nat.succ_le_of_lt h1) (by decide))
theorem arc12 {x0 : Nat} (h1 : (x0 < (3 : Nat))) : (x0 ≠ (3 : Nat)) := (Nat.ne_of_lt h1)
theorem arc13 {x0 : Nat} (h1 : (((x0 + (1 : Nat)) + (1 : Nat)) ≤ (3 : Nat))) : (x0 < (3 : Nat)) := by lia
theorem arc14 {x0 : Nat} : (x0 ≤ x0) := (Nat.le_refl _)
theorem arc15 {x0 : Nat} {x1 : Nat} {x2 : Nat} {x3 : Nat} {x4 : Nat} (h1 : ((x1 + (1 : Nat)) ≤ x2)) (h2 : ((x2 + (1 : Nat)) ≤ x3)) (h3 : (x3 ≤ x4)) (h4 : ((x4 + (1 : Nat)) ≤ x0)) : (x0 ≠ x1) := by lia
theorem arc16 {x0 : Nat} : (((3 : Nat) - x0) < (4 : Nat)) := Nat.lt_of_le_of_lt (Nat.sub_le _ _) (by decide)
theorem arc17 {x0 : Nat} (h1 : (x0 < (4 : Nat))) : ((((4 : Nat) - (1 : Nat)) - ((3 : Nat) - x0)) = x0) := Nat.sub_sub_self (Nat.le_of_lt_succ h1)
theorem arc18 {x0 : Nat} {x1 : Nat} {x2 : Nat} (h1 : ((x0 ≤ x2) ∧ (x2 < x1))) : (x0 ≤ x1) := (Nat.le_of_lt (Nat.lt_of_le_of_lt h1.1 h1.2))
theorem arc19 {x0 : Nat} (h1 : ((x0 + (1 : Nat)) ≤ (3 : Nat))) (h2 : ((0 : Nat) < x0)) : ((x0 - (1 : Nat)) < (3 : Nat)) := by lia
theorem arc21 {x0 : Nat} (h1 : ((0 : Int) < ((x0 : Nat) : Int))) : ((0 : Nat) < x0) := by lia
theorem arc22 {x0 : Nat} (h1 : ((0 : Nat) < x0)) : ((0 : Int) ≤ (((x0 : Nat) : Int) - (1 : Int))) := by lia
theorem arc23 {x0 : Nat} (h1 : (x0 < (3 : Nat))) (h2 : (((x0 : Nat) : Int) < (2 : Int))) : (x0 < (2 : Nat)) := by lia
theorem arc24 {x0 : Nat} {x1 : Nat} {x2 : Nat} {x3 : Nat} (h1 : ((x1 + (1 : Nat)) ≤ x2)) (h2 : ((x2 + (1 : Nat)) ≤ x3)) (h3 : (x3 ≤ x0)) : (x0 ≠ x1) := (Nat.ne_of_gt (Nat.lt_of_lt_of_le (Nat.lt_trans h1 h2) h3))
theorem arc25 {x0 : Nat} (h1 : (x0 < (2 : Nat))) : (x0 < (3 : Nat)) := (Nat.lt_trans h1 (by decide))
theorem arc26 {x0 : Nat} {x1 : Nat} (h1 : (¬ (x0 = x1))) : ((x0 + (1 : Nat)) ≠ (x1 + (1 : Nat))) := by lia
theorem arc27 {x0 : Nat} {x1 : Nat} {x2 : Nat} {x3 : Nat} {x4 : Nat} {x5 : Nat} (h1 : ((x0 < (2 : Nat)) ∧ ((x1 = (x2 + (1 : Nat))) ∧ (((x0 + (1 : Nat)) ≠ (3 : Nat)) → ((x3 = (x4 + (1 : Nat))) ∧ (x2 = (x3 + x5))))))) : ((x0 + (1 : Nat)) ≠ (3 : Nat)) := (Nat.ne_of_lt (Nat.lt_of_le_of_lt (Nat.succ_le_of_lt h1.1) (by decide)))
theorem arc28 {x0 : Nat} (h1 : ((0 : Nat) < x0)) : (¬ (x0 = (0 : Nat))) := Nat.ne_of_gt h1
theorem arc29 {x0 : Nat} (h1 : ((x0 + (1 : Nat)) ≤ (3 : Nat))) : (((x0 : Nat) : Int) < (3 : Int)) := (Int.lt_of_lt_of_le (Int.ofNat_lt.mpr h1) (by decide))
theorem arc30 {x0 : Nat} : ((0 : Int) ≤ (((x0 + (1 : Nat)) : Nat) : Int)) := (Int.natCast_nonneg _)
theorem arc31 {x0 : Nat} (h1 : (x0 < (3 : Nat))) (h2 : (¬ (((x0 : Nat) : Int) = (2 : Int)))) : ((((x0 + (1 : Nat)) : Nat) : Int) < ((2 : Int) ^ (60 : Nat))) := by lia
theorem arc32 {x0 : Nat} (h1 : (x0 < (3 : Nat))) (h2 : (¬ (((x0 : Nat) : Int) = (2 : Int)))) : ((Int.toNat (((x0 + (1 : Nat)) : Nat) : Int)) < (3 : Nat)) := by lia
theorem arc33 {x0 : Nat} {x1 : Nat} {x2 : Nat} {x3 : Nat} {x4 : Nat} {x5 : Nat} (h1 : (x1 < x2)) (h2 : (x2 < x3)) (h3 : (x3 < x4)) (h4 : (x4 < x5)) (h5 : (x5 ≤ x0)) : (x0 ≠ x1) := (Nat.ne_of_gt (Nat.lt_of_lt_of_le (Nat.lt_trans (Nat.lt_trans (Nat.lt_trans h1 h2) h3) h4) h5))
theorem arc34 {x0 : Nat} : (((2 : Nat) + ((2 : Nat) * x0)) = ((2 : Nat) * (x0 + (1 : Nat)))) := by lia
theorem arc35 {x0 : Nat} {x1 : Nat} (h1 : (x1 < (3 : Nat))) : (((((3 : Nat) * x0) + x1) / (3 : Nat)) = x0) := by rw [Nat.mul_add_div (by decide), Nat.div_eq_of_lt h1, Nat.add_zero]
theorem arc36 {x0 : Nat} {x1 : Nat} (h1 : (x1 < (3 : Nat))) : (((((3 : Nat) * x0) + x1) % (3 : Nat)) = x1) := by rw [Nat.mul_add_mod, Nat.mod_eq_of_lt h1]
theorem arc37 {x0 : Nat} {x1 : Nat} {x2 : Nat} (h1 : (x2 = x0)) (h2 : (x1 < x0)) : (((x0 - (1 : Nat)) - x1) < x2) := by rw [h1]; exact Nat.lt_of_le_of_lt (Nat.sub_le _ _) (Nat.sub_lt (Nat.lt_of_le_of_lt (Nat.zero_le _) h2) (by decide))
theorem arc38 {x0 : Nat} {x1 : Nat} {x2 : Nat} (h1 : (x0 = x1)) (h2 : (x2 < x1)) : (((x0 - (1 : Nat)) - ((x1 - (1 : Nat)) - x2)) = x2) := by subst h1; exact Nat.sub_sub_self (Nat.le_sub_one_of_lt h2)
theorem arc39 {x0 : Nat} {x1 : Nat} {x2 : Nat} {x3 : Nat} (h1 : ((x0 + (1 : Nat)) ≤ x2)) (h2 : (x2 ≤ x3)) (h3 : ((x3 + (1 : Nat)) ≤ x1)) : (x0 ≠ x1) := by lia
theorem arc40 {x0 : Nat} {x1 : Nat} {x2 : Nat} (h1 : ((x0 + (1 : Nat)) ≤ x2)) (h2 : (x2 ≤ x1)) : (x0 ≠ x1) := (Nat.ne_of_lt (Nat.lt_of_lt_of_le h1 h2))
theorem arc41 {x0 : Nat} {x1 : Nat} (h1 : (x1 < (3 : Nat))) (h2 : (x0 < x1)) : (x0 < (3 : Nat)) := (Nat.lt_trans h2 h1)
theorem arc42 {x0 : Nat} (h1 : (¬ ((0 : Int) < ((x0 : Nat) : Int)))) : (¬ ((0 : Nat) < x0)) := by lia
theorem arc43 {x0 : Nat} {x1 : Nat} (h1 : (x0 < (3 : Nat))) : ((min x0 x1) < ((2 : Nat) ^ (20 : Nat))) := (Nat.lt_trans (Nat.lt_of_le_of_lt (Nat.min_le_left _ _) h1) (by decide))
theorem arc44 {x0 : Nat} {x1 : Nat} {x2 : Nat} (h1 : ((x1 + (1 : Nat)) ≤ x2)) (h2 : (x2 ≤ x0)) : (x0 ≠ x1) := (Nat.ne_of_gt (Nat.lt_of_lt_of_le h1 h2))
theorem arc45 {x0 : Nat} {x1 : Nat} (h1 : (x1 < (1000 : Nat))) (h2 : (x0 < x1)) : (x0 < (1000 : Nat)) := (Nat.lt_trans h2 h1)
theorem arc46 {x0 : Nat} {x1 : Nat} {x2 : Nat} {x3 : Nat} {x4 : Nat} (h1 : ((x0 + (1 : Nat)) ≤ x2)) (h2 : ((x2 + (1 : Nat)) ≤ x3)) (h3 : (x3 ≤ x4)) (h4 : ((x4 + (1 : Nat)) ≤ x1)) : (x0 ≠ x1) := by lia
theorem arc47 {x0 : Nat} {x1 : Nat} {x2 : Nat} {x3 : Nat} (h1 : ((x0 + (1 : Nat)) ≤ x2)) (h2 : ((x2 + (1 : Nat)) ≤ x3)) (h3 : (x3 ≤ x1)) : (x0 ≠ x1) := (Nat.ne_of_lt (Nat.lt_of_lt_of_le (Nat.lt_trans h1 h2) h3))
theorem arc48 {x0 : Int} {x1 : Int} {x2 : Int} {x3 : Int} {x4 : Int} (h1 : ((x0 + x1) ≤ x4)) (h2 : (x4 ≤ x2)) (h3 : ((1 : Int) ≤ x3)) : ((x0 + x1) ≤ (x2 + x3)) := by lia
theorem arc49 {x0 : Nat} (h1 : ((x0 + (1 : Nat)) ≤ (4 : Nat))) : (x0 < (4 : Nat)) := Nat.lt_of_lt_of_le (Nat.lt_succ_self _) h1
theorem arc50 {x0 : Nat} (h1 : (x0 < (4 : Nat))) : (x0 ≤ (4 : Nat)) := (Nat.le_of_lt h1)
theorem arc51 {x0 : Nat} {x1 : Nat} (h1 : (x0 < (4 : Nat))) (h2 : (x1 = (4 : Nat))) : (x0 < x1) := (Nat.lt_of_lt_of_le h1 (Nat.le_of_eq h2.symm))
theorem arc52 {x0 : Nat} (h1 : (x0 < (3 : Nat))) : (x0 < (1000 : Nat)) := (Nat.lt_trans h1 (by decide))
theorem arc53 {x0 : Nat} (h1 : (x0 = (4 : Nat))) : (x0 < (1099511627776 : Nat)) := (Nat.lt_of_le_of_lt (Nat.le_of_eq h1) (by decide))
theorem arc54 {x0 : Nat} {x1 : Nat} {x2 : Nat} {x3 : Nat} {x4 : Nat} (h1 : (x0 ≤ x2)) (h2 : (x2 ≤ x3)) (h3 : ((x3 + (1 : Nat)) ≤ x4)) (h4 : ((x4 + (1 : Nat)) ≤ x1)) : (x0 ≤ x1) := (Nat.le_of_lt (Nat.lt_trans (Nat.lt_of_le_of_lt (Nat.le_trans h1 h2) h3) h4))
theorem arc55 {x0 : Nat} {x1 : Nat} (h1 : (x0 < x1)) : (x0 ≤ x1) := (Nat.le_of_lt h1)
theorem arc56 {x0 : Nat} {x1 : Nat} (h1 : ((x1 + (1 : Nat)) < (3 : Nat))) (h2 : ((x0 + (1 : Nat)) = x1)) : (x0 < (3 : Nat)) := (Nat.lt_trans (Nat.lt_trans (Nat.le_of_eq h2) (Nat.lt_succ_self _)) h1)
theorem arc57 {x0 : Nat} {x1 : Nat} {x2 : Nat} {x3 : Nat} {x4 : Nat} {x5 : Nat} {x6 : Nat} {x7 : Nat} (h1 : ((x3 < (2 : Nat)) ∧ ((x4 = (x2 + (1 : Nat))) ∧ (((x3 + (1 : Nat)) ≠ (x3 + (1 : Nat))) → ((x5 = (x6 + (1 : Nat))) ∧ (x2 = (x5 + x7))))))) (h2 : ((x4 = (x2 + (1 : Nat))) ∧ (x0 = (x4 + x1)))) : (((x0 - (1 : Nat)) - x1) = x2) := by rw [h2.2, h2.1, Nat.sub_right_comm, Nat.add_sub_cancel]; rfl
theorem arc58 {x0 : Nat} {x1 : Nat} {x2 : Nat} {x3 : Nat} (h1 : ((x0 ≤ x1) ∧ ((x1 ≤ (x0 + (1 : Nat))) ∧ (x1 ≤ x3)))) (h2 : (x2 = x3)) : ((x0 ≤ x1) ∧ ((x1 ≤ (x0 + (1 : Nat))) ∧ (x1 ≤ x2))) := ⟨h1.1, ⟨h1.2.1, (Nat.le_trans h1.2.2 (Nat.le_of_eq h2.symm))⟩⟩
theorem arc59 {x0 : Nat} (h1 : ((x0 + (1 : Nat)) < (3 : Nat))) (h2 : ((0 : Nat) < x0)) : ((x0 - (1 : Nat)) ≠ x0) := by lia
theorem arc60 {x0 : Nat} {x1 : Nat} {x2 : Nat} {x3 : Nat} {x4 : Nat} {x5 : Nat} (h1 : ((x2 < (2 : Nat)) ∧ ((x0 = (x1 + (1 : Nat))) ∧ (((x2 + (1 : Nat)) ≠ (x2 + (1 : Nat))) → ((x3 = (x4 + (1 : Nat))) ∧ (x1 = (x3 + x5))))))) : ((x0 - (1 : Nat)) = x1) := by rw [h1.2.1]; rfl
theorem arc61 {x0 : Int} {x1 : Int} (h1 : ((1 : Int) ≤ x1)) : (x0 ≤ (x0 + x1)) := by lia
theorem arc62 {x0 : Nat} {x1 : Nat} (h1 : (x1 < (3 : Nat))) (h2 : ((x0 + (1 : Nat)) = x1)) : (x0 < (3 : Nat)) := (Nat.lt_trans (Nat.le_of_eq h2) h1)
theorem arc63 {x0 : Nat} {x1 : Nat} {x2 : Nat} {x3 : Nat} (h1 : (x3 = (x2 + (1 : Nat)))) (h2 : ((x3 = (x2 + (1 : Nat))) ∧ (x0 = (x3 + x1)))) : (((x0 - (1 : Nat)) - x1) = x2) := by rw [h2.2, h1, Nat.sub_right_comm, Nat.add_sub_cancel]; rfl
theorem arc64 {x0 : Nat} {x1 : Nat} (h1 : (x0 = (x1 + (1 : Nat)))) : ((x0 - (1 : Nat)) = x1) := by lia
theorem arc65 {x0 : Nat} {x1 : Nat} (h1 : (x0 = (x1 + (1 : Nat)))) : (x0 ≠ ((x1 + (1 : Nat)) + (1 : Nat))) := (Nat.ne_of_lt (Nat.lt_of_le_of_lt (Nat.le_of_eq h1) (Nat.lt_succ_self _)))
theorem arc66 {x0 : Nat} {x1 : Nat} (h1 : ((0 : Nat) < x0)) (h2 : (¬ (x0 = (x1 + (1 : Nat))))) : ((x0 - (1 : Nat)) ≠ x1) := by lia
theorem arc67 {x0 : Nat} (h1 : ((x0 + (1 : Nat)) ≤ (3 : Nat))) : (((x0 : Nat) : Int) < ((2 : Int) ^ (60 : Nat))) := (Int.lt_of_lt_of_le (Int.ofNat_lt.mpr h1) (by decide))
theorem arc68 {x0 : Nat} (h1 : (x0 ≠ (0 : Nat))) : ((0 : Nat) < x0) := by lia
theorem arc69 : ((0 : Nat) ≤ (3 : Nat)) := (Nat.zero_le _)
theorem arc70 {x0 : Nat} (h1 : (x0 < (3 : Nat))) (h2 : (¬ (((x0 : Nat) : Int) = (2 : Int)))) : ((x0 + (1 : Nat)) ≠ (3 : Nat)) := by lia
theorem arc71 {x0 : Nat} (h1 : (x0 < (3 : Nat))) (h2 : (¬ (((x0 : Nat) : Int) = (2 : Int)))) : (((x0 : Nat) : Int) < (3 : Int)) := (Int.lt_of_lt_of_le (Int.ofNat_lt.mpr h1) (by decide))
theorem arc72 {x0 : Nat} {x1 : Nat} {x2 : Nat} (h1 : (x0 ≠ x1)) (h2 : ((x1 ≤ x0) ∧ ((x0 ≤ (x1 + (1 : Nat))) ∧ (x0 ≤ x2)))) : (x0 = (x1 + (1 : Nat))) := by lia
theorem arc73 {x0 : Nat} {x1 : Nat} {x2 : Nat} {x3 : Nat} {x4 : Nat} (h1 : ((x0 ≤ x2) ∧ (x2 < x3))) (h2 : ((x3 ≤ x4) ∧ (x4 < x1))) : (x0 ≤ x1) := (Nat.le_of_lt (Nat.lt_trans (Nat.lt_of_lt_of_le (Nat.lt_of_le_of_lt h1.1 h1.2) h2.1) h2.2))
theorem arc74 {x0 : Nat} {x1 : Nat} {x2 : Nat} {x3 : Nat} {x4 : Nat} (h1 : (x2 ≤ x1)) (h2 : (x3 ≤ x2)) (h3 : ((x4 ≤ x0) ∧ (x0 < x3))) : (x0 ≠ x1) := (Nat.ne_of_lt (Nat.lt_of_lt_of_le (Nat.lt_of_lt_of_le h3.2 h2) h1))
theorem arc75 {x0 : Nat} {x1 : Nat} {x2 : Nat} {x3 : Nat} (h1 : ((x1 + (1 : Nat)) ≤ x2)) (h2 : ((x2 + (1 : Nat)) ≤ x3)) (h3 : ((x3 + (1 : Nat)) ≤ x0)) : (x0 ≠ x1) := (Nat.ne_of_gt (Nat.lt_trans (Nat.lt_trans h1 h2) h3))
theorem arc77 {x0 : Nat} (h1 : (x0 ≤ (1000 : Nat))) : (x0 ≤ (16777214 : Nat)) := (Nat.le_of_lt (Nat.lt_of_le_of_lt h1 (by decide)))
theorem arc78 {x0 : Nat} (h1 : (x0 < (6 : Nat))) : (((x0 : Nat) : Int) < ((2 : Int) ^ (60 : Nat))) := (Int.lt_of_lt_of_le (Int.ofNat_lt.mpr h1) (by decide))
theorem arc79 {x0 : Nat} {x1 : Nat} (h1 : (x1 < (6 : Nat))) (h2 : (x0 = x1)) : (x0 < (1048576 : Nat)) := (Nat.lt_trans (Nat.lt_of_le_of_lt (Nat.le_of_eq h2) h1) (by decide))
theorem arc81 {x0 : Nat} : (((2 : Nat) * x0) ≤ (((2 : Nat) * x0) + (2 : Nat))) := (Nat.le_of_lt (Nat.lt_add_of_pos_right (by decide)))
theorem arc94 {x0 : Nat} (h1 : (x0 < (2 : Nat))) : (((x0 : Nat) : Int) < ((2 : Int) ^ (60 : Nat))) := (Int.lt_of_lt_of_le (Int.ofNat_lt.mpr h1) (by decide))
theorem arc99 {x0 : Nat} (h1 : (x0 < (3 : Nat))) (h2 : (x0 < (2 : Nat))) : ((x0 + (1 : Nat)) < (3 : Nat)) := (Nat.lt_of_le_of_lt (Nat.succ_le_of_lt h2) (by decide))
theorem arc100 {x0 : Nat} {x1 : Nat} {x2 : Nat} (h1 : (x0 = x2)) (h2 : (¬ (x1 < x2))) : (x0 ≤ x1) := (Nat.le_trans (Nat.le_of_eq h1) (Nat.not_lt.mp h2))
theorem arc102 {x0 : Nat} {x1 : Nat} (h1 : (x0 = x1)) (h2 : ((0 : Nat) < x1)) : ((0 : Nat) < x0) := (Nat.lt_of_lt_of_le h2 (Nat.le_of_eq h1.symm))
theorem arc106 {x0 : Nat} {x1 : Nat} (h1 : (x0 = x1)) (h2 : (x1 = (0 : Nat))) : (x0 ≤ (0 : Nat)) := (Nat.le_trans (Nat.le_of_eq h1) (Nat.le_of_eq h2))
theorem arc107 {x0 : Nat} {x1 : Nat} {x2 : Nat} {x3 : Nat} (h1 : (x0 ≤ x2)) (h2 : ((x2 + (1 : Nat)) ≤ x3)) (h3 : ((x3 + (1 : Nat)) ≤ x1)) : (x0 ≤ x1) := (Nat.le_of_lt (Nat.lt_trans (Nat.lt_of_le_of_lt h1 h2) h3))
theorem arc108 {x0 : Nat} {x1 : Nat} (h1 : ((x0 + (1 : Nat)) < (x1 + (1 : Nat)))) : (x0 < x1) := (Nat.lt_of_lt_of_le (Nat.lt_succ_self _) (Nat.le_of_lt_succ h1))
theorem arc110 {x0 : Nat} {x1 : Nat} (h1 : (¬ (x1 < x0))) : (x0 ≤ x1) := (Nat.not_lt.mp h1)
theorem arc112 : ((0 : Nat) < (2 : Nat)) := (by decide)
theorem arc113 : (((0 : Nat) + (1 : Nat)) < (2 : Nat)) := (by decide)
theorem arc114 : ((1 : Nat) < (2 : Nat)) := (by decide)
theorem arc116 {x0 : Nat} {x1 : Nat} (h1 : (x1 = (4 : Nat))) (h2 : (x0 < x1)) : (x0 < (4 : Nat)) := (Nat.lt_of_lt_of_le h2 (Nat.le_of_eq h1))
theorem arc118 {x0 : Nat} {x1 : Nat} {x2 : Nat} {x3 : Nat} {x4 : Nat} {x5 : Nat} (h1 : (x0 ≤ x2)) (h2 : (x2 ≤ x3)) (h3 : ((x3 + (1 : Nat)) ≤ x4)) (h4 : ((x4 + (1 : Nat)) ≤ x5)) (h5 : (x5 ≤ x1)) : (x0 ≤ x1) := (Nat.le_of_lt (Nat.lt_of_lt_of_le (Nat.lt_trans (Nat.lt_of_le_of_lt (Nat.le_trans h1 h2) h3) h4) h5))
theorem arc119 {x0 : Nat} (h1 : (x0 < (3 : Nat))) : (x0 < ((2 : Nat) ^ (20 : Nat))) := (Nat.lt_trans h1 (by decide))
theorem arc120 {x0 : Nat} {x1 : Nat} {x2 : Nat} (h1 : (x1 ≤ x2)) (h2 : (x2 < x0)) : (x0 ≠ x1) := (Nat.ne_of_gt (Nat.lt_of_le_of_lt h1 h2))
theorem arc121 {x0 : Nat} (h1 : (x0 < (3 : Nat))) : ((x0 + (1 : Nat)) < (1000 : Nat)) := (Nat.lt_of_le_of_lt (Nat.succ_le_of_lt h1) (by decide))
theorem arc122 {x0 : Nat} (h1 : (x0 < (4 : Nat))) : ((x0 + (1 : Nat)) < ((2 : Nat) ^ (19 : Nat))) := (Nat.lt_of_le_of_lt (Nat.succ_le_of_lt h1) (by decide))
theorem arc123 {x0 : Nat} : (¬ (x0 = (x0 + (1 : Nat)))) := Nat.ne_of_lt (Nat.lt_succ_self _)
theorem arc124 {x0 : Nat} : (¬ ((x0 + (1 : Nat)) = x0)) := Nat.ne_of_gt (Nat.lt_succ_self _)
theorem arc125 {x0 : Nat} {x1 : Nat} (h1 : ((x0 + (1 : Nat)) = x1)) : ((x0 + (1 : Nat)) ≠ (x1 + (1 : Nat))) := (Nat.ne_of_lt (Nat.lt_of_le_of_lt (Nat.le_of_eq h1) (Nat.lt_succ_self _)))
theorem arc128 {x0 : Nat} {x1 : Nat} {x2 : Nat} {x3 : Nat} {x4 : Nat} {x5 : Nat} {x6 : Nat} {x7 : Nat} (h1 : ((x2 < (2 : Nat)) ∧ ((x3 = (x4 + (1 : Nat))) ∧ (((x2 + (1 : Nat)) ≠ (x2 + (1 : Nat))) → ((x5 = (x6 + (1 : Nat))) ∧ (x4 = (x5 + x7))))))) (h2 : (x0 = x3)) (h3 : (x1 = (x4 + (1 : Nat)))) : (x0 = x1) := (Nat.le_antisymm (Nat.le_trans (Nat.le_trans (Nat.le_of_eq h2) (Nat.le_of_eq h1.2.1)) (Nat.le_of_eq h3.symm)) (Nat.le_trans (Nat.le_trans (Nat.le_of_eq h3) (Nat.le_of_eq h1.2.1.symm)) (Nat.le_of_eq h2.symm)))
theorem arc129 {x0 : Nat} {x1 : Nat} {x2 : Nat} {x3 : Nat} {x4 : Nat} {x5 : Nat} {x6 : Nat} {x7 : Nat} (h1 : ((x0 ≤ x1) ∧ ((x1 ≤ (x0 + (1 : Nat))) ∧ (x1 ≤ x3)))) (h2 : ((x4 < (2 : Nat)) ∧ ((x1 = (x0 + (1 : Nat))) ∧ (((x4 + (1 : Nat)) ≠ (x4 + (1 : Nat))) → ((x5 = (x6 + (1 : Nat))) ∧ (x0 = (x5 + x7))))))) (h3 : (x2 = x3)) : (((x0 + (1 : Nat)) ≤ x1) ∧ ((x1 ≤ ((x0 + (1 : Nat)) + (1 : Nat))) ∧ (x1 ≤ x2))) := ⟨(Nat.le_of_eq h2.2.1.symm), ⟨(Nat.le_of_lt (Nat.lt_of_le_of_lt h1.2.1 (Nat.lt_succ_self _))), (Nat.le_trans h1.2.2 (Nat.le_of_eq h3.symm))⟩⟩
theorem arc139 {x0 : Nat} (h1 : (((x0 + (1 : Nat)) + (1 : Nat)) < (3 : Nat))) : ((x0 + (1 : Nat)) < (3 : Nat)) := (Nat.lt_trans (Nat.lt_succ_self _) h1)
theorem arc141 {x0 : Nat} {x1 : Nat} {x2 : Nat} {x3 : Nat} {x4 : Nat} {x5 : Nat} {x6 : Nat} (h1 : (((x2 + (1 : Nat)) < (2 : Nat)) ∧ ((x0 = (x3 + (1 : Nat))) ∧ ((((x2 + (1 : Nat)) + (1 : Nat)) ≠ ((x2 + (1 : Nat)) + (1 : Nat))) → ((x4 = (x5 + (1 : Nat))) ∧ (x3 = (x4 + x6))))))) (h2 : ((x3 ≤ x0) ∧ ((x0 ≤ (x3 + (1 : Nat))) ∧ (x0 ≤ x1)))) (h3 : (¬ (x0 < x1))) : (¬ (x0 < x1)) := (Nat.not_lt.mpr (Nat.not_lt.mp h3))
theorem arc142 {x0 : Nat} {x1 : Nat} {x2 : Nat} {x3 : Nat} {x4 : Nat} {x5 : Nat} {x6 : Nat} (h1 : (((x2 + (1 : Nat)) < (2 : Nat)) ∧ ((x0 = (x3 + (1 : Nat))) ∧ ((((x2 + (1 : Nat)) + (1 : Nat)) ≠ ((x2 + (1 : Nat)) + (1 : Nat))) → ((x4 = (x5 + (1 : Nat))) ∧ (x3 = (x4 + x6))))))) (h2 : ((x3 ≤ x0) ∧ ((x0 ≤ (x3 + (1 : Nat))) ∧ (x0 ≤ x1)))) (h3 : (¬ (x0 < x1))) : (x0 = x1) := (Nat.le_antisymm h2.2.2 (Nat.not_lt.mp h3))
theorem arc145 {x0 : Nat} {x1 : Nat} {x2 : Nat} (h1 : (¬ (x0 < x1))) (h2 : ((x2 ≤ x0) ∧ ((x0 ≤ (x2 + (1 : Nat))) ∧ (x0 ≤ x1)))) : (x0 = x1) := (Nat.le_antisymm h2.2.2 (Nat.not_lt.mp h1))
theorem arc146 {x0 : Nat} {x1 : Nat} (h1 : (x1 < (3 : Nat))) (h2 : ((x0 + (1 : Nat)) = x1)) : ((x0 + (1 : Nat)) ≠ (3 : Nat)) := (Nat.ne_of_lt (Nat.lt_of_le_of_lt (Nat.le_of_eq h2) h1))
theorem arc149 {x0 : Nat} {x1 : Nat} {x2 : Nat} {x3 : Nat} (h1 : ((x0 ≤ x1) ∧ ((x1 ≤ (x0 + (1 : Nat))) ∧ (x1 ≤ x3)))) (h2 : (x1 = (x0 + (1 : Nat)))) (h3 : (x2 = x3)) : (((x0 + (1 : Nat)) ≤ x1) ∧ ((x1 ≤ ((x0 + (1 : Nat)) + (1 : Nat))) ∧ (x1 ≤ x2))) := ⟨(Nat.le_of_eq h2.symm), ⟨(Nat.le_of_lt (Nat.lt_of_le_of_lt h1.2.1 (Nat.lt_succ_self _))), (Nat.le_trans h1.2.2 (Nat.le_of_eq h3.symm))⟩⟩
theorem arc150 {x0 : Nat} {x1 : Nat} {x2 : Nat} {x3 : Nat} {x4 : Nat} (h1 : ((x3 < (2 : Nat)) → ((x1 = (x0 + (1 : Nat))) ∧ ((x2 + (1 : Nat)) ≤ (x1 + x4))))) (h2 : ((x3 + (1 : Nat)) < (3 : Nat))) (h3 : ((x0 ≤ x1) ∧ ((x1 ≤ (x0 + (1 : Nat))) ∧ (x1 ≤ x2)))) : ((x0 ≤ x1) ∧ ((x1 ≤ (x0 + (1 : Nat))) ∧ (x1 ≤ (x2 + (1 : Nat))))) := ⟨h3.1, ⟨h3.2.1, (Nat.le_of_lt (Nat.lt_of_le_of_lt h3.2.2 (Nat.lt_succ_self _)))⟩⟩
theorem arc158 {x0 : Nat} {x1 : Nat} {x2 : Nat} (h1 : (x0 = (x2 + (1 : Nat)))) (h2 : ((x2 ≤ x0) ∧ ((x0 ≤ (x2 + (1 : Nat))) ∧ (x0 ≤ x1)))) (h3 : (¬ (x0 < x1))) : (¬ (x0 < x1)) := (Nat.not_lt.mpr (Nat.not_lt.mp h3))
theorem arc159 {x0 : Nat} {x1 : Nat} {x2 : Nat} (h1 : (x0 = (x2 + (1 : Nat)))) (h2 : ((x2 ≤ x0) ∧ ((x0 ≤ (x2 + (1 : Nat))) ∧ (x0 ≤ x1)))) (h3 : (¬ (x0 < x1))) : (x0 = x1) := (Nat.le_antisymm h2.2.2 (Nat.not_lt.mp h3))
theorem arc161 {x0 : Nat} (h1 : (x0 < (2 : Nat))) : ((x0 + (1 : Nat)) ≠ (3 : Nat)) := (Nat.ne_of_lt (Nat.lt_of_le_of_lt (Nat.succ_le_of_lt h1) (by decide)))
theorem arc164 {x0 : Nat} {x1 : Nat} {x2 : Nat} {x3 : Nat} (h1 : (x1 = (x3 + (1 : Nat)))) (h2 : ((x1 + x2) ≤ x0)) (h3 : (x0 ≤ (x1 + x2))) : (x0 = (x1 + x2)) := (Nat.le_antisymm h3 h2)
theorem arc165 : ((1 : Nat) ≠ (0 : Nat)) := (Nat.ne_of_gt (by decide))
theorem arc166 : ((2 : Nat) ≠ (0 : Nat)) := (Nat.ne_of_gt (by decide))
theorem arc167 : ((0 : Nat) ≠ (1 : Nat)) := (Nat.ne_of_lt (by decide))
theorem arc168 : ((2 : Nat) ≠ (1 : Nat)) := (Nat.ne_of_gt (by decide))
theorem arc169 : ((0 : Nat) ≠ (2 : Nat)) := (Nat.ne_of_lt (by decide))
theorem arc170 : ((1 : Nat) ≠ (2 : Nat)) := (Nat.ne_of_lt (by decide))
theorem arc171 {x0 : Nat} {x1 : Nat} (h1 : (x0 = x1)) : (x0 ≠ (x1 + (1 : Nat))) := (Nat.ne_of_lt (Nat.lt_of_le_of_lt (Nat.le_of_eq h1) (Nat.lt_succ_self _)))
theorem arc178 {x0 : Nat} {x1 : Nat} (h1 : ((x1 ≤ x0) ∧ (x0 ≤ (4 : Nat)))) (h2 : (x1 < x0)) : ((x0 - (x1 + (1 : Nat))) < (1000 : Nat)) := (Nat.lt_of_le_of_lt (Nat.le_trans (Nat.sub_le _ _) h1.2) (by decide))
theorem arc179 {x0 : Nat} {x1 : Nat} (h1 : ((x0 ≤ x1) ∧ (x1 ≤ (4 : Nat)))) (h2 : (¬ (x0 < x1))) : (x0 = x1) := (Nat.le_antisymm h1.1 (Nat.not_lt.mp h2))
theorem arc180 : ((4 : Nat) ≤ (4 : Nat)) := (Nat.le_refl _)
theorem arc181 {x0 : Nat} {x1 : Nat} {x2 : Nat} {x3 : Nat} {x4 : Nat} {x5 : Nat} {x6 : Nat} (h1 : ((x1 < (2 : Nat)) ∧ ((x2 = (x0 + (1 : Nat))) ∧ (((x1 + (1 : Nat)) ≠ (x1 + (1 : Nat))) → ((x3 = (x4 + (1 : Nat))) ∧ (x0 = (x3 + x5))))))) (h2 : ((x6 ≤ (4 : Nat)) ∧ ((x0 ≤ x2) ∧ (x2 ≤ (4 : Nat))))) : (x0 < (4 : Nat)) := (Nat.lt_of_lt_of_le (Nat.le_of_eq h1.2.1.symm) h2.2.2)
theorem arc182 {x0 : Nat} {x1 : Nat} {x2 : Nat} (h1 : ((x2 ≤ x0) ∧ ((x0 ≤ (x2 + (1 : Nat))) ∧ (x0 ≤ x1)))) : (x0 ≤ (x1 + (1 : Nat))) := (Nat.le_of_lt (Nat.lt_of_le_of_lt h1.2.2 (Nat.lt_succ_self _)))
theorem arc183 {x0 : Nat} {x1 : Nat} {x2 : Nat} {x3 : Nat} {x4 : Nat} {x5 : Nat} {x6 : Nat} (h1 : ((x1 < (2 : Nat)) ∧ ((x2 = (x0 + (1 : Nat))) ∧ (((x1 + (1 : Nat)) ≠ (x1 + (1 : Nat))) → ((x3 = (x4 + (1 : Nat))) ∧ (x0 = (x3 + x5))))))) (h2 : ((x6 ≤ (4 : Nat)) ∧ ((x0 ≤ x2) ∧ (x2 ≤ (4 : Nat))))) : ((x0 + (1 : Nat)) ≤ (4 : Nat)) := (Nat.le_trans (Nat.le_of_eq h1.2.1.symm) h2.2.2)
theorem arc187 {x0 : Nat} (h1 : (x0 < (3 : Nat))) : ((x0 + (1 : Nat)) ≤ (3 : Nat)) := (Nat.succ_le_of_lt h1)
theorem arc188 {x0 : Nat} (h1 : ((x0 + (1 : Nat)) ≤ (3 : Nat))) : (x0 < (3 : Nat)) := Nat.lt_of_lt_of_le (Nat.lt_succ_self _) h1
theorem arc191 {x0 : Nat} : ((x0 + (1 : Nat)) < ((x0 + (1 : Nat)) + (1 : Nat))) := (Nat.lt_succ_self _)
theorem arc192 {x0 : Nat} (h1 : (((x0 + (1 : Nat)) + (1 : Nat)) ≤ (3 : Nat))) : ((x0 + (1 : Nat)) ≤ (3 : Nat)) := Nat.le_trans (Nat.le_succ _) h1
theorem arc193 {x0 : Nat} (h1 : (((x0 + (1 : Nat)) + (1 : Nat)) ≤ (3 : Nat))) : ((x0 + (1 : Nat)) < (3 : Nat)) := Nat.lt_of_lt_of_le (Nat.lt_succ_self _) h1
theorem arc194 {x0 : Nat} (h1 : (((x0 + (1 : Nat)) + (1 : Nat)) ≤ (3 : Nat))) : ((((x0 + (1 : Nat)) : Nat) : Int) < ((2 : Int) ^ (60 : Nat))) := (Int.lt_of_lt_of_le (Int.ofNat_lt.mpr h1) (by decide))
theorem arc195 {x0 : Nat} {x1 : Nat} {x2 : Nat} {x3 : Nat} {x4 : Nat} {x5 : Nat} {x6 : Nat} (h1 : ((x2 ≤ (4 : Nat)) ∧ ((x0 ≤ x3) ∧ (x3 ≤ (4 : Nat))))) (h2 : ((x4 < (2 : Nat)) ∧ ((x3 = (x0 + (1 : Nat))) ∧ (((x4 + (1 : Nat)) ≠ (x4 + (1 : Nat))) → ((x1 = (x5 + (1 : Nat))) ∧ (x0 = (x1 + x6))))))) : ((x0 - x1) < (1000 : Nat)) := (Nat.lt_of_le_of_lt (Nat.le_trans (Nat.le_trans (Nat.sub_le _ _) h1.2.1) h1.2.2) (by decide))
theorem arc199 {x0 : Nat} {x1 : Nat} {x2 : Nat} {x3 : Nat} {x4 : Nat} {x5 : Nat} {x6 : Nat} (h1 : ((x1 ≤ (4 : Nat)) ∧ ((x0 ≤ x2) ∧ (x2 ≤ (4 : Nat))))) (h2 : ((x3 < (2 : Nat)) ∧ ((x2 = (x0 + (1 : Nat))) ∧ (((x3 + (1 : Nat)) ≠ (x3 + (1 : Nat))) → ((x4 = (x5 + (1 : Nat))) ∧ (x0 = (x4 + x6))))))) : (x0 < (4 : Nat)) := (Nat.lt_of_lt_of_le (Nat.le_of_eq h2.2.1.symm) h1.2.2)
theorem arc200 {x0 : Nat} {x1 : Nat} {x2 : Nat} {x3 : Nat} {x4 : Nat} {x5 : Nat} {x6 : Nat} (h1 : ((x1 ≤ (4 : Nat)) ∧ ((x0 ≤ x2) ∧ (x2 ≤ (4 : Nat))))) (h2 : (((x3 - (1 : Nat)) < (2 : Nat)) ∧ ((x2 = (x0 + (1 : Nat))) ∧ ((((x3 - (1 : Nat)) + (1 : Nat)) ≠ x3) → ((x4 = (x5 + (1 : Nat))) ∧ (x0 = (x4 + x6))))))) : (x0 < (4 : Nat)) := (Nat.lt_of_lt_of_le (Nat.le_of_eq h2.2.1.symm) h1.2.2)
theorem arc204 {x0 : Nat} {x1 : Nat} {x2 : Nat} {x3 : Nat} {x4 : Nat} {x5 : Nat} (h1 : (x0 < (3 : Nat))) (h2 : ((x0 < (2 : Nat)) ∧ ((x1 = (x2 + (1 : Nat))) ∧ (((x0 + (1 : Nat)) ≠ (3 : Nat)) → ((x3 = (x4 + (1 : Nat))) ∧ (x2 = (x3 + x5))))))) : ((x0 + (1 : Nat)) < (3 : Nat)) := (Nat.lt_of_le_of_lt (Nat.succ_le_of_lt h2.1) (by decide))
theorem arc207 : ((0 : Nat) ≠ (3 : Nat)) := (Nat.ne_of_lt (by decide))
theorem arc208 : ((1 : Nat) ≠ (3 : Nat)) := (Nat.ne_of_lt (by decide))
theorem arc209 : ((2 : Nat) ≠ (3 : Nat)) := (Nat.ne_of_lt (by decide))
theorem arc210 {x0 : Nat} {x1 : Nat} (h1 : (x0 = x1)) (h2 : (x1 = (4 : Nat))) : (x0 = (4 : Nat)) := (Nat.le_antisymm (Nat.le_trans (Nat.le_of_eq h1) (Nat.le_of_eq h2)) (Nat.le_trans (Nat.le_of_eq h2.symm) (Nat.le_of_eq h1.symm)))
theorem arc212 {x0 : Nat} {x1 : Nat} {x2 : Nat} (h1 : ((x1 ≤ (4 : Nat)) ∧ ((x0 ≤ x2) ∧ (x2 ≤ (4 : Nat))))) (h2 : (x2 = (x0 + (1 : Nat)))) : ((x0 + (1 : Nat)) ≤ (4 : Nat)) := (Nat.le_trans (Nat.le_of_eq h2.symm) h1.2.2)
theorem arc216 {x0 : Nat} {x1 : Nat} {x2 : Nat} (h1 : (x1 = (x0 + (1 : Nat)))) (h2 : ((x2 ≤ (4 : Nat)) ∧ ((x0 ≤ x1) ∧ (x1 ≤ (4 : Nat))))) : (x0 < (4 : Nat)) := (Nat.lt_of_lt_of_le (Nat.le_of_eq h1.symm) h2.2.2)
theorem arc220 {x0 : Nat} {x1 : Nat} {x2 : Nat} {x3 : Nat} {x4 : Nat} {x5 : Nat} (h1 : (x2 = (x0 + (1 : Nat)))) (h2 : ((x3 ≤ (4 : Nat)) ∧ ((x0 ≤ x2) ∧ (x2 ≤ (4 : Nat))))) (h3 : (x1 ≠ x4)) (h4 : ((x4 ≤ x1) ∧ ((x1 ≤ (x4 + (1 : Nat))) ∧ (x1 ≤ x5)))) : ((x0 - x1) < ((2 : Nat) ^ (40 : Nat))) := (Nat.lt_of_le_of_lt (Nat.le_trans (Nat.le_trans (Nat.sub_le _ _) h2.2.1) h2.2.2) (by decide))
theorem arc221 {x0 : Nat} (h1 : (x0 < (3 : Nat))) (h2 : (¬ (((x0 : Nat) : Int) = (2 : Int)))) : (((x0 : Nat) : Int) < ((2 : Int) ^ (60 : Nat))) := (Int.lt_of_lt_of_le (Int.ofNat_lt.mpr h1) (by decide))
theorem arc223 {x0 : Nat} {x1 : Nat} {x2 : Nat} {x3 : Nat} {x4 : Nat} {x5 : Nat} (h1 : (x2 = (x0 + (1 : Nat)))) (h2 : ((x3 ≤ (4 : Nat)) ∧ ((x0 ≤ x2) ∧ (x2 ≤ (4 : Nat))))) (h3 : (x1 ≠ x4)) (h4 : ((x4 ≤ x1) ∧ ((x1 ≤ (x4 + (1 : Nat))) ∧ (x1 ≤ x5)))) : ((x0 - x1) < (1000 : Nat)) := (Nat.lt_of_le_of_lt (Nat.le_trans (Nat.le_trans (Nat.sub_le _ _) h2.2.1) h2.2.2) (by decide))
theorem arc226 {x0 : Nat} {x1 : Nat} {x2 : Nat} {x3 : Nat} (h1 : ((x2 ≤ x0) ∧ ((x0 ≤ (x2 + (1 : Nat))) ∧ (x0 ≤ x3)))) (h2 : (x3 = x1)) : (x0 ≤ x1) := (Nat.le_trans h1.2.2 (Nat.le_of_eq h2))
theorem arc228 {x0 : Nat} {x1 : Nat} (h1 : (x0 < x1)) : (¬ (x0 = x1)) := Nat.ne_of_lt h1
theorem arc229 {x0 : Nat} {x1 : Nat} {x2 : Nat} {x3 : Nat} (h1 : (x0 ≤ x2)) (h2 : (x2 ≤ x3)) (h3 : (x3 ≤ x1)) : (x0 ≤ x1) := (Nat.le_trans (Nat.le_trans h1 h2) h3)
theorem arc230 {x0 : Nat} {x1 : Nat} {x2 : Nat} {x3 : Nat} {x4 : Nat} {x5 : Nat} (h1 : (x0 < x2)) (h2 : (x2 < x3)) (h3 : (x3 < x4)) (h4 : (x4 < x5)) (h5 : (x5 ≤ x1)) : (x0 ≠ x1) := (Nat.ne_of_lt (Nat.lt_of_lt_of_le (Nat.lt_trans (Nat.lt_trans (Nat.lt_trans h1 h2) h3) h4) h5))
theorem arc232 {x0 : Nat} {x1 : Nat} {x2 : Nat} {x3 : Nat} {x4 : Nat} (h1 : (x2 ≤ x3)) (h2 : ((x3 + (1 : Nat)) ≤ x4)) (h3 : ((x4 + (1 : Nat)) ≤ x1)) (h4 : (x0 < x2)) : (x0 ≠ x1) := (Nat.ne_of_lt (Nat.lt_trans (Nat.lt_trans (Nat.lt_of_lt_of_le h4 h1) h2) h3))
theorem arc233 {x0 : Nat} {x1 : Nat} {x2 : Nat} (h1 : (x1 < x2)) (h2 : (x2 < x0)) : (x0 ≠ x1) := (Nat.ne_of_gt (Nat.lt_trans h1 h2))
theorem arc234 {x0 : Nat} {x1 : Nat} {x2 : Nat} {x3 : Nat} (h1 : (x1 < x2)) (h2 : (x2 < x3)) (h3 : (x3 < x0)) : (x0 ≠ x1) := (Nat.ne_of_gt (Nat.lt_trans (Nat.lt_trans h1 h2) h3))
theorem arc235 {x0 : Nat} {x1 : Nat} {x2 : Nat} (h1 : (x0 < x2)) (h2 : (x2 ≤ x1)) : (x0 < x1) := (Nat.lt_of_lt_of_le h1 h2)
theorem arc236 {x0 : Nat} {x1 : Nat} {x2 : Nat} {x3 : Nat} {x4 : Nat} {x5 : Nat} {x6 : Nat} {x7 : Nat} (h1 : (x0 < x2)) (h2 : (x2 < x3)) (h3 : (x3 < x4)) (h4 : (x4 < x5)) (h5 : (x5 ≤ x6)) (h6 : ((x6 + (1 : Nat)) ≤ x7)) (h7 : ((x7 + (1 : Nat)) ≤ x1)) : (x0 ≠ x1) := (Nat.ne_of_lt (Nat.lt_trans (Nat.lt_trans (Nat.lt_of_lt_of_le (Nat.lt_trans (Nat.lt_trans (Nat.lt_trans h1 h2) h3) h4) h5) h6) h7))
theorem arc238 {x0 : Nat} {x1 : Nat} {x2 : Nat} {x3 : Nat} (h1 : (x0 ≤ x2)) (h2 : ((x2 + (1 : Nat)) ≤ x3)) (h3 : ((x3 + (1 : Nat)) ≤ x1)) : (x0 ≤ (x1 + (1 : Nat))) := (Nat.le_of_lt (Nat.lt_trans (Nat.lt_trans (Nat.lt_of_le_of_lt h1 h2) h3) (Nat.lt_succ_self _)))
theorem arc239 {x0 : Nat} {x1 : Nat} {x2 : Nat} {x3 : Nat} {x4 : Nat} {x5 : Nat} {x6 : Nat} {x7 : Nat} {x8 : Nat} (h1 : (x2 ≤ x1)) (h2 : ((x3 ≤ x4) ∧ (x4 < x5))) (h3 : ((x5 ≤ x6) ∧ (x6 < x7))) (h4 : ((x7 ≤ x8) ∧ (x8 < x2))) (h5 : (x0 < x3)) : (x0 ≠ x1) := (Nat.ne_of_lt (Nat.lt_of_lt_of_le (Nat.lt_trans (Nat.lt_of_lt_of_le (Nat.lt_trans (Nat.lt_of_lt_of_le (Nat.lt_trans (Nat.lt_of_lt_of_le h5 h2.1) h2.2) h3.1) h3.2) h4.1) h4.2) h1))
theorem arc240 {x0 : Nat} {x1 : Nat} {x2 : Nat} {x3 : Nat} (h1 : (x2 ≤ x3)) (h2 : (x3 ≤ x1)) (h3 : (x0 < x2)) : (x0 ≠ x1) := (Nat.ne_of_lt (Nat.lt_of_lt_of_le (Nat.lt_of_lt_of_le h3 h1) h2))
theorem arc241 {x0 : Nat} {x1 : Nat} {x2 : Nat} {x3 : Nat} {x4 : Nat} {x5 : Nat} {x6 : Nat} (h1 : (x2 ≤ x3)) (h2 : (x3 ≤ x4)) (h3 : ((x4 + (1 : Nat)) ≤ x5)) (h4 : ((x5 + (1 : Nat)) ≤ x6)) (h5 : ((x6 + (1 : Nat)) ≤ x1)) (h6 : (x0 < x2)) : (x0 ≠ x1) := (Nat.ne_of_lt (Nat.lt_trans (Nat.lt_trans (Nat.lt_trans (Nat.lt_of_lt_of_le (Nat.lt_of_lt_of_le h6 h1) h2) h3) h4) h5))
theorem arc242 {x0 : Nat} {x1 : Nat} {x2 : Nat} {x3 : Nat} {x4 : Nat} {x5 : Nat} (h1 : (x2 ≤ x3)) (h2 : (x3 ≤ x4)) (h3 : ((x4 + (1 : Nat)) ≤ x5)) (h4 : ((x5 + (1 : Nat)) ≤ x1)) (h5 : (x0 < x2)) : (x0 ≠ x1) := (Nat.ne_of_lt (Nat.lt_trans (Nat.lt_trans (Nat.lt_of_lt_of_le (Nat.lt_of_lt_of_le h5 h1) h2) h3) h4))
theorem arc244 {x0 : Nat} {x1 : Nat} {x2 : Nat} {x3 : Nat} {x4 : Nat} (h1 : ((x1 + (1 : Nat)) ≤ x2)) (h2 : ((x2 + (1 : Nat)) ≤ x3)) (h3 : ((x3 + (1 : Nat)) ≤ x4)) (h4 : ((x4 + (1 : Nat)) ≤ x0)) : (x0 ≠ x1) := (Nat.ne_of_gt (Nat.lt_trans (Nat.lt_trans (Nat.lt_trans h1 h2) h3) h4))
theorem arc245 {x0 : Nat} {x1 : Nat} {x2 : Nat} {x3 : Nat} {x4 : Nat} {x5 : Nat} {x6 : Nat} (h1 : (x0 ≤ x2)) (h2 : (x2 ≤ x3)) (h3 : ((x3 + (1 : Nat)) ≤ x4)) (h4 : ((x4 + (1 : Nat)) ≤ x5)) (h5 : ((x5 + (1 : Nat)) ≤ x6)) (h6 : ((x6 + (1 : Nat)) ≤ x1)) : (x0 ≤ x1) := (Nat.le_of_lt (Nat.lt_trans (Nat.lt_trans (Nat.lt_trans (Nat.lt_of_le_of_lt (Nat.le_trans h1 h2) h3) h4) h5) h6))
theorem arc248 {x0 : Nat} (h1 : (x0 = (12 : Nat))) : ((11 : Nat) < x0) := (Nat.lt_of_lt_of_le (by decide) (Nat.le_of_eq h1.symm))
theorem arc250 {x0 : Nat} (h1 : ((114 : Nat) < x0)) : ((x0 + (2 : Nat)) ≠ (114 : Nat)) := (Nat.ne_of_gt (Nat.lt_trans h1 (Nat.lt_add_of_pos_right (by decide))))
theorem arc251 {x0 : Nat} (h1 : ((114 : Nat) < x0)) : ((x0 + (4 : Nat)) ≠ (114 : Nat)) := (Nat.ne_of_gt (Nat.lt_trans h1 (Nat.lt_add_of_pos_right (by decide))))
end
noncomputable section
section
variable {B : Cx} {d : Nat} {σ : Store} {N : Nat}
/- a str of these signs -/
noncomputable def st (l : List Nat) : Str := ⟨l.toArray⟩
theorem st_app (a b : List Nat) : st a ++ st b = st (a ++ b) := by show Str.mk (a.toArray ++ b.toArray) = _; unfold st; rw [List.append_toArray]
theorem st_len (a : List Nat) : (st a).length = a.length := rfl
noncomputable def gl (g : List Nat) : List (List Nat) → List Nat
  | [] => []
  | x :: xs => x ++ xs.flatMap (g ++ ·)
theorem take_snoc (l : List Nat) {i : Nat} (h : i < l.length) : l.take (i + 1) = l.take i ++ [l.getD i 0] := by
  rw [List.take_add_one, List.getElem?_eq_getElem h, List.getD_eq_getElem?_getD, List.getElem?_eq_getElem h]; rfl
theorem sum_len (k : Nat) (l : List (List Nat)) (h : ∀ x ∈ l, x.length = k) : ((l.map st).map (·.length)).sum = l.length * k := by
  induction l with
  | nil => simp
  | cons x l ih =>
    rw [List.map_cons, List.map_cons, List.sum_cons, ih fun y hy => h y (.tail _ hy), st_len, h x (.head _), List.length_cons, Nat.succ_mul, Nat.add_comm]
theorem join_st (g : List Nat) (xs : List (List Nat)) : Txt.join (st g) (xs.map st) = st (gl g xs) := by
  have go : ∀ (ys : List (List Nat)) (acc : List Nat), (ys.map st).foldl (fun (acc : Array Nat) (p : Str) => acc ++ (st g).cps ++ p.cps) acc.toArray = (acc ++ ys.flatMap (g ++ ·)).toArray := by
    intro ys
    induction ys with
    | nil => intro acc; simp
    | cons y ys ih =>
      intro acc
      have := ih (acc ++ g ++ y)
      rw [List.map_cons, List.foldl_cons, List.flatMap_cons, ← List.append_assoc, ← List.append_assoc, ← this]
      simp [st]
  cases xs with
  | nil => rfl
  | cons x xs => exact congrArg Str.mk (go xs x)
theorem sign_st (l : List Nat) (i : Nat) : sign (st l) i = st [l.getD i 0] := by unfold sign st; simp [Array.getD_eq_getD_getElem?, List.getD_eq_getElem?_getD]
theorem s0 : ("" : Str) = st [] := by kernel_rfl
theorem s34 : ("\"" : Str) = st [34] := by kernel_rfl
theorem s92 : ("\\" : Str) = st [92] := by kernel_rfl
theorem st_inj {a b : List Nat} : st a = st b ↔ a = b := ⟨fun h => by have := congrArg (fun x : Str => x.cps.toList) h; exact this, fun h => by rw [h]⟩
noncomputable def wr (l : List Nat) (q : Int) : List Nat := if q = 1 then 34 :: (l ++ [34]) else gl [] (l.map fun c => [92, c])
theorem written_ok (b : Base B) {w : List Nat} {q : Int} (hw : w.length ≤ 1000) {Q : Post V} (h : ∀ N', N ≤ N' → Q (.str (st (wr w q))) σ N') : WC B (d + 1) (.ref 124) [.str (st w), .int q] σ N Q := by
  refine C_fun b.tabOk (names := ["word", "quoted"]) (b.fn rfl) (b.code rfl rfl) b.lim rfl (fun s as hl => ?_) (by decide) (by decide) ⟨rfl, rfl, rfl, rfl, rfl⟩ (fun L hL hσL hab => ?_)
  · obtain ⟨x, y, rfl⟩ := len2 hl
    exact .of_eq rfl
  refine .plain ⟨fun hq => ?_, fun hq => ?_⟩
  · have hq : q = 1 := of_decide_eq_true hq
    unfold wr at h
    rw [if_pos hq] at h
    refine ⟨?_, ?_, _, _, .refl, ?_⟩
    · rw [s34, st_len, st_len, sizeLine_eq, List.length_singleton]; lia
    · rw [s34, st_app, st_len, st_len, sizeLine_eq]; simp; exact arc77 hw
    · rw [s34, st_app, st_app]
      exact h N (Nat.le_refl _)
  · have hq : q ≠ 1 := of_decide_eq_false hq
    unfold wr at h
    rw [if_neg hq] at h
    refine VMeth.builtin (.str _) rfl (VComp.list iter_str (fun _ _ => trivial) (fun i => ((w.take i).map fun c => [92, c]).map fun x => V.str (st x)) rfl (fun a C i N' hi hN => ?_) (fun N' hN => ?_))
    · have hi : i < w.length := hi
      refine .pos rfl ⟨by simp; exact ar306 hw hi, (by show 2 ≤ sizeLine; decide), ?_, rfl⟩
      rw [sign_st, s92, st_app, take_snoc w hi, List.map_append, List.map_append]
      rfl
    · refine bJoin (ss := (w.map fun c => [92, c]).map st) (?_ : ListV _ (V.lst _) _) ?_ ?_
      · have : ((w.take (st w).cps.size).map fun c => [92, c]).map (fun x => V.str (st x)) = ((w.map fun c => [92, c]).map st).map V.str := by
          rw [show (st w).cps.size = w.length from rfl, List.take_length]; simp
        rw [this]; exact .lst _
      · rw [show ("" : Str).length = 0 from rfl, Nat.mul_zero, Nat.add_zero, sum_len 2 _ (fun x hx => by obtain ⟨c, _, rfl⟩ := List.mem_map.mp hx; rfl), List.length_map]
        exact ar307 hw
      · rw [s0, join_st]
        exact ⟨_, _, .refl, h N' hN⟩
end
end
noncomputable section
section
variable {B : Cx} {d : Nat} {σ : Store} {N : Nat}
theorem lpick_map {α : Type} (f : α → V) (l : List α) (lo hi st : Option Int) : ∃ m : List α, lpick (l.map f) lo hi st = m.map f := by
  refine ⟨(sliceRange (sliceBounds lo hi st l.length).1 (sliceBounds lo hi st l.length).2.1 (sliceBounds lo hi st l.length).2.2).filterMap (l[·]?), ?_⟩
  unfold lpick
  rw [List.length_map, List.map_filterMap]
  congr 1
  funext i
  rw [List.getElem?_map]
theorem numbers_ok (b : Base B) {o : Obj} {ns : List Int} (ho : Scr o ns) (hz : ns.length ≤ sizeLine) {Q : Post V} (h : ∀ (N' : Nat) (ms : List Int), N ≤ N' → ms.length = 6 → Q (.lst (ms.map V.int)) σ N') : WC B (d + 1) (.ref 131) [.imm o] σ N Q := by
  refine C_fun b.tabOk (names := ["script"]) (b.fn rfl) (b.code rfl rfl) b.lim rfl (fun s as hl => ?_) (by decide) (by decide) ⟨rfl, rfl, rfl, rfl, rfl⟩ (fun L hL hσL hab => ?_)
  · obtain ⟨x, rfl⟩ := len1 hl
    exact .of_eq rfl
  refine .mut (by decide) fun a ha => ?_
  refine bRange fun t u v => ?_
  refine .items (iter_range (n := 6) (by decide)) (fun i l σ' N' => ∃ ms : List Int, l = ([("script", .imm o), ("numbers", .ref a)] : Loc) ∧ σ' = pt (σ.add L) a (.list (ms.map V.int)) ∧ ms.length = i) [("script", .imm o), ("numbers", .ref a)] (.cons rfl (.cons rfl (.nil _))) ⟨[], rfl, rfl, rfl⟩ (fun _ _ _ _ _ _ => trivial) ?_ ?_
  · rintro i l σ' N' hi ⟨ms, rfl, rfl, hm⟩ hN
    refine VMeth.builtin (.list (.ref (pt_same _ _ _))) rfl ?_
    refine .froz (by decide) fun N₁ _ => ?_
    obtain ⟨c, hc⟩ : ∃ c : Int, ([25, 336, 471, 679, 3, 1].map V.int)[((i : Nat) : Int).toNat]? = some (.int c) := by
      rw [show ((i : Nat) : Int).toNat = i from rfl, List.getElem?_map]
      exact ⟨_, by rw [List.getElem?_eq_getElem (by exact hi)]; rfl⟩
    refine iLst (v := .int c) (by exact ar0) (by exact arc78 hi) hc ?_
    obtain ⟨qs, hq⟩ := lpick_map V.int ns (some (i : Int)) none (some 6)
    refine sScr ho (by decide) hz ?_
    rw [hq]
    refine bSum (.lst _) ?_
    refine bAppend .refl (pt_same _ _ _) (by simp; exact arc79 hi hm) ?_
    rw [pt_pt]
    refine ⟨_, .cons rfl (.cons rfl (.nil _)), ms ++ [c + qs.sum], rfl, ?_, by simp; exact ar81 hm⟩
    rw [List.map_append]; rfl
  · rintro l σ' N' ⟨ms, rfl, rfl, hm⟩ hN
    exact ⟨σ.add L, _, .list (pt_same _ _ _) (sub_pt (.refl _) (hab a ha)) (hab a ha), h N' ms (by exact ar3 ha hN) hm⟩
end
end
noncomputable section
/- dicts of ints, seen plainly -/
noncomputable def gget {α : Type} (es : List (Kx × α)) (k : Kx) : Option α := (es.find? fun kv => kv.1 = k).map (·.2)
noncomputable def gset {α : Type} (es : List (Kx × α)) (k : Kx) (v : α) : List (Kx × α) := if es.any (fun kv => kv.1 = k) then es.map (fun kv => if kv.1 = k then (kv.1, v) else kv) else es ++ [(k, v)]
noncomputable def vm {α : Type} (f : α → V) (es : List (Kx × α)) : Dk := es.map fun p => (p.1, f p.2)
section
variable {α : Type} {f : α → V}
theorem dget_vm (es : List (Kx × α)) (k : Kx) : dget (vm f es) k = (gget es k).map f := by
  unfold dget gget vm
  rw [List.find?_map]
  show ((es.find? fun p => decide (p.1 = k)).map fun p => (p.1, f p.2)).map (·.2) = _
  rw [Option.map_map, Option.map_map]
  rfl
theorem dset_vm (es : List (Kx × α)) (k : Kx) (v : α) : dset (vm f es) k (f v) = vm f (gset es k v) := by
  unfold dset gset vm
  rw [List.any_map]
  show (if es.any (fun p => decide (p.1 = k)) = true then _ else _) = _
  split
  · rw [List.map_map, List.map_map]
    refine List.map_congr_left fun p _ => ?_
    show (if p.1 = k then (p.1, f v) else (p.1, f p.2)) = _
    show _ = ((if p.1 = k then (p.1, v) else p).1, f (if p.1 = k then (p.1, v) else p).2)
    split <;> rfl
  · rw [List.map_append]; rfl
theorem gset_len (es : List (Kx × α)) (k : Kx) (v : α) : (gset es k v).length ≤ es.length + 1 := by
  unfold gset
  split
  · rw [List.length_map]; exact Nat.le_succ _
  · rw [List.length_append]; exact Nat.le_refl _
theorem vm_len (es : List (Kx × α)) : (vm f es).length = es.length := List.length_map _
theorem vm_getD {es : List (Kx × α)} {i : Nat} (hi : i < es.length) (d : Kx × V) : (vm f es).getD i d = (es[i].1, f es[i].2) := by
  unfold vm; rw [List.getD_eq_getElem?_getD, List.getElem?_map, List.getElem?_eq_getElem hi]; rfl
end
noncomputable def copied (es : List (Kx × Int)) : List (Kx × Int) := es.foldl (fun acc p => gset acc p.1 p.2) []
noncomputable def addTo (acc : List (Kx × Int)) (p : Kx × Int) : List (Kx × Int) := gset acc p.1 (match gget acc p.1 with | some x => x + p.2 | none => p.2)
noncomputable def addc (es fs : List (Kx × Int)) : List (Kx × Int) := fs.foldl addTo (copied es)
theorem fold_len {β : Type} (g : List (Kx × Int) → β → List (Kx × Int)) (h : ∀ a b, (g a b).length ≤ a.length + 1) : ∀ (l : List β) (acc : List (Kx × Int)), (l.foldl g acc).length ≤ acc.length + l.length
  | [], _ => Nat.le_refl _
  | b :: l, acc => by have := fold_len g h l (g acc b); have := h acc b; rw [List.foldl_cons, List.length_cons]; lia
theorem take_fold {β γ : Type} (g : γ → β → γ) (l : List β) (acc : γ) {i : Nat} (h : i < l.length) : (l.take (i + 1)).foldl g acc = g ((l.take i).foldl g acc) l[i] := by
  rw [List.take_add_one, List.getElem?_eq_getElem h, List.foldl_append]; rfl
section
variable {B : Cx} {d : Nat} {σ : Store} {N : Nat}
theorem vIn_k {k : Kx} {a : Nat} {Q : Post V} {p : Prop} (h : p) : vCmp .In k.v (.ref a) σ N Q p := by cases k <;> exact h
theorem std_ok (b : Base B) {a c : Str} {n : Nat} (ha : a.length ≤ 1000) (hc : c.length ≤ 1000) (hn : n < 1000) (hne : a ≠ "~") {Q : Post V} (h : ∀ N', N ≤ N' → Q (.str (a ++ ⟨#[58]⟩ ++ Str.ofString (toString (n : Int)) ++ ⟨#[40]⟩ ++ c ++ ⟨#[41]⟩)) σ N') : WC B (d + 1) (.ref 91) [.tup [.str a, .int n, .str c]] σ N Q := by
  refine C_fun b.tabOk (names := ["func_name"]) (b.fn rfl) (b.code rfl rfl) b.lim rfl (fun s as hl => ?_) (by decide) (by decide) ⟨rfl, rfl, rfl, rfl, rfl⟩ (fun L hL hσL hab => ?_)
  · obtain ⟨x, rfl⟩ := len1 hl
    exact .of_eq rfl
  refine .plain (sTup2 ⟨_, _, .refl, (by show 2 ≤ sizeLine; decide), ?_⟩)
  have hb : (eqS (.str a) (.str "~") && (eqS (.int n) (.int 0) && true)) = false := by
    rw [show eqS (.str a) (.str "~") = decide (a = "~") from rfl, decide_eq_false hne]; rfl
  refine nEqT (.cons (.str _ _) (.cons (.int _ _) .nil)) ?_
  rw [hb]
  refine .neg rfl ?_
  exact nFmt (by exact ar86 ha) (by exact ar86 hc) (by exact ar336 hn) (by exact ar0) ⟨_, _, .refl, h N (Nat.le_refl _)⟩
theorem add_callers_ok (b : Base B) {es fs : List (Kx × Int)} (hz : es.length + fs.length < 2 ^ 19) {Q : Post V} (h : ∀ N', N ≤ N' → Q (.dct (vm V.int (addc es fs))) σ N') : WC B (d + 1) (.ref 105) [.dct (vm V.int es), .dct (vm V.int fs)] σ N Q := by
  refine C_fun b.tabOk (names := ["target", "source"]) (b.fn rfl) (b.code rfl rfl) b.lim rfl (fun s as hl => ?_) (by decide) (by decide) ⟨rfl, rfl, rfl, rfl, rfl⟩ (fun L hL hσL hab => ?_)
  · obtain ⟨x, y, rfl⟩ := len2 hl
    exact .of_eq rfl
  have fl : ∀ i, ((es.take i).foldl (fun acc p => gset acc p.1 p.2) ([] : List (Kx × Int))).length ≤ es.length := fun i => by
    have := fold_len (fun acc (p : Kx × Int) => gset acc p.1 p.2) (fun a b => gset_len a _ _) (es.take i) []
    rw [List.length_take] at this
    simp only [List.length_nil] at this; exact ar337 this
  have gl : ∀ i, ((fs.take i).foldl addTo (copied es)).length ≤ es.length + fs.length := fun i => by
    have := fold_len addTo (fun a b => gset_len a _ _) (fs.take i) (copied es)
    rw [List.length_take] at this
    have h2 := fl es.length
    rw [List.take_length] at h2
    unfold copied at *; exact ar338 this h2
  intro a ha
  refine .mut fun ep => ?_
  refine VMeth.builtin (.dict (.dct _)) rfl (bItems ?_)
  refine .items (iter_items (.view _)) (fun i l σ' N' => ∃ ep, l = ([("target", .dct (vm V.int es)), ("source", .dct (vm V.int fs)), ("new_callers", .ref a)] : Loc) ∧ σ' = pt (σ.add L) a (.dict (vm V.int ((es.take i).foldl (fun acc p => gset acc p.1 p.2) [])) ep)) [("target", .dct (vm V.int es)), ("source", .dct (vm V.int fs)), ("new_callers", .ref a)] (.cons rfl (.cons rfl (.cons rfl (.nil _)))) ⟨ep, rfl, rfl⟩ (fun _ _ _ _ _ _ => trivial) ?_ ?_
  · rintro i l σ' N' hi ⟨ep, rfl, rfl⟩ hN
    rw [vm_len] at hi
    rw [vm_getD hi]
    have e := take_fold (fun (acc : List (Kx × Int)) (p : Kx × Int) => gset acc p.1 p.2) es [] hi
    refine pDict (pt_same _ _ _) (by rw [vm_len]; have := fl i; exact ar339 hz this) fun ep' => ?_
    rw [pt_pt, dset_vm]
    exact ⟨_, .cons rfl (.cons rfl (.cons rfl (.nil _))), ep', rfl, by rw [e]⟩
  · rintro l σ' N' ⟨ep, rfl, rfl⟩ hN
    rw [vm_len, List.take_length]
    refine VMeth.builtin (.dict (.dct _)) rfl (bItems ?_)
    refine .items (iter_items (.view _)) (fun i l σ' N' => ∃ ep, l = ([("target", .dct (vm V.int es)), ("source", .dct (vm V.int fs)), ("new_callers", .ref a)] : Loc) ∧ σ' = pt (σ.add L) a (.dict (vm V.int ((fs.take i).foldl addTo (copied es))) ep)) [("target", .dct (vm V.int es)), ("source", .dct (vm V.int fs)), ("new_callers", .ref a)] (.cons rfl (.cons rfl (.cons rfl (.nil _)))) ⟨ep, rfl, rfl⟩ (fun _ _ _ _ _ _ => trivial) ?_ ?_
    · rintro i l σ' N₂ hi ⟨ep, rfl, rfl⟩ hN₂
      rw [vm_len] at hi
      rw [vm_getD hi]
      have e := take_fold addTo fs (copied es) hi
      have hl := gl i
      generalize hacc : (fs.take i).foldl addTo (copied es) = acc at *
      refine .plain ?_
      refine vIn_k (nInD (.ref (pt_same _ _ _)) ?_)
      rw [dget_vm]
      cases hg : gget acc fs[i].1 with
      | some x =>
        refine .pos rfl (.plain (bIsTup (.neg rfl ?_)))
        refine ⟨D_get (v := .int x) (.ref (pt_same _ _ _)) (by rw [dget_vm, hg]; rfl) ?_⟩
        refine pDict (v := .int (x + fs[i].2)) (pt_same _ _ _) (by rw [vm_len]; exact ar87 hz hl) fun ep' => ?_
        rw [pt_pt, dset_vm]
        exact ⟨_, .cons rfl (.cons rfl (.cons rfl (.nil _))), ep', rfl, by rw [e]; unfold addTo; rw [hg]⟩
      | none =>
        refine .neg rfl ?_
        refine pDict (pt_same _ _ _) (by rw [vm_len]; exact ar87 hz hl) fun ep' => ?_
        rw [pt_pt, dset_vm]
        exact ⟨_, .cons rfl (.cons rfl (.cons rfl (.nil _))), ep', rfl, by rw [e]; unfold addTo; rw [hg]⟩
    · rintro l σ' N₂ ⟨ep, rfl, rfl⟩ hN₂
      rw [vm_len, List.take_length]
      exact ⟨σ.add L, _, .dict (pt_same _ _ _) (sub_pt (.refl _) (hab a (by exact ar2 ha))) (hab a (by exact ar2 ha)), h N₂ (by exact ar340 ha hN hN₂)⟩
noncomputable def stat (a b c e : Int) (es : List (Kx × Int)) : V := .tup [.int a, .int b, .int c, .int e, .dct (vm V.int es)]
theorem add_stats_ok (b : Base B) {a1 a2 a3 a4 b1 b2 b3 b4 : Int} {es fs : List (Kx × Int)} (hz : es.length + fs.length < 2 ^ 19) {Q : Post V} (h : ∀ N', N ≤ N' → Q (stat (b1 + a1) (b2 + a2) (b3 + a3) (b4 + a4) (addc es fs)) σ N') :
    WC B (d + 2) (.ref 98) [stat a1 a2 a3 a4 es, stat b1 b2 b3 b4 fs] σ N Q := by
  refine C_fun b.tabOk (names := ["target", "source"]) (b.fn rfl) (b.code rfl rfl) b.lim rfl (fun s as hl => ?_) (by decide) (by decide) ⟨rfl, rfl, rfl, rfl, rfl⟩ (fun L hL hσL hab => ?_)
  · obtain ⟨x, y, rfl⟩ := len2 hl
    exact .of_eq rfl
  refine ⟨?_⟩
  refine add_callers_ok b hz fun N' hN' => ?_
  exact ⟨_, _, .refl, (by show 5 ≤ sizeLine; decide), _, _, .refl, h N' hN'⟩
theorem count_ok' (b : Base B) {es : List (Kx × Int)} {Q : Post V} (h : ∀ N', N ≤ N' → Q (.int (es.map (·.2)).sum) σ N') : WC B (d + 1) (.ref 112) [.dct (vm V.int es)] σ N Q := by
  refine C_fun b.tabOk (names := ["callers"]) (b.fn rfl) (b.code rfl rfl) b.lim rfl (fun s as hl => ?_) (by decide) (by decide) ⟨rfl, rfl, rfl, rfl, rfl⟩ (fun L hL hσL hab => ?_)
  · obtain ⟨x, rfl⟩ := len1 hl
    exact .of_eq rfl
  refine VMeth.builtin (.dict (.dct _)) rfl (bValues ?_)
  refine .items (iter_values (.view _)) (fun i l σ' N' => l = ([("callers", .dct (vm V.int es)), ("nc", .int ((es.take i).map (·.2)).sum)] : Loc) ∧ σ' = σ.add L) [("callers", .dct (vm V.int es)), ("nc", .int 0)] (.cons rfl (.cons rfl (.nil _))) ⟨rfl, rfl⟩ (fun _ _ _ _ _ _ => trivial) ?_ ?_
  · rintro i l σ' N' hi ⟨rfl, rfl⟩ hN
    rw [vm_len] at hi
    rw [vm_getD hi]
    refine ⟨_, .cons rfl (.cons ?_ (.nil _)), rfl, rfl⟩
    rw [List.take_add_one, List.getElem?_eq_getElem hi, List.map_append, List.sum_append]
    show some (V.int _) = some (V.int _)
    simp
  · rintro l σ' N' ⟨rfl, rfl⟩ hN
    rw [vm_len, List.take_length]
    exact ⟨_, _, .refl, h N' hN⟩
end
end
noncomputable section
/- the jobs' names -/
section
variable {B : Cx} {d : Nat} {σ : Store} {N : Nat}
theorem tilde_ok (b : Base B) {x : Str} (hx : x.length ≤ 1000) (h1 : Txt.startswith x "<" = true) (h2 : Txt.endswith x ">" = true) {Q : Post V} (h : ∀ N', N ≤ N' → Q (.str (⟨#[123]⟩ ++ Txt.slice x (some 1) (some (-1)) ++ ⟨#[125]⟩)) σ N') : WC B (d + 1) (.ref 91) [.tup [.str "~", .int 0, .str x]] σ N Q := by
  refine C_fun b.tabOk (names := ["func_name"]) (b.fn rfl) (b.code rfl rfl) b.lim rfl (fun s as hl => ?_) (by decide) (by decide) ⟨rfl, rfl, rfl, rfl, rfl⟩ (fun L hL hσL hab => ?_)
  · obtain ⟨x, rfl⟩ := len1 hl
    exact .of_eq rfl
  refine .plain (sTup2 ⟨_, _, .refl, (by show 2 ≤ sizeLine; decide), ?_⟩)
  refine nEqT (.cons (.str _ _) (.cons (.int _ _) .nil)) ?_
  refine .pos (by show (decide (("~" : Str) = "~") && (decide ((0 : Int) = 0) && true)) = true; decide) ?_
  refine iTup (v := .str x) (by decide) (by decide) rfl ?_
  refine .plain (VMeth.builtin (.str _) rfl (bStarts ?_))
  rw [h1]
  refine .pos rfl (VMeth.builtin (.str _) rfl (bEnds ?_))
  rw [h2]
  refine .pos rfl (sStr (by rw [sizeLine_eq]; exact Nat.le_trans hx (by decide)) ?_)
  refine nBrace (Nat.le_trans (Txt.slice_le x _ _) (Nat.le_trans hx (by decide))) ?_
  exact ⟨_, _, .refl, h N (Nat.le_refl _)⟩
noncomputable def namesV : List V := [.str "{a}", .str "b:1()", .str "{c}", .str "d:3()"]
theorem names_ok (b : Base B) {Q : Post V} (h : ∀ N', N ≤ N' → Q (.lst namesV) σ N') : WC B (d + 2) (.ref 138) [] σ N Q := by
  refine C_fun b.tabOk (names := []) (b.fn rfl) (b.code rfl rfl) b.lim rfl (fun s as hl => ?_) (by decide) (by decide) ⟨rfl, rfl, rfl, rfl, rfl⟩ (fun L hL hσL hab => ?_)
  · cases as with
    | nil => exact .of_eq rfl
    | cons => cases hl
  refine .mut (by decide) fun a ha => ?_
  refine bRange fun t u v => ?_
  refine .items (iter_range (n := 4) (by decide)) (fun i l σ' N' => l = ([("names", .ref a)] : Loc) ∧ σ' = pt (σ.add L) a (.list (namesV.take i))) [("names", .ref a)] (.cons rfl (.nil _)) ⟨rfl, rfl⟩ (fun _ _ _ _ _ _ => trivial) ?_ ?_
  · rintro i l σ' N' hi ⟨rfl, rfl⟩ hN
    have hz : (namesV.take i).length < 2 ^ 20 := Nat.lt_of_le_of_lt (List.length_take_le _ _) (by have : namesV.length = 4 := rfl; exact arc10 hi)
    have fin : ∀ {l' : Loc} {x : V}, l'.lookup ("names" : Str) = some (.ref a) → namesV.take i ++ [x] = namesV.take (i + 1) → ∃ l'' : Loc, LSub l'' l' ∧ (l'' = ([("names", .ref a)] : Loc) ∧ pt (pt (σ.add L) a (.list (namesV.take i))) a (.list (namesV.take i ++ [x])) = pt (σ.add L) a (.list (namesV.take (i + 1)))) := fun {l' x} h e => ⟨_, .cons h (.nil _), rfl, by rw [pt_pt, e]⟩
    have odd : ∀ {x : Str} {n : Nat} {Q : Post V} {σ : Store} {N : Nat}, x.length ≤ 1000 → n < 1000 → x ≠ "~" → (∀ N', N ≤ N' → Q (.str (x ++ ⟨#[58]⟩ ++ Str.ofString (toString (n : Int)) ++ ⟨#[40]⟩ ++ "" ++ ⟨#[41]⟩)) σ N') → WC B (d + 1) (.ref 91) [.tup [.str x, .int n, .str ""]] σ N Q := fun h1 h2 h3 h => std_ok b h1 (by decide) h2 h3 h
    rcases (by exact arc1 hi : i = 0 ∨ i = 1 ∨ i = 2 ∨ i = 3) with rfl | rfl | rfl | rfl
    · refine iStr (c := 97) (by decide) (by decide) (by kernel_rfl) (.plain ⟨by decide, .pos rfl ?_⟩)
      refine VMeth.builtin (.list (.ref (pt_same _ _ _))) rfl ⟨by show 1 + 1 ≤ sizeLine; decide, by show 2 + 1 ≤ sizeLine; decide, _, _, .refl, (by show 3 ≤ sizeLine; decide), ⟨tilde_ok b (by decide) (by kernel_rfl) (by kernel_rfl) fun N₁ h1 => ?_⟩⟩
      exact bAppend .refl (pt_same _ _ _) hz (fin rfl (by kernel_rfl))
    · refine iStr (c := 98) (by decide) (by decide) (by kernel_rfl) (.plain ⟨by decide, .neg rfl ?_⟩)
      refine VMeth.builtin (.list (.ref (pt_same _ _ _))) rfl ⟨_, _, .refl, (by show 3 ≤ sizeLine; decide), ⟨odd (n := 1) (by decide) (by decide) (by decide) fun N₁ h1 => ?_⟩⟩
      exact bAppend .refl (pt_same _ _ _) hz (fin rfl (by kernel_rfl))
    · refine iStr (c := 99) (by decide) (by decide) (by kernel_rfl) (.plain ⟨by decide, .pos rfl ?_⟩)
      refine VMeth.builtin (.list (.ref (pt_same _ _ _))) rfl ⟨by show 1 + 1 ≤ sizeLine; decide, by show 2 + 1 ≤ sizeLine; decide, _, _, .refl, (by show 3 ≤ sizeLine; decide), ⟨tilde_ok b (by decide) (by kernel_rfl) (by kernel_rfl) fun N₁ h1 => ?_⟩⟩
      exact bAppend .refl (pt_same _ _ _) hz (fin rfl (by kernel_rfl))
    · refine iStr (c := 100) (by decide) (by decide) (by kernel_rfl) (.plain ⟨by decide, .neg rfl ?_⟩)
      refine VMeth.builtin (.list (.ref (pt_same _ _ _))) rfl ⟨_, _, .refl, (by show 3 ≤ sizeLine; decide), ⟨odd (n := 3) (by decide) (by decide) (by decide) fun N₁ h1 => ?_⟩⟩
      exact bAppend .refl (pt_same _ _ _) hz (fin rfl (by kernel_rfl))
  · rintro l σ' N' ⟨rfl, rfl⟩ hN
    exact ⟨σ.add L, _, .list (pt_same _ _ _) (sub_pt (.refl _) (hab a ha)) (hab a ha), h N' (by exact ar3 ha hN)⟩
end
end
noncomputable section
/- the netrc text -/
section
variable {B : Cx} {d : Nat} {σ : Store} {N : Nat}
noncomputable def sep (n : Int) : Nat := if (n.fdiv 2).fmod 2 = 0 then 32 else 10
noncomputable def piece (p : List Nat × Int) : List Nat := wr p.1 (p.2.fmod 2) ++ [sep p.2]
noncomputable def txt (ps : List (List Nat × Int)) : List Nat := ps.flatMap piece
theorem gl_len (l : List Nat) : (gl [] (l.map fun c => [92, c])).length = 2 * l.length := by
  cases l with
  | nil => rfl
  | cons x l =>
    have : ∀ l : List Nat, ((l.map fun c => [92, c]).flatMap (([] : List Nat) ++ ·)).length = 2 * l.length := fun l => by
      induction l with
      | nil => rfl
      | cons x l ih =>
        rw [List.map_cons, List.flatMap_cons, List.length_append, ih]
        show 2 + 2 * l.length = 2 * (l.length + 1)
        exact arc34
    show ([92, x] ++ _).length = _
    rw [List.length_append, this l]
    show 2 + 2 * l.length = 2 * (l.length + 1)
    exact arc34
theorem wr_len (l : List Nat) (q : Int) : (wr l q).length ≤ 2 * l.length + 2 := by
  unfold wr
  split
  · rw [List.length_cons, List.length_append, List.length_singleton]; lia
  · rw [gl_len]; exact arc81
theorem txt_len {ps : List (List Nat × Int)} (h : ∀ p ∈ ps, p.1.length ≤ 10) : (txt ps).length ≤ 23 * ps.length := by
  induction ps with
  | nil => exact Nat.le_refl _
  | cons p ps ih =>
    have h1 := h p (.head _)
    have h2 := ih fun q hq => h q (.tail _ hq)
    have h3 := wr_len p.1 (p.2.fmod 2)
    have e : txt (p :: ps) = piece p ++ txt ps := rfl
    rw [e, List.length_append, List.length_cons]
    unfold piece
    rw [List.length_append, List.length_singleton]
    have h4 : (wr p.1 (p.2.fmod 2)).length + 1 ≤ 23 := Nat.succ_le_succ (Nat.le_trans h3 (Nat.succ_le_succ (Nat.succ_le_succ (Nat.mul_le_mul_left 2 h1))))
    rw [Nat.mul_add, Nat.add_comm]
    exact Nat.add_le_add h2 h4
theorem text_ok (b : Base B) {ps : List (List Nat × Int)} {es : Dk} (hd : ∀ p ∈ ps, dget es (.s (st p.1)) = some (.int p.2)) (hw : ∀ p ∈ ps, p.1.length ≤ 10) (hn : ps.length ≤ 100) {Q : Post V} (h : ∀ N', N ≤ N' → Q (.str (st (txt ps))) σ N') :
    WC B (d + 2) (.ref 145) [.lst (ps.map fun p => .str (st p.1)), .dct es] σ N Q := by
  refine C_fun b.tabOk (names := ["words", "ways"]) (b.fn rfl) (b.code rfl rfl) b.lim rfl (fun s as hl => ?_) (by decide) (by decide) ⟨rfl, rfl, rfl, rfl, rfl⟩ (fun L hL hσL hab => ?_)
  · obtain ⟨x, y, rfl⟩ := len2 hl
    exact .of_eq rfl
  refine .items (iter_list (.lst _)) (fun i l σ' N' => l = ([("words", .lst (ps.map fun p => .str (st p.1))), ("ways", .dct es), ("text", .str (st (txt (ps.take i))))] : Loc) ∧ σ' = σ.add L) [("words", .lst (ps.map fun p => .str (st p.1))), ("ways", .dct es), ("text", .str (st []))] (.cons rfl (.cons rfl (.cons rfl (.nil _)))) ⟨rfl, rfl⟩ (fun _ _ _ _ _ _ => .lst _) ?_ ?_
  · rintro i l σ' N' hi ⟨rfl, rfl⟩ hN
    have hi : i < ps.length := by simpa using hi
    have e : (ps.map fun p => V.str (st p.1)).getD i .none = .str (st ps[i].1) := by rw [List.getD_eq_getElem?_getD, List.getElem?_map, List.getElem?_eq_getElem hi]; rfl
    rw [e]
    have ht : txt (ps.take (i + 1)) = txt (ps.take i) ++ piece ps[i] := by
      rw [List.take_add_one, List.getElem?_eq_getElem hi]
      unfold txt
      rw [List.flatMap_append]
      congr 1
      show piece ps[i] ++ [] = _
      rw [List.append_nil]
    have hm := List.getElem_mem hi
    have h1 := hd _ hm
    have h2 := hw _ hm
    have hl : (txt (ps.take i)).length ≤ 2300 := by
      have := txt_len (ps := ps.take i) fun p hp => hw p (List.mem_of_mem_take hp)
      rw [List.length_take] at this
      exact Nat.le_trans this (Nat.le_trans (Nat.mul_le_mul_left 23 (Nat.le_trans (Nat.min_le_right _ _) hn)) (by decide))
    have h3 := wr_len ps[i].1 (ps[i].2.fmod 2)
    generalize ps[i] = p at *
    have h5 : (wr p.1 (p.2.fmod 2)).length ≤ 22 := Nat.le_trans h3 (Nat.succ_le_succ (Nat.succ_le_succ (Nat.mul_le_mul_left 2 h2)))
    refine iDict (k := .s (st p.1)) (.dct _) h1 ⟨by decide, ⟨written_ok b (Nat.le_trans h2 (by decide)) fun N₁ h1' => ⟨by rw [st_len, st_len, sizeLine_eq]; exact Nat.le_trans (Nat.add_le_add hl h5) (by decide), ?_⟩⟩⟩
    have m1 := Int.fmod_nonneg_of_pos (p.2.fdiv 2) (b := 2) (by decide)
    have m2 := Int.fmod_lt_of_pos (p.2.fdiv 2) (b := 2) (by decide)
    refine iDict (k := .s (st p.1)) (.dct _) h1 ⟨⟨by decide, by decide⟩, by decide, iStr (c := sep p.2) m1 (Int.lt_trans m2 (by decide)) ?_ ⟨?_, ?_⟩⟩
    · show (" \n" : Str).cps[((p.2.fdiv 2).fmod 2).toNat]? = _
      unfold sep
      rcases (show (p.2.fdiv 2).fmod 2 = 0 ∨ (p.2.fdiv 2).fmod 2 = 1 by lia) with e | e <;> rw [e] <;> kernel_rfl
    · rw [st_app, st_len, List.length_append, sizeLine_eq]
      exact Nat.le_trans (Nat.succ_le_succ (Nat.add_le_add hl h5)) (by decide)
    · refine ⟨_, .cons rfl (.cons rfl (.cons ?_ (.nil _))), rfl, rfl⟩
      rw [ht]
      show some (V.str _) = some (V.str _)
      rw [show (⟨#[sep p.2]⟩ : Str) = st [sep p.2] from rfl, st_app, st_app, List.append_assoc]; rfl
  · rintro l σ' N' ⟨rfl, rfl⟩ hN
    rw [List.length_map, List.take_length]
    exact ⟨_, _, .refl, h N' hN⟩
end
end
noncomputable section
/- the reading machine -/
structure MA where
  ct : Nat
  ca : Nat
  la : Nat
  fr : Nat
  sm : Nat
  ds : Nat
  D : Nat
  x : Nat
  p : Nat
noncomputable def lines (pre : List Nat) : Int := 1 + (pre.count 10 : Nat)
noncomputable def atOf (A : MA) (line : Int) : Loc := [("lineno", .int line), ("instream", .ref A.sm), ("whitespace", .str "\n\t\r "), ("pushback", .ref A.p)]
noncomputable def readBody : List Stmt := stmtsOf (at_ (stmtsOf (at_ bodyP 13)) 1)
noncomputable def readFd (A : MA) (qual : Str) (pm doc : Value) (c : Nat) (ctv : Value) : FuncData := fnX "_law_read_on" qual (paramsOf (at_ (stmtsOf (at_ bodyP 13)) 1)) readBody (scopeOf (at_ (stmtsOf (at_ bodyP 13)) 1)) [("text", A.ct), ("at", A.ca)] .none .none doc pm none (.ref c) ctv
structure Mach (B : Cx) (σ : Store) (A : MA) (pre rest : List Nat) (pb : List Str) : Prop where
  ne : A.ds ≠ A.D ∧ A.la ≠ A.p
  x : σ A.x = some (.obj (instObj 80 A.D))
  D : σ A.D = some (.ns (atOf A (lines pre)))
  p : σ A.p = some (.list (pb.map V.str))
  sm : ∃ o fd, σ A.sm = some (.obj o) ∧ o.cls = .type "function" ∧ o.dict = some A.ds ∧ o.data = .func fd
  ds : σ A.ds = some (.ns [("read", .ref A.fr)])
  fr : ∃ qual pm doc c ctv, FnAt B σ A.fr (readFd A qual pm doc c ctv) ∧ CodeAt B σ (readFd A qual pm doc c ctv)
  ct : σ A.ct = some (.cell (some (.str (st (pre ++ rest)))))
  ca : σ A.ca = some (.cell (some (.ref A.la)))
  la : σ A.la = some (.list [.int (pre.length : Nat)])
  len : (pre ++ rest).length ≤ 10000
/- all stays but what a machine changes -/
structure Kp (A : MA) (σ σ' : Store) : Prop where
  kp : ∀ a o, σ a = some o → a ≠ A.D → a ≠ A.p → a ≠ A.la → σ' a = some o
  fr : σ'.fr = σ.fr
section
variable {B : Cx} {d : Nat} {σ : Store} {N : Nat} {A : MA} {pre rest : List Nat} {pb : List Str}
theorem at_pb (b : Base B) : AttrAt B 80 "pushback" := ⟨_, none, b.K, by kernel_rfl, by kernel_rfl, by kernel_rfl, by kernel_rfl⟩
theorem at_ln (b : Base B) : AttrAt B 80 "lineno" := ⟨_, none, b.K, by kernel_rfl, by kernel_rfl, by kernel_rfl, by kernel_rfl⟩
theorem at_in (b : Base B) : AttrAt B 80 "instream" := ⟨_, none, b.K, by kernel_rfl, by kernel_rfl, by kernel_rfl, by kernel_rfl⟩
theorem at_ws (b : Base B) : AttrAt B 80 "whitespace" := ⟨_, none, b.K, by kernel_rfl, by kernel_rfl, by kernel_rfl, by kernel_rfl⟩
theorem set_ln (b : Base B) : SetAt B 80 "lineno" := ⟨_, b.K, by kernel_rfl, by kernel_rfl, by kernel_rfl, by kernel_rfl⟩
theorem Kp.trans {σ₁ σ₂ σ₃ : Store} (h : Kp A σ₁ σ₂) (k : Kp A σ₂ σ₃) : Kp A σ₁ σ₃ := ⟨fun a o e h1 h2 h3 => k.kp a o (h.kp a o e h1 h2 h3) h1 h2 h3, k.fr.trans h.fr⟩
theorem ne_of_kind {σ : Store} {a b : Nat} {o o' : AObj} (h : σ a = some o) (k : σ b = some o') (n : o ≠ o') : a ≠ b := fun e => by rw [e, k] at h; exact n (Option.some.inj h).symm
theorem Mach.step {σ' : Store} {pre' rest' : List Nat} {pb' : List Str} (m : Mach B σ A pre rest pb) (k : Kp A σ σ') (hD : σ' A.D = some (.ns (atOf A (lines pre')))) (hp : σ' A.p = some (.list (pb'.map V.str))) (hl : σ' A.la = some (.list [.int (pre'.length : Nat)])) (he : pre' ++ rest' = pre ++ rest) : Mach B σ' A pre' rest' pb' := by
  have ob : ∀ a o, σ a = some (.obj o) → σ' a = some (.obj o) := fun a o e => k.kp a _ e (ne_of_kind e m.D nofun) (ne_of_kind e m.p nofun) (ne_of_kind e m.la nofun)
  have ce : ∀ a o, σ a = some (.cell o) → σ' a = some (.cell o) := fun a o e => k.kp a _ e (ne_of_kind e m.D nofun) (ne_of_kind e m.p nofun) (ne_of_kind e m.la nofun)
  refine ⟨m.ne, ob _ _ m.x, hD, hp, ?_, ?_, ?_, ?_, ce _ _ m.ca, hl, he ▸ m.len⟩
  · obtain ⟨o, fd, h, r⟩ := m.sm; exact ⟨o, fd, ob _ _ h, r⟩
  · exact k.kp _ _ m.ds m.ne.1 (ne_of_kind m.ds m.p nofun) (ne_of_kind m.ds m.la nofun)
  · obtain ⟨q, pm, doc, c, ctv, ⟨o, h1, h2⟩, ⟨c2, o2, vs, t, e1, e2, e3⟩⟩ := m.fr
    exact ⟨q, pm, doc, c, ctv, ⟨o, h1.imp id (ob _ _), h2⟩, ⟨c2, o2, vs, t, e1, e2.imp id (ob _ _), e3⟩⟩
  · rw [he]; exact ce _ _ m.ct
/- another machine stays -/
theorem Mach.keep {σ' : Store} {A' : MA} {pre' rest' : List Nat} {pb' : List Str} (m : Mach B σ A pre rest pb) (k : Kp A' σ σ') (m' : Mach B σ A' pre' rest' pb') (n : A.D ≠ A'.D ∧ A.p ≠ A'.p ∧ A.p ≠ A'.la ∧ A.la ≠ A'.p ∧ A.la ≠ A'.la ∧ A.ds ≠ A'.D) : Mach B σ' A pre rest pb := by
  have ob : ∀ a o, σ a = some (.obj o) → σ' a = some (.obj o) := fun a o e => k.kp a _ e (ne_of_kind e m'.D nofun) (ne_of_kind e m'.p nofun) (ne_of_kind e m'.la nofun)
  have ce : ∀ a o, σ a = some (.cell o) → σ' a = some (.cell o) := fun a o e => k.kp a _ e (ne_of_kind e m'.D nofun) (ne_of_kind e m'.p nofun) (ne_of_kind e m'.la nofun)
  obtain ⟨n1, n2, n3, n4, n5, n6⟩ := n
  refine ⟨m.ne, ob _ _ m.x, k.kp _ _ m.D n1 (ne_of_kind m.D m'.p nofun) (ne_of_kind m.D m'.la nofun), k.kp _ _ m.p (ne_of_kind m.p m'.D nofun) n2 n3, ?_, k.kp _ _ m.ds n6 (ne_of_kind m.ds m'.p nofun) (ne_of_kind m.ds m'.la nofun), ?_, ce _ _ m.ct, ce _ _ m.ca, k.kp _ _ m.la (ne_of_kind m.la m'.D nofun) n4 n5, m.len⟩
  · obtain ⟨o, fd, h, r⟩ := m.sm; exact ⟨o, fd, ob _ _ h, r⟩
  · obtain ⟨q, pm, doc, c, ctv, ⟨o, h1, h2⟩, ⟨c2, o2, vs, t, e1, e2, e3⟩⟩ := m.fr
    exact ⟨q, pm, doc, c, ctv, ⟨o, h1.imp id (ob _ _), h2⟩, ⟨c2, o2, vs, t, e1, e2.imp id (ob _ _), e3⟩⟩
theorem push_token_ok (b : Base B) {t : Str} (m : Mach B σ A pre rest pb) (hz : pb.length < 1000) {Q : Post V} (h : ∀ N' (σ' : Store), N ≤ N' → Mach B σ' A pre rest (pb ++ [t]) → Kp A σ σ' → Q .none σ' N') : WC B (d + 1) (.ref 77) [.ref A.x, .str t] σ N Q := by
  refine C_fun b.tabOk (names := ["self", "token"]) (b.fn rfl) (b.code rfl rfl) b.lim rfl (fun s as hl => ?_) (by decide) (by decide) ⟨rfl, rfl, rfl, rfl, rfl⟩ (fun L hL hσL hab => ?_)
  · obtain ⟨x, y, rfl⟩ := len2 hl
    exact .of_eq rfl
  refine aGet (σ := σ.add L) m.x m.D (at_pb b) rfl rfl ?_
  refine VMeth.builtin (.list (.ref m.p)) rfl ?_
  refine bAppend .refl (σ' := σ.add L) m.p (by simp; exact ar107 hz) ?_
  have k : Kp A σ (pt σ A.p (.list (pb.map V.str ++ [.str t]))) := ⟨fun a ob e _ h2 _ => (pt_ne h2).trans e, rfl⟩
  refine ⟨_, .refl _, h N (pt σ A.p (.list (pb.map V.str ++ [.str t]))) (Nat.le_refl _) (m.step k ((pt_ne (ne_of_kind m.D m.p nofun)).trans m.D) ((pt_same _ _ _).trans (by rw [List.map_append]; rfl)) ((pt_ne m.ne.2).trans m.la) rfl) k⟩
theorem get_pushed_ok (b : Base B) {t : Str} (m : Mach B σ A pre rest (t :: pb)) (hz : pb.length < 1000) {Q : Post V} (h : ∀ N' (σ' : Store), N ≤ N' → Mach B σ' A pre rest pb → Kp A σ σ' → Q (.str t) σ' N') : WC B (d + 1) (.ref 70) [.ref A.x] σ N Q := by
  refine C_fun b.tabOk (names := ["self"]) (b.fn rfl) (b.code rfl rfl) b.lim rfl (fun s as hl => ?_) (by decide) (by decide) ⟨rfl, rfl, rfl, rfl, rfl⟩ (fun L hL hσL hab => ?_)
  · obtain ⟨x, rfl⟩ := len1 hl
    exact .of_eq rfl
  refine .plain (aGet (σ := σ.add L) m.x m.D (at_pb b) rfl rfl (tList (σ := σ.add L) m.p (by simp; exact ar386 hz) (.pos rfl ?_)))
  refine aGet (σ := σ.add L) m.x m.D (at_pb b) rfl rfl ?_
  refine VMeth.builtin (.list (.ref m.p)) rfl ?_
  refine bPop0 (σ := σ.add L) m.p (by simp; exact ar107 hz) ?_
  have k : Kp A σ (pt σ A.p (.list (pb.map V.str))) := ⟨fun a ob e _ h2 _ => (pt_ne h2).trans e, rfl⟩
  exact ⟨_, _, .refl, h N (pt σ A.p (.list (pb.map V.str))) (Nat.le_refl _) (m.step k ((pt_ne (ne_of_kind m.D m.p nofun)).trans m.D) (pt_same _ _ _) ((pt_ne m.ne.2).trans m.la) rfl) k⟩
end
end
noncomputable section
section
variable {B : Cx} {d : Nat} {σ : Store} {N : Nat} {A : MA} {pre rest : List Nat} {pb : List Str}
theorem slice_one {pre rest : List Nat} : Txt.slice (st (pre ++ rest)) (some (pre.length : Nat)) (some ((pre.length + 1 : Nat) : Int)) = st (rest.take 1) := by
  have e := slice_is (st (pre ++ rest)) (some (pre.length : Nat)) (some ((pre.length + 1 : Nat) : Int))
  have h : (Txt.slice (st (pre ++ rest)) (some (pre.length : Nat)) (some ((pre.length + 1 : Nat) : Int))).cps.toList = rest.take 1 := by
    rw [e, (kms_nat _ _).1, (kms_nat _ _).2]
    show ((pre ++ rest).drop (min pre.length (pre ++ rest).length)).take (min (pre.length + 1) (pre ++ rest).length - min pre.length (pre ++ rest).length) = _
    rw [show min pre.length (pre ++ rest).length = pre.length from Nat.min_eq_left (by simp), List.drop_left]
    cases rest with
    | nil => simp
    | cons c r => rw [Nat.min_eq_left (by simp), Nat.add_sub_cancel_left]
  rw [← h]; rfl
theorem read_on_ok (b : Base B) (m : Mach B σ A pre rest pb) {Q : Post V} (h : ∀ N', N ≤ N' → Q (.str (st (rest.take 1))) (pt σ A.la (.list [.int ((pre ++ rest.take 1).length : Nat)])) N') : WC B (d + 1) (.ref A.fr) [.int 1] σ N Q := by
  obtain ⟨qual, pm, doc, c, ctv, hf, hc⟩ := m.fr
  refine C_fun b.tabOk (names := ["size"]) hf hc b.lim rfl (fun s as hl => ?_) (by show ∀ x ∈ (scopeOf (at_ (stmtsOf (at_ bodyP 13)) 1)).names, x.2 ≠ .cell; decide) (by show ∀ x ∈ (["size"] : List Str), (scopeOf (at_ (stmtsOf (at_ bodyP 13)) 1)).names.lookup x = some .local; decide) ⟨rfl, rfl, rfl, rfl, rfl⟩ (fun L hL hσL hab => ?_)
  · obtain ⟨x, rfl⟩ := len1 hl
    exact .of_eq rfl
  have hl := m.len
  have hpl : pre.length ≤ 10000 := by rw [List.length_append] at hl; exact ar387 hl
  refine ⟨_, m.ct, _, m.ca, iList (σ := σ.add L) (.ref m.la) (by decide) (by decide) rfl ⟨_, m.ca, iList (σ := σ.add L) (.ref m.la) (by decide) (by decide) rfl ?_⟩⟩
  show Need (WSlice B d (.str (st (pre ++ rest))) (some (pre.length : Nat)) (some ((pre.length : Int) + 1)) none _ _ _)
  rw [show (pre.length : Int) + 1 = ((pre.length + 1 : Nat) : Int) from by exact ar13]
  refine sStr (by rw [st_len, sizeLine_eq]; exact ar388 hl) ?_
  rw [slice_one]
  refine ⟨_, m.ca, iList (σ := σ.add L) (.ref m.la) (by decide) (by decide) rfl ?_⟩
  refine bLenS (by rw [st_len, List.length_take]; exact ar389) ⟨_, m.ca, ?_⟩
  refine pList (σ := σ.add L) m.la (by decide) (by show (0 : Int) < (1 : Nat); decide) (by show 1 < 2 ^ 40; decide) ?_
  refine ⟨_, _, .refl, ?_⟩
  have := h N (Nat.le_refl _)
  rw [List.length_append] at this
  show Q _ (pt σ A.la (.list [.int ((pre.length : Int) + ((rest.take 1).length : Nat))])) N
  rw [show (pre.length : Int) + ((rest.take 1).length : Nat) = ((pre.length + (rest.take 1).length : Nat) : Int) from by exact ar390]
  exact this
theorem lines_app (pre xs : List Nat) : lines (pre ++ xs) = lines pre + (xs.count 10 : Nat) := by unfold lines; rw [List.count_append]; exact ar391
theorem read_char_ok (b : Base B) (m : Mach B σ A pre rest pb) {Q : Post V} (h : ∀ N' (σ' : Store), N ≤ N' → Mach B σ' A (pre ++ rest.take 1) (rest.drop 1) pb → Kp A σ σ' → Q (.str (st (rest.take 1))) σ' N') : WK B (d + 2) (.ref 63) [.ref A.x] σ N Q := by
  refine K_fun b.tabOk (names := ["self"]) (b.fn rfl) (b.code rfl rfl) b.lim rfl (fun s as hl => ?_) (by decide) (by decide) ⟨rfl, rfl, rfl, rfl, rfl⟩ (fun L hL hσL hab => ?_)
  · obtain ⟨x, rfl⟩ := len1 hl
    exact .of_eq rfl
  refine aGet (σ := σ.add L) m.x m.D (at_in b) rfl rfl ?_
  obtain ⟨o, fd, h1, h2, h3, h4⟩ := m.sm
  refine VMeth.fn (σ := σ.add L) fn_read h1 h2 h3 h4 m.ds rfl rfl ?_
  obtain ⟨qual, pm, doc, c, ctv, hf, hc⟩ := m.fr
  refine ⟨⟨_, hf⟩, ?_⟩
  have mL : Mach B (σ.add L) A pre rest pb := ⟨m.ne, m.x, m.D, m.p, m.sm, m.ds, m.fr, m.ct, m.ca, m.la, m.len⟩
  refine read_on_ok b mL fun N' hN' => ?_
  have hx : pt (σ.add L) A.la (.list [.int ((pre ++ rest.take 1).length : Nat)]) A.x = some (.obj (instObj 80 A.D)) := (pt_ne (ne_of_kind m.x m.la nofun)).trans m.x
  have hD : pt (σ.add L) A.la (.list [.int ((pre ++ rest.take 1).length : Nat)]) A.D = some (.ns (atOf A (lines pre))) := (pt_ne (ne_of_kind m.D m.la nofun)).trans m.D
  have hp : ∀ σ' : Store, σ' = pt σ A.la (.list [.int ((pre ++ rest.take 1).length : Nat)]) → σ' A.p = some (.list (pb.map V.str)) := fun σ' e => by rw [e]; exact (pt_ne (Ne.symm m.ne.2)).trans m.p
  have s10 : ("\n" : Str) = st [10] := by kernel_rfl
  have he : (pre ++ rest.take 1) ++ rest.drop 1 = pre ++ rest := by rw [List.append_assoc, List.take_append_drop]
  have kl : Kp A σ (pt σ A.la (.list [.int ((pre ++ rest.take 1).length : Nat)])) := ⟨fun a ob e _ _ h3 => (pt_ne h3).trans e, rfl⟩
  refine .plain ⟨fun hq => ?_, fun hq => ?_⟩
  · rw [s10] at hq
    have hq : rest.take 1 = [10] := st_inj.mp (of_decide_eq_true hq)
    refine aGet hx hD (at_ln b) rfl rfl ?_
    refine aSet hx hD (set_ln b) (by show 4 < 1000; decide) ?_
    refine ⟨_, _, .refl, h N' (pt (pt σ A.la (.list [.int ((pre ++ rest.take 1).length : Nat)])) A.D (.ns (atOf A (lines pre + 1)))) hN' (m.step ⟨fun a ob e h1 _ h3 => (pt_ne h1).trans ((pt_ne h3).trans e), rfl⟩ ?_ ((pt_ne (ne_of_kind m.p m.D nofun)).trans (hp _ rfl)) ((pt_ne (ne_of_kind m.la m.D nofun)).trans (pt_same _ _ _)) he) ⟨fun a ob e h1 _ h3 => (pt_ne h1).trans ((pt_ne h3).trans e), rfl⟩⟩
    rw [lines_app, hq]; exact pt_same _ _ _
  · rw [s10] at hq
    have hq : rest.take 1 ≠ [10] := fun z => of_decide_eq_false hq (by rw [z])
    have hc0 : (rest.take 1).count 10 = 0 := by
      cases rest with
      | nil => rfl
      | cons c r =>
        have : c ≠ 10 := fun z => hq (by rw [z]; rfl)
        simp [this]
    refine ⟨_, _, .refl, h N' (pt σ A.la (.list [.int ((pre ++ rest.take 1).length : Nat)])) hN' (m.step kl ?_ (hp _ rfl) (pt_same _ _ _) he) kl⟩
    rw [lines_app, hc0]
    exact ((pt_ne (ne_of_kind m.D m.la nofun)).trans m.D).trans (by show _ = some (AObj.ns (atOf A (lines pre + 0))); rw [Int.add_zero])
end
end
noncomputable section
/- get_token, as it reads -/
noncomputable def isW (c : Nat) : Bool := c == 32 || c == 10 || c == 9 || c == 13
noncomputable def lexQ : List Nat → List Nat → Option (List Nat × List Nat)
  | [], _ => none
  | c :: r, t => if c = 34 then some (t, r) else if c = 92 then (match r with
    | [] => none
    | e :: r' => lexQ r' (t ++ [e])) else lexQ r (t ++ [c])
noncomputable def lexU : List Nat → List Nat → Option (List Nat × List Nat)
  | [], _ => none
  | c :: r, t => if isW c = true then some (t, r) else if c = 92 then (match r with
    | [] => none
    | e :: r' => lexU r' (t ++ [e])) else lexU r (t ++ [c])
noncomputable def lexO : List Nat → Option (List Nat × List Nat)
  | [] => some ([], [])
  | c :: r => if isW c = true then lexO r else if c = 34 then lexQ r [] else if c = 92 then (match r with
    | [] => none
    | e :: r' => lexU r' [e]) else lexU r [c]
theorem ws_in : ∀ c < 128, (!(Builtin.Str.occurrences "\n\t\r " (st [c]) 0 ("\n\t\r " : Str).length 1).isEmpty) = isW c := by decide +kernel
structure Rd (B : Cx) (σ : Store) (A : MA) (q it : Nat) (t : Tok) (T rest : List Nat) (σ' : Store) : Prop where
  m : ∃ pre, pre ++ rest = T ∧ Mach B σ' A pre rest []
  c : CIt B σ' it q 63 A.x "" t
  k : Kp A σ σ'
section
variable {B : Cx} {d : Nat} {σ : Store} {N : Nat} {A : MA} {pre rest : List Nat}
theorem Rd.read (b : Base B) {σ' : Store} {q it : Nat} {t : Tok} {T : List Nat} (r : Rd B σ A q it t T rest σ') {Q : Post V} (h : ∀ N' σ'', N ≤ N' → Rd B σ A q it t T (rest.drop 1) σ'' → Q (.str (st (rest.take 1))) σ'' N') : WK B (d + 2) (.ref 63) [.ref A.x] σ' N Q := by
  obtain ⟨pre, hT, m⟩ := r.m
  refine read_char_ok b m fun N' σ'' hN' m' k => h N' σ'' hN' ⟨⟨_, by rw [List.append_assoc, List.take_append_drop]; exact hT, m'⟩, ?_, r.k.trans k⟩
  have ob : ∀ a o, σ' a = some (.obj o) → σ'' a = some (.obj o) := fun a o e => k.kp a _ e (ne_of_kind e m.D nofun) (ne_of_kind e m.p nofun) (ne_of_kind e m.la nofun)
  obtain ⟨fd, o, h1, h2⟩ := r.c.fn
  exact ⟨ob _ _ r.c.it, ob _ _ r.c.bm, fd, o, h1.imp id (ob _ _), h2⟩
theorem Rd.out {σ' : Store} {q it L : Nat} {t : Tok} {T rest : List Nat} (r : Rd B (σ.add L) A q it t T rest σ') : ∃ pre, pre ++ rest = T ∧ Mach B (σ'.reset σ.fr) A pre rest [] ∧ Kp A σ (σ'.reset σ.fr) := by
  obtain ⟨pre, hT, m⟩ := r.m
  exact ⟨pre, hT, ⟨m.ne, m.x, m.D, m.p, m.sm, m.ds, m.fr, m.ct, m.ca, m.la, m.len⟩, r.k.kp, rfl⟩
theorem lexO_cons (c : Nat) (r : List Nat) : lexO (c :: r) = if isW c = true then lexO r else if c = 34 then lexQ r [] else if c = 92 then (match r with
    | [] => none
    | e :: r' => lexU r' [e]) else lexU r [c] := by cases r <;> rfl
theorem lexQ_cons (c : Nat) (r t : List Nat) : lexQ (c :: r) t = if c = 34 then some (t, r) else if c = 92 then (match r with
    | [] => none
    | e :: r' => lexQ r' (t ++ [e])) else lexQ r (t ++ [c]) := by cases r <;> rfl
theorem lexU_cons (c : Nat) (r t : List Nat) : lexU (c :: r) t = if isW c = true then some (t, r) else if c = 92 then (match r with
    | [] => none
    | e :: r' => lexU r' (t ++ [e])) else lexU r (t ++ [c]) := by cases r <;> rfl
noncomputable def RdJ (B : Cx) (σ : Store) (A : MA) (q it : Nat) (t : Tok) (T rest : List Nat) (P : List Nat → List Nat → Prop) (n : Nat) (l : Loc) (σ' : Store) (_ : Nat) : Prop :=
  ∃ r tk x, n = r.length ∧ (∃ n, r = rest.drop n) ∧ P r tk ∧ tk.length + r.length ≤ 10000 ∧ l = ([("self", .ref A.x), ("token", .str (st tk)), ("fiter", .ref it), ("ch", x)] : Loc) ∧ Rd B σ A q it t T r σ'
noncomputable def RdO (B : Cx) (σ : Store) (A : MA) (q it : Nat) (t : Tok) (T rest tok restF : List Nat) (n : Nat) (l : Loc) (σ' : Store) (_ : Nat) : Prop :=
  ∃ r, n = r.length ∧ (∃ n, r = rest.drop n) ∧ lexO r = some (tok, restF) ∧ l = ([("self", .ref A.x), ("token", .str ""), ("fiter", .ref it)] : Loc) ∧ Rd B σ A q it t T r σ'
noncomputable def RdM (B : Cx) (σ : Store) (A : MA) (q it : Nat) (t : Tok) (T rest tok restF : List Nat) (l : Loc) (σ' : Store) (_ : Nat) : Prop :=
  ∃ r e, l = ([("self", .ref A.x), ("token", .str ""), ("fiter", .ref it), ("ch", .str (st [e]))] : Loc) ∧ (∃ n, r = rest.drop n) ∧ lexU r [e] = some (tok, restF) ∧ 1 + r.length ≤ 10000 ∧ Rd B σ A q it t T r σ'
theorem Rd.fin {pre rest0 : List Nat} {σ' : Store} {q it L : Nat} {t : Tok} {T rest : List Nat} {o : Obj} (m : Mach B σ A pre rest0 []) (r : Rd B (σ.add L) A q it t T rest σ') (hT : pre ++ rest0 = T) (hi : σ it = none) :
    ∃ pre', pre' ++ rest = T ∧ Mach B ((pt σ' it (.obj o)).reset σ.fr) A pre' rest [] ∧ Kp A σ ((pt σ' it (.obj o)).reset σ.fr) := by
  obtain ⟨pre2, hT2, m2⟩ := r.m
  have n1 : ∀ a o, σ' a = some o → (∀ o', o ≠ .obj o') → a ≠ it := fun a o e z w => by rw [w, r.c.it] at e; exact z _ (Option.some.inj e).symm
  have kk : Kp A σ ((pt σ' it (.obj o)).reset σ.fr) := ⟨fun a p e h1 h2 h3 => (pt_ne (σ := σ') (o := .obj o) (fun z => by rw [z, hi] at e; cases e)).trans (r.k.kp a p e h1 h2 h3), rfl⟩
  refine ⟨pre2, hT2, m.step kk ?_ ?_ ?_ (hT2.trans hT.symm), kk⟩
  · exact (pt_ne (σ := σ') (o := .obj o) (n1 _ _ m2.D (fun _ h => nomatch h))).trans m2.D
  · exact (pt_ne (σ := σ') (o := .obj o) (n1 _ _ m2.p (fun _ h => nomatch h))).trans m2.p
  · exact (pt_ne (σ := σ') (o := .obj o) (n1 _ _ m2.la (fun _ h => nomatch h))).trans m2.la
theorem bd_read (b : Base B) : BoundAt B 80 "_read_char" 63 := ⟨_, b.K, by kernel_rfl, by kernel_rfl, by kernel_rfl, by kernel_rfl, by kernel_rfl, by kernel_rfl, by decide +kernel⟩
theorem mt_read (b : Base B) : MethAt B 80 "_read_char" 63 := ⟨_, b.K, by kernel_rfl, by kernel_rfl, by kernel_rfl⟩
theorem st_ne {c : Nat} : st [c] ≠ "" := fun h => by rw [s0] at h; have := st_inj.mp h; cases this
theorem get_read_ok (b : Base B) {tok restF : List Nat} (m : Mach B σ A pre rest []) (hlex : lexO rest = some (tok, restF)) (hch : ∀ c ∈ rest, c < 128) {Q : Post V}
    (h : ∀ N' (σ' : Store) pre', N ≤ N' → pre' ++ restF = pre ++ rest → Mach B σ' A pre' restF [] → Kp A σ σ' → Q (.str (st tok)) σ' N') : WC B (d + 4) (.ref 70) [.ref A.x] σ N Q := by
  refine C_fun b.tabOk (names := ["self"]) (b.fn rfl) (b.code rfl rfl) b.lim rfl (fun s as hl => ?_) (by decide) (by decide) ⟨rfl, rfl, rfl, rfl, rfl⟩ (fun L hL hσL hab => ?_)
  · obtain ⟨x, rfl⟩ := len1 hl
    exact .of_eq rfl
  have mL : Mach B (σ.add L) A pre rest [] := ⟨m.ne, m.x, m.D, m.p, m.sm, m.ds, m.fr, m.ct, m.ca, m.la, m.len⟩
  refine .plain (aGet mL.x mL.D (at_pb b) rfl rfl (tList mL.p (by decide) (.neg rfl ?_)))
  refine aBound mL.x mL.D (bd_read b) rfl fun q hq => ?_
  refine ⟨C_iter2 (pt_same _ _ _) fun it t hit => ?_⟩
  generalize hσ2 : pt (pt (σ.add L) q (.obj (methodObj (.ref 63) (.ref A.x)))) it (.obj (citObj (.ref q) (.str "" t) (.bool false))) = σ2
  have none_q : (σ.add L) q = none := hab q hq
  have none_it : (σ.add L) it = none := hab it (by exact ar3 hq hit)
  have k2 : Kp A (σ.add L) σ2 := by
    rw [← hσ2]
    refine ⟨fun a o e _ _ _ => ?_, rfl⟩
    have n1 : a ≠ q := fun z => by rw [z, none_q] at e; cases e
    have n2 : a ≠ it := fun z => by rw [z, none_it] at e; cases e
    exact (pt_ne n2).trans ((pt_ne n1).trans e)
  have low : ∀ a o, (σ.add L) a = some o → σ2 a = some o := fun a o e => by
    rw [← hσ2]
    have n1 : a ≠ q := fun z => by rw [z, none_q] at e; cases e
    have n2 : a ≠ it := fun z => by rw [z, none_it] at e; cases e
    exact (pt_ne n2).trans ((pt_ne n1).trans e)
  have r0 : Rd B (σ.add L) A q it t (pre ++ rest) rest σ2 := ⟨⟨pre, rfl, mL.step k2 (low _ _ mL.D) (low _ _ mL.p) (low _ _ mL.la) rfl⟩, ⟨by rw [← hσ2]; exact pt_same _ _ _, by rw [← hσ2]; exact (pt_ne (by exact ar1 hit)).trans (pt_same _ _ _), _, b.fn rfl⟩, k2⟩
  have suf : ∀ {r : List Nat}, (∃ p, p ++ r = pre ++ rest) → (∃ n, r = rest.drop n) → ∀ c ∈ r, c < 128 := fun _ ⟨n, e⟩ c hc => hch c (List.mem_of_mem_drop (e ▸ hc))
  have hlen := m.len
  have q34 : ∀ c, decide (st [c] = "\"") = decide (c = 34) := fun c => by rw [s34, decide_eq_decide, st_inj]; simp
  have q92 : ∀ c, decide (st [c] = "\\") = decide (c = 92) := fun c => by rw [s92, decide_eq_decide, st_inj]; simp
  have tk1 : ∀ tk : List Nat, ∀ e, some (V.str (st tk ++ st [e])) = some (V.str (st (tk ++ [e]))) := fun tk e => by rw [st_app]
  have tk0 : ∀ e, some (V.str ("" ++ st [e])) = some (V.str (st [e])) := fun e => by rw [s0, st_app]; rfl
  have dr : ∀ {k : Nat} {c : Nat} {r : List Nat}, c :: r = rest.drop k → r = rest.drop (k + 1) := fun {k c r} hk => by rw [← List.drop_drop, ← hk]; rfl
  refine .calls (bm := q) (f := 63) (x := A.x) (y := "") (t := t) (Nat.succ_pos _) rfl (RdO B (σ.add L) A q it t (pre ++ rest) rest tok restF) rest.length [("self", .ref A.x), ("token", .str ""), ("fiter", .ref it)] (.cons rfl (.cons rfl (.cons rfl (.nil _)))) ⟨rest, rfl, ⟨0, rfl⟩, hlex, rfl, r0⟩ ?_
  rintro n l σ' N' ⟨r, rfl, ⟨k, hk⟩, hx, rfl, rd⟩ hN
  refine ⟨rd.c, rd.read b fun N₂ σ'' h2 rd2 => ⟨_, rfl, rd2.c, fun hz => ?_, fun hz => ?_⟩⟩
  · cases r with
    | cons c r => exact absurd hz st_ne
    | nil =>
      obtain ⟨rfl, rfl⟩ := Prod.mk.inj (Option.some.inj hx)
      obtain ⟨pre2, hT, m3, kk⟩ := rd2.fin (o := citObj .none .none (.bool true)) m rfl (hab it (by exact ar3 hq hit))
      exact ⟨_, _, .refl, h N₂ _ pre2 (by exact ar392 hq hit hN h2) hT m3 kk⟩
  · cases r with
    | nil => exact absurd s0.symm hz
    | cons c r =>
      have hc := hch c (List.mem_of_mem_drop (i := k) (by rw [← hk]; exact List.mem_cons_self ..))
      have hr := dr hk
      have hrl : (c :: r).length ≤ 10000 := by have := congrArg List.length hk; rw [List.length_drop] at this; rw [List.length_append] at hlen; exact ar393 hlen this
      obtain ⟨pre2, hT, m2⟩ := id rd2.m
      rw [lexO_cons] at hx
      refine .plain (aGet m2.x m2.D (at_ws b) rfl rfl ?_)
      refine (?_ : VIf (!(Builtin.Str.occurrences "\n\t\r " (st [c]) 0 ("\n\t\r " : Str).length 1).isEmpty) _ _)
      rw [ws_in c hc]
      refine ⟨fun hw => ?_, fun hw => ?_⟩
      · rw [if_pos hw] at hx
        exact ⟨_, .cons rfl (.cons rfl (.cons rfl (.nil _))), r.length, Nat.lt_succ_self _, r, rfl, ⟨k + 1, hr⟩, hx, rfl, rd2⟩
      · rw [if_neg (by rw [hw]; exact Bool.false_ne_true)] at hx
        refine .plain ?_
        refine (?_ : VIf (decide (st [c] = "\"")) _ _)
        rw [q34]
        refine ⟨fun h34 => ?_, fun h34 => ?_⟩
        · rw [if_pos (of_decide_eq_true h34)] at hx
          refine .calls (bm := q) (f := 63) (x := A.x) (y := "") (t := t) (Nat.succ_pos _) rfl (RdJ B (σ.add L) A q it t (pre ++ rest) rest (fun r tk => lexQ r tk = some (tok, restF))) r.length [("self", .ref A.x), ("token", .str (st [])), ("fiter", .ref it), ("ch", .str (st [c]))] (.cons rfl (.cons (by rw [← s0]; rfl) (.cons rfl (.cons rfl (.nil _))))) ⟨r, [], _, rfl, ⟨k + 1, hr⟩, hx, by simp at hrl ⊢; exact ar394 hrl, rfl, rd2⟩ ?_
          rintro n l σ₁ N₁ ⟨r, tk, x, rfl, ⟨k, hk⟩, hx, hl, rfl, rd⟩ hN₁
          refine ⟨rd.c, rd.read b fun N₂ σ₂ h2 rd2 => ⟨_, rfl, rd2.c, fun hz => ?_, fun hz => ?_⟩⟩
          · cases r with
            | cons c r => exact absurd hz st_ne
            | nil => exact nomatch hx
          · cases r with
            | nil => exact absurd s0.symm hz
            | cons c r =>
              have hr := dr hk
              rw [List.length_cons] at hl
              rw [lexQ_cons] at hx
              refine .plain ?_
              refine (?_ : VIf (decide (st [c] = "\"")) _ _)
              rw [q34]
              refine ⟨fun h34 => ?_, fun h34 => ?_⟩
              · rw [if_pos (of_decide_eq_true h34)] at hx
                obtain ⟨rfl, rfl⟩ := Prod.mk.inj (Option.some.inj hx)
                obtain ⟨pre3, hT3, m3, k3⟩ := rd2.out
                exact ⟨_, _, .refl, h N₂ _ pre3 (by lia) hT3 m3 k3⟩
              · rw [if_neg (of_decide_eq_false h34)] at hx
                refine .plain ?_
                refine (?_ : VIf (decide (st [c] = "\\")) _ _)
                rw [q92]
                refine ⟨fun h92 => ?_, fun h92 => ?_⟩
                · rw [if_pos (of_decide_eq_true h92)] at hx
                  cases r with
                  | nil => exact nomatch hx
                  | cons e r =>
                    obtain ⟨pre3, hT3, m3⟩ := id rd2.m
                    rw [List.length_cons] at hl
                    refine VMeth.inst m3.x m3.D (mt_read b) rfl ⟨(rd2.read b fun N₃ σ₃ h3 rd3 => ?_).c⟩
                    exact ⟨by show tk.length + 1 ≤ sizeLine; rw [sizeLine_eq]; exact ar108 hl, [("self", .ref A.x), ("token", .str (st (tk ++ [e]))), ("fiter", .ref it), ("ch", .str (st [e]))], .cons rfl (.cons (tk1 tk e) (.cons rfl (.cons rfl (.nil _)))), r.length, by simp only [List.length_cons]; exact ar109, r, tk ++ [e], _, rfl, ⟨_, dr hr⟩, hx, by simp; exact ar110 hl, rfl, rd3⟩
                · rw [if_neg (of_decide_eq_false h92)] at hx
                  exact ⟨by show tk.length + 1 ≤ sizeLine; rw [sizeLine_eq]; exact ar111 hl, [("self", .ref A.x), ("token", .str (st (tk ++ [c]))), ("fiter", .ref it), ("ch", .str (st [c]))], .cons rfl (.cons (tk1 tk c) (.cons rfl (.cons rfl (.nil _)))), r.length, by simp only [List.length_cons]; exact ar14, r, tk ++ [c], _, rfl, ⟨_, hr⟩, hx, by simp; exact ar112 hl, rfl, rd2⟩
        · rw [if_neg (of_decide_eq_false h34)] at hx
          refine .join (RdM B (σ.add L) A q it t (pre ++ rest) rest tok restF) ⟨?_, ?_⟩
          · rintro l σ₀ N₀ hN₀ ⟨r, e, rfl, ⟨k, hk⟩, hx, hl, rd⟩
            refine ⟨by show 0 + 1 ≤ sizeLine; rw [sizeLine_eq]; exact ar395, ?_⟩
            refine .calls (bm := q) (f := 63) (x := A.x) (y := "") (t := t) (Nat.succ_pos _) rfl (RdJ B (σ.add L) A q it t (pre ++ rest) rest (fun r tk => lexU r tk = some (tok, restF))) r.length [("self", .ref A.x), ("token", .str (st [e])), ("fiter", .ref it), ("ch", .str (st [e]))] (.cons rfl (.cons (tk0 e) (.cons rfl (.cons rfl (.nil _))))) ⟨r, [e], _, rfl, ⟨k, hk⟩, hx, by simp; exact ar396 hl, rfl, rd⟩ ?_
            rintro n l σ₁ N₁ ⟨r, tk, x, rfl, ⟨k, hk⟩, hx, hl, rfl, rd⟩ hN₁
            refine ⟨rd.c, rd.read b fun N₂ σ₂ h2 rd2 => ⟨_, rfl, rd2.c, fun hz => ?_, fun hz => ?_⟩⟩
            · cases r with
              | cons c r => exact absurd hz st_ne
              | nil => exact nomatch hx
            · cases r with
              | nil => exact absurd s0.symm hz
              | cons c r =>
                have hc := hch c (List.mem_of_mem_drop (i := k) (by rw [← hk]; exact List.mem_cons_self ..))
                have hr := dr hk
                rw [List.length_cons] at hl
                rw [lexU_cons] at hx
                obtain ⟨pre2, hT, m2⟩ := id rd2.m
                refine .plain (aGet m2.x m2.D (at_ws b) rfl rfl ?_)
                refine (?_ : VIf (!(Builtin.Str.occurrences "\n\t\r " (st [c]) 0 ("\n\t\r " : Str).length 1).isEmpty) _ _)
                rw [ws_in c hc]
                refine ⟨fun hw => ?_, fun hw => ?_⟩
                · rw [if_pos hw] at hx
                  obtain ⟨rfl, rfl⟩ := Prod.mk.inj (Option.some.inj hx)
                  obtain ⟨pre3, hT3, m3, k3⟩ := rd2.out
                  exact ⟨_, _, .refl, h N₂ _ pre3 (by lia) hT3 m3 k3⟩
                · rw [if_neg (by rw [hw]; exact Bool.false_ne_true)] at hx
                  refine .plain ?_
                  refine (?_ : VIf (decide (st [c] = "\\")) _ _)
                  rw [q92]
                  refine ⟨fun h92 => ?_, fun h92 => ?_⟩
                  · rw [if_pos (of_decide_eq_true h92)] at hx
                    cases r with
                    | nil => exact nomatch hx
                    | cons e r =>
                      obtain ⟨pre3, hT3, m3⟩ := id rd2.m
                      rw [List.length_cons] at hl
                      refine VMeth.inst m3.x m3.D (mt_read b) rfl ⟨(rd2.read b fun N₃ σ₃ h3 rd3 => ?_).c⟩
                      exact ⟨by show tk.length + 1 ≤ sizeLine; rw [sizeLine_eq]; exact ar108 hl, [("self", .ref A.x), ("token", .str (st (tk ++ [e]))), ("fiter", .ref it), ("ch", .str (st [e]))], .cons rfl (.cons (tk1 tk e) (.cons rfl (.cons rfl (.nil _)))), r.length, by simp only [List.length_cons]; exact ar109, r, tk ++ [e], _, rfl, ⟨_, dr hr⟩, hx, by simp; exact ar110 hl, rfl, rd3⟩
                  · rw [if_neg (of_decide_eq_false h92)] at hx
                    exact ⟨by show tk.length + 1 ≤ sizeLine; rw [sizeLine_eq]; exact ar111 hl, [("self", .ref A.x), ("token", .str (st (tk ++ [c]))), ("fiter", .ref it), ("ch", .str (st [c]))], .cons rfl (.cons (tk1 tk c) (.cons rfl (.cons rfl (.nil _)))), r.length, by simp only [List.length_cons]; exact ar14, r, tk ++ [c], _, rfl, ⟨_, hr⟩, hx, by simp; exact ar112 hl, rfl, rd2⟩
          · refine (?_ : VIf (decide (st [c] = "\\")) _ _)
            rw [q92]
            rw [List.length_cons] at hrl
            refine ⟨fun h92 => ?_, fun h92 => ?_⟩
            · rw [if_pos (of_decide_eq_true h92)] at hx
              cases r with
              | nil => exact nomatch hx
              | cons e r =>
                obtain ⟨pre3, hT3, m3⟩ := id rd2.m
                rw [List.length_cons] at hrl
                refine VMeth.inst m3.x m3.D (mt_read b) rfl ⟨(rd2.read b fun N₃ σ₃ h3 rd3 => ?_).c⟩
                exact ⟨_, .cons rfl (.cons rfl (.cons rfl (.cons rfl (.nil _)))), r, e, rfl, ⟨_, dr hr⟩, hx, by exact ar397 hrl, rd3⟩
            · rw [if_neg (of_decide_eq_false h92)] at hx
              exact ⟨_, .cons rfl (.cons rfl (.cons rfl (.cons rfl (.nil _)))), r, c, rfl, ⟨_, hr⟩, hx, by exact ar398 hrl, rd2⟩
end
end
noncomputable section
/- a machine made -/
noncomputable def Rw (B : Cx) (d : Nat) : Rec := ⟨fun env e l σ N Q => WE B d env l e σ N Q, fun env e l σ N Q => WB B d env l e σ N Q, fun env ss l σ N Q => WX B d env l ss σ N Q⟩
theorem Rw_sound (B : Cx) (d : Nat) : Sound B d (Rw B d) := ⟨fun _ h => h, fun _ h => h, fun _ h => h⟩
section
variable {B : Cx} {d : Nat} {σ : Store} {N : Nat}
theorem set_pb (b : Base B) : SetAt B 80 "pushback" := ⟨_, b.K, by kernel_rfl, by kernel_rfl, by kernel_rfl, by kernel_rfl⟩
theorem set_in (b : Base B) : SetAt B 80 "instream" := ⟨_, b.K, by kernel_rfl, by kernel_rfl, by kernel_rfl, by kernel_rfl⟩
theorem set_ws (b : Base B) : SetAt B 80 "whitespace" := ⟨_, b.K, by kernel_rfl, by kernel_rfl, by kernel_rfl, by kernel_rfl⟩
theorem init_ok (b : Base B) {x D sm : Nat} (hx : σ x = some (.obj (instObj 80 D))) (hD : σ D = some (.ns [])) {Q : Post V}
    (h : ∀ p, N ≤ p → Q .none (pt (pt σ p (.list [])) D (.ns [("lineno", .int 1), ("instream", .ref sm), ("whitespace", .str "\n\t\r "), ("pushback", .ref p)])) (p + 1)) : WK B (d + 1) (.ref 56) [.ref x, .ref sm] σ N Q := by
  refine K_fun b.tabOk (names := ["self", "fp"]) (b.fn rfl) (b.code rfl rfl) b.lim rfl (fun s as hl => ?_) (by decide) (by decide) ⟨rfl, rfl, rfl, rfl, rfl⟩ (fun L hL hσL hab => ?_)
  · obtain ⟨x, y, rfl⟩ := len2 hl
    exact .of_eq rfl
  have ne : x ≠ D := ne_of_kind hx hD (fun h => nomatch h)
  have ex : ∀ l, pt (σ.add L) D (.ns l) x = some (.obj (instObj 80 D)) := fun l => (pt_ne ne).trans hx
  refine aSet (σ := σ.add L) hx hD (set_ln b) (by decide) ?_
  refine aSet (ex _) (pt_same _ _ _) (set_in b) (by show 1 < 1000; decide) ?_
  rw [pt_pt]
  refine aSet (ex _) (pt_same _ _ _) (set_ws b) (by show 2 < 1000; decide) ?_
  rw [pt_pt]
  refine .mut (by decide) fun p hp => ?_
  have hpx : p ≠ x := fun z => by rw [← z, hab p hp] at hx; cases hx
  have hpD : p ≠ D := fun z => by rw [← z, hab p hp] at hD; cases hD
  refine aSet ((pt_ne hpx.symm).trans (ex _)) ((pt_ne hpD.symm).trans (pt_same _ _ _)) (set_pb b) (by show 3 < 1000; decide) ?_
  rw [pt_comm (a := p) (b := D) hpD, pt_pt, pt_comm (a := D) (b := p) hpD.symm]
  exact ⟨_, .refl _, h p hp⟩
end
end
noncomputable section
section
variable {B : Cx} {d : Nat} {σ : Store} {N : Nat} {A : MA} {pre rest : List Nat} {pb : List Str}
theorem Mach.get {σ' : Store} (m : Mach B σ A pre rest pb) (h : σ'.get = σ.get) : Mach B σ' A pre rest pb := by
  have e : ∀ a, σ' a = σ a := fun a => congrFun h a
  refine ⟨m.ne, (e _).trans m.x, (e _).trans m.D, (e _).trans m.p, ?_, (e _).trans m.ds, ?_, (e _).trans m.ct, (e _).trans m.ca, (e _).trans m.la, m.len⟩
  · obtain ⟨o, fd, h, r⟩ := m.sm; exact ⟨o, fd, (e _).trans h, r⟩
  · obtain ⟨q, pm, doc, c, ctv, ⟨o, h1, h2⟩, ⟨c2, o2, vs, t, e1, e2, e3⟩⟩ := m.fr
    exact ⟨q, pm, doc, c, ctv, ⟨o, h1.imp id (e _).trans, h2⟩, ⟨c2, o2, vs, t, e1, e2.imp id (e _).trans, e3⟩⟩
/- where a machine's things lie -/
structure Bd (A : MA) (lo hi : Nat) : Prop where
  la : lo ≤ A.la ∧ A.la < hi
  ds : lo ≤ A.ds ∧ A.ds < hi
  D : lo ≤ A.D ∧ A.D < hi
  p : lo ≤ A.p ∧ A.p < hi
theorem mach_tail (b : Base B) {L ct ca la f sm c : Nat} {text : List Nat} {o oc : Obj} {fd : FuncData} {qual : Str} {pm doc ctv : Value} {φ : Nat → Prop} (hct : σ ct = some (.cell (some (.str (st text))))) (hca : σ ca = some (.cell (some (.ref la)))) (hla : σ la = some (.list [.int 0]))
    (hsm : σ sm = some (.obj o)) (h1 : o.cls = .type "function") (h2 : o.dict = none) (h3 : o.data = .func fd) (hf : σ f = some (.obj (fnMade "_law_read_on" qual (paramsOf (at_ (stmtsOf (at_ bodyP 13)) 1)) readBody (scopeOf (at_ (stmtsOf (at_ bodyP 13)) 1)) [("text", ct), ("at", ca)] doc pm c ctv)))
    (hc : σ c = some (.obj oc)) (hq : CodeOb oc qual) (n1 : f ≠ sm) (n2 : c ≠ sm) (n3 : ct ≠ sm ∧ ca ≠ sm ∧ la ≠ sm) (hab : ∀ a, N ≤ a → σ a = none) (hlen : text.length ≤ 10000) {Q : Post V}
    (h : ∀ (A : MA) N' σ', N ≤ N' → A.la = la → N ≤ A.ds ∧ A.ds < N' → N ≤ A.D ∧ A.D < N' → N ≤ A.p ∧ A.p < N' → Mach B σ' A [] text [] → (∀ a o, σ a = some o → a ≠ sm → σ' a = some o) → (∀ a, N' ≤ a → σ' a = none) → σ'.fr = φ → Q (.ref A.x) σ' N') :
    (vRun B tb (d + 2) 200).S (callEnvC fd119 L 119) ((stmtsOf (at_ bodyP 13)).drop 3) [("stream", .ref sm), ("_law_read_on", .ref f)] σ N (Back φ Q) := by
  have lo : ∀ {a o}, σ a = some o → a < N := fun {a o} e => by
    rcases Nat.lt_or_ge a N with z | z
    · exact z
    · rw [hab a z] at e; cases e
  have l1 := lo hct; have l2 := lo hca; have l3 := lo hla; have l4 := lo hsm; have l5 := lo hf; have l6 := lo hc
  refine ⟨A_setFn fn_read hsm h1 h2 h3 fun D' hD' => ?_⟩
  refine ⟨C_cls b.K (fI := 56) (by kernel_rfl) (by kernel_rfl) (by kernel_rfl) fun D hD => ?_⟩
  generalize hS : (pt (pt (pt (pt σ sm (.obj { o with dict := some D' })) D' (.ns [("read", .ref f)])) D (.ns [])) (D + 1) (.obj (instObj 80 D))) = S
  have kp : ∀ a p, σ a = some p → a ≠ sm → S a = some p := fun a p e n => by
    have := lo e
    rw [← hS]
    exact (pt_ne (by exact ar399 hD' hD this)).trans ((pt_ne (by exact ar113 hD' hD this)).trans ((pt_ne (by exact ar57 hD' this)).trans ((pt_ne n).trans e)))
  have hi : ∀ a, D + 2 ≤ a → S a = none := fun a ha => by
    rw [← hS]
    exact (pt_ne (by exact ar400 ha)).trans ((pt_ne (by exact ar114 ha)).trans ((pt_ne (by exact ar401 hD ha)).trans ((pt_ne (by exact ar402 l4 hD' hD ha)).trans (hab a (by exact ar403 hD' hD ha)))))
  have eD : S D = some (.ns []) := by rw [← hS]; exact (pt_ne (by exact ar404)).trans (pt_same _ _ _)
  have ex : S (D + 1) = some (.obj (instObj 80 D)) := by rw [← hS]; exact pt_same _ _ _
  have eds : S D' = some (.ns [("read", .ref f)]) := by rw [← hS]; exact (pt_ne (by exact ar405 hD)).trans ((pt_ne (by exact ar1 hD)).trans (pt_same _ _ _))
  have esm : S sm = some (.obj { o with dict := some D' }) := by rw [← hS]; exact (pt_ne (by exact ar406 l4 hD' hD)).trans ((pt_ne (by exact ar11 l4 hD' hD)).trans ((pt_ne (by exact ar407 l4 hD')).trans (pt_same _ _ _)))
  have efr : S.fr = σ.fr := by rw [← hS]; rfl
  refine init_ok b (x := D + 1) (D := D) ex eD fun p hp => ⟨rfl, _, _, .refl, ?_⟩
  have up : ∀ {l a v}, S a = some v → a ≠ D → a ≠ p → pt (pt S p (.list [])) D (.ns l) a = some v := fun e n m => (pt_ne n).trans ((pt_ne m).trans e)
  refine h ⟨ct, ca, la, f, sm, D', D, D + 1, p⟩ (p + 1) _ (by exact ar408 hD' hD hp) rfl (by show N ≤ D' ∧ D' < p + 1; exact ar409 hD' hD hp) (by show N ≤ D ∧ D < p + 1; exact ar410 hD' hD hp) (by show N ≤ p ∧ p < p + 1; exact ar411 hD' hD hp) (Mach.get (σ := pt (pt S p (.list [])) D (.ns _)) ?_ rfl) (fun a v e n => up (kp a v e n) (by have := lo e; exact ar113 hD' hD this) (by have := lo e; exact ar412 hD' hD hp this)) (fun a ha => (pt_ne (by exact ar413 hp ha)).trans ((pt_ne (by exact ar27 ha)).trans (hi a (by exact ar414 hp ha)))) rfl
  exact ⟨⟨by show D' ≠ D; exact ar1 hD, by show la ≠ p; exact ar8 l3 hD' hD hp⟩, up ex (by dsimp only; exact ar415) (by dsimp only; exact ar416 hp), pt_same _ _ _, (pt_ne (by dsimp only; exact ar114 hp)).trans (pt_same _ _ _), ⟨_, fd, up esm (by dsimp only; exact ar11 l4 hD' hD) (by dsimp only; exact ar8 l4 hD' hD hp), h1, rfl, h3⟩, up eds (by dsimp only; exact ar1 hD) (by dsimp only; exact ar417 hD hp),
    ⟨qual, pm, doc, c, ctv, ⟨_, .inr (up (kp f _ hf n1) (by dsimp only; exact ar11 l5 hD' hD) (by dsimp only; exact ar8 l5 hD' hD hp)), rfl⟩, ⟨c, oc, _, _, rfl, .inr (up (kp c _ hc n2) (by exact ar11 l6 hD' hD) (by exact ar8 l6 hD' hD hp)), hq.choose_spec.choose_spec.1, hq.choose_spec.choose_spec.2⟩⟩,
    up (kp ct _ hct n3.1) (by dsimp only; exact ar11 l1 hD' hD) (by dsimp only; exact ar8 l1 hD' hD hp), up (kp ca _ hca n3.2.1) (by dsimp only; exact ar11 l2 hD' hD) (by dsimp only; exact ar8 l2 hD' hD hp), up (kp la _ hla n3.2.2) (by dsimp only; exact ar11 l3 hD' hD) (by dsimp only; exact ar8 l3 hD' hD hp), hlen⟩
end
end
noncomputable section
/- the machine's table: empty, or with its two codes -/
noncomputable def tabOf (c1 c2 : Nat) : Array Value := #[rawInt 118, rawInt 4, .ref c1, rawInt 122, rawInt 13, .ref c2]
noncomputable def TabOld (B : Cx) (σ : Store) : Prop := ∃ c1 c2 oc, σ 114 = some (.obj (tabObj (tabOf c1 c2))) ∧ σ c1 = some (.obj oc) ∧ CodeOb oc "_law_machine.<locals>._law_read_on"
theorem TabOld.keep {B : Cx} {σ σ' : Store} (t : TabOld B σ) (h : ∀ a o, σ a = some (.obj o) → σ' a = some (.obj o)) : TabOld B σ' :=
  let ⟨c1, c2, oc, e, hc, hq⟩ := t; ⟨c1, c2, oc, h _ _ e, h _ _ hc, hq⟩
section
variable {B : Cx} {d : Nat} {σ : Store} {N : Nat}
theorem machine_ok (b : Base B) {text : List Nat} (hlen : text.length ≤ 10000) (ht : σ 114 = some (.obj (tabObj #[])) ∨ TabOld B σ) {Q : Post V}
    (h : ∀ (A : MA) N' σ', N ≤ N' → Bd A N N' → Mach B σ' A [] text [] → TabOld B σ' → (∀ a o, σ a = some o → a ≠ 114 ∨ TabOld B σ → σ' a = some o) → (∀ a, N' ≤ a → σ' a = none) → σ'.fr = σ.fr → Q (.ref A.x) σ' N') : WC B (d + 3) (.ref 119) [.str (st text)] σ N Q := by
  refine WK.c (K_cells (names := ["text"]) (b.fn (fd := fd119) rfl) (b.code rfl rfl) b.lim rfl rfl (fun s hl => ?_) (fun n x hx => by cases hx with | head => exact .inr ⟨rfl, rfl⟩ | tail _ h => cases h) (fun n => by show (["at", "text"] : List Str).Nodup; decide) (fun L N₁ hL hσL hab hLN hcs => ?_) rfl rfl rfl)
  · obtain ⟨x, rfl⟩ := len1 hl
    rfl
  have hc1 : L + 2 < N₁ := hcs ("at", L + 2) (.head _)
  have he : EnvOk (callEnvC fd119 L 119) := ⟨rfl, rfl, rfl⟩
  show WX B (d + 2) (callEnvC fd119 L 119) [] (stmtsOf (at_ bodyP 13)) (pt (pt (σ.add L) (L + 1) (.cell (some (.str (st text))))) (L + 2) (.cell none)) N₁ (Back σ.fr Q)
  refine vS_sound (Rw_sound B (d + 2)) he ((vRun_sound b.tabOk 200).E he (.mut (by decide) fun la hla => ⟨⟨_, (pt_ne (by exact ar418 hc1 hla)).trans (pt_same _ _ _)⟩, ?_⟩))
  show WX B (d + 2) (callEnvC fd119 L 119) [] ((stmtsOf (at_ bodyP 13)).drop 1) _ _ (Back σ.fr Q)
  generalize hS : pt (pt (pt (pt (σ.add L) (L + 1) (.cell (some (.str (st text))))) (L + 2) (.cell none)) la (.list [.int 0])) (L + 2) (.cell (some (.ref la))) = S
  have lo : ∀ {a o}, σ a = some o → a < N := fun {a o} e => by
    rcases Nat.lt_or_ge a N with z | z
    · exact z
    · rw [hab a z] at e; cases e
  have e1 : S (L + 1) = some (.cell (some (.str (st text)))) := by rw [← hS]; exact (pt_ne (by exact ar7)).trans ((pt_ne (by exact ar419 hLN hc1 hla)).trans ((pt_ne (by exact ar7)).trans (pt_same _ _ _)))
  have e2 : S (L + 2) = some (.cell (some (.ref la))) := by rw [← hS]; exact pt_same _ _ _
  have e3 : S la = some (.list [.int 0]) := by rw [← hS]; exact (pt_ne (by exact ar420 hc1 hla)).trans (pt_same _ _ _)
  have k1 : ∀ {a o}, σ a = some o → S a = some o := fun {a o} e => by
    have := lo e
    rw [← hS]
    exact (pt_ne (by exact ar115 hL this)).trans ((pt_ne (by exact ar421 hL hc1 hla this)).trans ((pt_ne (by exact ar115 hL this)).trans ((pt_ne (by exact ar28 hL this)).trans e)))
  have hi : ∀ a, la + 1 ≤ a → S a = none := fun a ha => by
    rw [← hS]
    exact (pt_ne (by exact ar116 hLN hc1 hla ha)).trans ((pt_ne (by exact ar27 ha)).trans ((pt_ne (by exact ar116 hLN hc1 hla ha)).trans ((pt_ne (by exact ar422 hc1 hla ha)).trans (hab a (by exact ar423 hL hc1 hla ha)))))
  rcases ht with e0 | ⟨c1, c2, oc, e0, hc, hq⟩
  · have l0 := lo e0
    refine X_def b.nest (clos := [("text", L + 1), ("at", L + 2)]) (cloOf_sound rfl) rfl rfl rfl (k1 e0) trivial rfl rfl rfl rfl rfl fun c f oc ctv doc pm hc hf hq => ?_
    refine X_assign (WE_lambda b.nest (clos := []) (cloOf_sound rfl) rfl rfl ((pt_ne (by exact ar424 hL hc1 hla l0 hc hf)).trans ((pt_ne (by exact ar117 hL hc1 hla l0 hc)).trans (pt_same _ _ _))) trivial rfl rfl fun c2 f2 oc2 ctv2 pm2 hc2 hf2 => ?_)
    refine (vRun_sound b.tabOk 200).S he (mach_tail b (ct := L + 1) (ca := L + 2) (la := la) (f := f) (sm := f2) (c := c) (oc := oc) (pm := pm) (doc := doc) (ctv := ctv) ?_ ?_ ?_ (pt_same _ _ _) rfl rfl rfl ?_ ?_ hq (by exact ar48 hc2 hf2) (by exact ar29 hf hc2 hf2) ⟨by exact ar118 hc1 hla hc hf hc2 hf2, by exact ar119 hc1 hla hc hf hc2 hf2, by exact ar120 hc hf hc2 hf2⟩ (fun a ha => ?_) hlen fun A N' σ' hN hlb hds hD hp m k hn hfr => ?_)
    · exact (pt_ne (by exact ar118 hc1 hla hc hf hc2 hf2)).trans ((pt_ne (by exact ar425 hc1 hla hc hf hc2)).trans ((pt_ne (by exact ar121 hL l0)).trans ((pt_ne (by exact ar426 hc1 hla hc hf)).trans ((pt_ne (by exact ar122 hc1 hla hc)).trans ((pt_ne (by exact ar121 hL l0)).trans e1)))))
    · exact (pt_ne (by exact ar119 hc1 hla hc hf hc2 hf2)).trans ((pt_ne (by exact ar427 hc1 hla hc hf hc2)).trans ((pt_ne (by exact ar123 hL l0)).trans ((pt_ne (by exact ar428 hc1 hla hc hf)).trans ((pt_ne (by exact ar124 hLN hc1 hla hc)).trans ((pt_ne (by exact ar123 hL l0)).trans e2)))))
    · exact (pt_ne (by exact ar120 hc hf hc2 hf2)).trans ((pt_ne (by exact ar429 hc hf hc2)).trans ((pt_ne (by exact ar125 hL hc1 hla l0)).trans ((pt_ne (by exact ar48 hc hf)).trans ((pt_ne (by exact ar1 hc)).trans ((pt_ne (by exact ar125 hL hc1 hla l0)).trans e3)))))
    · exact (pt_ne (by exact ar48 hc2 hf2)).trans ((pt_ne (by exact ar1 hc2)).trans ((pt_ne (by exact ar430 hL hc1 hla l0 hc hf)).trans (pt_same _ _ _)))
    · exact (pt_ne (by exact ar29 hf hc2 hf2)).trans ((pt_ne (by exact ar126 hf hc2)).trans ((pt_ne (by exact ar431 hL hc1 hla l0 hc)).trans ((pt_ne (by exact ar42 hf)).trans (pt_same _ _ _))))
    · exact (pt_ne (by exact ar27 ha)).trans ((pt_ne (by exact ar432 hf2 ha)).trans ((pt_ne (by exact ar127 hL hc1 hla l0 hc hf hc2 hf2 ha)).trans ((pt_ne (by exact ar433 hc2 hf2 ha)).trans ((pt_ne (by exact ar434 hf hc2 hf2 ha)).trans ((pt_ne (by exact ar127 hL hc1 hla l0 hc hf hc2 hf2 ha)).trans (hi a (by exact ar435 hc hf hc2 hf2 ha)))))))
    · have kk : ∀ a o, σ a = some o → a ≠ 114 → σ' a = some o := fun a o e n => by
        have := lo e
        exact k a o ((pt_ne (by exact arb8 hL hc1 hla hc hf hc2 hf2 this)).trans ((pt_ne (by exact arb34 hL hc1 hla hc hf hc2 this)).trans ((pt_ne n).trans ((pt_ne (by exact arb35 hL hc1 hla hc hf this)).trans ((pt_ne (by exact arb9 hL hc1 hla hc this)).trans ((pt_ne n).trans (k1 e))))))) (by exact arb8 hL hc1 hla hc hf hc2 hf2 this)
      refine h A N' σ' (by exact arb36 hL hc1 hla hc hf hc2 hf2 hN) ⟨⟨by exact arb10 hL hc1 hla hlb, by exact ar436 hc hf hc2 hf2 hN hlb⟩, ⟨by exact arb2 hL hc1 hla hc hf hc2 hf2 hds, by exact ar12 hds⟩, ⟨by exact arb2 hL hc1 hla hc hf hc2 hf2 hD, by exact ar12 hD⟩, ⟨by exact arb2 hL hc1 hla hc hf hc2 hf2 hp, by exact ar12 hp⟩⟩ m ⟨c, c2, oc, ?_, ?_, hq⟩ (fun a o e n => kk a o e ?_) hn hfr
      · exact (k 114 _ ((pt_ne (by exact arb11 hL hc1 hla l0 hc hf hc2 hf2)).trans ((pt_ne (by exact arb37 hL hc1 hla l0 hc hf hc2)).trans (pt_same _ _ _))) (by exact arb11 hL hc1 hla l0 hc hf hc2 hf2))
      · exact (k c _ ((pt_ne (by exact ar29 hf hc2 hf2)).trans ((pt_ne (by exact ar126 hf hc2)).trans ((pt_ne (by exact ar431 hL hc1 hla l0 hc)).trans ((pt_ne (by exact ar42 hf)).trans (pt_same _ _ _))))) (by exact ar29 hf hc2 hf2))
      · refine n.elim id ?_
        rintro ⟨c1, c2, oc, q, _⟩
        rw [q] at e0; cases e0
  · have l0 := lo e0
    have l1 := lo hc
    refine X_defHit b.nest (clos := [("text", L + 1), ("at", L + 2)]) (cloOf_sound rfl) rfl rfl rfl (k1 e0) trivial (by rfl : codeAmong _ _ = some (.ref c1)) rfl rfl rfl rfl fun f ctv doc pm hf => ?_
    refine X_assign (WE_lambdaHit b.nest (clos := []) (cloOf_sound rfl) rfl rfl ((pt_ne (by exact ar117 hL hc1 hla l0 hf)).trans (k1 e0)) trivial (by rfl : codeAmong _ _ = some (.ref c2)) rfl fun f2 ctv2 pm2 hf2 => ?_)
    refine (vRun_sound b.tabOk 200).S he (mach_tail b (ct := L + 1) (ca := L + 2) (la := la) (f := f) (sm := f2) (c := c1) (oc := oc) (pm := pm) (doc := doc) (ctv := ctv) ?_ ?_ ?_ (pt_same _ _ _) rfl rfl rfl ?_ ?_ hq (by exact ar1 hf2) (by exact ar128 hL hc1 hla l1 hf hf2) ⟨by exact ar129 hc1 hla hf hf2, by exact ar130 hc1 hla hf hf2, by exact ar131 hf hf2⟩ (fun a ha => ?_) hlen fun A N' σ' hN hlb hds hD hp m k hn hfr => ?_)
    · exact (pt_ne (by exact ar129 hc1 hla hf hf2)).trans ((pt_ne (by exact ar122 hc1 hla hf)).trans e1)
    · exact (pt_ne (by exact ar130 hc1 hla hf hf2)).trans ((pt_ne (by exact ar124 hLN hc1 hla hf)).trans e2)
    · exact (pt_ne (by exact ar131 hf hf2)).trans ((pt_ne (by exact ar1 hf)).trans e3)
    · exact (pt_ne (by exact ar1 hf2)).trans (pt_same _ _ _)
    · exact (pt_ne (by exact ar128 hL hc1 hla l1 hf hf2)).trans ((pt_ne (by exact ar437 hL hc1 hla l1 hf)).trans (k1 hc))
    · exact (pt_ne (by exact ar27 ha)).trans ((pt_ne (by exact ar438 hf2 ha)).trans (hi a (by exact ar439 hf hf2 ha)))
    · have kk : ∀ a o, σ a = some o → σ' a = some o := fun a o e => by
        have := lo e
        exact k a o ((pt_ne (by exact arb12 hL hc1 hla hf hf2 this)).trans ((pt_ne (by exact arb9 hL hc1 hla hf this)).trans (k1 e))) (by exact arb12 hL hc1 hla hf hf2 this)
      exact h A N' σ' (by exact arb38 hL hc1 hla hf hf2 hN) ⟨⟨by exact arb10 hL hc1 hla hlb, by exact ar440 hf hf2 hN hlb⟩, ⟨by exact arb3 hL hc1 hla hf hf2 hds, by exact ar12 hds⟩, ⟨by exact arb3 hL hc1 hla hf hf2 hD, by exact ar12 hD⟩, ⟨by exact arb3 hL hc1 hla hf hf2 hp, by exact ar12 hp⟩⟩ m ⟨c1, c2, oc, kk _ _ e0, kk _ _ hc, hq⟩ (fun a o e _ => kk a o e) hn hfr
end
end
noncomputable section
/- the hours, told without a clock; turned round -/
structure Ops (α : Type) where
  z : α
  mx : α → α → α
  ad : α → Nat → Nat → α
structure Row (α : Type) where
  b0 : α
  l0 : α
  b1 : α
  l1 : α
  b2 : α
  l2 : α
noncomputable def up {α : Type} (o : Ops α) (h : α) : Option α → α
  | none => h
  | some x => o.mx h x
section
variable {α β : Type}
noncomputable def row (o : Ops α) (r0 r1 k : Nat) (ps : List (Row α)) : Row α :=
  let b0 := up o o.z (ps[0]?.map Row.l0)
  let l0 := up o (o.ad b0 k 0) (ps[r0]?.map Row.l1)
  let b1 := up o l0 (ps[0]?.map Row.l1)
  let l1 := up o (o.ad b1 k 1) (ps[r1]?.map Row.l2)
  let b2 := up o l1 (ps[0]?.map Row.l2)
  ⟨b0, l0, b1, l1, b2, o.ad b2 k 2⟩
/- the rows of the first jobs, the last one first -/
noncomputable def rows (o : Ops α) (r0 r1 : Nat) : Nat → List (Row α)
  | 0 => []
  | k + 1 => row o r0 r1 k (rows o r0 r1 k) :: rows o r0 r1 k
structure Row.Rl (R : α → β → Prop) (x : Row α) (y : Row β) : Prop where
  b0 : R x.b0 y.b0
  l0 : R x.l0 y.l0
  b1 : R x.b1 y.b1
  l1 : R x.l1 y.l1
  b2 : R x.b2 y.b2
  l2 : R x.l2 y.l2
structure Ops.Rl (R : α → β → Prop) (o : Ops α) (p : Ops β) : Prop where
  z : R o.z p.z
  mx : ∀ a a' b b', R a a' → R b b' → R (o.mx a b) (p.mx a' b')
  ad : ∀ a a' k d, d < 3 → R a a' → R (o.ad a k d) (p.ad a' k d)
inductive RlL (R : α → β → Prop) : List α → List β → Prop
  | nil : RlL R [] []
  | cons {x : α} {y : β} {xs : List α} {ys : List β} (h : R x y) (t : RlL R xs ys) : RlL R (x :: xs) (y :: ys)
theorem RlL.up {R : α → β → Prop} {o : Ops α} {p : Ops β} (h : Ops.Rl R o p) {a : α} {a' : β} (ha : R a a') {f : Row α → α} {g : Row β → β} (fg : ∀ x y, Row.Rl R x y → R (f x) (g y)) {ps : List (Row α)} {qs : List (Row β)} (r : RlL (Row.Rl R) ps qs) : ∀ i : Nat, R (Mine.up o a (ps[i]?.map f)) (Mine.up p a' (qs[i]?.map g)) := by
  induction r with
  | nil => exact fun i => ha
  | cons q t ih =>
    intro i
    cases i with
    | zero => exact h.mx _ _ _ _ ha (fg _ _ q)
    | succ i => exact ih i
theorem row_rl {R : α → β → Prop} {o : Ops α} {p : Ops β} (h : Ops.Rl R o p) (r0 r1 k : Nat) {ps : List (Row α)} {qs : List (Row β)} (r : RlL (Row.Rl R) ps qs) : Row.Rl R (row o r0 r1 k ps) (row p r0 r1 k qs) := by
  have b0 := r.up h h.z (f := Row.l0) (g := Row.l0) (fun _ _ q => q.l0) 0
  have l0 := r.up h (h.ad _ _ k 0 (by decide) b0) (f := Row.l1) (g := Row.l1) (fun _ _ q => q.l1) r0
  have b1 := r.up h l0 (f := Row.l1) (g := Row.l1) (fun _ _ q => q.l1) 0
  have l1 := r.up h (h.ad _ _ k 1 (by decide) b1) (f := Row.l2) (g := Row.l2) (fun _ _ q => q.l2) r1
  have b2 := r.up h l1 (f := Row.l2) (g := Row.l2) (fun _ _ q => q.l2) 0
  exact ⟨b0, l0, b1, l1, b2, h.ad _ _ k 2 (by decide) b2⟩
theorem rows_rl {R : α → β → Prop} {o : Ops α} {p : Ops β} (h : Ops.Rl R o p) (r0 r1 : Nat) : ∀ n, RlL (Row.Rl R) (rows o r0 r1 n) (rows p r0 r1 n)
  | 0 => .nil
  | n + 1 => .cons (row_rl h r0 r1 n (rows_rl h r0 r1 n)) (rows_rl h r0 r1 n)
end
noncomputable def iOps (w : Nat → Nat → Int) : Ops Int := ⟨0, max, fun a k d => a + w k d⟩
/- rows of works, each a way through: the greatest of their sums is meant -/
noncomputable def mOps (i : Nat → Nat → Nat) : Ops (List (List Nat)) := ⟨[[]], fun a b => a ++ b, fun a k d => a.map (i k d :: ·)⟩
noncomputable def tot (e : Nat → Int) (m : List Nat) : Int := (m.map e).sum
structure IsMax (e : Nat → Int) (M : List (List Nat)) (v : Int) : Prop where
  le : ∀ m ∈ M, tot e m ≤ v
  ex : ∃ m ∈ M, tot e m = v
theorem mOps_rl (e : Nat → Int) (i : Nat → Nat → Nat) (w : Nat → Nat → Int) (h : ∀ k d, d < 3 → e (i k d) = w k d) : Ops.Rl (IsMax e) (mOps i) (iOps w) := by
  refine ⟨⟨fun m hm => ?_, [], .head _, rfl⟩, fun a a' b b' p q => ⟨fun m hm => ?_, ?_⟩, fun a a' k d hd p => ⟨fun m hm => ?_, ?_⟩⟩
  · cases hm with
    | head => exact Int.le_refl _
    | tail _ h => cases h
  · rcases List.mem_append.mp hm with hm | hm
    · exact Int.le_trans (p.le m hm) (Int.le_max_left _ _)
    · exact Int.le_trans (q.le m hm) (Int.le_max_right _ _)
  · obtain ⟨m, hm, e1⟩ := p.ex
    obtain ⟨n, hn, e2⟩ := q.ex
    rcases Int.le_total a' b' with z | z
    · exact ⟨n, List.mem_append_right _ hn, e2.trans (Int.max_eq_right z).symm⟩
    · exact ⟨m, List.mem_append_left _ hm, e1.trans (Int.max_eq_left z).symm⟩
  · obtain ⟨n, hn, rfl⟩ := List.mem_map.mp hm
    have := p.le n hn
    show e (i k d) + tot e n ≤ a' + w k d
    rw [h k d hd]; lia
  · obtain ⟨n, hn, e1⟩ := p.ex
    refine ⟨i k d :: n, List.mem_map.mpr ⟨n, hn, rfl⟩, ?_⟩
    show e (i k d) + tot e n = a' + w k d
    rw [h k d hd, e1]; lia
/- a way that another one holds -/
noncomputable def subm : List Nat → List Nat → Bool
  | [], _ => true
  | i :: m, n => n.contains i && subm m (n.erase i)
theorem tot_nonneg {e : Nat → Int} (h : ∀ i, 0 ≤ e i) (m : List Nat) : 0 ≤ tot e m := by
  induction m with
  | nil => exact Int.le_refl _
  | cons x m ih => exact Int.add_nonneg (h x) ih
theorem tot_erase (e : Nat → Int) {i : Nat} {n : List Nat} (h : i ∈ n) : tot e n = e i + tot e (n.erase i) := by
  induction n with
  | nil => cases h
  | cons x n ih =>
    by_cases q : x = i
    · subst q; rw [List.erase_cons_head]; rfl
    · have hi : i ∈ n := by
        cases h with
        | head => exact absurd rfl q
        | tail _ h => exact h
      rw [List.erase_cons_tail (by simpa using q)]
      show e x + tot e n = e i + (e x + tot e (n.erase i))
      rw [ih hi]; lia
theorem tot_sub {e : Nat → Int} (h : ∀ i, 0 ≤ e i) : ∀ (m n : List Nat), subm m n = true → tot e m ≤ tot e n := by
  intro m
  induction m with
  | nil => exact fun n _ => tot_nonneg h n
  | cons i m ih =>
    intro n c
    unfold subm at c
    rw [Bool.and_eq_true] at c
    have hi : i ∈ n := List.contains_iff_mem.mp c.1
    rw [tot_erase e hi]
    exact Int.add_le_add_left (ih _ c.2) _
theorem isMax_le {e : Nat → Int} (he : ∀ i, 0 ≤ e i) {M N : List (List Nat)} {a b : Int} (h : IsMax e M a) (k : IsMax e N b) (c : (M.all fun m => N.any fun n => subm m n) = true) : a ≤ b := by
  obtain ⟨m, hm, rfl⟩ := h.ex
  obtain ⟨n, hn, p⟩ := List.any_eq_true.mp (List.all_eq_true.mp c m hm)
  exact Int.le_trans (tot_sub he m n p) (k.le n hn)
noncomputable def last {α : Type} (o : Ops α) (r0 r1 : Nat) : α := (row o r0 r1 3 (rows o r0 r1 3)).l2
noncomputable def fwd (k d : Nat) : Nat := 3 * k + d
noncomputable def bwd (k d : Nat) : Nat := 3 * (3 - k) + (2 - d)
theorem sets_eq : ∀ r0 < 3, ∀ r1 < 3, ((last (mOps fwd) r0 r1).all fun m => (last (mOps bwd) r1 r0).any fun n => subm m n) = true ∧ ((last (mOps bwd) r1 r0).all fun m => (last (mOps fwd) r0 r1).any fun n => subm m n) = true := by decide +kernel
/- the row turned round ends at the same hour -/
theorem turned_round (w : Nat → Nat → Int) (hw : ∀ k d, 0 ≤ w k d) {r0 r1 : Nat} (h0 : r0 < 3) (h1 : r1 < 3) : last (iOps w) r0 r1 = last (iOps fun k d => w (3 - k) (2 - d)) r1 r0 := by
  have ef : ∀ k d, d < 3 → w ((3 * k + d) / 3) ((3 * k + d) % 3) = w k d := fun k d hd => by rw [show (3 * k + d) / 3 = k from arc35 hd, show (3 * k + d) % 3 = d from arc36 hd]
  have f : IsMax (fun i => w (i / 3) (i % 3)) (last (mOps fwd) r0 r1) (last (iOps w) r0 r1) :=
    (row_rl (mOps_rl _ fwd w ef) r0 r1 3 (rows_rl (mOps_rl _ fwd w ef) r0 r1 3)).l2
  have eb : ∀ k d, d < 3 → w ((3 * (3 - k) + (2 - d)) / 3) ((3 * (3 - k) + (2 - d)) % 3) = w (3 - k) (2 - d) := fun k d hd => by have h2 : 2 - d < 3 := Nat.lt_of_le_of_lt (Nat.sub_le _ _) (by decide); rw [show (3 * (3 - k) + (2 - d)) / 3 = 3 - k from arc35 h2, show (3 * (3 - k) + (2 - d)) % 3 = 2 - d from arc36 h2]
  have g : IsMax (fun i => w (i / 3) (i % 3)) (last (mOps bwd) r1 r0) (last (iOps fun k d => w (3 - k) (2 - d)) r1 r0) :=
    (row_rl (mOps_rl _ bwd _ eb) r1 r0 3 (rows_rl (mOps_rl _ bwd _ eb) r1 r0 3)).l2
  obtain ⟨c1, c2⟩ := sets_eq r0 h0 r1 h1
  exact Int.le_antisymm (isMax_le (fun _ => hw _ _) f g c1) (isMax_le (fun _ => hw _ _) g f c2)
end
noncomputable section
/- the rows of hours, by desk -/
noncomputable def Row.bs (r : Row Int) : List Int := [r.b0, r.b1, r.b2]
noncomputable def Row.ls (r : Row Int) : List Int := [r.l0, r.l1, r.l2]
noncomputable def Row.bf (r : Row Int) (j : Nat) : Int := r.bs.getD j 0
noncomputable def Row.lf (r : Row Int) (j : Nat) : Int := r.ls.getD j 0
/- the room ahead of the next desk -/
noncomputable def room (r0 r1 j : Nat) : Nat := if j = 0 then r0 else r1
noncomputable def intV (l : List Int) : V := .lst (l.map V.int)
noncomputable def begV (ps : List (Row Int)) : List V := ps.reverse.map fun r => intV r.bs
noncomputable def leaV (ps : List (Row Int)) : List V := ps.reverse.map fun r => intV r.ls
theorem rows_len {α : Type} (o : Ops α) (r0 r1 : Nat) : ∀ n, (rows o r0 r1 n).length = n
  | 0 => rfl
  | n + 1 => congrArg (· + 1) (rows_len o r0 r1 n)
section
variable {w : Nat → Nat → Int} {r0 r1 k : Nat} {ps : List (Row Int)}
theorem row_bf {j : Nat} (hj : j < 3) : (row (iOps w) r0 r1 k ps).bf j = up (iOps w) (if 0 < j then (row (iOps w) r0 r1 k ps).lf (j - 1) else 0) (ps[0]?.map fun r => r.lf j) := by
  rcases (by exact ar471 hj : j = 0 ∨ j = 1 ∨ j = 2) with rfl | rfl | rfl <;> rfl
theorem row_lf {j : Nat} (hj : j < 3) : (row (iOps w) r0 r1 k ps).lf j = if j < 2 then up (iOps w) ((row (iOps w) r0 r1 k ps).bf j + w k j) (ps[room r0 r1 j]?.map fun r => r.lf (j + 1)) else (row (iOps w) r0 r1 k ps).bf j + w k j := by
  rcases (by exact ar471 hj : j = 0 ∨ j = 1 ∨ j = 2) with rfl | rfl | rfl <;> rfl
theorem leaV_at {i : Nat} (hk : ps.length = k) (hi : i < k) : (leaV ps)[k - 1 - i]? = (ps[i]?.map fun r => intV r.ls) := by
  unfold leaV
  rw [List.getElem?_map, List.getElem?_reverse (by exact arc37 hk hi)]
  congr 2
  exact arc38 hk hi
theorem lsV_at (r : Row Int) {j : Nat} (hj : j < 3) : (r.ls.map V.int)[j]? = some (.int (r.lf j)) := by
  rcases (by exact ar471 hj : j = 0 ∨ j = 1 ∨ j = 2) with rfl | rfl | rfl <;> rfl
theorem ls_take (r : Row Int) {j : Nat} (hj : j < 3) : (r.ls.take (j + 1)).map V.int = (r.ls.take j).map V.int ++ [.int (r.lf j)] := by
  rcases (by exact ar471 hj : j = 0 ∨ j = 1 ∨ j = 2) with rfl | rfl | rfl <;> rfl
theorem bs_take (r : Row Int) {j : Nat} (hj : j < 3) : (r.bs.take (j + 1)).map V.int = (r.bs.take j).map V.int ++ [.int (r.bf j)] := by
  rcases (by exact ar471 hj : j = 0 ∨ j = 1 ∨ j = 2) with rfl | rfl | rfl <;> rfl
theorem begV_cons (r : Row Int) : begV (r :: ps) = begV ps ++ [intV r.bs] := by unfold begV; rw [List.reverse_cons, List.map_append]; rfl
theorem leaV_cons (r : Row Int) : leaV (r :: ps) = leaV ps ++ [intV r.ls] := by unfold leaV; rw [List.reverse_cons, List.map_append]; rfl
end
end
noncomputable section
/- the hours walked -/
theorem tn1 {k : Nat} (h : 0 < k) : ((k : Int) - 1).toNat = k - 1 := Int.toNat_sub k 1
theorem tn2 {k r : Nat} (h : r < k) : ((k : Int) - 1 - (r : Nat)).toNat = k - 1 - r := by rw [Int.sub_sub]; exact (Int.toNat_sub k (1 + r)).trans (Nat.sub_sub k 1 r).symm
theorem sm1 {k : Nat} (h : k < 1000) : ((k : Int) - 1) < 2 ^ 60 := by lia
theorem sm2 {k r : Nat} (h : k < 1000) : ((k : Int) - 1 - (r : Nat)) < 2 ^ 60 := by lia
theorem ge2 {k r : Nat} (h : r < k) : 0 ≤ (k : Int) - 1 - (r : Nat) := by lia
section
variable {B : Cx} {d : Nat} {σ : Store} {N : Nat}
noncomputable def hoL (ws : List Str) (es : Dk) (r0 r1 a c : Nat) : Loc := [("words", .lst (ws.map V.str)), ("works", .dct es), ("rooms", .tup [.int r0, .int r1]), ("begin", .ref a), ("leave", .ref c)]
noncomputable def hoS (σ : Store) (a c : Nat) (ps : List (Row Int)) : Store := pt (pt σ a (.list (begV ps))) c (.list (leaV ps))
noncomputable def hoL2 (ws : List Str) (es : Dk) (r0 r1 a c k e f : Nat) : Loc := [("words", .lst (ws.map V.str)), ("works", .dct es), ("rooms", .tup [.int r0, .int r1]), ("begin", .ref a), ("leave", .ref c), ("k", .int k), ("begins", .ref e), ("leaves", .ref f)]
noncomputable def hoS2 (S : Store) (e f j : Nat) (r : Row Int) : Store := pt (pt S e (.list ((r.bs.take j).map V.int))) f (.list ((r.ls.take j).map V.int))
theorem ifexp_same {R : Rec} {env : Env} {x y : Expr} {l : Loc} {c : Bool} {K : Post V} (v : V) (hx : c = true → ∀ K' : Post V, K' v σ N → R.E env x l σ N K') (hy : c = false → ∀ K' : Post V, K' v σ N → R.E env y l σ N K') (k : K v σ N) : VIf c (R.E env x l σ N K) (R.E env y l σ N K) := ⟨fun e => hx e K k, fun e => hy e K k⟩
noncomputable def hoL3 (ws : List Str) (es : Dk) (r0 r1 a c k e f j : Nat) (h : Int) : Loc := [("words", .lst (ws.map V.str)), ("works", .dct es), ("rooms", .tup [.int r0, .int r1]), ("begin", .ref a), ("leave", .ref c), ("k", .int k), ("begins", .ref e), ("leaves", .ref f), ("desk", .int j), ("hour", .int h)]
theorem hours_ok (b : Base B) {ws : List Str} {es : Dk} {w : Nat → Nat → Int} {r0 r1 : Nat} (hw : ∀ k (h : k < ws.length), dget es (.s ws[k]) = some (.tup [.int (w k 0), .int (w k 1), .int (w k 2)])) (hn : ws.length < 1000) (h0 : r0 < 1000) (h1 : r1 < 1000) {Q : Post V}
    (h : ∀ N', N ≤ N' → Q (.tup [.lst (begV (rows (iOps w) r0 r1 ws.length)), .lst (leaV (rows (iOps w) r0 r1 ws.length))]) σ N') : WC B (d + 1) (.ref 173) [.lst (ws.map V.str), .dct es, .tup [.int r0, .int r1]] σ N Q := by
  refine C_fun b.tabOk (names := ["words", "works", "rooms"]) (b.fn rfl) (b.code rfl rfl) b.lim rfl (fun s as hl => ?_) (by decide) (by decide) ⟨rfl, rfl, rfl, rfl, rfl⟩ (fun L hL hσL hab => ?_)
  · obtain ⟨x, y, z, rfl⟩ := len3 hl
    exact .of_eq rfl
  refine .mut (by decide) fun a ha => .mut (by decide) fun c hc => ?_
  refine bLen (.lst _) (by simp; exact ar82 hn) (bRange fun t u v => ?_)
  rw [List.length_map]
  refine .items (iter_range (n := ws.length) (by exact ar320 hn)) (fun i l σ' N' => l = hoL ws es r0 r1 a c ∧ σ' = hoS (σ.add L) a c (rows (iOps w) r0 r1 i)) (hoL ws es r0 r1 a c) (.cons rfl (.cons rfl (.cons rfl (.cons rfl (.cons rfl (.nil _)))))) ⟨rfl, rfl⟩ (fun _ _ _ _ _ _ => trivial) ?_ ?_
  · rintro k l σ' N' hk ⟨rfl, rfl⟩ hN
    have hpl := rows_len (iOps w) r0 r1 k
    refine .mut (by decide) fun e he => .mut (by decide) fun f hf => ?_
    refine bRange fun t u v => ?_
    refine .items (iter_range (n := 3) (by decide)) (fun j l σ' N' => l = hoL2 ws es r0 r1 a c k e f ∧ σ' = hoS2 (hoS (σ.add L) a c (rows (iOps w) r0 r1 k)) e f j (row (iOps w) r0 r1 k (rows (iOps w) r0 r1 k))) (hoL2 ws es r0 r1 a c k e f) (.cons rfl (.cons rfl (.cons rfl (.cons rfl (.cons rfl (.cons rfl (.cons rfl (.cons rfl (.nil _))))))))) ⟨rfl, rfl⟩ (fun _ _ _ _ _ _ => trivial) ?_ ?_
    · rintro j l σ' N'' hj ⟨rfl, rfl⟩ hN''
      have eb := row_bf (w := w) (r0 := r0) (r1 := r1) (k := k) (ps := rows (iOps w) r0 r1 k) hj
      have el := row_lf (w := w) (r0 := r0) (r1 := r1) (k := k) (ps := rows (iOps w) r0 r1 k) hj
      generalize row (iOps w) r0 r1 k (rows (iOps w) r0 r1 k) = r at *
      generalize rows (iOps w) r0 r1 k = ps at *
      have gf : hoS2 (hoS (σ.add L) a c ps) e f j r f = some (.list ((r.ls.take j).map V.int)) := pt_same _ _ _
      have ge : hoS2 (hoS (σ.add L) a c ps) e f j r e = some (.list ((r.bs.take j).map V.int)) := (pt_ne (by exact ar1 hf)).trans (pt_same _ _ _)
      have gc : hoS2 (hoS (σ.add L) a c ps) e f j r c = some (.list (leaV ps)) := (pt_ne (by exact arc39 hN he hf)).trans ((pt_ne (by exact arc40 hN he)).trans (pt_same _ _ _))
      have ll : ∀ i, i < j → ((r.ls.take j).map V.int)[i]? = some (.int (r.lf i)) := fun i hi => by
        rw [← lsV_at r (j := i) (by exact arc41 hj hi), List.getElem?_map, List.getElem?_map, List.getElem?_take, if_pos hi]
      refine ifexp_same (.int (if 0 < j then r.lf (j - 1) else 0)) (fun hp K' q => ?_) (fun hp K' q => ?_) ?_
      · have hp : 0 < j := by have := of_decide_eq_true hp; exact arc21 this
        rw [if_pos hp] at q
        exact iList (.ref gf) (by exact arc22 hp) (sm1 (Nat.lt_trans hj (by decide))) (by rw [tn1 hp]; exact ll (j - 1) (Nat.sub_lt hp (by decide))) q
      · have hp : ¬ 0 < j := by have := of_decide_eq_false hp; exact arc42 this
        rw [if_neg hp] at q
        exact q
      refine .join (fun l σ' _ => l = hoL3 ws es r0 r1 a c k e f j (r.bf j) ∧ σ' = hoS2 (hoS (σ.add L) a c ps) e f j r) ⟨?_, ?_⟩
      · rintro l σ' N₂ h2 ⟨rfl, rfl⟩
        have gk : (ws.map V.str)[(k : Int).toNat]? = some (.str ws[k]) := by rw [show (k : Int).toNat = k from rfl, List.getElem?_map, List.getElem?_eq_getElem hk]; rfl
        have b1 : ((r.bs.take j).map V.int).length < 2 ^ 20 := by rw [List.length_map, List.length_take]; exact arc43 hj
        have b2 : ((r.ls.take j).map V.int).length < 2 ^ 20 := by rw [List.length_map, List.length_take]; exact arc43 hj
        refine VMeth.builtin (.list (.ref ge)) rfl (bAppend .refl ge b1 ?_)
        rw [← bs_take r hj]
        have gf' : pt (hoS2 (hoS (σ.add L) a c ps) e f j r) e (.list ((r.bs.take (j + 1)).map V.int)) f = some (.list ((r.ls.take j).map V.int)) := (pt_ne (by exact ar27 hf)).trans gf
        have gc' : pt (hoS2 (hoS (σ.add L) a c ps) e f j r) e (.list ((r.bs.take (j + 1)).map V.int)) c = some (.list (leaV ps)) := (pt_ne (by exact arc40 hN he)).trans gc
        refine iLst (v := .str ws[k]) (by exact ar0) (by exact ar322 hn hk) gk (iDict (k := .s ws[k]) (.dct _) (hw k hk) (iTup (v := .int (w k j)) (by exact ar0) (by exact arc7 hj) ?_ ?_))
        · rcases (by exact ar471 hj : j = 0 ∨ j = 1 ∨ j = 2) with rfl | rfl | rfl <;> rfl
        refine .join (fun l σ' _ => l = hoL3 ws es r0 r1 a c k e f j (r.lf j) ∧ σ' = pt (hoS2 (hoS (σ.add L) a c ps) e f j r) e (.list ((r.bs.take (j + 1)).map V.int))) ⟨?_, ?_⟩
        · rintro l σ' N₃ h3 ⟨rfl, rfl⟩
          refine VMeth.builtin (.list (.ref gf')) rfl (bAppend .refl gf' b2 ?_)
          rw [← ls_take r hj]
          refine ⟨_, .cons rfl (.cons rfl (.cons rfl (.cons rfl (.cons rfl (.cons rfl (.cons rfl (.cons rfl (.nil _)))))))), rfl, ?_⟩
          unfold hoS2
          rw [pt_comm (a := f) (b := e) (by exact ar27 hf), pt_pt, pt_pt]
        · have gm : j < 2 → [V.int r0, V.int r1][(j : Int).toNat]? = some (.int (room r0 r1 j : Nat)) := fun h => by
            rcases (by exact ar132 h : j = 0 ∨ j = 1) with rfl | rfl <;> rfl
          have hr : room r0 r1 j < 1000 := by unfold room; split <;> lia
          refine ⟨fun h2 => iTup (v := .int (room r0 r1 j : Nat)) (by exact ar0) (by exact arc7 hj) (gm (by have := of_decide_eq_true h2; exact arc23 hj this)) ⟨fun h3 => ?_, fun h3 => ?_⟩, fun h2 => .neg rfl ?_⟩
          · have h2 : j < 2 := by have := of_decide_eq_true h2; exact arc23 hj this
            have h3 : room r0 r1 j < k := by have := of_decide_eq_true h3; exact ar478 this
            obtain ⟨q, hq⟩ : ∃ q, ps[room r0 r1 j]? = some q := ⟨_, List.getElem?_eq_getElem (by exact ar40 hpl h3)⟩
            rw [if_pos h2, hq] at el
            refine iTup (v := .int (room r0 r1 j : Nat)) (by exact ar0) (by exact arc94 h2) (gm h2) ?_
            refine iList (v := intV q.ls) (.ref gc') (ge2 h3) (sm2 (Nat.lt_trans hk hn)) (by rw [tn2 h3, leaV_at hpl h3, hq]; rfl) ?_
            refine iLst (by exact ar316) (Int.lt_of_le_of_lt (Int.add_le_add_right (Int.ofNat_le.mpr (Nat.le_of_lt_succ hj)) 1) (by decide)) (by rw [show ((j : Int) + 1).toNat = j + 1 from rfl]; exact lsV_at q (by exact arc99 hj h2)) (bMax ?_)
            exact ⟨_, .cons rfl (.cons rfl (.cons rfl (.cons rfl (.cons rfl (.cons rfl (.cons rfl (.cons rfl (.cons rfl (.cons (by rw [el]; rfl) (.nil _)))))))))), rfl, rfl⟩
          · have h2 : j < 2 := by have := of_decide_eq_true h2; exact arc23 hj this
            have h3 : ¬ room r0 r1 j < k := by have := of_decide_eq_false h3; exact arb21 this
            rw [if_pos h2, List.getElem?_eq_none (by exact arc100 hpl h3)] at el
            exact ⟨_, .cons rfl (.cons rfl (.cons rfl (.cons rfl (.cons rfl (.cons rfl (.cons rfl (.cons rfl (.cons rfl (.cons (by rw [el]; rfl) (.nil _)))))))))), rfl, rfl⟩
          · have h2 : ¬ j < 2 := by have := of_decide_eq_false h2; lia
            rw [if_neg h2] at el
            exact ⟨_, .cons rfl (.cons rfl (.cons rfl (.cons rfl (.cons rfl (.cons rfl (.cons rfl (.cons rfl (.cons rfl (.cons (by rw [el]; rfl) (.nil _)))))))))), rfl, rfl⟩
      · have p0 : 0 < k → ∃ q, ps[0]? = some q := fun h => ⟨_, List.getElem?_eq_getElem (by exact arc102 hpl h)⟩
        refine ⟨fun hk0 => ?_, fun hk0 => ?_⟩
        · have hk0 : 0 < k := by have := of_decide_eq_true hk0; exact arc21 this
          obtain ⟨q, hq⟩ := p0 hk0
          rw [hq] at eb
          refine iList (v := intV q.ls) (.ref gc) (by exact arc22 hk0) (sm1 (Nat.lt_trans hk hn)) (by rw [show ((k : Int) - 1).toNat = k - 1 - 0 from tn1 hk0, leaV_at hpl hk0, hq]; rfl) ?_
          refine iLst (by exact ar0) (by exact arc7 hj) (lsV_at q hj) (bMax ?_)
          exact ⟨_, .cons rfl (.cons rfl (.cons rfl (.cons rfl (.cons rfl (.cons rfl (.cons rfl (.cons rfl (.cons rfl (.cons (by rw [eb]; rfl) (.nil _)))))))))), rfl, rfl⟩
        · have hk0 : k = 0 := by have := of_decide_eq_false hk0; lia
          have hq : ps[0]? = none := List.getElem?_eq_none (by exact arc106 hpl hk0)
          rw [hq] at eb
          exact ⟨_, .cons rfl (.cons rfl (.cons rfl (.cons rfl (.cons rfl (.cons rfl (.cons rfl (.cons rfl (.cons rfl (.cons (by rw [eb]; rfl) (.nil _)))))))))), rfl, rfl⟩
    · rintro l σ' N'' ⟨rfl, rfl⟩ hN''
      have hr : rows (iOps w) r0 r1 (k + 1) = row (iOps w) r0 r1 k (rows (iOps w) r0 r1 k) :: rows (iOps w) r0 r1 k := rfl
      rw [hr]
      generalize row (iOps w) r0 r1 k (rows (iOps w) r0 r1 k) = r at *
      generalize rows (iOps w) r0 r1 k = ps at *
      have fr : ∀ x, N' ≤ x → hoS (σ.add L) a c ps x = none := fun x hx => (pt_ne (by exact arc44 hN hx)).trans ((pt_ne (by exact arc24 hc hN hx)).trans (hab x (by exact ar392 ha hc hN hx)))
      have sa : hoS (σ.add L) a c ps a = some (.list (begV ps)) := (pt_ne (by exact ar1 hc)).trans (pt_same _ _ _)
      have sc : hoS (σ.add L) a c ps c = some (.list (leaV ps)) := pt_same _ _ _
      have bl : (begV ps).length < 1000 := by unfold begV; rw [List.length_map, List.length_reverse, hpl]; exact arc45 hn hk
      have ll : (leaV ps).length < 1000 := by unfold leaV; rw [List.length_map, List.length_reverse, hpl]; exact arc45 hn hk
      have e3 : hoS2 (hoS (σ.add L) a c ps) e f 3 r = pt (pt (hoS (σ.add L) a c ps) e (.list (r.bs.map V.int))) f (.list (r.ls.map V.int)) := rfl
      rw [e3]
      have ga : pt (pt (hoS (σ.add L) a c ps) e (.list (r.bs.map V.int))) f (.list (r.ls.map V.int)) a = some (.list (begV ps)) := (pt_ne (by exact arc46 hc hN he hf)).trans ((pt_ne (by exact arc47 hc hN he)).trans sa)
      refine VMeth.builtin (.list (.ref ga)) rfl ?_
      refine bAppend (σ' := pt (hoS (σ.add L) a c ps) f (.list (r.ls.map V.int))) (v' := intV r.bs) (.list ((pt_ne (by exact ar1 hf)).trans (pt_same _ _ _)) ?_ ((pt_ne (by exact ar1 hf)).trans (fr e he))) ((pt_ne (by exact arc46 hc hN he hf)).trans sa) (Nat.lt_trans bl (by decide)) ?_
      · rw [pt_comm (a := e) (b := f) (by exact ar1 hf)]; exact sub_pt (.refl _) ((pt_ne (by exact ar1 hf)).trans (fr e he))
      have gc : pt (pt (hoS (σ.add L) a c ps) f (.list (r.ls.map V.int))) a (.list (begV ps ++ [intV r.bs])) c = some (.list (leaV ps)) := (pt_ne (by exact ar27 hc)).trans ((pt_ne (by exact arc39 hN he hf)).trans sc)
      refine VMeth.builtin (.list (.ref gc)) rfl ?_
      refine bAppend (σ' := pt (hoS (σ.add L) a c ps) a (.list (begV ps ++ [intV r.bs]))) (v' := intV r.ls) (.list ((pt_ne (by exact arc15 hc hN he hf)).trans (pt_same _ _ _)) ?_ ((pt_ne (by exact arc15 hc hN he hf)).trans (fr f (by exact ar3 he hf)))) ((pt_ne (by exact ar27 hc)).trans sc) (Nat.lt_trans ll (by decide)) ?_
      · rw [pt_comm (a := f) (b := a) (by exact arc15 hc hN he hf)]; exact sub_pt (.refl _) ((pt_ne (by exact arc15 hc hN he hf)).trans (fr f (by exact ar3 he hf)))
      refine ⟨_, .cons rfl (.cons rfl (.cons rfl (.cons rfl (.cons rfl (.nil _))))), rfl, ?_⟩
      unfold hoS
      rw [begV_cons, leaV_cons, pt_comm (a := c) (b := a) (by exact ar27 hc), pt_pt, pt_pt]
  · rintro l σ' N' ⟨rfl, rfl⟩ hN
    generalize rows (iOps w) r0 r1 ws.length = ps at *
    have ac : a ≠ c := by exact ar1 hc
    have na : (σ.add L) a = none := hab a ha
    have nc : (σ.add L) c = none := hab c (by exact ar3 ha hc)
    refine ⟨σ.add L, _, .cons (.list (σ' := pt (σ.add L) c (.list (leaV ps))) (xs := begV ps) ?_ ?_ ?_) (.cons (.list (pt_same _ _ _) (sub_pt (.refl _) nc) nc) .refl), (by show 2 ≤ sizeLine; decide), _, _, .refl, h N' (by exact arc107 ha hc hN)⟩
    · exact (pt_ne ac).trans (pt_same _ _ _)
    · unfold hoS; rw [pt_comm ac]; exact sub_pt (.refl _) ((pt_ne ac).trans na)
    · exact (pt_ne ac).trans na
end
end
noncomputable section
/- views of dicts of the store -/
section
variable {B : Cx} {d : Nat} {env : Env} {l : Loc} {σ : Store} {N : Nat} {u v : V} {xs ys : List V} {es : Dk} {Q : Post V}
theorem bValuesR {a ep : Nat} (hs : σ a = some (.dict es ep)) (h : Q (.imm (viewObj "dict_values" a)) σ N) : Need (WC B d (.builtin "dict.values") [.ref a] σ N Q) := ⟨fun A s as k I r => by
  obtain ⟨_, _, rfl, r1, r2⟩ := r.cons'
  obtain rfl := r2.nil'; obtain ⟨_, rfl⟩ := r1.inv
  obtain ⟨kvs, ho, rl⟩ := I.store _ _ hs
  have hn := I.notSys hs
  exact call_meetsIn F.slot_dict_values ho.dictOf.typeIs F.entry_dict_values (F.args_dict_values_1 _) (meets_dict_values (kxKind B.prog B.w) _ hn) ⟨⟨_, ho.dictOf⟩, .here I.push .push (.imm (Heap.get?_push_size _ rfl) I.free (by unfold Frozen; exact .tail _ (.tail _ (.tail _ (.tail _ (.head _)))))) h⟩⟩
theorem bSumW {u : V} {D : Store → Prop} {es : List (Kx × Int)} (hw : ViewW σ "dict_values" u (es.map fun p => (p.1, V.int p.2)) D) (h : Q (.int (es.map (·.2)).sum) σ N) : Need (WC B d (.builtin "sum") [u] σ N Q) := ⟨fun A s as k I r => by
  obtain ⟨_, _, rfl, r1, r2⟩ := r.cons'
  obtain rfl := r2.nil'
  obtain ⟨b, a, kvs, ep, rfl, hv, ho, rl, _⟩ := hw.at I r1
  have hlen : kvs.length = es.length := by rw [← rl.length, List.length_map]
  have hd : s.heap.DictAt (kxKind B.prog B.w) a kvs ep := ho
  have hlt : a < s.heap.objs.size := by obtain ⟨o, _, ho', _⟩ := ho; exact Heap.lt_size ho'
  have hne : a ≠ s.heap.objs.size := Nat.ne_of_lt hlt
  have core : wpAny (model B.prog B.w) A (call (.builtin "sum") [.ref b]) (fun v s' => (∃ t, v = .int (es.map (·.2)).sum t) ∧ (∀ b o, s.heap.get? b = some o → s'.heap.get? b = some o) ∧ s'.gens = s.gens ∧ s'.os = s.os) (fun _ _ => False) s := by
    refine call_sum_walkG (wpAny_pyIter_values ⟨_, hv, rfl, rfl⟩ ho ⟨_, _, _, _, _, _, fun i => (es.map (·.2)).getD i 0, rfl, Walks.dictValues (knd := kxKind B.prog B.w) (A := A.in1) k.handled s.heap.objs.size a hne kvs ep, ⟨⟨_, Heap.get?_push_size _ rfl, rfl, rfl⟩, hd.keep fun b o e => Heap.get?_push_of_some _ e⟩, ?_, ?_, ?_⟩)
    · intro b hb
      simp only [List.mem_cons, List.not_mem_nil, or_false] at hb
      rw [Heap.size_push]
      rcases hb with rfl | rfl
      · exact Nat.lt_succ_self _
      · exact Nat.lt_succ_of_lt hlt
    · exact fun i v ⟨k, e⟩ => rl.ints i k v e
    · intro h' tk t' hk
      rw [preSum_getD, hlen, show es.length = (es.map (·.2)).length from (List.length_map _).symm, List.take_length]
      exact ⟨⟨t', rfl⟩, fun b o e => hk b o (fun q => by have := Heap.lt_size e; rw [List.mem_singleton] at q; rw [q] at this; exact absurd this (Nat.lt_irrefl _)) (Heap.get?_push_of_some _ e), rfl, rfl⟩
  refine bot (any_grow core) fun v s' ⟨⟨⟨t, e⟩, hx, hg, hos⟩, hz⟩ => ?_
  subst e
  exact .here (I.grow hx hz hg hos) (.grow hx) (.int _ _) h⟩
end
end
noncomputable section
/- the hours of a job at a desk -/
structure Jb where
  ws : List Str
  w : Nat → Nat → Int
  r0 : Nat
  r1 : Nat
structure Jb.Ok (D : Jb) : Prop where
  len : D.ws.length = 4
  dist : ∀ i j, i < j → j < 4 → D.ws.getD i "" ≠ D.ws.getD j ""
  h0 : D.r0 < 3
  h1 : D.r1 < 3
  pos : ∀ k j, 1 ≤ D.w k j
  ne : ∀ k, k < 4 → D.ws.getD k "" ≠ ""
  sz : ∀ k, k < 4 → (D.ws.getD k "").length ≤ 1000
noncomputable def Jb.wd (D : Jb) (k : Nat) : Str := D.ws.getD k ""
noncomputable def Jb.rm (D : Jb) (j : Nat) : Nat := room D.r0 D.r1 j
noncomputable def Jb.rw (D : Jb) (k : Nat) : Row Int := row (iOps D.w) D.r0 D.r1 k (rows (iOps D.w) D.r0 D.r1 k)
noncomputable def Jb.bt (D : Jb) (k j : Nat) : Int := (D.rw k).bf j
noncomputable def Jb.lv (D : Jb) (k j : Nat) : Int := (D.rw k).lf j
noncomputable def Jb.dn (D : Jb) (k j : Nat) : Int := D.bt k j + D.w k j
theorem rows_at {α : Type} {o : Ops α} {r0 r1 : Nat} : ∀ {n i : Nat}, i < n → (rows o r0 r1 n)[i]? = some (row o r0 r1 (n - 1 - i) (rows o r0 r1 (n - 1 - i)))
  | n + 1, 0, _ => rfl
  | n + 1, i + 1, h => by
    have := rows_at (o := o) (r0 := r0) (r1 := r1) (n := n) (i := i) (by exact arc108 h)
    show (rows o r0 r1 n)[i]? = _
    rw [this, show n + 1 - 1 - (i + 1) = n - 1 - i by lia]
section
variable {D : Jb} {j k : Nat} {t : Int}
theorem Jb.bt_0 (hj : j < 3) : D.bt 0 j = if 0 < j then D.lv 0 (j - 1) else 0 := row_bf hj
theorem Jb.bt_s (hj : j < 3) : D.bt (k + 1) j = max (if 0 < j then D.lv (k + 1) (j - 1) else 0) (D.lv k j) := row_bf hj
theorem Jb.lv_e (hj : j < 3) : D.lv k j = if j < 2 ∧ D.rm j < k then max (D.dn k j) (D.lv (k - 1 - D.rm j) (j + 1)) else D.dn k j := by
  have h := row_lf (w := D.w) (r0 := D.r0) (r1 := D.r1) (k := k) (ps := rows (iOps D.w) D.r0 D.r1 k) hj
  show (D.rw k).lf j = _
  unfold Jb.rw
  rw [h]
  by_cases h2 : j < 2
  · rw [if_pos h2]
    by_cases h3 : D.rm j < k
    · rw [if_pos ⟨h2, h3⟩]
      unfold Jb.rm at h3 ⊢
      rw [rows_at h3]; rfl
    · rw [if_neg (fun q => h3 q.2)]
      unfold Jb.rm at h3
      rw [List.getElem?_eq_none (by rw [rows_len]; exact arc110 h3)]; rfl
  · rw [if_neg h2, if_neg (fun q => h2 q.1)]; rfl
theorem Jb.lv_now (hj : j < 3) (h : j < 2 → D.rm j < k → D.lv (k - 1 - D.rm j) (j + 1) ≤ D.dn k j) : D.lv k j = D.dn k j := by
  rw [lv_e hj]
  split
  · rename_i q; exact Int.max_eq_left (h q.1 q.2)
  · rfl
theorem Jb.lv_late (hj : j < 2) (h : D.rm j < k) (hd : D.dn k j ≤ D.lv (k - 1 - D.rm j) (j + 1)) : D.lv k j = D.lv (k - 1 - D.rm j) (j + 1) := by
  rw [lv_e (by exact arc25 hj), if_pos ⟨hj, h⟩]; exact Int.max_eq_right hd
/- a job begins at `t`: the later of two hours -/
theorem Jb.bt_is (hj : j < 3) (h0 : 0 ≤ t) (h1 : 0 < k → D.lv (k - 1) j ≤ t) (h2 : 0 < j → D.lv k (j - 1) ≤ t) (h : (0 < k ∧ D.lv (k - 1) j = t) ∨ (0 < j ∧ D.lv k (j - 1) = t) ∨ (k = 0 ∧ j = 0 ∧ t = 0)) : D.bt k j = t := by
  cases k with
  | zero =>
    rw [bt_0 hj]
    by_cases q : 0 < j
    · rw [if_pos q]; rcases h with h | h | h <;> lia
    · rw [if_neg q]; rcases h with h | h | h <;> lia
  | succ k =>
    rw [bt_s hj]
    simp only [Nat.add_sub_cancel] at h1 h
    have h1 := h1 (by exact arc2)
    by_cases q : 0 < j
    · have h2 := h2 q
      rw [if_pos q]; rcases h with h | h | h <;> lia
    · rw [if_neg q]; rcases h with h | h | h <;> lia
theorem Jb.Ok.lv_dn (o : D.Ok) (hj : j < 3) : D.dn k j ≤ D.lv k j := by
  rw [lv_e hj]
  split
  · exact Int.le_max_left _ _
  · exact Int.le_refl _
theorem Jb.bt_lv (hj : j < 3) (h : 0 < j) : D.lv k (j - 1) ≤ D.bt k j := by
  cases k with
  | zero => rw [bt_0 hj, if_pos h]; exact Int.le_refl _
  | succ k => rw [bt_s hj, if_pos h]; exact Int.le_max_left _ _
theorem Jb.bt_pr (hj : j < 3) : D.lv k j ≤ D.bt (k + 1) j := by rw [bt_s hj]; exact Int.le_max_right _ _
theorem Jb.Ok.bt_ge (o : D.Ok) : ∀ {j k : Nat}, j < 3 → 0 ≤ D.bt k j := fun {j} => by
  induction j with
  | zero =>
    intro k hj
    cases k with
    | zero => rw [bt_0 hj]; exact Int.le_refl _
    | succ k => rw [bt_s hj]; exact Int.le_max_left _ _
  | succ j ih =>
    intro k hj
    have a := ih (k := k) (by exact arc8 hj)
    have b := Jb.bt_lv (D := D) (k := k) hj (by exact arc2)
    have c := o.lv_dn (k := k) (j := j) (by exact arc8 hj)
    have e := o.pos k j
    unfold Jb.dn at c
    rw [Nat.add_sub_cancel] at b
    lia
/- the last of all is last -/
theorem Jb.Ok.dn_max (o : D.Ok) {k j : Nat} (hk : k < 4) (hj : j < 3) : D.dn k j ≤ D.dn 3 2 := by
  have up : ∀ {k j}, j < 2 → D.dn k j ≤ D.dn k (j + 1) := fun {k j} h => by
    have a := o.lv_dn (k := k) (j := j) (by exact arc25 h)
    have b := Jb.bt_lv (D := D) (k := k) (j := j + 1) (by exact arc11 h) (by exact arc2)
    have c := o.pos k (j + 1)
    unfold Jb.dn at *
    rw [Nat.add_sub_cancel] at b
    exact arc48 a b c
  have nx : ∀ {k}, D.dn k 2 ≤ D.dn (k + 1) 2 := fun {k} => by
    have a := o.lv_dn (k := k) (j := 2) (by exact arc3)
    have b := Jb.bt_pr (D := D) (k := k) (j := 2) (by exact arc3)
    have c := o.pos (k + 1) 2
    unfold Jb.dn at *
    exact arc48 a b c
  have h2 : D.dn k j ≤ D.dn k 2 := by
    rcases (by exact ar471 hj : j = 0 ∨ j = 1 ∨ j = 2) with rfl | rfl | rfl
    · exact Int.le_trans (up (by exact arc112)) (up (by exact arc113))
    · exact up (by exact arc114)
    · exact Int.le_refl _
  have h3 : D.dn k 2 ≤ D.dn 3 2 := by
    rcases (by exact arc1 hk : k = 0 ∨ k = 1 ∨ k = 2 ∨ k = 3) with rfl | rfl | rfl | rfl
    · exact Int.le_trans nx (Int.le_trans nx nx)
    · exact Int.le_trans nx nx
    · exact nx
    · exact Int.le_refl _
  exact Int.le_trans h2 h3
end
/- the books -/
noncomputable def nm (j : Nat) : Str := (["desk:1()", "desk:2()", "desk:3()"] : List Str).getD j ""
section
variable (D : Jb)
noncomputable def Jb.stay (k j : Nat) : Int := D.lv k j - D.bt k j
noncomputable def Jb.ss (j : Nat) : Nat → List (Kx × Int)
  | 0 => []
  | m + 1 => Jb.ss j m ++ [(.s (D.wd m), D.stay m j)]
noncomputable def Jb.pr (j : Nat) : Nat → Int
  | 0 => 0
  | m + 1 => Jb.pr j m + (if D.stay m j = D.w m j then 1 else 0)
noncomputable def Jb.wk (j : Nat) : Nat → Int
  | 0 => 0
  | m + 1 => Jb.wk j m + D.w m j
noncomputable def Jb.sy (j : Nat) : Nat → Int
  | 0 => 0
  | m + 1 => Jb.sy j m + D.stay m j
noncomputable def Jb.ent (j m : Nat) : V := stat (D.pr j m) m (D.wk j m) (D.sy j m) (D.ss j m)
noncomputable def Jb.en (j k : Nat) : V := .tup [.int (D.dn k j), .int j, .str (D.wd k)]
noncomputable def Jb.bk (l : Nat → Nat) : Dk := [0, 1, 2].flatMap fun j => if l j = 0 then [] else [(.s (nm j), D.ent j (l j))]
end
theorem gset_none {α : Type} {es : List (Kx × α)} {k : Kx} {v : α} (h : gget es k = none) : gset es k v = es ++ [(k, v)] := by
  unfold gset
  rw [if_neg]
  intro q
  obtain ⟨p, hp, e⟩ := List.any_eq_true.mp q
  unfold gget at h
  rw [Option.map_eq_none_iff, List.find?_eq_none] at h
  exact h p hp e
theorem gget_app {α : Type} {es fs : List (Kx × α)} {k : Kx} (h : gget es k = none) : gget (es ++ fs) k = gget fs k := by
  unfold gget at *
  rw [Option.map_eq_none_iff] at h
  rw [List.find?_append, h]; rfl
section
variable {D : Jb} {j k : Nat}
theorem Jb.ss_none {x : Str} : ∀ {m : Nat}, (∀ i < m, D.wd i ≠ x) → gget (D.ss j m) (.s x) = none
  | 0, _ => rfl
  | m + 1, h => by
    show gget (D.ss j m ++ _) _ = _
    rw [gget_app (Jb.ss_none fun i hi => h i (by exact ar479 hi))]
    unfold gget
    rw [List.find?_cons_of_neg (by simpa using h m (by exact ar14))]; rfl
theorem Jb.Ok.ss_get (o : D.Ok) {m : Nat} (hm : m < 4) : gget (D.ss j m) (.s (D.wd m)) = none := Jb.ss_none fun i hi => o.dist i m hi hm
theorem Jb.Ok.ss_copied (o : D.Ok) : ∀ {m : Nat}, m ≤ 4 → copied (D.ss j m) = D.ss j m
  | 0, _ => rfl
  | m + 1, h => by
    have ih := o.ss_copied (m := m) (by exact ar24 h)
    unfold copied at ih ⊢
    show (D.ss j m ++ [_]).foldl _ _ = _
    rw [List.foldl_append, ih]
    exact gset_none (o.ss_get (by exact arc49 h))
theorem Jb.Ok.ss_addc (o : D.Ok) {m : Nat} (h : m < 4) : addc (D.ss j m) [(.s (D.wd m), D.stay m j)] = D.ss j (m + 1) := by
  unfold addc
  rw [o.ss_copied (by exact arc50 h)]
  show gset (D.ss j m) (.s (D.wd m)) (match gget (D.ss j m) (.s (D.wd m)) with | some x => x + D.stay m j | none => D.stay m j) = _
  rw [o.ss_get h]
  exact gset_none (o.ss_get h)
theorem Jb.ss_sum : ∀ {m : Nat}, ((D.ss j m).map (·.2)).sum = D.sy j m
  | 0 => rfl
  | m + 1 => by
    show ((D.ss j m ++ [_]).map _).sum = _
    rw [List.map_append, List.sum_append, Jb.ss_sum]
    show _ + (_ + 0) = _
    rw [Int.add_zero]; rfl
theorem Jb.ss_len : ∀ {m : Nat}, (D.ss j m).length = m
  | 0 => rfl
  | m + 1 => by show (D.ss j m ++ [_]).length = _; rw [List.length_append, Jb.ss_len]; rfl
theorem Jb.ss_last {m : Nat} (h : gget (D.ss j m) (.s (D.wd m)) = none) : gget (D.ss j (m + 1)) (.s (D.wd m)) = some (D.stay m j) := by
  show gget (D.ss j m ++ _) _ = _
  rw [gget_app h]
  unfold gget
  rw [List.find?_cons_of_pos (by simp)]; rfl
end
end
noncomputable section
/- the due told -/
section
variable {D : Jb} {j k : Nat}
noncomputable def Jb.R4 (D : Jb) : List (Row Int) := rows (iOps D.w) D.r0 D.r1 4
theorem Jb.leaV_k (hk : k < 4) : (leaV D.R4)[k]? = some (intV (D.rw k).ls) := by
  have := leaV_at (ps := D.R4) (k := 4) (i := 3 - k) (by unfold Jb.R4; rw [rows_len]) (by exact arc16)
  rw [show 4 - 1 - (3 - k) = k by exact arc17 hk] at this
  rw [this]
  unfold Jb.R4
  rw [rows_at (by exact arc16), show 4 - 1 - (3 - k) = k by exact arc17 hk]; rfl
theorem begV_at {ps : List (Row Int)} {i : Nat} (hk : ps.length = k) (hi : i < k) : (begV ps)[k - 1 - i]? = (ps[i]?.map fun r => intV r.bs) := by
  unfold begV
  rw [List.getElem?_map, List.getElem?_reverse (by exact arc37 hk hi)]
  congr 2
  exact arc38 hk hi
theorem Jb.begV_k (hk : k < 4) : (begV D.R4)[k]? = some (intV (D.rw k).bs) := by
  have := begV_at (ps := D.R4) (k := 4) (i := 3 - k) (by unfold Jb.R4; rw [rows_len]) (by exact arc16)
  rw [show 4 - 1 - (3 - k) = k by exact arc17 hk] at this
  rw [this]
  unfold Jb.R4
  rw [rows_at (by exact arc16), show 4 - 1 - (3 - k) = k by exact arc17 hk]; rfl
theorem bsV_at (r : Row Int) {j : Nat} (hj : j < 3) : (r.bs.map V.int)[j]? = some (.int (r.bf j)) := by
  rcases (by exact ar471 hj : j = 0 ∨ j = 1 ∨ j = 2) with rfl | rfl | rfl <;> rfl
noncomputable def Jb.ends (D : Jb) (j k : Nat) : List V := ((List.range j).flatMap fun i => (List.range 4).map (D.en i)) ++ (List.range k).map (D.en j)
theorem Jb.ends_k : D.ends j (k + 1) = D.ends j k ++ [D.en j k] := by unfold Jb.ends; rw [List.range_succ (n := k), List.map_append, List.append_assoc]; rfl
theorem Jb.ends_j : D.ends (j + 1) 0 = D.ends j 4 := by unfold Jb.ends; rw [List.range_succ (n := j), List.flatMap_append, List.append_assoc]; congr 1
theorem Jb.ends_len : (D.ends j k).length = 4 * j + k := by
  unfold Jb.ends
  rw [List.length_append, List.length_map, List.length_range, List.length_flatMap]
  congr 1
  induction j with
  | zero => rfl
  | succ j ih => rw [List.range_succ (n := j), List.map_append, List.sum_append, ih]; simp; lia
/- a book of the first desks, full -/
noncomputable def Jb.fb (D : Jb) (j : Nat) : Dk := (List.range j).map fun i => (.s (nm i), D.ent i 4)
theorem nm_due (hj : j < 3) : "desk:" ++ Str.ofString (toString ((j : Int) + 1)) ++ "()" = nm j := by
  rcases (by exact ar471 hj : j = 0 ∨ j = 1 ∨ j = 2) with rfl | rfl | rfl <;> kernel_rfl
theorem nm_len (hj : j < 3) : (nm j).length ≤ 100 := by
  rcases (by exact ar471 hj : j = 0 ∨ j = 1 ∨ j = 2) with rfl | rfl | rfl <;> decide
theorem nm_ne : ∀ i < 3, ∀ j < 3, i ≠ j → nm i ≠ nm j := by decide
theorem Jb.fb_none (hj : j < 3) : dget (D.fb j) (.s (nm j)) = none := by
  unfold dget
  rw [Option.map_eq_none_iff, List.find?_eq_none]
  intro p hp
  obtain ⟨i, hi, rfl⟩ := List.mem_map.mp hp
  have hi := List.mem_range.mp hi
  simpa using nm_ne i (by exact arc41 hj hi) j hj (by exact ar42 hi)
theorem dset_none {es : Dk} {k : Kx} {v : V} (h : dget es k = none) : dset es k v = es ++ [(k, v)] := gset_none h
theorem Jb.fb_s (hj : j < 3) : dset (D.fb j) (.s (nm j)) (D.ent j 4) = D.fb (j + 1) := by
  rw [dset_none (Jb.fb_none hj)]; unfold Jb.fb; rw [List.range_succ, List.map_append]; rfl
theorem Jb.fb_len : (D.fb j).length = j := by unfold Jb.fb; rw [List.length_map, List.length_range]
noncomputable def Jb.prs (D : Jb) : List (V × List V) := (List.range 3).flatMap fun i => (List.range 4).map fun k => (V.int (D.dn k i), [V.int i, .str (D.wd k)])
theorem Jb.prs_ends : D.prs.map (fun p => V.tup (p.1 :: p.2)) = D.ends 3 0 := rfl
theorem Jb.prs_mem {p : V × List V} (h : p ∈ D.prs) : ∃ k j, k < 4 ∧ j < 3 ∧ p = (V.int (D.dn k j), [V.int (j : Nat), .str (D.wd k)]) := by
  obtain ⟨j, hj, h⟩ := List.mem_flatMap.mp h
  obtain ⟨k, hk, rfl⟩ := List.mem_map.mp h
  exact ⟨k, j, List.mem_range.mp hk, List.mem_range.mp hj, rfl⟩
theorem Jb.Ok.dn_ge (o : D.Ok) (hj : j < 3) : 0 ≤ D.dn k j := by have := o.bt_ge (k := k) hj; have := o.pos k j; unfold Jb.dn; lia
theorem Jb.Ok.ws_k (o : D.Ok) (hk : k < 4) : (D.ws.map V.str)[k]? = some (.str (D.wd k)) := by
  have := o.len
  rw [List.getElem?_map, List.getElem?_eq_getElem (by exact arc51 hk this)]
  unfold Jb.wd
  rw [List.getD_eq_getElem?_getD, List.getElem?_eq_getElem (by exact arc51 hk this)]; rfl
end
section
variable {B : Cx} {d : Nat} {σ : Store} {N : Nat} {D : Jb}
noncomputable def duL (D : Jb) (es : Dk) (tx : Str) (a c : Nat) : Loc := [("words", .lst (D.ws.map V.str)), ("works", .dct es), ("text", .str tx), ("begin", .lst (begV D.R4)), ("leave", .lst (leaV D.R4)), ("ends", .ref a), ("book", .ref c)]
noncomputable def duL2 (D : Jb) (es : Dk) (tx : Str) (a c j s k : Nat) (p : Int) : Loc := [("words", .lst (D.ws.map V.str)), ("works", .dct es), ("text", .str tx), ("begin", .lst (begV D.R4)), ("leave", .lst (leaV D.R4)), ("ends", .ref a), ("book", .ref c), ("desk", .int j), ("stays", .ref s), ("work", .int (D.wk j k)), ("prompt", .int p)]
noncomputable def duL3 (D : Jb) (es : Dk) (tx : Str) (a c j s k : Nat) (p : Int) : Loc := [("words", .lst (D.ws.map V.str)), ("works", .dct es), ("text", .str tx), ("begin", .lst (begV D.R4)), ("leave", .lst (leaV D.R4)), ("ends", .ref a), ("book", .ref c), ("desk", .int j), ("stays", .ref s), ("work", .int (D.wk j (k + 1))), ("prompt", .int p), ("k", .int k), ("hours", .int (D.w k j))]
noncomputable def duS (D : Jb) (σ : Store) (a c j k ep : Nat) : Store := pt (pt σ a (.list (D.ends j k))) c (.dict (D.fb j) ep)
noncomputable def Jb.due (D : Jb) (zs : List V) (tx : Str) : V := .tup [.lst zs, .dct (D.fb 3), .int (1 + Txt.count tx "\n")]
theorem due_ok (b : Base B) (o : D.Ok) {es : Dk} {tx : Str} (hw : ∀ k, k < 4 → dget es (.s (D.wd k)) = some (.tup [.int (D.w k 0), .int (D.w k 1), .int (D.w k 2)])) {Q : Post V}
    (h : ∀ N' zs, N ≤ N' → IsSorted (D.ends 3 0) zs → Q (D.due zs tx) σ N') : WC B (d + 2) (.ref 180) [.lst (D.ws.map V.str), .dct es, .tup [.int D.r0, .int D.r1], .str tx] σ N Q := by
  have hlen := o.len
  refine C_fun b.tabOk (names := ["words", "works", "rooms", "text"]) (b.fn rfl) (b.code rfl rfl) b.lim rfl (fun s as hl => ?_) (by decide) (by decide) ⟨rfl, rfl, rfl, rfl, rfl⟩ (fun L hL hσL hab => ?_)
  · obtain ⟨x, y, z, u, rfl⟩ := len4 hl
    exact .of_eq rfl
  have h0 := o.h0
  have h1 := o.h1
  refine ⟨hours_ok b (w := D.w) (fun k hk => ?_) (by exact ar378 hlen) (by exact arc52 h0) (by exact arc52 h1) fun N₁ hN₁ => ?_⟩
  · have := hw k (by exact arc116 hlen hk)
    unfold Jb.wd at this
    rw [List.getD_eq_getElem?_getD, List.getElem?_eq_getElem hk] at this
    exact this
  rw [hlen]
  refine .mut (by decide) fun a ha => fun c hc => .mut fun ep => ?_
  refine bRange fun t u v => ?_
  refine .items (iter_range (n := 3) (by decide)) (fun j l σ' N' => ∃ ep, l = duL D es tx a c ∧ σ' = duS D (σ.add L) a c j 0 ep) (duL D es tx a c) (.cons rfl (.cons rfl (.cons rfl (.cons rfl (.cons rfl (.cons rfl (.cons rfl (.nil _)))))))) ⟨ep, rfl, rfl⟩ (fun _ _ _ _ _ _ => trivial) ?_ ?_
  · rintro j l σ' N₂ hj ⟨ep, rfl, rfl⟩ hN₂
    refine fun s hs => .mut fun eps => ?_
    refine bLen (.lst _) (by simp; exact arc53 hlen) (bRange fun t u v => ?_)
    rw [List.length_map, hlen]
    refine .items (iter_range (n := 4) (by decide)) (fun k l σ' N' => ∃ eps, l = duL2 D es tx a c j s k (D.pr j k) ∧ σ' = pt (duS D (σ.add L) a c j k ep) s (.dict (vm V.int (D.ss j k)) eps)) (duL2 D es tx a c j s 0 (D.pr j 0)) (.cons rfl (.cons rfl (.cons rfl (.cons rfl (.cons rfl (.cons rfl (.cons rfl (.cons rfl (.cons rfl (.cons rfl (.cons rfl (.nil _)))))))))))) ⟨eps, rfl, rfl⟩ (fun _ _ _ _ _ _ => trivial) ?_ ?_
    · rintro k l σ' N₃ hk ⟨eps, rfl, rfl⟩ hN₃
      have hk : k < 4 := hk
      have ga : ∀ {o}, pt (duS D (σ.add L) a c j k ep) s o a = some (.list (D.ends j k)) := (pt_ne (by exact arc47 hc hN₂ hs)).trans ((pt_ne (by exact ar1 hc)).trans (pt_same _ _ _))
      have gw : (D.ws.map V.str)[(k : Int).toNat]? = some (.str (D.wd k)) := o.ws_k hk
      have gl : ((D.rw k).ls.map V.int)[(j : Int).toNat]? = some (.int (D.lv k j)) := lsV_at _ hj
      have gb : ((D.rw k).bs.map V.int)[(j : Int).toNat]? = some (.int (D.bt k j)) := bsV_at _ hj
      refine iLst (by exact ar0) (by exact arc0 hk) gw (iDict (k := .s (D.wd k)) (.dct _) (hw k hk) (iTup (v := .int (D.w k j)) (by exact ar0) (by exact arc7 hj) ?_ ?_))
      · rcases (by exact ar471 hj : j = 0 ∨ j = 1 ∨ j = 2) with rfl | rfl | rfl <;> rfl
      refine iLst (by exact ar0) (by exact arc0 hk) (Jb.leaV_k hk) (iLst (by exact ar0) (by exact arc7 hj) gl ?_)
      refine iLst (by exact ar0) (by exact arc0 hk) (Jb.begV_k hk) (iLst (by exact ar0) (by exact arc7 hj) gb ?_)
      refine iLst (by exact ar0) (by exact arc0 hk) gw ?_
      refine pDict (k := .s (D.wd k)) (v := .int (D.stay k j)) (pt_same _ _ _) (by rw [vm_len, Jb.ss_len]; exact arc10 hk) fun eps' => ?_
      rw [pt_pt, dset_vm, gset_none (o.ss_get hk)]
      refine .join (fun l σ' _ => l = duL3 D es tx a c j s k (D.pr j (k + 1)) ∧ σ' = pt (duS D (σ.add L) a c j k ep) s (.dict (vm V.int (D.ss j (k + 1))) eps')) ⟨?_, ?_⟩
      · rintro l σ' N₄ h4 ⟨rfl, rfl⟩
        refine VMeth.builtin (.list (.ref ga)) rfl ?_
        refine iLst (by exact ar0) (by exact arc0 hk) (Jb.begV_k hk) (iLst (by exact ar0) (by exact arc7 hj) gb ?_)
        refine iLst (by exact ar0) (by exact arc0 hk) gw ?_
        refine ⟨_, _, .refl, (by show 3 ≤ sizeLine; decide), ?_⟩
        refine bAppend .refl ga (by rw [Jb.ends_len]; lia) ?_
        refine ⟨_, .cons rfl (.cons rfl (.cons rfl (.cons rfl (.cons rfl (.cons rfl (.cons rfl (.cons rfl (.cons rfl (.cons rfl (.cons rfl (.nil _))))))))))), eps', rfl, ?_⟩
        unfold duS
        rw [pt_comm (a := s) (b := a) (by exact arc24 hc hN₂ hs), pt_comm (a := c) (b := a) (by exact ar27 hc), pt_pt, Jb.ends_k]; rfl
      · refine iLst (by exact ar0) (by exact arc0 hk) gw ?_
        refine iDict (k := .s (D.wd k)) (v := .int (D.stay k j)) (.ref (pt_same _ _ _)) (by rw [dget_vm]; exact congrArg _ (Jb.ss_last (o.ss_get hk))) ⟨fun e => ?_, fun e => ?_⟩
        · have e := of_decide_eq_true e
          refine ⟨_, .cons rfl (.cons rfl (.cons rfl (.cons rfl (.cons rfl (.cons rfl (.cons rfl (.cons rfl (.cons rfl (.cons rfl (.cons ?_ (.cons rfl (.cons rfl (.nil _))))))))))))), rfl, rfl⟩
          show some (V.int (D.pr j k + 1)) = some (.int (D.pr j k + if D.stay k j = D.w k j then 1 else 0))
          rw [if_pos e]
        · have e := of_decide_eq_false e
          refine ⟨_, .cons rfl (.cons rfl (.cons rfl (.cons rfl (.cons rfl (.cons rfl (.cons rfl (.cons rfl (.cons rfl (.cons rfl (.cons ?_ (.cons rfl (.cons rfl (.nil _))))))))))))), rfl, rfl⟩
          show some (V.int (D.pr j k)) = some (.int (D.pr j k + if D.stay k j = D.w k j then 1 else 0))
          rw [if_neg e, Int.add_zero]
    · rintro l σ' N₃ ⟨eps, rfl, rfl⟩ hN₃
      have fs : duS D (σ.add L) a c j 4 ep s = none := (pt_ne (by exact arc44 hN₂ hs)).trans ((pt_ne (by exact arc24 hc hN₂ hs)).trans (hab s (by exact arc118 hN₁ ha hc hN₂ hs)))
      have n1 : (nm j).length ≤ 100 := nm_len hj
      refine bLen (.lst _) (by simp; exact arc53 hlen) ?_
      rw [List.length_map, hlen]
      refine VMeth.builtin (.dict (.ref (pt_same _ _ _))) rfl (bValuesR (pt_same _ _ _) (bSumW (es := D.ss j 4) (.ref (pt_same _ _ _)) ?_))
      rw [Jb.ss_sum]
      refine ⟨duS D (σ.add L) a c j 4 ep, _, .cons .refl (.cons .refl (.cons .refl (.cons .refl (.cons (.dict (pt_same _ _ _) (sub_pt (.refl _) fs) fs) .refl)))), (by show 5 ≤ sizeLine; decide), ?_⟩
      refine bStrI (by rcases (by exact ar471 hj : j = 0 ∨ j = 1 ∨ j = 2) with rfl | rfl | rfl <;> decide) ⟨?_, ?_, ?_⟩
      · rcases (by exact ar471 hj : j = 0 ∨ j = 1 ∨ j = 2) with rfl | rfl | rfl <;> decide +kernel
      · rcases (by exact ar471 hj : j = 0 ∨ j = 1 ∨ j = 2) with rfl | rfl | rfl <;> decide +kernel
      · have e : ("desk:" : Str) ++ Str.ofString (toString ((j : Int) + 1)) ++ "()" = nm j := nm_due hj
        rw [e]
        refine pDict (k := .s (nm j)) (v := D.ent j 4) (pt_same _ _ _) (by rw [Jb.fb_len]; exact arc119 hj) fun ep' => ?_
        refine ⟨_, .cons rfl (.cons rfl (.cons rfl (.cons rfl (.cons rfl (.cons rfl (.cons rfl (.nil _))))))), ep', rfl, ?_⟩
        unfold duS
        rw [pt_pt, Jb.fb_s hj, Jb.ends_j]
  · rintro l σ' N₂ ⟨ep, rfl, rfl⟩ hN₂
    have ga : duS D (σ.add L) a c 3 0 ep a = some (.list (D.ends 3 0)) := (pt_ne (by exact ar1 hc)).trans (pt_same _ _ _)
    refine bSortT (T := "int") (rows := D.prs) (by rw [Jb.prs_ends]; exact .ref ga) ⟨by decide, fun p hp h v r => ?_⟩ (fun x hx y hy => ?_) (fun x hx => ?_) (by show 1 ≤ 12; decide) (by show 12 < 64; decide) (fun zs hz => ?_)
    · obtain ⟨k, j, hk, hj, rfl⟩ := Jb.prs_mem hp
      obtain ⟨t, rfl⟩ := r.inv; rfl
    · obtain ⟨k, j, hk, hj, rfl⟩ := Jb.prs_mem hx
      obtain ⟨k', j', hk', hj', rfl⟩ := Jb.prs_mem hy
      exact .cons (.int _ _) (.cons (.int _ _) (.cons (.str _ _) .nil))
    · obtain ⟨k, j, hk, hj, rfl⟩ := Jb.prs_mem hx
      exact fun y hy => by
        simp only [List.mem_cons, List.not_mem_nil, or_false] at hy
        rcases hy with rfl | rfl | rfl
        · exact o.dn_ge hj
        · exact Int.natCast_nonneg _
        · trivial
    · rw [Jb.prs_ends] at hz
      refine VMeth.builtin (.str _) rfl (bCountS ?_)
      have na : (σ.add L) a = none := hab a (by exact ar59 hN₁ ha)
      have nc : (σ.add L) c = none := hab c (by exact ar167 hN₁ ha hc)
      refine ⟨σ.add L, _, .cons (.sub (σ' := pt (σ.add L) c (.dict (D.fb 3) ep)) ?_) (.cons (.dict (pt_same _ _ _) (sub_pt (.refl _) nc) nc) .refl), (by show 3 ≤ sizeLine; decide), _, _, .refl, h N₂ zs (by exact arc54 hN₁ ha hc hN₂) hz⟩
      unfold duS; rw [pt_comm (by exact ar1 hc)]; exact sub_pt (.refl _) ((pt_ne (by exact ar1 hc)).trans na)
end
end
noncomputable section
/- the shop -/
noncomputable def fup {α : Type} (f : Nat → α) (j : Nat) (v : α) : Nat → α := fun i => if i = j then v else f i
noncomputable def l3 {α : Type} (f : Nat → α) : List α := [f 0, f 1, f 2]
theorem l3_at {α : Type} {f : Nat → α} {j : Nat} (h : j < 3) : (l3 f)[j]? = some (f j) := by
  rcases (by exact ar471 h : j = 0 ∨ j = 1 ∨ j = 2) with rfl | rfl | rfl <;> rfl
theorem l3_set {α β : Type} {g : α → β} {f : Nat → α} {j : Nat} {v : α} (h : j < 3) : (l3 fun i => g (f i)).set j (g v) = l3 fun i => g (fup f j v i) := by
  rcases (by exact ar471 h : j = 0 ∨ j = 1 ∨ j = 2) with rfl | rfl | rfl <;> rfl
theorem fup_at {α : Type} {f : Nat → α} {j : Nat} {v : α} : fup f j v j = v := if_pos rfl
theorem fup_ne {α : Type} {f : Nat → α} {i j : Nat} {v : α} (h : i ≠ j) : fup f j v i = f i := if_neg h
structure Ad where
  S : Nat
  H : Nat
  I : Nat
  T : Nat
  C : Nat
  K : Nat
  A : Nat → MA
  n : Nat → Nat
structure Lay (a : Ad) : Prop where
  b0 : Bd (a.A 0) (a.n 0) (a.n 1)
  b1 : Bd (a.A 1) (a.n 1) (a.n 2)
  b2 : Bd (a.A 2) (a.n 2) (a.n 3)
  S : a.n 3 ≤ a.S
  H : a.S < a.H
  I : a.H < a.I
  T : a.I < a.T
  C : a.T < a.C
  K : a.C < a.K
section
variable {a : Ad} {i j x : Nat}
theorem Lay.SI (L : Lay a) : a.S < a.I := Nat.lt_trans L.H L.I
theorem Lay.ST (L : Lay a) : a.S < a.T := Nat.lt_trans L.SI L.T
theorem Lay.SC (L : Lay a) : a.S < a.C := Nat.lt_trans L.ST L.C
theorem Lay.SK (L : Lay a) : a.S < a.K := Nat.lt_trans L.SC L.K
theorem Lay.HT (L : Lay a) : a.H < a.T := Nat.lt_trans L.I L.T
theorem Lay.HC (L : Lay a) : a.H < a.C := Nat.lt_trans L.HT L.C
theorem Lay.HK (L : Lay a) : a.H < a.K := Nat.lt_trans L.HC L.K
theorem Lay.IC (L : Lay a) : a.I < a.C := Nat.lt_trans L.T L.C
theorem Lay.IK (L : Lay a) : a.I < a.K := Nat.lt_trans L.IC L.K
theorem Lay.TK (L : Lay a) : a.T < a.K := Nat.lt_trans L.C L.K
theorem Lay.n0 (L : Lay a) : a.n 0 ≤ a.S := Nat.le_trans (Nat.le_trans L.b0.la.1 (Nat.le_of_lt L.b0.la.2)) (Nat.le_trans (Nat.le_trans L.b1.la.1 (Nat.le_of_lt L.b1.la.2)) (Nat.le_trans (Nat.le_trans L.b2.la.1 (Nat.le_of_lt L.b2.la.2)) L.S))
theorem Lay.bd (L : Lay a) (hj : j < 3) : ∃ lo hi, a.n 0 ≤ lo ∧ hi ≤ a.n 3 ∧ Bd (a.A j) lo hi := by
  have := L.b0.la; have := L.b1.la; have := L.b2.la
  rcases (by exact ar471 hj : j = 0 ∨ j = 1 ∨ j = 2) with rfl | rfl | rfl
  · exact ⟨_, _, by exact arc14, by lia, L.b0⟩
  · exact ⟨_, _, by lia, by exact arc18 this, L.b1⟩
  · exact ⟨_, _, by lia, by exact arc14, L.b2⟩
theorem Lay.out (L : Lay a) (hj : j < 3) (hx : x < a.n 0 ∨ a.S ≤ x) : x ≠ (a.A j).D ∧ x ≠ (a.A j).p ∧ x ≠ (a.A j).la := by
  obtain ⟨lo, hi, h1, h2, b⟩ := L.bd hj
  have := b.la; have := b.D; have := b.p; have := L.S
  exact ⟨by lia, by lia, by lia⟩
theorem Bd.sep {A A' : MA} {lo mid mid' hi : Nat} (b : Bd A lo mid) (b' : Bd A' mid' hi) (h : mid ≤ mid') : (A.D ≠ A'.D ∧ A.p ≠ A'.p ∧ A.p ≠ A'.la ∧ A.la ≠ A'.p ∧ A.la ≠ A'.la ∧ A.ds ≠ A'.D) ∧ (A'.D ≠ A.D ∧ A'.p ≠ A.p ∧ A'.p ≠ A.la ∧ A'.la ≠ A.p ∧ A'.la ≠ A.la ∧ A'.ds ≠ A.D) := by
  have lt : ∀ {x y : Nat}, (lo ≤ x ∧ x < mid) → (mid' ≤ y ∧ y < hi) → x < y := fun p q => Nat.lt_of_lt_of_le p.2 (Nat.le_trans h q.1)
  exact ⟨⟨Nat.ne_of_lt (lt b.D b'.D), Nat.ne_of_lt (lt b.p b'.p), Nat.ne_of_lt (lt b.p b'.la), Nat.ne_of_lt (lt b.la b'.p), Nat.ne_of_lt (lt b.la b'.la), Nat.ne_of_lt (lt b.ds b'.D)⟩,
    ⟨Nat.ne_of_gt (lt b.D b'.D), Nat.ne_of_gt (lt b.p b'.p), Nat.ne_of_gt (lt b.la b'.p), Nat.ne_of_gt (lt b.p b'.la), Nat.ne_of_gt (lt b.la b'.la), Nat.ne_of_gt (lt b.D b'.ds)⟩⟩
theorem Lay.sep (L : Lay a) (hi : i < 3) (hj : j < 3) (h : i ≠ j) : (a.A i).D ≠ (a.A j).D ∧ (a.A i).p ≠ (a.A j).p ∧ (a.A i).p ≠ (a.A j).la ∧ (a.A i).la ≠ (a.A j).p ∧ (a.A i).la ≠ (a.A j).la ∧ (a.A i).ds ≠ (a.A j).D := by
  have s01 := L.b0.sep L.b1 (Nat.le_refl _)
  have s12 := L.b1.sep L.b2 (Nat.le_refl _)
  have s02 := L.b0.sep L.b2 (by have := L.b1.la; exact arc18 this)
  rcases (by exact ar471 hi : i = 0 ∨ i = 1 ∨ i = 2) with rfl | rfl | rfl <;> rcases (by lia : j = 0 ∨ j = 1 ∨ j = 2) with rfl | rfl | rfl
  · exact absurd rfl h
  · exact s01.1
  · exact s02.1
  · exact s01.2
  · exact absurd rfl h
  · exact s12.1
  · exact s02.2
  · exact s12.2
  · exact absurd rfl h
end
noncomputable def shopD (wk : Dk) (a : Ad) : Dk := [(.s "lines", .lst (l3 fun j => .ref (a.A j).x)), (.s "held", .ref a.H), (.s "idle", .ref a.I), (.s "since", .ref a.T), (.s "clock", .ref a.C), (.s "works", .dct wk), (.s "book", .ref a.K)]
section
variable {wk : Dk} {a : Ad}
theorem g_lines : dget (shopD wk a) (.s "lines") = some (.lst (l3 fun j => .ref (a.A j).x)) := rfl
theorem g_held : dget (shopD wk a) (.s "held") = some (.ref a.H) := rfl
theorem g_idle : dget (shopD wk a) (.s "idle") = some (.ref a.I) := rfl
theorem g_since : dget (shopD wk a) (.s "since") = some (.ref a.T) := rfl
theorem g_clock : dget (shopD wk a) (.s "clock") = some (.ref a.C) := rfl
theorem g_works : dget (shopD wk a) (.s "works") = some (.dct wk) := rfl
theorem g_book : dget (shopD wk a) (.s "book") = some (.ref a.K) := rfl
end
/- what the shop holds -/
structure St where
  hs : Nat → Str
  is : Nat → Bool
  ts : Nat → Int
  cs : List V
  bk : Dk
  rs : Nat → List Nat
  pb : Nat → List Str
/- of lists and dicts -/
inductive LD : AObj → Prop
  | list (xs : List V) : LD (.list xs)
  | dict (es : Dk) (ep : Nat) : LD (.dict es ep)
theorem Mach.ptX {B : Cx} {σ : Store} {A : MA} {pre rest : List Nat} {pb : List Str} {c : Nat} {o o' : AObj} (m : Mach B σ A pre rest pb) (h : σ c = some o') (hl : LD o') (np : c ≠ A.p) (nl : c ≠ A.la) : Mach B (pt σ c o) A pre rest pb := by
  have k : ∀ {a v}, σ a = some v → ¬ LD v → pt σ c o a = some v := fun e n => (pt_ne (ne_of_kind e h fun q => n (q ▸ hl))).trans e
  refine ⟨m.ne, k m.x (fun h => nomatch h), k m.D (fun h => nomatch h), (pt_ne (Ne.symm np)).trans m.p, ?_, k m.ds (fun h => nomatch h), ?_, k m.ct (fun h => nomatch h), k m.ca (fun h => nomatch h), (pt_ne (Ne.symm nl)).trans m.la, m.len⟩
  · obtain ⟨o, fd, h, r⟩ := m.sm; exact ⟨o, fd, k h (fun h => nomatch h), r⟩
  · obtain ⟨q, pm, doc, c, ctv, ⟨o, h1, h2⟩, ⟨c2, o2, vs, t, e1, e2, e3⟩⟩ := m.fr
    exact ⟨q, pm, doc, c, ctv, ⟨o, h1.imp id (fun h => k h (fun h => nomatch h)), h2⟩, ⟨c2, o2, vs, t, e1, e2.imp id (fun h => k h (fun h => nomatch h)), e3⟩⟩
structure Shop (B : Cx) (wk : Dk) (Tx : Nat → List Nat) (a : Ad) (σ₀ : Store) (st : St) (σ : Store) : Prop where
  S : ∃ ep, σ a.S = some (.dict (shopD wk a) ep)
  H : σ a.H = some (.list (l3 fun j => .str (st.hs j)))
  I : σ a.I = some (.list (l3 fun j => .bool (st.is j)))
  T : σ a.T = some (.list (l3 fun j => .int (st.ts j)))
  C : σ a.C = some (.list st.cs)
  K : ∃ ep, σ a.K = some (.dict st.bk ep)
  M : ∀ j, j < 3 → ∃ pre, pre ++ st.rs j = Tx j ∧ Mach B σ (a.A j) pre (st.rs j) (st.pb j)
  L : Lay a
  kp : ∀ x o, σ₀ x = some o → (x < a.n 0 ∨ a.K < x ∨ ∃ ob, o = .obj ob) → σ x = some o
  fr : σ.fr = σ₀.fr
section
variable {B : Cx} {wk : Dk} {Tx : Nat → List Nat} {a : Ad} {σ₀ σ : Store} {st : St}
theorem Shop.get {σ₁ σ' : Store} (s : Shop B wk Tx a σ₀ st σ) (h : σ'.get = σ.get) (h0 : σ₁.get = σ₀.get) (f : σ'.fr = σ₁.fr) : Shop B wk Tx a σ₁ st σ' := by
  have e : ∀ a, σ' a = σ a := fun a => congrFun h a
  have e0 : ∀ a, σ₁ a = σ₀ a := fun a => congrFun h0 a
  obtain ⟨s1, s2, s3, s4, s5, s6, s7, s8, s9, s10⟩ := s
  exact ⟨s1.imp fun _ q => (e _).trans q, (e _).trans s2, (e _).trans s3, (e _).trans s4, (e _).trans s5, s6.imp fun _ q => (e _).trans q, fun j hj => let ⟨p, q, m⟩ := s7 j hj; ⟨p, q, m.get h⟩, s8, fun x o q n => (e _).trans (s9 x o ((e0 x).symm.trans q) n), f⟩
theorem Shop.add (s : Shop B wk Tx a σ₀ st σ) (L : Nat) : Shop B wk Tx a (σ₀.add L) st (σ.add L) := s.get rfl rfl (by show (fun a => a = L ∨ σ.fr a) = _; rw [s.fr]; rfl)
theorem Shop.put {c : Nat} {o o' : AObj} (s : Shop B wk Tx a σ₀ st σ) (h : σ c = some o') (hl : LD o') (h1 : a.S < c) (h2 : c ≤ a.K) :
    (∃ ep, pt σ c o a.S = some (.dict (shopD wk a) ep)) ∧ (∀ j, j < 3 → ∃ pre, pre ++ st.rs j = Tx j ∧ Mach B (pt σ c o) (a.A j) pre (st.rs j) (st.pb j)) ∧ (∀ x ob, σ₀ x = some ob → (x < a.n 0 ∨ a.K < x ∨ ∃ o, ob = .obj o) → pt σ c o x = some ob) := by
  obtain ⟨s1, s2, s3, s4, s5, s6, s7, L, s9, s10⟩ := s
  refine ⟨s1.imp fun _ q => (pt_ne (by exact ar42 h1)).trans q, fun j hj => ?_, fun x ob q n => ?_⟩
  · obtain ⟨p, q, m⟩ := s7 j hj
    have := L.out hj (x := c) (.inr (by exact arc55 h1))
    exact ⟨p, q, m.ptX h hl this.2.1 this.2.2⟩
  · have k := s9 x ob q n
    refine (pt_ne ?_).trans k
    rcases n with n | n | ⟨o, rfl⟩
    · exact Nat.ne_of_lt (Nat.lt_of_lt_of_le n (Nat.le_trans L.n0 (Nat.le_of_lt h1)))
    · exact arc120 h2 n
    · exact ne_of_kind k h fun q => by rw [← q] at hl; cases hl
theorem Shop.setH (s : Shop B wk Tx a σ₀ st σ) {j : Nat} (hj : j < 3) (v : Str) : Shop B wk Tx a σ₀ { st with hs := fup st.hs j v } (pt σ a.H (.list ((l3 fun j => .str (st.hs j)).set j (.str v)))) := by
  have L := s.L
  obtain ⟨p1, p2, p3⟩ := s.put (o := .list ((l3 fun j => .str (st.hs j)).set j (.str v))) s.H (.list _) L.H (Nat.le_of_lt L.HK)
  exact ⟨p1, by rw [pt_same]; exact congrArg (fun x => some (AObj.list x)) (l3_set (g := V.str) hj), (pt_ne (Nat.ne_of_gt L.I)).trans s.I, (pt_ne (Nat.ne_of_gt L.HT)).trans s.T, (pt_ne (Nat.ne_of_gt L.HC)).trans s.C, s.K.imp fun _ q => (pt_ne (Nat.ne_of_gt L.HK)).trans q, p2, L, p3, s.fr⟩
theorem Shop.setI (s : Shop B wk Tx a σ₀ st σ) {j : Nat} (hj : j < 3) (v : Bool) : Shop B wk Tx a σ₀ { st with is := fup st.is j v } (pt σ a.I (.list ((l3 fun j => .bool (st.is j)).set j (.bool v)))) := by
  have L := s.L
  obtain ⟨p1, p2, p3⟩ := s.put (o := .list ((l3 fun j => .bool (st.is j)).set j (.bool v))) s.I (.list _) L.SI (Nat.le_of_lt L.IK)
  exact ⟨p1, (pt_ne (Nat.ne_of_lt L.I)).trans s.H, by rw [pt_same]; exact congrArg (fun x => some (AObj.list x)) (l3_set (g := V.bool) hj), (pt_ne (Nat.ne_of_gt L.T)).trans s.T, (pt_ne (Nat.ne_of_gt L.IC)).trans s.C, s.K.imp fun _ q => (pt_ne (Nat.ne_of_gt L.IK)).trans q, p2, L, p3, s.fr⟩
theorem Shop.setT (s : Shop B wk Tx a σ₀ st σ) {j : Nat} (hj : j < 3) (v : Int) : Shop B wk Tx a σ₀ { st with ts := fup st.ts j v } (pt σ a.T (.list ((l3 fun j => .int (st.ts j)).set j (.int v)))) := by
  have L := s.L
  obtain ⟨p1, p2, p3⟩ := s.put (o := .list ((l3 fun j => .int (st.ts j)).set j (.int v))) s.T (.list _) L.ST (Nat.le_of_lt L.TK)
  exact ⟨p1, (pt_ne (Nat.ne_of_lt L.HT)).trans s.H, (pt_ne (Nat.ne_of_lt L.T)).trans s.I, by rw [pt_same]; exact congrArg (fun x => some (AObj.list x)) (l3_set (g := V.int) hj), (pt_ne (Nat.ne_of_gt L.C)).trans s.C, s.K.imp fun _ q => (pt_ne (Nat.ne_of_gt L.TK)).trans q, p2, L, p3, s.fr⟩
theorem Shop.setC (s : Shop B wk Tx a σ₀ st σ) (v : List V) : Shop B wk Tx a σ₀ { st with cs := v } (pt σ a.C (.list v)) := by
  have L := s.L
  obtain ⟨p1, p2, p3⟩ := s.put (o := .list v) s.C (.list _) L.SC (Nat.le_of_lt L.K)
  exact ⟨p1, (pt_ne (Nat.ne_of_lt L.HC)).trans s.H, (pt_ne (Nat.ne_of_lt L.IC)).trans s.I, (pt_ne (Nat.ne_of_lt L.C)).trans s.T, pt_same _ _ _, s.K.imp fun _ q => (pt_ne (Nat.ne_of_gt L.K)).trans q, p2, L, p3, s.fr⟩
theorem Shop.setK (s : Shop B wk Tx a σ₀ st σ) (v : Dk) (ep : Nat) : Shop B wk Tx a σ₀ { st with bk := v } (pt σ a.K (.dict v ep)) := by
  have L := s.L
  obtain ⟨ep', hk⟩ := s.K
  obtain ⟨p1, p2, p3⟩ := s.put (o := .dict v ep) hk (.dict _ _) L.SK (Nat.le_refl _)
  exact ⟨p1, (pt_ne (Nat.ne_of_lt L.HK)).trans s.H, (pt_ne (Nat.ne_of_lt L.IK)).trans s.I, (pt_ne (Nat.ne_of_lt L.TK)).trans s.T, (pt_ne (Nat.ne_of_lt L.K)).trans s.C, ⟨ep, pt_same _ _ _⟩, p2, L, p3, s.fr⟩
theorem Shop.mach {σ' : Store} {j : Nat} {pre rest rest' : List Nat} {pb pb' : List Str} (s : Shop B wk Tx a σ₀ st σ) (hj : j < 3) (m : Mach B σ (a.A j) pre rest pb) (k : Kp (a.A j) σ σ') (h : ∃ pre', pre' ++ rest' = Tx j ∧ Mach B σ' (a.A j) pre' rest' pb') :
    Shop B wk Tx a σ₀ { st with rs := fup st.rs j rest', pb := fup st.pb j pb' } σ' := by
  obtain ⟨s1, s2, s3, s4, s5, s6, s7, L, s9, s10⟩ := s
  have kk : ∀ {x o}, σ x = some o → a.S ≤ x → σ' x = some o := fun {x o} e hx => let ⟨a, b, c⟩ := L.out hj (.inr hx); k.kp _ _ e a b c
  refine ⟨s1.imp fun _ q => kk q (Nat.le_refl _), kk s2 (Nat.le_of_lt L.H), kk s3 (Nat.le_of_lt L.SI), kk s4 (Nat.le_of_lt L.ST), kk s5 (Nat.le_of_lt L.SC), s6.imp fun _ q => kk q (Nat.le_of_lt L.SK), fun i hi => ?_, L, fun x o q n => ?_, k.fr.trans s10⟩
  · by_cases e : i = j
    · subst e
      show ∃ pre, pre ++ fup st.rs i rest' i = Tx i ∧ Mach B σ' (a.A i) pre (fup st.rs i rest' i) (fup st.pb i pb' i)
      rw [fup_at, fup_at]; exact h
    · show ∃ pre, pre ++ fup st.rs j rest' i = Tx i ∧ Mach B σ' (a.A i) pre (fup st.rs j rest' i) (fup st.pb j pb' i)
      rw [fup_ne e, fup_ne e]
      obtain ⟨p, q, mi⟩ := s7 i hi
      exact ⟨p, q, mi.keep k m (L.sep hi hj e)⟩
  · have e := s9 x o q n
    rcases n with n | n | ⟨o, rfl⟩
    · obtain ⟨a, b, c⟩ := L.out hj (.inl n); exact k.kp _ _ e a b c
    · exact kk e (Nat.le_of_lt (Nat.lt_trans L.SK n))
    · exact k.kp _ _ e (ne_of_kind e m.D nofun) (ne_of_kind e m.p nofun) (ne_of_kind e m.la nofun)
end
end
noncomputable section
/- a step booked -/
section
variable {D : Jb} {l : Nat → Nat} {j k : Nat}
noncomputable def Jb.bq (D : Jb) (x y z : Nat) : Dk := (if x = 0 then [] else [(.s (nm 0), D.ent 0 x)]) ++ ((if y = 0 then [] else [(.s (nm 1), D.ent 1 y)]) ++ ((if z = 0 then [] else [(.s (nm 2), D.ent 2 z)]) ++ []))
theorem Jb.bk_q : D.bk l = D.bq (l 0) (l 1) (l 2) := rfl
theorem Jb.bk_get (hj : j < 3) : (dget (D.bk l) (.s (nm j))).getD (D.ent j 0) = D.ent j (l j) := by
  rw [Jb.bk_q]
  rcases (by exact ar471 hj : j = 0 ∨ j = 1 ∨ j = 2) with rfl | rfl | rfl <;> generalize l 0 = x <;> generalize l 1 = y <;> generalize l 2 = z <;> cases x <;> cases y <;> cases z <;> rfl
theorem Jb.bk_set (hj : j < 3) (h : l j = 0 → ∀ i, j < i → i < 3 → l i = 0) : dset (D.bk l) (.s (nm j)) (D.ent j (l j + 1)) = D.bk (fup l j (l j + 1)) := by
  rw [Jb.bk_q, Jb.bk_q]
  rcases (by exact ar471 hj : j = 0 ∨ j = 1 ∨ j = 2) with rfl | rfl | rfl
  · have h1 : l 0 = 0 → l 1 = 0 ∧ l 2 = 0 := fun e => ⟨h e 1 (by decide) (by decide), h e 2 (by decide) (by decide)⟩
    show dset (D.bq (l 0) (l 1) (l 2)) _ _ = D.bq (l 0 + 1) (l 1) (l 2)
    generalize l 0 = x at *
    cases x with
    | zero => rw [(h1 rfl).1, (h1 rfl).2]; rfl
    | succ x => generalize l 1 = y; generalize l 2 = z; cases y <;> cases z <;> rfl
  · have h1 : l 1 = 0 → l 2 = 0 := fun e => h e 2 (by decide) (by decide)
    show dset (D.bq (l 0) (l 1) (l 2)) _ _ = D.bq (l 0) (l 1 + 1) (l 2)
    generalize l 1 = y at *
    cases y with
    | zero => rw [h1 rfl]; generalize l 0 = x; cases x <;> rfl
    | succ y => generalize l 0 = x; generalize l 2 = z; cases x <;> cases z <;> rfl
  · show dset (D.bq (l 0) (l 1) (l 2)) _ _ = D.bq (l 0) (l 1) (l 2 + 1)
    generalize l 0 = x; generalize l 1 = y; generalize l 2 = z; cases x <;> cases y <;> cases z <;> rfl
theorem Jb.bk_len : (D.bk l).length ≤ 3 := by
  rw [Jb.bk_q]
  have e : ∀ (x : Nat) (p : Kx × V), (if x = 0 then ([] : Dk) else [p]).length ≤ 1 := fun x p => by
    split
    · exact Nat.zero_le _
    · exact Nat.le_refl _
  unfold Jb.bq
  rw [List.length_append, List.length_append, List.length_append]
  exact Nat.add_le_add (e _ _) (Nat.add_le_add (e _ _) (Nat.add_le_add (e _ _) (Nat.zero_le 0)))
theorem nm_std (hj : j < 3) : ("desk" : Str) ++ ⟨#[58]⟩ ++ Str.ofString (toString ((j + 1 : Nat) : Int)) ++ ⟨#[40]⟩ ++ "" ++ ⟨#[41]⟩ = nm j := by
  rcases (by exact ar471 hj : j = 0 ∨ j = 1 ∨ j = 2) with rfl | rfl | rfl <;> kernel_rfl
end
noncomputable def Jb.Wk (D : Jb) (wk : Dk) : Prop := ∀ k, k < 4 → dget wk (.s (D.wd k)) = some (.tup [.int (D.w k 0), .int (D.w k 1), .int (D.w k 2)])
section
variable {B : Cx} {d : Nat} {σ σ₀ : Store} {N : Nat} {D : Jb} {wk : Dk} {Tx : Nat → List Nat} {a : Ad} {st : St} {l : Nat → Nat} {j : Nat}
theorem Jb.w_at {k j : Nat} (hj : j < 3) : [V.int (D.w k 0), V.int (D.w k 1), V.int (D.w k 2)][(j : Int).toNat]? = some (.int (D.w k j)) := by
  rcases (by exact ar471 hj : j = 0 ∨ j = 1 ∨ j = 2) with rfl | rfl | rfl <;> rfl
theorem booked_ok (b : Base B) (o : D.Ok) (hw : D.Wk wk) (hj : j < 3) (hk : l j < 4) (s : Shop B wk Tx a σ₀ st σ) (ht : st.ts j = D.bt (l j) j) (hb : st.bk = D.bk l) (hm : l j = 0 → ∀ i, j < i → i < 3 → l i = 0) {Q : Post V}
    (h : ∀ N' σ', N ≤ N' → Shop B wk Tx a σ₀ { st with bk := D.bk (fup l j (l j + 1)) } σ' → Q .none σ' N') : WC B (d + 3) (.ref 152) [.ref a.S, .int (D.lv (l j) j), .int j, .str (D.wd (l j))] σ N Q := by
  refine C_fun b.tabOk (names := ["shop", "hour", "desk", "word"]) (b.fn rfl) (b.code rfl rfl) b.lim rfl (fun s as hl => ?_) (by decide) (by decide) ⟨rfl, rfl, rfl, rfl, rfl⟩ (fun L hL hσL hab => ?_)
  · obtain ⟨x, y, z, u, rfl⟩ := len4 hl
    exact .of_eq rfl
  obtain ⟨ep, gS⟩ := (s.add L).S
  obtain ⟨ek, gK⟩ := (s.add L).K
  have gT := (s.add L).T
  have k0 : (0 : Int) ≤ (j : Nat) := Int.natCast_nonneg j
  refine iDict (k := .s "since") (.ref gS) g_since (iList (v := .int (st.ts j)) (.ref gT) k0 (by exact arc7 hj) (l3_at (f := fun j => V.int (st.ts j)) hj) ?_)
  show (vRun B tb _ _).S _ _ (upd _ _ (.int (D.lv (l j) j - st.ts j))) _ _ _
  rw [ht]
  refine iDict (k := .s "works") (.ref gS) g_works (iDict (k := .s (D.wd (l j))) (.dct _) (hw _ hk) (iTup k0 (by exact arc7 hj) (Jb.w_at hj) ?_))
  refine ⟨_, _, .refl, (by show 3 ≤ sizeLine; decide), ⟨?_⟩⟩
  refine std_ok b (a := "desk") (n := j + 1) (by decide) (by decide) (by exact arc121 hj) (by decide) fun N₂ h2 => ?_
  rw [nm_std hj]
  refine ifexp_same (.int (if D.stay (l j) j = D.w (l j) j then 1 else 0)) (fun e K' q => ?_) (fun e K' q => ?_) ?_
  · have e : D.stay (l j) j = D.w (l j) j := of_decide_eq_true e
    rw [if_pos e] at q; exact q
  · have e : ¬ D.stay (l j) j = D.w (l j) j := of_decide_eq_false e
    rw [if_neg e] at q; exact q
  refine fun ad had => ⟨[(.s (D.wd (l j)), .int (D.stay (l j) j))], rfl, .froz ⟨_, _, .refl, (by show 5 ≤ sizeLine; decide), ?_⟩⟩
  refine iDict (k := .s "book") (.ref gS) g_book (VMeth.builtin (.dict (.ref gK)) rfl fun ae hae => .froz ⟨_, _, .refl, (by show 5 ≤ sizeLine; decide), ?_⟩)
  refine bGet (k := .s (nm j)) (v := D.ent j 0) (.ref gK) ?_
  rw [hb, Jb.bk_get hj]
  refine ⟨?_⟩
  refine add_stats_ok b (es := D.ss j (l j)) (fs := [(.s (D.wd (l j)), D.stay (l j) j)]) (by rw [Jb.ss_len]; show _ + 1 < _; exact arc122 hk) fun N₃ h3 => ?_
  rw [o.ss_addc hk]
  refine iDict (k := .s "book") (.ref gS) g_book ?_
  refine pDict (k := .s (nm j)) gK (by rw [hb]; exact Nat.lt_of_le_of_lt Jb.bk_len (by decide)) fun ep' => ?_
  have e : stat ((if D.stay (l j) j = D.w (l j) j then 1 else 0) + D.pr j (l j)) (1 + (l j : Nat)) (D.w (l j) j + D.wk j (l j)) (D.lv (l j) j - D.bt (l j) j + D.sy j (l j)) (D.ss j (l j + 1)) = D.ent j (l j + 1) := by
    unfold Jb.ent
    rw [Int.add_comm _ (D.pr j (l j)), Int.add_comm 1, Int.add_comm _ (D.wk j (l j)), Int.add_comm _ (D.sy j (l j))]; rfl
  rw [e, hb, Jb.bk_set hj hm]
  exact ⟨_, .refl _, h N₃ _ (by exact arc54 h2 had hae h3) (s.setK _ ep')⟩
end
end
noncomputable section
/- the row of desks: how many have begun, have left, and who is held -/
structure Ct where
  e : Nat → Nat
  l : Nat → Nat
  h : Nat → Bool
noncomputable def Ct.pl (c : Ct) (j : Nat) : Nat := if j = 0 then 4 else c.l (j - 1)
noncomputable def Ct.mv (c : Ct) (g : Nat) : Ct := ⟨fup c.e (g + 1) (c.e (g + 1) + 1), fup c.l g (c.l g + 1), fup c.h g false⟩
noncomputable def Ct.go (c : Ct) (f : Nat) : Ct := { c with e := fup c.e f (c.e f + 1) }
noncomputable def Ct.lv (c : Ct) (j : Nat) : Ct := { c with l := fup c.l j (c.l j + 1) }
noncomputable def Ct.hold (c : Ct) (j : Nat) : Ct := { c with h := fup c.h j true }
/- at the hour `t`, desk `f` to be called (3: none) -/
structure Op (D : Jb) (c : Ct) (t : Int) (f : Nat) : Prop where
  ef : f < 3 → c.e f = c.l f ∧ c.h f = false
  le : ∀ j, j < 3 → c.l j ≤ c.e j ∧ c.e j ≤ c.l j + 1 ∧ c.e j ≤ c.pl j
  hd : ∀ j, j < 3 → c.h j = true → j < 2 ∧ c.e j = c.l j + 1 ∧ (j + 1 ≠ f → c.e (j + 1) = c.l (j + 1) + 1 ∧ c.l j = c.e (j + 1) + D.rm j)
  hh : f < 3 → 0 < f → c.h (f - 1) = true → D.lv (c.l (f - 1)) (f - 1) = t
  cap : ∀ j, j < 2 → c.l j ≤ c.e (j + 1) + D.rm j
  idl : ∀ j, j < 3 → j ≠ f → c.e j = c.l j → c.e j = c.pl j
  bf : f < 3 → (c.e f < c.pl f ∨ (0 < f ∧ c.h (f - 1) = true)) → D.bt (c.e f) f = t
  tb : ∀ j, j < 3 → ∀ k, (k < c.e j → D.bt k j ≤ t) ∧ (k < c.l j → D.lv k j ≤ t)
  th : ∀ j, j < 3 → c.h j = true → D.dn (c.l j) j ≤ t
  tr : ∀ j, j < 3 → c.e j = c.l j + 1 → c.h j = false → t ≤ D.dn (c.l j) j
  t0 : 0 ≤ t
section
variable {D : Jb} {c : Ct} {t : Int} {f g j : Nat}
theorem Ct.pl_s : c.pl (g + 1) = c.l g := rfl
theorem Op.kept (o : D.Ok) (p : Op D c t (g + 1)) (hf : g + 1 < 3) (hk : c.h g = true) : Op D (c.mv g) t g := by
  obtain ⟨ef, le, hd, hh, cap, idl, bf, tb, th, tr, t0⟩ := p
  have ef := ef hf
  have hg := hd g (by exact arc8 hf) hk
  have hhg := hh hf (by exact arc2) hk
  have bfg := bf hf (.inr ⟨by exact arc2, hk⟩)
  rw [Nat.add_sub_cancel] at hhg
  have leg := le g (by exact arc8 hf)
  have lef := le (g + 1) hf
  rw [Ct.pl_s] at lef
  have ee : ∀ i, (c.mv g).e i = if i = g + 1 then c.e (g + 1) + 1 else c.e i := fun _ => rfl
  have ll : ∀ i, (c.mv g).l i = if i = g then c.l g + 1 else c.l i := fun _ => rfl
  have eh : ∀ i, (c.mv g).h i = if i = g then false else c.h i := fun _ => rfl
  have eg : (c.mv g).e g = c.e g := by rw [ee, if_neg (by exact arc123)]
  have lg : (c.mv g).l g = c.l g + 1 := by rw [ll, if_pos rfl]
  have e1 : (c.mv g).e (g + 1) = c.e (g + 1) + 1 := by rw [ee, if_pos rfl]
  have l1 : (c.mv g).l (g + 1) = c.l (g + 1) := by rw [ll, if_neg (by exact arc124)]
  have eo : ∀ i, i ≠ g + 1 → (c.mv g).e i = c.e i := fun i h => by rw [ee, if_neg h]
  have lo : ∀ i, i ≠ g → (c.mv g).l i = c.l i := fun i h => by rw [ll, if_neg h]
  have ho : ∀ i, i ≠ g → (c.mv g).h i = c.h i := fun i h => by rw [eh, if_neg h]
  have hgf : (c.mv g).h g = false := by rw [eh, if_pos rfl]
  have late : ∀ i, i + 1 = g → c.h i = true → D.lv (c.l i) i = t := fun i hi q => by
    have a := hd i (by exact arc56 hf hi) q
    have a3 := a.2.2 (by exact arc125 hi)
    have b := th i (by exact arc56 hf hi) q
    rw [hi] at a3
    have x := Jb.lv_late (D := D) (k := c.l i) (j := i) (by lia) (by lia) (by rw [hi, show c.l i - 1 - D.rm i = c.l g by exact arc57 hg a3, hhg]; exact b)
    rw [x, hi, show c.l i - 1 - D.rm i = c.l g by exact arc57 hg a3, hhg]
  refine ⟨fun _ => ⟨by exact arc128 hg eg lg, hgf⟩, fun i hi => ?_, fun i hi q => ?_, fun h1 h2 q => ?_, fun i hi => ?_, fun i hi h1 q => ?_, fun h1 q => ?_, fun i hi k => ⟨fun q => ?_, fun q => ?_⟩, fun i hi q => ?_, fun i hi q q' => ?_, t0⟩
  · have a := le i hi
    by_cases x : i = g
    · subst x
      rw [lg, eg]
      have : (c.mv i).pl i = c.pl i := by unfold Ct.pl; split; rfl; exact lo _ (by lia)
      exact arc129 a hg this
    · by_cases y : i = g + 1
      · subst y; rw [l1, e1, Ct.pl_s, lg]; lia
      · rw [lo i x, eo i y]
        have : (c.mv g).pl i = c.pl i := by unfold Ct.pl; split; rfl; exact lo _ (by lia)
        exact arc58 a this
  · by_cases x : i = g
    · subst x; rw [hgf] at q; cases q
    · rw [ho i x] at q
      have a := hd i hi q
      have y : i ≠ g + 1 := fun y => by subst y; rw [ef.2] at q; cases q
      rw [eo i y, lo i x]
      refine ⟨a.1, a.2.1, fun n => ?_⟩
      have := a.2.2 (by exact arc26 x)
      rw [eo (i + 1) (by exact arc26 x), lo (i + 1) (by lia)]; exact this
  · rw [ho _ (by exact arc59 hf h2)] at q
    rw [lo _ (by exact arc59 hf h2)]
    exact late (g - 1) (by lia) q
  · have a := cap i hi
    by_cases x : i = g
    · subst x; rw [lg, e1]; lia
    · rw [lo i x]
      by_cases y : i + 1 = g + 1
      · lia
      · rw [eo (i + 1) (by exact arc26 x)]; exact a
  · by_cases y : i = g + 1
    · subst y; rw [e1, l1] at q; lia
    · rw [eo i y, lo i h1] at q
      rw [eo i y, idl i hi y q]
      unfold Ct.pl; split; rfl; rw [lo _ (by lia)]
  · rw [eg]
    refine Jb.bt_is (by exact arc8 hf) t0 (fun _ => by rw [show c.e g - 1 = c.l g by exact arc60 hg, hhg]; exact Int.le_refl _) (fun h0 => ?_) (.inl ⟨by lia, by rw [show c.e g - 1 = c.l g by exact arc60 hg]; exact hhg⟩)
    obtain ⟨i, rfl⟩ : ∃ i, g = i + 1 := ⟨g - 1, by lia⟩
    rw [Nat.add_sub_cancel]
    have a := le (i + 1) (by exact arc139 hf)
    rw [Ct.pl_s] at a
    by_cases x : c.e (i + 1) < c.l i
    · exact (tb i (by lia) _).2 x
    · rw [Ct.pl_s, lo i (by exact ar404), eg] at q
      have q := (q.resolve_left (by exact arc141 hg a x)).2
      rw [Nat.add_sub_cancel, ho i (by exact ar404)] at q
      rw [show c.e (i + 1) = c.l i by exact arc142 hg a x, late i rfl q]
      exact Int.le_refl _
  · by_cases y : i = g + 1
    · subst y
      rw [e1] at q
      by_cases z : k = c.e (g + 1)
      · subst z; rw [bfg]; exact Int.le_refl _
      · exact (tb (g + 1) hi k).1 (by exact ar35 q z)
    · rw [eo i y] at q; exact (tb i hi k).1 q
  · by_cases x : i = g
    · subst x
      rw [lg] at q
      by_cases z : k = c.l i
      · subst z; rw [hhg]; exact Int.le_refl _
      · exact (tb i hi k).2 (by exact ar35 q z)
    · rw [lo i x] at q; exact (tb i hi k).2 q
  · by_cases x : i = g
    · subst x; rw [hgf] at q; cases q
    · rw [ho i x] at q; rw [lo i x]; exact th i hi q
  · by_cases y : i = g + 1
    · subst y
      rw [l1, ← ef.1]
      have := o.pos (c.e (g + 1)) (g + 1)
      unfold Jb.dn; rw [bfg]; exact arc61 this
    · by_cases x : i = g
      · subst x; rw [eg, lg] at q; lia
      · rw [eo i y, lo i x] at q
        rw [ho i x] at q'
        rw [lo i x]; exact tr i hi q q'
theorem Op.start (o : D.Ok) (p : Op D c t f) (hf : f < 3) (hn : 0 < f → c.h (f - 1) = false) (ha : c.e f < c.pl f) : Op D (c.go f) t 3 := by
  obtain ⟨ef, le, hd, hh, cap, idl, bf, tb, th, tr, t0⟩ := p
  have ef := ef hf
  have bf := bf hf (.inl ha)
  have ee : ∀ i, (c.go f).e i = if i = f then c.e f + 1 else c.e i := fun _ => rfl
  have ef1 : (c.go f).e f = c.e f + 1 := by rw [ee, if_pos rfl]
  have eo : ∀ i, i ≠ f → (c.go f).e i = c.e i := fun i h => by rw [ee, if_neg h]
  refine ⟨fun h => absurd h (by exact arc4 h), fun i hi => ?_, fun i hi q => ?_, fun h => absurd h (by exact arc4 h), fun i hi => ?_, fun i hi h1 q => ?_, fun h => absurd h (by exact arc4 h), fun i hi k => ⟨fun q => ?_, (tb i hi k).2⟩, th, fun i hi q q' => ?_, t0⟩
  · show c.l i ≤ _ ∧ _ ≤ c.l i + 1 ∧ _ ≤ c.pl i
    have a := le i hi
    by_cases x : i = f
    · subst x; rw [ef1]; lia
    · rw [eo i x]; exact a
  · have q : c.h i = true := q
    have a := hd i hi q
    have x : i ≠ f := fun x => by rw [x, ef.2] at q; cases q
    have y : i + 1 ≠ f := fun y => by
      have := hn (by exact ar55 y)
      rw [← y, Nat.add_sub_cancel, q] at this; cases this
    rw [eo i x, eo _ y]
    exact ⟨a.1, a.2.1, fun _ => a.2.2 y⟩
  · show c.l i ≤ _
    have a := cap i hi
    by_cases x : i + 1 = f
    · subst x; rw [ef1]; lia
    · rw [eo _ x]; exact a
  · have q : (c.go f).e i = c.l i := q
    by_cases x : i = f
    · subst x; rw [ef1] at q; lia
    · rw [eo i x] at q ⊢; exact idl i hi x q
  · by_cases x : i = f
    · subst x
      rw [ef1] at q
      by_cases z : k = c.e i
      · subst z; rw [bf]; exact Int.le_refl _
      · exact (tb i hi k).1 (by exact ar35 q z)
    · rw [eo i x] at q; exact (tb i hi k).1 q
  · have q : (c.go f).e i = c.l i + 1 := q
    show t ≤ D.dn (c.l i) i
    by_cases x : i = f
    · subst x
      rw [← ef.1]
      have := o.pos (c.e i) i
      unfold Jb.dn; rw [bf]; exact arc61 this
    · rw [eo i x] at q; exact tr i hi q q'
theorem Op.stop (p : Op D c t f) (hf : f < 3) (hn : 0 < f → c.h (f - 1) = false) (ha : ¬ c.e f < c.pl f) : Op D c t 3 := by
  obtain ⟨ef, le, hd, hh, cap, idl, bf, tb, th, tr, t0⟩ := p
  have ef := ef hf
  refine ⟨fun h => absurd h (by exact arc4 h), le, fun i hi q => ?_, fun h => absurd h (by exact arc4 h), cap, fun i hi h1 q => ?_, fun h => absurd h (by exact arc4 h), tb, th, tr, t0⟩
  · have a := hd i hi q
    have y : i + 1 ≠ f := fun y => by
      have := hn (by exact ar55 y)
      rw [← y, Nat.add_sub_cancel, q] at this; cases this
    exact ⟨a.1, a.2.1, fun _ => a.2.2 y⟩
  · by_cases x : i = f
    · subst x; have := le i hf; exact arc145 ha this
    · exact idl i hi x q
/- later -/
theorem Op.later {t' : Int} (p : Op D c t 3) (h : t ≤ t') (hr : ∀ j, j < 3 → c.e j = c.l j + 1 → c.h j = false → t' ≤ D.dn (c.l j) j) : Op D c t' 3 := by
  obtain ⟨ef, le, hd, hh, cap, idl, bf, tb, th, tr, t0⟩ := p
  exact ⟨fun h => absurd h (by exact arc4 h), le, hd, fun h => absurd h (by exact arc4 h), cap, idl, fun h => absurd h (by exact arc4 h), fun j hj k => ⟨fun q => Int.le_trans ((tb j hj k).1 q) h, fun q => Int.le_trans ((tb j hj k).2 q) h⟩, fun j hj q => Int.le_trans (th j hj q) h, hr, Int.le_trans t0 h⟩
/- a job leaves its desk, which is to be called -/
theorem Op.leave (p : Op D c t 3) (hj : j < 3) (he : c.e j = c.l j + 1) (hf : c.h j = false) (hl : D.lv (c.l j) j = t) (hx : j < 2 → c.e (j + 1) = c.l (j + 1) + 1 ∧ c.l j + 1 ≤ c.e (j + 1) + D.rm j) : Op D (c.lv j) t j := by
  obtain ⟨ef, le, hd, hh, cap, idl, bf, tb, th, tr, t0⟩ := p
  have ll : ∀ i, (c.lv j).l i = if i = j then c.l j + 1 else c.l i := fun _ => rfl
  have lj : (c.lv j).l j = c.l j + 1 := by rw [ll, if_pos rfl]
  have lo : ∀ i, i ≠ j → (c.lv j).l i = c.l i := fun i h => by rw [ll, if_neg h]
  have late : ∀ i, i + 1 = j → c.h i = true → D.lv (c.l i) i = t := fun i hi q => by
    have a := hd i (by exact arc62 hj hi) q
    have a3 := a.2.2 (by exact arc146 hj hi)
    have b := th i (by exact arc62 hj hi) q
    rw [hi] at a3
    have x := Jb.lv_late (D := D) (k := c.l i) (j := i) (by lia) (by lia) (by rw [hi, show c.l i - 1 - D.rm i = c.l j by exact arc63 he a3, hl]; exact b)
    rw [x, hi, show c.l i - 1 - D.rm i = c.l j by exact arc63 he a3, hl]
  refine ⟨fun _ => ⟨he.trans lj.symm, hf⟩, fun i hi => ?_, fun i hi q => ?_, fun h1 h2 q => ?_, fun i hi => ?_, fun i hi h1 q => ?_, fun h1 q => ?_, fun i hi k => ⟨(tb i hi k).1, fun q => ?_⟩, fun i hi q => ?_, fun i hi q q' => ?_, t0⟩
  · show _ ≤ c.e i ∧ c.e i ≤ _ ∧ c.e i ≤ _
    have a := le i hi
    by_cases x : i = j
    · subst x
      have : (c.lv i).pl i = c.pl i := by unfold Ct.pl; split; rfl; exact lo _ (by lia)
      rw [lj]; exact arc149 a he this
    · rw [lo i x]
      by_cases y : i = j + 1
      · subst y; rw [Ct.pl_s, lj]; rw [Ct.pl_s] at a; exact arc150 hx hi a
      · have : (c.lv j).pl i = c.pl i := by unfold Ct.pl; split; rfl; exact lo _ (by lia)
        exact arc58 a this
  · have q : c.h i = true := q
    have a := hd i hi q
    have x : i ≠ j := fun x => by rw [x, hf] at q; cases q
    rw [lo i x]
    refine ⟨a.1, a.2.1, fun y => ?_⟩
    rw [lo _ y]; exact a.2.2 (by exact arc27 a)
  · have q : c.h (j - 1) = true := q
    rw [lo _ (by lia)]
    exact late (j - 1) (by lia) q
  · show _ ≤ c.e (i + 1) + _
    by_cases x : i = j
    · subst x; rw [lj]; exact (hx hi).2
    · rw [lo i x]; exact cap i hi
  · have q : c.e i = (c.lv j).l i := q
    show c.e i = _
    rw [lo i h1] at q
    by_cases y : i = j + 1
    · subst y; have := (hx (by lia)).1; lia
    · rw [idl i hi (by exact arc12 hi) q]
      unfold Ct.pl; split; rfl; rw [lo _ (by lia)]
  · show D.bt (c.e j) j = t
    have q : c.e j < (c.lv j).pl j ∨ (0 < j ∧ c.h (j - 1) = true) := q
    refine Jb.bt_is hj t0 (fun _ => by rw [show c.e j - 1 = c.l j by exact arc64 he, hl]; exact Int.le_refl _) (fun h0 => ?_) (.inl ⟨by lia, by rw [show c.e j - 1 = c.l j by exact arc64 he]; exact hl⟩)
    obtain ⟨i, rfl⟩ : ∃ i, j = i + 1 := ⟨j - 1, by exact ar182 h0⟩
    rw [Nat.add_sub_cancel] at q ⊢
    have a := le (i + 1) hj
    rw [Ct.pl_s] at a
    by_cases x : c.e (i + 1) < c.l i
    · exact (tb i (by exact arc8 hj) _).2 x
    · rw [Ct.pl_s, lo i (by exact ar404)] at q
      have q := (q.resolve_left (by exact arc158 he a x)).2
      rw [show c.e (i + 1) = c.l i by exact arc159 he a x, late i rfl q]
      exact Int.le_refl _
  · by_cases x : i = j
    · subst x
      rw [lj] at q
      by_cases z : k = c.l i
      · subst z; rw [hl]; exact Int.le_refl _
      · exact (tb i hi k).2 (by exact ar35 q z)
    · rw [lo i x] at q; exact (tb i hi k).2 q
  · have q : c.h i = true := q
    have x : i ≠ j := fun x => by rw [x, hf] at q; cases q
    rw [lo i x]; exact th i hi q
  · have q : c.e i = (c.lv j).l i + 1 := q
    by_cases x : i = j
    · subst x; rw [lj] at q; lia
    · rw [lo i x] at q ⊢; exact tr i hi q q'
/- who is done goes on: the next desk is idle -/
theorem Op.on (p : Op D c t 3) (hj : j < 2) (he : c.e j = c.l j + 1) (hd' : D.dn (c.l j) j = t) (hi : c.e (j + 1) = c.l (j + 1)) : Op D (c.hold j) t (j + 1) := by
  obtain ⟨ef, le, hd, hh, cap, idl, bf, tb, th, tr, t0⟩ := p
  have hj1 : (c.hold j).h j = true := if_pos rfl
  have ho : ∀ i, i ≠ j → (c.hold j).h i = c.h i := fun i h => if_neg h
  have q1 := idl (j + 1) (by exact arc11 hj) (by exact arc161 hj) hi
  rw [Ct.pl_s] at q1
  have hl : D.lv (c.l j) j = t := by
    rw [← hd']
    exact Jb.lv_now (by exact arc25 hj) fun _ h => by rw [hd']; exact (tb (j + 1) (by exact arc11 hj) _).2 (by rw [← hi, q1]; exact Nat.lt_of_le_of_lt (Nat.sub_le _ _) (Nat.sub_lt (Nat.lt_of_le_of_lt (Nat.zero_le _) h) (by decide)))
  have hn : c.h (j + 1) = false := by
    cases q : c.h (j + 1) with
    | false => rfl
    | true => have := hd (j + 1) (by exact arc11 hj) q; lia
  refine ⟨fun _ => ⟨hi, (ho _ (by exact ar415)).trans hn⟩, le, fun i hi' q => ?_, fun h1 h2 q => hl, cap, fun i hi h1 q => idl i hi (by exact arc12 hi) q, fun h1 q => ?_, tb, fun i hi' q => ?_, fun i hi' q q' => ?_, t0⟩
  · by_cases x : i = j
    · subst x; exact ⟨hj, he, fun h => absurd rfl h⟩
    · rw [ho i x] at q
      have a := hd i hi' q
      exact ⟨a.1, a.2.1, fun _ => a.2.2 (by exact arc27 a)⟩
  · show D.bt (c.e (j + 1)) (j + 1) = t
    rw [q1]
    exact Jb.bt_is (by exact arc11 hj) t0 (fun h => (tb (j + 1) (by exact arc11 hj) _).2 (by lia)) (fun _ => by rw [Nat.add_sub_cancel, hl]; exact Int.le_refl _) (.inr (.inl ⟨by exact arc2, hl⟩))
  · by_cases x : i = j
    · subst x; show D.dn (c.l i) i ≤ t; rw [hd']; exact Int.le_refl _
    · rw [ho i x] at q; exact th i hi' q
  · by_cases x : i = j
    · subst x; rw [hj1] at q'; cases q'
    · rw [ho i x] at q'; exact tr i hi' q q'
/- who is done stays -/
theorem Op.stay (p : Op D c t 3) (hj : j < 2) (he : c.e j = c.l j + 1) (hd' : D.dn (c.l j) j = t) (hi : c.e (j + 1) = c.l (j + 1) + 1) (hr : c.e (j + 1) + D.rm j ≤ c.l j) : Op D (c.hold j) t 3 := by
  obtain ⟨ef, le, hd, hh, cap, idl, bf, tb, th, tr, t0⟩ := p
  have hj1 : (c.hold j).h j = true := if_pos rfl
  have ho : ∀ i, i ≠ j → (c.hold j).h i = c.h i := fun i h => if_neg h
  have cj := cap j hj
  refine ⟨fun h => absurd h (by exact arc4 h), le, fun i hi' q => ?_, fun h => absurd h (by exact arc4 h), cap, idl, fun h => absurd h (by exact arc4 h), tb, fun i hi' q => ?_, fun i hi' q q' => ?_, t0⟩
  · by_cases x : i = j
    · subst x; exact ⟨hj, he, fun _ => ⟨hi, by show c.l i = c.e (i + 1) + _; exact arc164 hi hr cj⟩⟩
    · rw [ho i x] at q; exact hd i hi' q
  · by_cases x : i = j
    · subst x; show D.dn (c.l i) i ≤ t; rw [hd']; exact Int.le_refl _
    · rw [ho i x] at q; exact th i hi' q
  · by_cases x : i = j
    · subst x; rw [hj1] at q'; cases q'
    · rw [ho i x] at q'; exact tr i hi' q q'
end
end
noncomputable section
/- who works, in the clock -/
noncomputable def Ct.run (c : Ct) (j : Nat) : Bool := decide (c.e j = c.l j + 1) && !c.h j
noncomputable def Jb.one (D : Jb) (c : Ct) (j : Nat) : List V := if c.run j = true then [D.en j (c.l j)] else []
noncomputable def Jb.runs (D : Jb) (c : Ct) : List V := D.one c 0 ++ (D.one c 1 ++ D.one c 2)
noncomputable def Ct.kp (c : Ct) (g : Nat) : Ct := ⟨c.e, fup c.l g (c.l g + 1), fup c.h g false⟩
noncomputable def Ct.cn (c : Ct) (j : Nat) : Nat := c.l j + if c.h j = true then 1 else 0
noncomputable def Jb.isEn (D : Jb) (x : V) : Prop := ∃ i k, i < 3 ∧ x = D.en i k
noncomputable def Jb.qd (D : Jb) (x y : Nat) : List Str := (List.range' x (y - x)).map D.wd
section
variable {D : Jb} {c c' : Ct} {f g j : Nat} {t : Int}
theorem Jb.runs_perm {x : V} (hf : f < 3) (hs : ∀ i, i < 3 → i ≠ f → D.one c' i = D.one c i) (h0 : D.one c f = []) (h1 : D.one c' f = [x]) : (D.runs c').Perm (x :: D.runs c) := by
  unfold Jb.runs
  rcases (by exact ar471 hf : f = 0 ∨ f = 1 ∨ f = 2) with rfl | rfl | rfl
  · rw [h1, h0, hs 1 (by exact arc6) (by exact arc165), hs 2 (by exact arc3) (by exact arc166)]; exact .refl _
  · rw [h1, h0, hs 0 (by exact arc5) (by exact arc167), hs 2 (by exact arc3) (by exact arc168)]; exact List.perm_middle
  · rw [h1, h0, hs 0 (by exact arc5) (by exact arc169), hs 1 (by exact arc6) (by exact arc170), List.append_nil, ← List.append_assoc]; exact List.perm_append_comm
theorem Jb.runs_eq (hs : ∀ i, i < 3 → D.one c' i = D.one c i) : D.runs c' = D.runs c := by
  unfold Jb.runs
  rw [hs 0 (by exact arc5), hs 1 (by exact arc6), hs 2 (by exact arc3)]
theorem Jb.one_eq (h1 : c'.run j = c.run j) (h2 : c'.l j = c.l j) : D.one c' j = D.one c j := by unfold Jb.one; rw [h1, h2]
theorem Jb.one_none (h : c.run j = false) : D.one c j = [] := by unfold Jb.one; rw [h]; rfl
theorem Jb.one_some (h : c.run j = true) : D.one c j = [D.en j (c.l j)] := by unfold Jb.one; rw [h]; rfl
theorem Ct.run_t (h1 : c.e j = c.l j + 1) (h2 : c.h j = false) : c.run j = true := by unfold Ct.run; rw [h2, decide_eq_true h1]; rfl
theorem Ct.run_f (h1 : c.e j ≠ c.l j + 1) : c.run j = false := by unfold Ct.run; rw [decide_eq_false h1]; rfl
theorem Ct.run_h (h1 : c.h j = true) : c.run j = false := by unfold Ct.run; rw [h1]; simp
theorem Ct.run_of (h : c.run j = true) : c.e j = c.l j + 1 ∧ c.h j = false := by unfold Ct.run at h; simpa using h
/- a start -/
theorem Jb.runs_go (hf : f < 3) (h1 : c.e f = c.l f) (h2 : c.h f = false) : (D.runs (c.go f)).Perm (D.en f (c.l f) :: D.runs c) := by
  refine Jb.runs_perm hf (fun i hi n => Jb.one_eq ?_ rfl) (Jb.one_none (Ct.run_f (by exact arc171 h1))) (Jb.one_some (Ct.run_t ?_ h2))
  · show (decide (fup c.e f (c.e f + 1) i = c.l i + 1) && !c.h i) = _
    rw [fup_ne n]; rfl
  · show fup c.e f (c.e f + 1) f = c.l f + 1
    rw [fup_at, h1]
/- the held one leaves -/
theorem Jb.runs_kp (hg : c.h g = true) (he : c.e g = c.l g + 1) : D.runs (c.kp g) = D.runs c := by
  refine Jb.runs_eq fun i hi => ?_
  by_cases x : i = g
  · subst x
    rw [Jb.one_none (Ct.run_h hg), Jb.one_none (Ct.run_f ?_)]
    show c.e i ≠ fup c.l i (c.l i + 1) i + 1
    rw [fup_at]; exact arc65 he
  · refine Jb.one_eq ?_ (fup_ne x)
    show (decide (c.e i = fup c.l g _ i + 1) && !fup c.h g false i) = _
    rw [fup_ne x, fup_ne x]; rfl
/- out of the clock -/
theorem Jb.runs_hold (hj : j < 3) (h1 : c.e j = c.l j + 1) (h2 : c.h j = false) : (D.runs c).Perm (D.en j (c.l j) :: D.runs (c.hold j)) := by
  refine Jb.runs_perm hj (fun i hi n => Jb.one_eq ?_ rfl) (Jb.one_none (Ct.run_h (if_pos rfl))) (Jb.one_some (Ct.run_t h1 h2))
  show _ = (decide (c.e i = c.l i + 1) && !fup c.h j true i)
  rw [fup_ne n]; rfl
theorem Jb.runs_lv (hj : j < 3) (h1 : c.e j = c.l j + 1) (h2 : c.h j = false) : (D.runs c).Perm (D.en j (c.l j) :: D.runs (c.lv j)) := by
  refine Jb.runs_perm hj (fun i hi n => Jb.one_eq ?_ (fup_ne n).symm) (Jb.one_none (Ct.run_f ?_)) (Jb.one_some (Ct.run_t h1 h2))
  · show _ = (decide (c.e i = fup c.l j _ i + 1) && !c.h i)
    rw [fup_ne n]; rfl
  · show c.e j ≠ fup c.l j (c.l j + 1) j + 1
    rw [fup_at]; exact arc65 h1
theorem Jb.runs_mem {x : V} (h : x ∈ D.runs c) : ∃ j, j < 3 ∧ c.run j = true ∧ x = D.en j (c.l j) := by
  have one : ∀ {j}, x ∈ D.one c j → c.run j = true ∧ x = D.en j (c.l j) := fun {j} h => by
    unfold Jb.one at h
    by_cases q : c.run j = true
    · rw [if_pos q] at h; exact ⟨q, List.mem_singleton.mp h⟩
    · rw [if_neg q] at h; cases h
  rcases List.mem_append.mp h with h | h
  · exact ⟨0, by exact arc5, one h⟩
  · rcases List.mem_append.mp h with h | h
    · exact ⟨1, by exact arc6, one h⟩
    · exact ⟨2, by exact arc3, one h⟩
theorem Jb.runs_en : ∀ x ∈ D.runs c, D.isEn x := fun x h => let ⟨j, hj, _, e⟩ := Jb.runs_mem h; ⟨j, _, hj, e⟩
theorem Jb.runs_len : (D.runs c).length ≤ 3 := by
  have one : ∀ j, (D.one c j).length ≤ 1 := fun j => by unfold Jb.one; split <;> simp
  unfold Jb.runs
  rw [List.length_append, List.length_append]
  exact Nat.add_le_add (one _) (Nat.add_le_add (one _) (one _))
theorem Jb.en_lex (x y : V) (hx : D.isEn x) (hy : D.isEn y) : ∃ a b, x = .tup a ∧ y = .tup b ∧ LexOk a b := by
  obtain ⟨i, k, hi, rfl⟩ := hx
  obtain ⟨i', k', hi', rfl⟩ := hy
  exact ⟨_, _, rfl, rfl, .cons (.int _ _) (.cons (.int _ _) (.cons (.str _ _) .nil))⟩
theorem Jb.Ok.en_nn (o : D.Ok) {k : Nat} (hj : j < 3) : ∀ x ∈ [V.int (D.dn k j), V.int j, V.str (D.wd k)], NonNeg x := fun x hx => by
  simp only [List.mem_cons, List.not_mem_nil, or_false] at hx
  rcases hx with rfl | rfl | rfl
  · exact o.dn_ge hj
  · exact Int.natCast_nonneg _
  · trivial
theorem Jb.Ok.en_kind (o : D.Ok) {xs : List V} (h : ∀ x ∈ xs, D.isEn x) : Kind xs := fun x hx y hy => by
  obtain ⟨i, k, hi, rfl⟩ := h x hx
  obtain ⟨i', k', hi', rfl⟩ := h y hy
  exact lexLt_kl (.cons (.int _ _) (.cons (.int _ _) (.cons (.str _ _) .nil))) (o.en_nn hi) (o.en_nn hi')
theorem Jb.qd_s {x y : Nat} (h : x ≤ y) : D.qd x (y + 1) = D.qd x y ++ [D.wd y] := by
  unfold Jb.qd
  rw [show y + 1 - x = (y - x) + 1 by lia, List.range'_concat, List.map_append]
  show _ ++ [D.wd (x + 1 * (y - x))] = _
  rw [show x + 1 * (y - x) = y by lia]
theorem Jb.qd_c {x y : Nat} (h : x < y) : D.qd x y = D.wd x :: D.qd (x + 1) y := by
  unfold Jb.qd
  rw [show y - x = (y - (x + 1)) + 1 by lia, List.range'_succ]; rfl
theorem Jb.qd_0 {x : Nat} : D.qd x x = [] := by unfold Jb.qd; rw [Nat.sub_self]; rfl
theorem Jb.qd_len {x y : Nat} : (D.qd x y).length = y - x := by unfold Jb.qd; rw [List.length_map, List.length_range']
theorem Op.p4 (p : Op D c t f) (hj : j < 3) : c.pl j ≤ 4 ∧ c.l j ≤ c.e j ∧ c.e j ≤ 4 := by
  have s : ∀ j, j < 3 → c.pl j ≤ 4 → c.l j ≤ c.e j ∧ c.e j ≤ 4 := fun j hj h => ⟨(p.le j hj).1, Nat.le_trans (p.le j hj).2.2 h⟩
  have a0 : c.pl 0 ≤ 4 := Nat.le_refl 4
  have b0 := s 0 (by decide) a0
  have a1 : c.pl 1 ≤ 4 := Nat.le_trans b0.1 b0.2
  have b1 := s 1 (by decide) a1
  have a2 : c.pl 2 ≤ 4 := Nat.le_trans b1.1 b1.2
  rcases (by exact ar471 hj : j = 0 ∨ j = 1 ∨ j = 2) with rfl | rfl | rfl
  · exact ⟨a0, b0⟩
  · exact ⟨a1, b1⟩
  · exact ⟨a2, s 2 (by decide) a2⟩
theorem Op.mono (p : Op D c t f) (hj : c.l j = 0) : ∀ i, j < i → i < 3 → c.l i = 0 := fun i h1 h2 => by
  have z : ∀ i, i + 1 < 3 → c.l i = 0 → c.l (i + 1) = 0 := fun i hi h => by
    have a := p.le (i + 1) hi
    have b : c.l (i + 1) ≤ c.l i := Nat.le_trans a.1 a.2.2
    rw [h] at b; exact Nat.eq_zero_of_le_zero b
  rcases (by exact ar471 h2 : i = 0 ∨ i = 1 ∨ i = 2) with rfl | rfl | rfl
  · exact absurd h1 (Nat.not_lt_zero _)
  · obtain rfl : j = 0 := Nat.eq_zero_of_le_zero (Nat.le_of_lt_succ h1)
    exact z 0 (by decide) hj
  · rcases Nat.lt_or_ge 0 j with q | q
    · obtain rfl : j = 1 := Nat.le_antisymm (Nat.le_of_lt_succ h1) q
      exact z 1 (by decide) hj
    · obtain rfl : j = 0 := Nat.eq_zero_of_le_zero q
      exact z 1 (by decide) (z 0 (by decide) hj)
end
/- the text's tails -/
structure Fs (D : Jb) (F : Nat → List Nat) : Prop where
  w : ∀ k, k < 4 → ∃ x, D.wd k = Mine.st x ∧ lexO (F k) = some (x, F (k + 1))
  z : lexO (F 4) = some ([], [])
  a : ∀ k, k ≤ 4 → ∀ x ∈ F k, x < 128
/- what the shop holds, by the row of desks; but for the flags of two desks -/
structure SR (D : Jb) (F : Nat → List Nat) (c : Ct) (st : St) (f x : Nat) : Prop where
  hs : ∀ j, j < 3 → st.hs j = if c.h j = true then D.wd (c.l j) else ""
  ts : ∀ j, j < 3 → c.e j = c.l j + 1 → st.ts j = D.bt (c.l j) j
  hp : Hp st.cs
  pm : st.cs.Perm (D.runs c)
  bk : st.bk = D.bk c.l
  pb0 : st.pb 0 = []
  pb : ∀ j, 0 < j → j < 3 → st.pb j = D.qd (c.e j) (c.l (j - 1))
  r0 : st.rs 0 = F (c.e 0) ∨ (c.e 0 = 4 ∧ st.rs 0 = [])
  rs : ∀ j, 0 < j → j < 3 → st.rs j = []
  is : ∀ j, j < 3 → j ≠ f → j ≠ x → st.is j = decide (c.e j = c.l j)
  i0 : 0 ≠ f → 0 ≠ x → c.e 0 = c.l 0 → st.rs 0 = []
section
variable {B : Cx} {d : Nat} {σ σ₀ : Store} {N : Nat} {D : Jb} {wk : Dk} {Tx : Nat → List Nat} {a : Ad} {st : St} {F : Nat → List Nat} {f : Nat}
/- a token of a desk's lexer: a word, if there is one -/
theorem take_ok (b : Base B) (hF : Fs D F) (s : Shop B wk Tx a σ₀ st σ) (hf : f < 3) {x y : Nat} (hq : f ≠ 0 → st.pb f = D.qd x y ∧ st.rs f = []) (h0 : f = 0 → y = 4 ∧ st.pb f = [] ∧ (st.rs f = F x ∨ x = 4 ∧ st.rs f = [])) (hxy : x ≤ y ∧ y ≤ 4) {Q : Post V}
    (hw : x < y → ∀ N' σ' r' p', N ≤ N' → (f = 0 → r' = F (x + 1) ∧ p' = []) → (f ≠ 0 → r' = [] ∧ p' = D.qd (x + 1) y) → Shop B wk Tx a σ₀ { st with rs := fup st.rs f r', pb := fup st.pb f p' } σ' → Q (.str (D.wd x)) σ' N')
    (hn : ¬ x < y → ∀ N' σ', N ≤ N' → Shop B wk Tx a σ₀ { st with rs := fup st.rs f [], pb := fup st.pb f [] } σ' → Q (.str "") σ' N') : WC B (d + 4) (.ref 70) [.ref (a.A f).x] σ N Q := by
  obtain ⟨pre, hpre, m⟩ := s.M f hf
  by_cases c : x < y
  · by_cases z : f = 0
    · obtain ⟨rfl, e1, e2⟩ := h0 z
      have e2 := e2.resolve_right (by lia)
      obtain ⟨w, hw1, hw2⟩ := hF.w x c
      rw [e1, e2] at m
      rw [e2] at hpre
      refine get_read_ok b m hw2 (hF.a x (by exact arc50 c)) fun N' σ' pre' h1 h2 m' k => ?_
      rw [← hw1]
      exact hw c N' σ' _ _ h1 (fun _ => ⟨rfl, rfl⟩) (fun q => absurd z q) (s.mach hf m k ⟨pre', h2.trans hpre, m'⟩)
    · obtain ⟨e1, e2⟩ := hq z
      rw [e1, e2, Jb.qd_c c] at m
      rw [e2] at hpre
      exact get_pushed_ok (d := d + 3) b m (by rw [Jb.qd_len]; exact arc178 hxy c) fun N' σ' h1 m' k => hw c N' σ' _ _ h1 (fun q => absurd q z) (fun _ => ⟨rfl, rfl⟩) (s.mach hf m k ⟨pre, hpre, m'⟩)
  · have exy : x = y := by exact arc179 hxy c
    have e1 : st.pb f = [] := by
      by_cases z : f = 0
      · exact (h0 z).2.1
      · rw [(hq z).1, exy, Jb.qd_0]
    have lx : lexO (st.rs f) = some ([], []) ∧ ∀ x ∈ st.rs f, x < 128 := by
      by_cases z : f = 0
      · obtain ⟨r1, r2, r3⟩ := h0 z
        rcases r3 with r3 | r3
        · rw [r3, exy, r1]; exact ⟨hF.z, hF.a 4 (by exact arc180)⟩
        · rw [r3.2]; exact ⟨rfl, fun _ h => nomatch h⟩
      · rw [(hq z).2]; exact ⟨rfl, fun _ h => nomatch h⟩
    rw [e1] at m
    refine get_read_ok b m lx.1 lx.2 fun N' σ' pre' h1 h2 m' k => ?_
    rw [← s0]
    exact hn c N' σ' h1 (s.mach hf m k ⟨pre', h2.trans hpre, m'⟩)
end
end
noncomputable section
/- a desk called -/
section
variable {B : Cx} {d : Nat} {σ σ₀ : Store} {N : Nat} {D : Jb} {wk : Dk} {Tx : Nat → List Nat} {a : Ad} {st : St} {F : Nat → List Nat} {f : Nat} {c : Ct} {t : Int}
theorem booked_t (b : Base B) (o : D.Ok) (hw : D.Wk wk) {l : Nat → Nat} {j : Nat} (hj : j < 3) (hk : l j < 4) (s : Shop B wk Tx a σ₀ st σ) (hl : D.lv (l j) j = t) (ht : st.ts j = D.bt (l j) j) (hb : st.bk = D.bk l) (hm : l j = 0 → ∀ i, j < i → i < 3 → l i = 0) {Q : Post V}
    (h : ∀ N' σ', N ≤ N' → Shop B wk Tx a σ₀ { st with bk := D.bk (fup l j (l j + 1)) } σ' → Q .none σ' N') : WC B (d + 3) (.ref 152) [.ref a.S, .int t, .int j, .str (D.wd (l j))] σ N Q := by
  rw [← hl]; exact booked_ok b o hw hj hk s ht hb hm h
noncomputable def dv : Nat → Int
  | 0 => -1
  | f + 1 => (f : Nat)
noncomputable def fv : Nat → Nat
  | 0 => 3
  | f + 1 => f
noncomputable def caL (a : Ad) (t i : Int) : Loc := [("shop", .ref a.S), ("hour", .int t), ("desk", .int i)]
noncomputable def caL2 (a : Ad) (t i : Int) (v : Str) : Loc := [("shop", .ref a.S), ("hour", .int t), ("desk", .int i), ("kept", .str v)]
/- new in the clock: later -/
noncomputable def Nw (D : Jb) (t : Int) (xs ys : List V) : Prop := ∀ y ∈ ys, y ∈ xs ∨ ∃ i k, i < 3 ∧ y = D.en i k ∧ t < D.dn k i
noncomputable def CaJ (B : Cx) (D : Jb) (F : Nat → List Nat) (wk : Dk) (Tx : Nat → List Nat) (a : Ad) (σ₀ : Store) (c₀ : Ct) (xs : List V) (t : Int) (n : Nat) (l : Loc) (σ : Store) (_ : Nat) : Prop :=
  ∃ c st i, i = dv n ∧ l = caL a t i ∧ n ≤ 3 ∧ Shop B wk Tx a σ₀ st σ ∧ Op D c t (fv n) ∧ SR D F c st (fv n) (fv n) ∧ (∀ j, j < 3 → c.cn j = c₀.cn j) ∧ Nw D t xs st.cs
/- the line has moved on, or not -/
structure Mvd (D : Jb) (F : Nat → List Nat) (c : Ct) (t : Int) (f : Nat) (cs : List V) (v : Str) (c1 : Ct) (st1 : St) : Prop where
  r : SR D F c1 st1 f (if v = "" then f else f - 1)
  cs : st1.cs = cs
  e : c1.e f = c1.l f ∧ c1.h f = false ∧ c1.e f ≤ c1.pl f ∧ c1.pl f ≤ 4
  p : c1.e f < c1.pl f → D.bt (c1.e f) f = t ∧ Op D (c1.go f) t (if v = "" then 3 else f - 1)
  n : ¬ c1.e f < c1.pl f → v = "" ∧ Op D c1 t 3
  z : v ≠ "" → 0 < f
  cn : ∀ j, j < 3 → c1.cn j = c.cn j
theorem Mvd.no (p : Op D c t f) (o : D.Ok) (hf : f < 3) (r : SR D F c st f f) (hn : 0 < f → c.h (f - 1) = false) : Mvd D F c t f st.cs "" c st := by
  have a := p.le f hf
  have e := p.ef hf
  exact ⟨by rw [if_pos rfl]; exact r, rfl, ⟨e.1, e.2, a.2.2, (p.p4 hf).1⟩, fun q => ⟨p.bf hf (.inl q), by rw [if_pos rfl]; exact p.start o hf hn q⟩, fun q => ⟨rfl, p.stop hf hn q⟩, fun q => absurd rfl q, fun _ _ => rfl⟩
theorem Mvd.yes {g : Nat} (o : D.Ok) (p : Op D c t (g + 1)) (hf : g + 1 < 3) (r : SR D F c st (g + 1) (g + 1)) (hk : c.h g = true) {rs' : Nat → List Nat} {pb' : Nat → List Str} (hrs : rs' = st.rs) (hpb : pb' = fup st.pb (g + 1) (st.pb (g + 1) ++ [D.wd (c.l g)])) :
    Mvd D F c t (g + 1) st.cs (D.wd (c.l g)) (c.kp g) ⟨fup st.hs g "", st.is, st.ts, st.cs, D.bk (fup c.l g (c.l g + 1)), rs', pb'⟩ := by
  subst hrs hpb
  have e := p.ef hf
  have hd := p.hd g (by exact arc8 hf) hk
  have le := p.le (g + 1) hf
  rw [Ct.pl_s] at le
  have p4 := p.p4 (j := g) (by exact arc8 hf)
  have nz := o.ne (c.l g) (by exact arc181 hd p4)
  have nz : D.wd (c.l g) ≠ "" := nz
  have pl : (c.kp g).pl (g + 1) = c.l g + 1 := fup_at
  have lo : ∀ i, i ≠ g → (c.kp g).l i = c.l i := fun i h => fup_ne h
  have ho : ∀ i, i ≠ g → (c.kp g).h i = c.h i := fun i h => fup_ne h
  refine ⟨?_, rfl, ⟨by show c.e (g + 1) = _; rw [lo _ (by exact ar415)]; exact e.1, by rw [ho _ (by exact ar415)]; exact e.2, by rw [pl]; show c.e (g + 1) ≤ _; exact arc182 le, by rw [pl]; exact arc183 hd p4⟩, fun q => ⟨p.bf hf (.inr ⟨by exact arc2, hk⟩), by rw [if_neg nz]; exact p.kept o hf hk⟩, fun q => ?_, fun _ => by exact arc2, fun j hj => ?_⟩
  · rw [if_neg nz, Nat.add_sub_cancel]
    refine ⟨fun j hj => ?_, fun j hj q => ?_, r.hp, ?_, rfl, ?_, fun j h0 hj => ?_, r.r0, r.rs, fun j hj h1 h2 => ?_, fun h1 h2 q => ?_⟩
    · by_cases x : j = g
      · subst x
        show fup st.hs j "" j = if fup c.h j false j = true then _ else _
        rw [fup_at, fup_at]; rfl
      · show fup st.hs g "" j = if fup c.h g false j = true then D.wd (fup c.l g (c.l g + 1) j) else _
        rw [fup_ne x, fup_ne x, fup_ne x]; exact r.hs j hj
    · have q : c.e j = (c.kp g).l j + 1 := q
      by_cases x : j = g
      · subst x
        have : (c.kp j).l j = c.l j + 1 := fup_at
        lia
      · rw [lo j x] at q ⊢
        exact r.ts j hj q
    · show st.cs.Perm _
      rw [Jb.runs_kp hk hd.2.1]; exact r.pm
    · show fup st.pb (g + 1) (st.pb (g + 1) ++ [D.wd (c.l g)]) 0 = []
      rw [fup_ne (by lia)]; exact r.pb0
    · show fup st.pb (g + 1) (st.pb (g + 1) ++ [D.wd (c.l g)]) j = D.qd (c.e j) (fup c.l g (c.l g + 1) (j - 1))
      by_cases x : j = g + 1
      · subst x
        rw [fup_at, Nat.add_sub_cancel, fup_at, r.pb (g + 1) h0 hj, Nat.add_sub_cancel, ← Jb.qd_s le.2.2]
      · rw [fup_ne x, fup_ne (by exact arc66 h0 x)]; exact r.pb j h0 hj
    · show st.is j = decide (c.e j = fup c.l g (c.l g + 1) j)
      rw [fup_ne h2]; exact r.is j hj h1 h1
    · have q : c.e 0 = fup c.l g (c.l g + 1) 0 := q
      rw [fup_ne h2] at q
      exact r.i0 h1 h1 q
  · rw [pl] at q
    have q : ¬ c.e (g + 1) < c.l g + 1 := q
    lia
  · by_cases x : j = g
    · subst x
      unfold Ct.cn
      rw [hk, show (c.kp j).h j = false from fup_at, show (c.kp j).l j = c.l j + 1 from fup_at]; rfl
    · unfold Ct.cn
      rw [lo j x, ho j x]
end
end
noncomputable section
/- a desk called: walked -/
section
variable {D : Jb} {st st1 : St} {F : Nat → List Nat} {f : Nat} {c c1 : Ct} {t : Int} {cs : List V} {v : Str}
theorem Nw.trans {xs ys zs : List V} (h : Nw D t xs ys) (k : Nw D t ys zs) : Nw D t xs zs := fun y hy => (k y hy).elim (h y) .inr
theorem Mvd.went (m : Mvd D F c t f cs v c1 st1) (o : D.Ok) (hf : f < 3) (ha : c1.e f < c1.pl f) {r' : List Nat} {p' : List Str} (h0 : f = 0 → r' = F (c1.e f + 1) ∧ p' = []) (h1 : f ≠ 0 → r' = [] ∧ p' = D.qd (c1.e f + 1) (c1.pl f)) :
    SR D F (c1.go f) ⟨st1.hs, fup st1.is f false, fup st1.ts f t, sd (st1.cs ++ [D.en f (c1.e f)]) 0 st1.cs.length, st1.bk, fup st1.rs f r', fup st1.pb f p'⟩ (if v = "" then 3 else f - 1) (if v = "" then 3 else f - 1) ∧ Nw D t cs (sd (st1.cs ++ [D.en f (c1.e f)]) 0 st1.cs.length) := by
  have r := m.r
  have e := m.e
  have bt := (m.p ha).1
  have hx : ∀ j, j < 3 → j ≠ (if v = "" then 3 else f - 1) → j ≠ f → j ≠ (if v = "" then f else f - 1) := fun j hj h1 h2 => by
    by_cases z : v = ""
    · rw [if_pos z]; exact h2
    · rw [if_neg z] at h1 ⊢; exact h1
  have po := push_ok (xs := st1.cs) (v := D.en f (c1.e f)) (o.en_kind fun x hx => by
    rcases List.mem_append.mp hx with hx | hx
    · exact Jb.runs_en x (r.pm.mem_iff.mp hx)
    · rw [List.mem_singleton.mp hx]; exact ⟨f, _, hf, rfl⟩) r.hp
  have ee : ∀ i, i ≠ f → (c1.go f).e i = c1.e i := fun i h => fup_ne h
  have ef : (c1.go f).e f = c1.e f + 1 := fup_at
  refine ⟨⟨r.hs, fun j hj q => ?_, po.2, ?_, r.bk, ?_, fun j h0' hj => ?_, ?_, fun j h0' hj => ?_, fun j hj h2 _ => ?_, fun h2 _ q => ?_⟩, fun y hy => ?_⟩
  · show fup st1.ts f t j = D.bt (c1.l j) j
    by_cases x : j = f
    · subst x; rw [fup_at, ← e.1, bt]
    · have q : (c1.go f).e j = c1.l j + 1 := q
      rw [ee j x] at q
      rw [fup_ne x]; exact r.ts j hj q
  · refine po.1.trans ((List.perm_append_singleton _ _).trans ((r.pm.cons _).trans ?_))
    have := (Jb.runs_go (D := D) hf e.1 e.2.1).symm
    rwa [← e.1] at this
  · show fup st1.pb f p' 0 = []
    by_cases x : 0 = f
    · subst x; rw [fup_at]; exact (h0 rfl).2
    · rw [fup_ne x]; exact r.pb0
  · show fup st1.pb f p' j = D.qd ((c1.go f).e j) (c1.l (j - 1))
    by_cases x : j = f
    · subst x
      rw [fup_at, ef, (h1 (by exact ar258 h0')).2]
      unfold Ct.pl
      rw [if_neg (by exact arc28 h0')]
    · rw [fup_ne x, ee j x]; exact r.pb j h0' hj
  · show fup st1.rs f r' 0 = F ((c1.go f).e 0) ∨ ((c1.go f).e 0 = 4 ∧ fup st1.rs f r' 0 = [])
    by_cases x : 0 = f
    · subst x; rw [fup_at, ef]; exact .inl (h0 rfl).1
    · rw [fup_ne x, ee 0 x]; exact r.r0
  · show fup st1.rs f r' j = []
    by_cases x : j = f
    · subst x; rw [fup_at]; exact (h1 (by exact ar258 h0')).1
    · rw [fup_ne x]; exact r.rs j h0' hj
  · show fup st1.is f false j = decide ((c1.go f).e j = c1.l j)
    by_cases x : j = f
    · subst x; rw [fup_at, ef, decide_eq_false (by lia)]
    · rw [fup_ne x, ee j x]; exact r.is j hj x (hx j hj h2 x)
  · show fup st1.rs f r' 0 = []
    have q : (c1.go f).e 0 = c1.l 0 := q
    by_cases x : 0 = f
    · subst x; rw [ef] at q; lia
    · rw [ee 0 x] at q
      rw [fup_ne x]; exact r.i0 x (hx 0 (by exact arc5) h2 x) q
  · rcases List.mem_append.mp (po.1.mem_iff.mp hy) with hy | hy
    · rw [m.cs] at hy; exact .inl hy
    · refine .inr ⟨f, _, hf, List.mem_singleton.mp hy, ?_⟩
      have := o.pos (c1.e f) f
      unfold Jb.dn; rw [bt]; lia
theorem Mvd.none (m : Mvd D F c t f cs v c1 st1) (hf : f < 3) (ha : ¬ c1.e f < c1.pl f) : SR D F c1 ⟨st1.hs, fup st1.is f true, st1.ts, st1.cs, st1.bk, fup st1.rs f [], fup st1.pb f []⟩ 3 3 := by
  have r := m.r
  have e := m.e
  rw [if_pos (m.n ha).1] at r
  refine ⟨r.hs, r.ts, r.hp, r.pm, r.bk, ?_, fun j h0' hj => ?_, ?_, fun j h0' hj => ?_, fun j hj h2 _ => ?_, fun h2 _ q => ?_⟩
  · show fup st1.pb f [] 0 = []
    by_cases x : 0 = f
    · subst x; rw [fup_at]
    · rw [fup_ne x]; exact r.pb0
  · show fup st1.pb f [] j = D.qd (c1.e j) (c1.l (j - 1))
    by_cases x : j = f
    · subst x
      have : c1.pl j = c1.l (j - 1) := if_neg (by exact arc28 h0')
      rw [fup_at, show c1.e j = c1.l (j - 1) by lia, Jb.qd_0]
    · rw [fup_ne x]; exact r.pb j h0' hj
  · show fup st1.rs f [] 0 = F (c1.e 0) ∨ (c1.e 0 = 4 ∧ fup st1.rs f [] 0 = [])
    by_cases x : 0 = f
    · subst x
      have : c1.pl 0 = 4 := rfl
      rw [fup_at]; exact .inr ⟨by lia, rfl⟩
    · rw [fup_ne x]; exact r.r0
  · show fup st1.rs f [] j = []
    by_cases x : j = f
    · subst x; rw [fup_at]
    · rw [fup_ne x]; exact r.rs j h0' hj
  · show fup st1.is f true j = decide (c1.e j = c1.l j)
    by_cases x : j = f
    · subst x; rw [fup_at, decide_eq_true e.1]
    · rw [fup_ne x]; exact r.is j hj x x
  · show fup st1.rs f [] 0 = []
    by_cases x : 0 = f
    · subst x; rw [fup_at]
    · rw [fup_ne x]; exact r.i0 x x q
end
section
variable {B : Cx} {d : Nat} {σ σ₀ : Store} {N : Nat} {D : Jb} {wk : Dk} {Tx : Nat → List Nat} {a : Ad} {st : St} {F : Nat → List Nat} {f : Nat} {c : Ct} {t : Int}
theorem mt_get (b : Base B) : MethAt B 80 "get_token" 70 := ⟨_, b.K, by kernel_rfl, by kernel_rfl, by kernel_rfl⟩
theorem mt_push (b : Base B) : MethAt B 80 "push_token" 77 := ⟨_, b.K, by kernel_rfl, by kernel_rfl, by kernel_rfl⟩
theorem called_ok (b : Base B) (o : D.Ok) (hF : Fs D F) (hw : D.Wk wk) (s : Shop B wk Tx a σ₀ st σ) (p : Op D c t f) (hf : f < 3) (r : SR D F c st f f) {Q : Post V}
    (h : ∀ N' σ' c' st', N ≤ N' → Shop B wk Tx a σ₀ st' σ' → Op D c' t 3 → SR D F c' st' 3 3 → (∀ j, j < 3 → c'.cn j = c.cn j) → Nw D t st.cs st'.cs → Q .none σ' N') : WC B (d + 5) (.ref 159) [.ref a.S, .int t, .int f] σ N Q := by
  refine C_fun b.tabOk (names := ["shop", "hour", "first"]) (b.fn rfl) (b.code rfl rfl) b.lim rfl (fun s as hl => ?_) (by decide) (by decide) ⟨rfl, rfl, rfl, rfl, rfl⟩ (fun L hL hσL hab => ?_)
  · obtain ⟨x, y, z, rfl⟩ := len3 hl
    exact .of_eq rfl
  have hfr := s.fr
  refine ⟨CaJ B D F wk Tx a (σ₀.add L) c st.cs t, f + 1, caL a t f, .cons rfl (.cons rfl (.cons rfl (.nil _))), ⟨c, st, _, rfl, rfl, by exact arc187 hf, s.add L, p, r, fun _ _ => rfl, fun y h => .inl h⟩, ?_⟩
  clear s p r
  rintro n l σ' N' ⟨c', st', i, hi, rfl, hn, s', p', r', hc, hw'⟩ hN
  cases n with
  | zero =>
    obtain rfl : i = -1 := hi
    exact .neg rfl ⟨_, .refl _, h N' _ c' st' hN (s'.get rfl rfl hfr) p' r' hc hw'⟩
  | succ f =>
  obtain rfl : i = (f : Nat) := hi
  have hf : f < 3 := by exact arc188 hn
  have p' : Op D c' t f := p'
  have r' : SR D F c' st' f f := r'
  refine .pos (decide_eq_true (Int.natCast_nonneg f)) ?_
  obtain ⟨ep, gS⟩ := s'.S
  have gH := s'.H
  have k0 : (0 : Int) ≤ (f : Nat) := Int.natCast_nonneg f
  refine ifexp_same (.str (if 0 < f then st'.hs (f - 1) else "")) (fun e K' q => ?_) (fun e K' q => ?_) ?_
  · have e : (0 : Int) < (f : Nat) := of_decide_eq_true e
    have e : 0 < f := by exact arc21 e
    rw [if_pos e] at q
    exact iDict (k := .s "held") (.ref gS) g_held (iList (v := .str (st'.hs (f - 1))) (.ref gH) (by exact arc22 e) (by lia) (by rw [show ((f : Int) - 1).toNat = f - 1 by lia]; exact l3_at (f := fun j => V.str (st'.hs j)) (by exact arc19 hn e)) q)
  · have e : ¬ (0 : Int) < (f : Nat) := of_decide_eq_false e
    have e : ¬ 0 < f := by exact arc42 e
    rw [if_neg e] at q
    exact q
  refine .join (fun l σ _ => ∃ v c1 st1, l = caL2 a t f v ∧ Shop B wk Tx a (σ₀.add L) st1 σ ∧ Mvd D F c' t f st'.cs v c1 st1) ⟨?_, ?_⟩
  · rintro l σ₁ N₁ h1 ⟨v, c1, st1, rfl, s1, m⟩
    obtain ⟨ep1, gS1⟩ := s1.S
    obtain ⟨pre, hpre, M⟩ := s1.M f hf
    have me := m.e
    refine iDict (k := .s "lines") (.ref gS1) g_lines (iLst k0 (by exact arc67 hn) (l3_at (f := fun j => V.ref (a.A j).x) hf) (VMeth.inst M.x M.D (mt_get b) rfl ⟨take_ok b hF s1 hf (x := c1.e f) (y := c1.pl f) (fun z => ⟨?_, m.r.rs f (by exact arc68 z) hf⟩) (fun z => ?_) ⟨me.2.2.1, me.2.2.2⟩ (fun ha N₂ σ₂ r1 p1 h2 e0 e1 s2 => ?_) (fun ha N₂ σ₂ h2 s2 => ?_)⟩))
    · rw [m.r.pb f (by exact arc68 z) hf]; unfold Ct.pl; rw [if_neg z]
    · subst z; exact ⟨rfl, m.r.pb0, m.r.r0⟩
    · obtain ⟨w1, w2⟩ := m.went o hf ha e0 e1
      have bt := (m.p ha).1
      have nz : D.wd (c1.e f) ≠ "" := o.ne _ (by lia)
      obtain ⟨ep2, gS2⟩ := s2.S
      refine iDict (k := .s "idle") (.ref gS2) g_idle (pList s2.I k0 (by show _ < 3; exact arc29 hn) (by show 3 < _; decide) ?_)
      rw [decide_eq_false nz]
      have s3 := s2.setI hf false
      obtain ⟨ep3, gS3⟩ := s3.S
      refine .plain (.pos (by rw [decide_eq_false nz]; rfl) ?_)
      refine iDict (k := .s "since") (.ref gS3) g_since (pList s3.T k0 (by show _ < 3; exact arc29 hn) (by show 3 < _; decide) ?_)
      have s4 := s3.setT hf t
      obtain ⟨ep4, gS4⟩ := s4.S
      refine iDict (k := .s "clock") (.ref gS4) g_clock ?_
      refine iDict (k := .s "works") (.ref gS4) g_works (iDict (k := .s (D.wd (c1.e f))) (.dct _) (hw _ (by lia)) (iTup k0 (by exact arc67 hn) (Jb.w_at hf) ?_))
      refine ⟨_, _, .refl, (by show 3 ≤ sizeLine; decide), ⟨?_⟩⟩
      have en : V.tup [.int (t + D.w (c1.e f) f), .int f, .str (D.wd (c1.e f))] = D.en f (c1.e f) := by unfold Jb.en Jb.dn; rw [bt]
      rw [en]
      refine heappush_ok (d := d + 2) b (P := D.isEn) Jb.en_lex s4.C (fun x hx => Jb.runs_en x (m.r.pm.mem_iff.mp hx)) ⟨f, _, hf, rfl⟩ (by have := m.r.pm.length_eq; have := Jb.runs_len (D := D) (c := c1); show st1.cs.length < _; lia) fun N₅ h5 => ?_
      have s5 := s4.setC (sd (st1.cs ++ [D.en f (c1.e f)]) 0 st1.cs.length)
      refine ifexp_same (.int (if v = "" then -1 else (f : Int) - 1)) (fun e K' q => ?_) (fun e K' q => ?_) ?_
      · have e : v ≠ "" := fun z => by rw [decide_eq_true z] at e; cases e
        rw [if_neg e] at q; exact q
      · have e : v = "" := by
          by_cases z : v = ""
          · exact z
          · rw [decide_eq_false z] at e; cases e
        rw [if_pos e] at q; exact q
      have op := (m.p ha).2
      by_cases z : v = ""
      · rw [if_pos z] at w1 op ⊢
        exact ⟨_, .cons rfl (.cons rfl (.cons rfl (.nil _))), 0, by exact arc2, c1.go f, _, _, rfl, rfl, by exact arc69, s5, op, w1, fun j hj => (m.cn j hj).trans (hc j hj), hw'.trans w2⟩
      · have z0 := m.z z
        obtain ⟨g, rfl⟩ : ∃ g, f = g + 1 := ⟨f - 1, by exact ar182 z0⟩
        rw [if_neg z] at w1 op ⊢
        rw [Nat.add_sub_cancel] at w1 op
        rw [show ((g + 1 : Nat) : Int) - 1 = dv (g + 1) by show _ = (g : Int); exact ar292]
        exact ⟨_, .cons rfl (.cons rfl (.cons rfl (.nil _))), g + 1, by exact arc191, c1.go (g + 1), _, _, rfl, rfl, by exact arc192 hn, s5, op, w1, fun j hj => (m.cn j hj).trans (hc j hj), hw'.trans w2⟩
    · have w1 := m.none hf ha
      obtain ⟨z, op⟩ := m.n ha
      subst z
      obtain ⟨ep2, gS2⟩ := s2.S
      refine iDict (k := .s "idle") (.ref gS2) g_idle (pList s2.I k0 (by show _ < 3; exact arc29 hn) (by show 3 < _; decide) ?_)
      have s3 := s2.setI hf true
      refine .plain (.neg rfl ?_)
      refine .neg rfl ?_
      exact ⟨_, .cons rfl (.cons rfl (.cons rfl (.nil _))), 0, by exact arc2, c1, _, _, rfl, rfl, by exact arc69, s3, op, w1, fun j hj => (m.cn j hj).trans (hc j hj), by show Nw D t st.cs st1.cs; rw [m.cs]; exact hw'⟩
  · refine ⟨fun e => ?_, fun e => ?_⟩
    · have e : (if 0 < f then st'.hs (f - 1) else "") ≠ "" := fun z => by rw [decide_eq_true z] at e; cases e
      have z0 : 0 < f := by
        by_cases z : 0 < f
        · exact z
        · rw [if_neg z] at e; exact absurd rfl e
      obtain ⟨g, rfl⟩ : ∃ g, f = g + 1 := ⟨f - 1, by exact ar182 z0⟩
      rw [if_pos z0, Nat.add_sub_cancel] at e ⊢
      have hsg := r'.hs g (by exact arc13 hn)
      have hk : c'.h g = true := by
        cases q : c'.h g with
        | true => rfl
        | false => rw [q] at hsg; exact absurd hsg e
      rw [if_pos hk] at hsg
      rw [hsg]
      have gi : ((g + 1 : Nat) : Int) - 1 = (g : Int) := by exact ar292
      have p4 := p'.p4 (j := g) (by exact arc13 hn)
      have p4' := p'.p4 (j := g + 1) (by exact arc193 hn)
      have hd := p'.hd g (by exact arc13 hn) hk
      have hh := p'.hh hf (by exact arc2) hk
      rw [Nat.add_sub_cancel] at hh
      obtain ⟨pre, hpre, M⟩ := s'.M (g + 1) hf
      have y := Mvd.yes o p' hf r' hk (rs' := fup st'.rs (g + 1) (st'.rs (g + 1))) (pb' := fup st'.pb (g + 1) (st'.pb (g + 1) ++ [D.wd (c'.l g)])) (funext fun i => by
        by_cases x : i = g + 1
        · subst x; exact fup_at
        · exact fup_ne x) rfl
      refine iDict (k := .s "lines") (.ref gS) g_lines (iLst k0 (by exact arc194 hn) (l3_at (f := fun j => V.ref (a.A j).x) hf) (VMeth.inst M.x M.D (mt_push b) rfl ⟨push_token_ok (d := d + 3) b M (by rw [r'.pb (g + 1) (by exact arc2) hf, Jb.qd_len]; show c'.l g - _ < _; exact arc195 p4 hd) fun N₂ σ₂ h2 M2 k => ?_⟩))
      have s2 := s'.mach hf M k ⟨pre, hpre, M2⟩
      obtain ⟨ep2, gS2⟩ := s2.S
      refine iDict (k := .s "held") (.ref gS2) g_held (pList (i := ((g + 1 : Nat) : Int) - 1) s2.H (by lia) (by show _ < (3 : Int); lia) (by show 3 < _; decide) ?_)
      rw [show (((g + 1 : Nat) : Int) - 1).toNat = g by lia]
      have s3 := s2.setH (j := g) (by exact arc13 hn) ""
      refine ⟨?_⟩
      show WC B (d + 4) (.ref 152) [.ref a.S, .int t, .int (((g + 1 : Nat) : Int) - 1), .str (D.wd (c'.l g))] _ _ _
      rw [gi]
      refine booked_t (d := d + 1) b o hw (l := c'.l) (j := g) (by exact arc13 hn) (by exact arc199 p4 hd) s3 hh (r'.ts g (by exact arc13 hn) hd.2.1) r'.bk (fun z => p'.mono z) fun N₄ σ₄ h4 s4 => ?_
      exact ⟨_, .cons rfl (.cons rfl (.cons rfl (.cons rfl (.nil _)))), _, _, _, rfl, s4, y⟩
    · have e : (if 0 < f then st'.hs (f - 1) else "") = "" := by
        by_cases z : (if 0 < f then st'.hs (f - 1) else "") = ""
        · exact z
        · rw [decide_eq_false z] at e; cases e
      have hn : 0 < f → c'.h (f - 1) = false := fun z => by
        rw [if_pos z] at e
        have hsg := r'.hs (f - 1) (by exact arc19 hn z)
        cases q : c'.h (f - 1) with
        | false => rfl
        | true =>
          have p4 := p'.p4 (j := f - 1) (by exact arc19 hn z)
          have hd := p'.hd (f - 1) (by exact arc19 hn z) q
          rw [q, if_pos rfl, e] at hsg
          exact absurd hsg.symm (o.ne _ (by exact arc200 p4 hd))
      rw [e]
      exact ⟨_, .cons rfl (.cons rfl (.cons rfl (.cons rfl (.nil _)))), _, _, _, rfl, s', Mvd.no p' o hf r' hn⟩
end
end
noncomputable section
/- what is told -/
section
variable {D : Jb} {c c' : Ct} {F : Nat → List Nat} {st : St} {j k : Nat} {t : Int}
theorem Jb.Ok.le_hour (o : D.Ok) {i k' : Nat} (hj : j < 3) (hi : i < 3) (h : le (D.en j k) (D.en i k')) : D.dn k j ≤ D.dn k' i := by
  have a := o.dn_ge (k := k) hj
  have b := o.dn_ge (k := k') hi
  refine Int.not_lt.mp fun q => h ?_
  show [[(D.dn k' i).toNat], [((i : Nat) : Int).toNat], (D.wd k').cps.toList] < [[(D.dn k j).toNat], [((j : Nat) : Int).toNat], (D.wd k).cps.toList]
  exact .rel (.rel ((Int.toNat_lt_toNat (Int.lt_of_le_of_lt b q)).mpr q))
theorem Jb.Ok.hour_le (o : D.Ok) {i k' : Nat} (hj : j < 3) (hi : i < 3) (h : D.dn k j < D.dn k' i) : le (D.en j k) (D.en i k') := by
  have a := o.dn_ge (k := k) hj
  have b := o.dn_ge (k := k') hi
  refine le_of_lt ?_
  show [[(D.dn k j).toNat], [((j : Nat) : Int).toNat], (D.wd k).cps.toList] < [[(D.dn k' i).toNat], [((i : Nat) : Int).toNat], (D.wd k').cps.toList]
  exact .rel (.rel ((Int.toNat_lt_toNat (Int.lt_of_le_of_lt a h)).mpr h))
noncomputable def Jb.tl (D : Jb) (c : Ct) : List V := (List.range (c.cn 0)).map (D.en 0) ++ ((List.range (c.cn 1)).map (D.en 1) ++ (List.range (c.cn 2)).map (D.en 2))
theorem Jb.tl_next (hj : j < 3) (h : ∀ i, i < 3 → c'.cn i = if i = j then c.cn i + 1 else c.cn i) : (D.tl c ++ [D.en j (c.cn j)]).Perm (D.tl c') := by
  have s : ∀ n j, (List.range (n + 1)).map (D.en j) = (List.range n).map (D.en j) ++ [D.en j n] := fun n j => by rw [List.range_succ, List.map_append]; rfl
  have h0 := h 0 (by exact arc5); have h1 := h 1 (by exact arc6); have h2 := h 2 (by exact arc3)
  unfold Jb.tl
  rw [h0, h1, h2]
  rcases (by exact ar471 hj : j = 0 ∨ j = 1 ∨ j = 2) with rfl | rfl | rfl
  · rw [if_pos rfl, if_neg (by decide), if_neg (by decide), s, List.append_assoc, List.append_assoc, List.append_assoc]
    refine .append_left _ ?_
    rw [← List.append_assoc]
    exact List.perm_append_comm
  · rw [if_pos rfl, if_neg (by decide), if_neg (by decide), s, List.append_assoc, List.append_assoc, List.append_assoc]
    refine .append_left _ (.append_left _ ?_)
    exact List.perm_append_comm
  · rw [if_pos rfl, if_neg (by decide), if_neg (by decide), s, List.append_assoc, List.append_assoc]
structure Td (D : Jb) (c : Ct) (told cs : List V) : Prop where
  p : told.Perm (D.tl c)
  s : told.Pairwise le
  b : ∀ x ∈ told, ∀ y ∈ cs, le x y
/- an event told -/
theorem Td.next {told cs rest cs' : List V} (o : D.Ok) (T : Td D c told cs) (hj : j < 3) (hh : c.h j = false) (hp : (D.en j (c.l j) :: rest).Perm cs) (hm : ∀ y ∈ cs, le (D.en j (c.l j)) y) (hn : Nw D (D.dn (c.l j) j) rest cs') (hc : ∀ i, i < 3 → c'.cn i = if i = j then c.cn i + 1 else c.cn i) :
    Td D c' (told ++ [D.en j (c.l j)]) cs' := by
  have ecn : c.cn j = c.l j := by unfold Ct.cn; rw [hh]; rfl
  have hx : ∀ x ∈ told ++ [D.en j (c.l j)], le x (D.en j (c.l j)) := fun x hx => by
    rcases List.mem_append.mp hx with hx | hx
    · exact T.b x hx _ (hp.mem_iff.mp (.head _))
    · rw [List.mem_singleton.mp hx]; exact le_refl _
  refine ⟨?_, ?_, fun x hx' y hy => ?_⟩
  · refine (T.p.append_right _).trans ?_
    rw [← ecn]; exact Jb.tl_next hj hc
  · refine List.pairwise_append.mpr ⟨T.s, List.pairwise_singleton _ _, fun x hx y hy => ?_⟩
    rw [List.mem_singleton.mp hy]
    exact T.b x hx _ (hp.mem_iff.mp (.head _))
  · rcases hn y hy with q | ⟨i, k, hi, rfl, q⟩
    · have q := hp.mem_iff.mp (.tail _ q)
      rcases List.mem_append.mp hx' with hx' | hx'
      · exact T.b x hx' y q
      · rw [List.mem_singleton.mp hx']; exact hm y q
    · exact le_trans (hx x hx') (o.hour_le hj hi q)
/- at the start -/
noncomputable def c00 : Ct := ⟨fun _ => 0, fun _ => 0, fun _ => false⟩
theorem Op.first (o : D.Ok) : Op D c00 0 0 := by
  refine ⟨fun _ => ⟨rfl, rfl⟩, fun j hj => ⟨Nat.le_refl _, Nat.zero_le _, Nat.zero_le _⟩, fun j hj q => (by cases q), fun _ h => absurd h (by decide), fun j hj => Nat.zero_le _, fun j hj h q => ?_, fun _ _ => Jb.bt_0 (by decide), fun j hj k => ⟨fun q => absurd q (Nat.not_lt_zero _), fun q => absurd q (Nat.not_lt_zero _)⟩, fun j hj q => (by cases q), fun j hj q => (by cases q), Int.le_refl _⟩
  show 0 = Ct.pl c00 j
  unfold Ct.pl
  rw [if_neg h]; rfl
noncomputable def st00 (Tx : Nat → List Nat) : St := ⟨fun _ => "", fun _ => true, fun _ => 0, [], [], Tx, fun _ => []⟩
theorem SR.first {Tx : Nat → List Nat} (h0 : Tx 0 = F 0) (h1 : ∀ j, 0 < j → j < 3 → Tx j = []) : SR D F c00 (st00 Tx) 0 0 :=
  ⟨fun _ _ => rfl, fun _ _ q => (by cases q), fun i h0 h1 => absurd h1 (Nat.not_lt_zero _), .refl _, rfl, rfl, fun _ _ _ => rfl, .inl h0, h1, fun _ _ _ _ => rfl, fun h => absurd rfl h⟩
/- a job leaves its desk -/
theorem SR.leave {rest : List V} {pb' : Nat → List Str} (r : SR D F c st 3 3) (hj : j < 3) (he : c.e j = c.l j + 1) (hh : c.h j = false) (hp : (D.en j (c.l j) :: rest).Perm st.cs) (hR : Hp rest) (p0 : pb' 0 = []) (hpb : ∀ i, 0 < i → i < 3 → pb' i = D.qd (c.e i) ((c.lv j).l (i - 1))) {rs' : Nat → List Nat} (hrs : rs' = st.rs) :
    SR D F (c.lv j) ⟨st.hs, st.is, st.ts, rest, D.bk (fup c.l j (c.l j + 1)), rs', pb'⟩ j j := by
  subst hrs
  have lj : (c.lv j).l j = c.l j + 1 := fup_at
  have lo : ∀ i, i ≠ j → (c.lv j).l i = c.l i := fun i h => fup_ne h
  refine ⟨fun i hi => ?_, fun i hi q => ?_, hR, ?_, rfl, p0, hpb, r.r0, r.rs, fun i hi h1 _ => ?_, fun h1 _ q => ?_⟩
  · show st.hs i = if c.h i = true then D.wd ((c.lv j).l i) else ""
    by_cases x : i = j
    · rw [x, hh]
      have := r.hs j hj
      rw [hh] at this; exact this
    · rw [lo i x]; exact r.hs i hi
  · have q : c.e i = (c.lv j).l i + 1 := q
    by_cases x : i = j
    · subst x; rw [lj] at q; lia
    · rw [lo i x] at q ⊢; exact r.ts i hi q
  · exact List.Perm.cons_inv (hp.trans (r.pm.trans (Jb.runs_lv hj he hh)))
  · show st.is i = decide (c.e i = (c.lv j).l i)
    rw [lo i h1]; exact r.is i hi (by exact arc12 hi) (by exact arc12 hi)
  · have q : c.e 0 = (c.lv j).l 0 := q
    rw [lo 0 h1] at q
    exact r.i0 (by decide) (by decide) q
/- who is done is held -/
theorem SR.hold {rest : List V} (r : SR D F c st 3 3) {f : Nat} (hj : j < 3) (he : c.e j = c.l j + 1) (hh : c.h j = false) (hp : (D.en j (c.l j) :: rest).Perm st.cs) (hR : Hp rest) :
    SR D F (c.hold j) ⟨fup st.hs j (D.wd (c.l j)), st.is, st.ts, rest, st.bk, st.rs, st.pb⟩ f f := by
  refine ⟨fun i hi => ?_, r.ts, hR, ?_, r.bk, r.pb0, r.pb, r.r0, r.rs, fun i hi h1 _ => r.is i hi (by exact arc12 hi) (by exact arc12 hi), fun h1 _ q => r.i0 (by decide) (by decide) q⟩
  · show fup st.hs j _ i = if fup c.h j true i = true then D.wd (c.l i) else ""
    by_cases x : i = j
    · subst x; rw [fup_at, fup_at]; rfl
    · rw [fup_ne x, fup_ne x]; exact r.hs i hi
  · exact List.Perm.cons_inv (hp.trans (r.pm.trans (Jb.runs_hold hj he hh)))
theorem Ct.cn_lv (hh : c.h j = false) : ∀ i, (c.lv j).cn i = if i = j then c.cn i + 1 else c.cn i := fun i => by
  unfold Ct.cn
  show fup c.l j (c.l j + 1) i + (if c.h i = true then 1 else 0) = _
  by_cases x : i = j
  · subst x; rw [fup_at, hh, if_pos (rfl : i = i)]; rfl
  · rw [fup_ne x, if_neg x]
theorem Ct.cn_hold (hh : c.h j = false) : ∀ i, (c.hold j).cn i = if i = j then c.cn i + 1 else c.cn i := fun i => by
  unfold Ct.cn
  show c.l i + (if fup c.h j true i = true then 1 else 0) = _
  by_cases x : i = j
  · subst x; rw [fup_at, hh, if_pos (rfl : i = i)]; rfl
  · rw [fup_ne x, if_neg x]
/- at the end -/
theorem Op.all (p : Op D c t 3) (h : D.runs c = []) : ∀ j, j < 3 → c.e j = 4 ∧ c.l j = 4 ∧ c.h j = false := by
  have nr : ∀ j, j < 3 → c.run j = false := fun j hj => by
    cases q : c.run j with
    | false => rfl
    | true =>
      have : D.en j (c.l j) ∈ D.runs c := by
        have e := Jb.one_some (D := D) q
        unfold Jb.runs
        rcases (by exact ar471 hj : j = 0 ∨ j = 1 ∨ j = 2) with rfl | rfl | rfl <;> rw [e] <;> simp
      rw [h] at this; cases this
  have nx : ∀ j, j < 3 → (∀ i, i = j + 1 → i < 3 → c.e i = c.l i) → c.e j = c.l j ∧ c.h j = false := fun j hj hn => by
    have le := p.le j hj
    have hf : c.h j = false := by
      cases q : c.h j with
      | false => rfl
      | true =>
        have a := p.hd j hj q
        have := a.2.2 (by exact arc27 a)
        have := hn (j + 1) rfl (by exact arc204 hj a)
        lia
    refine ⟨?_, hf⟩
    by_cases z : c.e j = c.l j + 1
    · have := nr j hj
      rw [Ct.run_t z hf] at this; cases this
    · lia
  have h2 := nx 2 (by exact arc3) fun i h1 h2 => by lia
  have h1 := nx 1 (by exact arc6) fun i h1 h3 => by subst h1; exact h2.1
  have h0 := nx 0 (by exact arc5) fun i h2 h3 => by subst h2; exact h1.1
  have i0 := p.idl 0 (by exact arc5) (by exact arc207) h0.1
  have i1 := p.idl 1 (by exact arc6) (by exact arc208) h1.1
  have i2 := p.idl 2 (by exact arc3) (by exact arc209) h2.1
  have e0 : c.pl 0 = 4 := rfl
  have e1 : c.pl 1 = c.l 0 := rfl
  have e2 : c.pl 2 = c.l 1 := rfl
  intro j hj
  rcases (by exact ar471 hj : j = 0 ∨ j = 1 ∨ j = 2) with rfl | rfl | rfl
  · exact ⟨by exact arc210 i0 e0, by lia, h0.2⟩
  · exact ⟨by lia, by lia, h1.2⟩
  · exact ⟨by lia, by lia, h2.2⟩
theorem Jb.bk_all (h : ∀ j, j < 3 → c.l j = 4) : D.bk c.l = D.fb 3 := by
  rw [Jb.bk_q, h 0 (by exact arc5), h 1 (by exact arc6), h 2 (by exact arc3)]; rfl
theorem Jb.tl_all (h : ∀ j, j < 3 → c.cn j = 4) : D.tl c = D.ends 3 0 := by
  unfold Jb.tl
  rw [h 0 (by exact arc5), h 1 (by exact arc6), h 2 (by exact arc3)]; rfl
end
end
noncomputable section
/- a run walked: the loop -/
section
variable {B : Cx} {d : Nat} {σ σ₀ : Store} {N : Nat} {D : Jb} {wk : Dk} {Tx : Nat → List Nat} {a : Ad} {st : St} {F : Nat → List Nat} {c : Ct} {t : Int} {j U : Nat}
theorem Jb.mem_runs (hj : j < 3) (h : c.run j = true) : D.en j (c.l j) ∈ D.runs c := by
  have e := Jb.one_some (D := D) h
  unfold Jb.runs
  rcases (by exact ar471 hj : j = 0 ∨ j = 1 ∨ j = 2) with rfl | rfl | rfl <;> rw [e] <;> simp
theorem Jb.rm_at (hj : j < 2) : [V.int D.r0, V.int D.r1][(j : Int).toNat]? = some (.int (D.rm j : Nat)) := by
  rcases (by exact ar132 hj : j = 0 ∨ j = 1) with rfl | rfl <;> rfl
theorem Shop.told {xs ys : List V} (s : Shop B wk Tx a (pt σ₀ U (.list xs)) st σ) (hU : a.K < U) : Shop B wk Tx a (pt σ₀ U (.list ys)) st (pt σ U (.list ys)) := by
  have eU : σ U = some (.list xs) := s.kp U _ (pt_same _ _ _) (.inr (.inl hU))
  obtain ⟨s1, s2, s3, s4, s5, s6, s7, L, s9, s10⟩ := s
  refine ⟨s1.imp fun _ q => (pt_ne (Nat.ne_of_lt (Nat.lt_trans L.SK hU))).trans q, (pt_ne (Nat.ne_of_lt (Nat.lt_trans L.HK hU))).trans s2, (pt_ne (Nat.ne_of_lt (Nat.lt_trans L.IK hU))).trans s3, (pt_ne (Nat.ne_of_lt (Nat.lt_trans L.TK hU))).trans s4, (pt_ne (Nat.ne_of_lt (Nat.lt_trans L.K hU))).trans s5, s6.imp fun _ q => (pt_ne (Nat.ne_of_lt hU)).trans q, fun i hi => ?_, L, fun x o q n => ?_, s10⟩
  · obtain ⟨p, q, m⟩ := s7 i hi
    have := L.out hi (x := U) (.inr (Nat.le_of_lt (Nat.lt_trans L.SK hU)))
    exact ⟨p, q, m.ptX eU (.list _) this.2.1 this.2.2⟩
  · by_cases x' : x = U
    · subst x'; rw [pt_same] at q; cases q; exact pt_same _ _ _
    · rw [pt_ne x'] at q; exact (pt_ne x').trans (s9 x o ((pt_ne x').trans q) n)
noncomputable def roL (D : Jb) (a : Ad) (U : Nat) : Loc := [("lines", .lst (l3 fun j => .ref (a.A j).x)), ("rooms", .tup [.int D.r0, .int D.r1]), ("shop", .ref a.S), ("told", .ref U)]
noncomputable def roL0 (D : Jb) (a : Ad) (U : Nat) (tx : Str) (wk : Dk) : Loc := upd (upd (upd (locs ["text", "works", "rooms"] [.str tx, .dct wk, .tup [.int D.r0, .int D.r1]]) "lines" (.lst (l3 fun j => .ref (a.A j).x))) "shop" (.ref a.S)) "told" (.ref U)
noncomputable def RnJ (B : Cx) (D : Jb) (F : Nat → List Nat) (wk : Dk) (Tx : Nat → List Nat) (a : Ad) (σ₀ : Store) (U n : Nat) (l : Loc) (σ : Store) (_ : Nat) : Prop :=
  ∃ c st t told, l = roL D a U ∧ n + (c.cn 0 + c.cn 1 + c.cn 2) = 12 ∧ Shop B wk Tx a (pt σ₀ U (.list told)) st σ ∧ Op D c t 3 ∧ SR D F c st 3 3 ∧ Td D c told st.cs
theorem Op.cn4 (p : Op D c t 3) (hj : j < 3) : c.cn j ≤ 4 ∧ (c.run j = true → c.cn j < 4) := by
  have a := p.p4 hj
  unfold Ct.cn
  cases q : c.h j with
  | true =>
    have := (p.hd j hj q).2.1
    exact ⟨by rw [if_pos rfl]; exact arc212 a this, fun h => by have := (Ct.run_of h).2; rw [q] at this; cases this⟩
  | false => exact ⟨by rw [if_neg (by decide)]; lia, fun h => by have := (Ct.run_of h).1; rw [if_neg (by decide)]; lia⟩
theorem Td.len {told cs : List V} (T : Td D c told cs) (p : Op D c t 3) : told.length < 2 ^ 20 := by
  have h3 := T.p.length_eq
  unfold Jb.tl at h3
  rw [List.length_append, List.length_append, List.length_map, List.length_map, List.length_map, List.length_range, List.length_range, List.length_range] at h3
  rw [h3]
  exact Nat.lt_of_le_of_lt (Nat.add_le_add (p.cn4 (j := 0) (by decide)).1 (Nat.add_le_add (p.cn4 (j := 1) (by decide)).1 (p.cn4 (j := 2) (by decide)).1)) (by decide)
theorem cn_next {x y z x' y' z' n : Nat} (hj : j < 3) (hn : n + (x + y + z) = 12) (hx : x ≤ 4) (hy : y ≤ 4) (hz : z ≤ 4) (lx : j = 0 → x < 4) (ly : j = 1 → y < 4) (lz : j = 2 → z < 4) (h0 : x' = if 0 = j then x + 1 else x) (h1 : y' = if 1 = j then y + 1 else y) (h2 : z' = if 2 = j then z + 1 else z) : n - 1 < n ∧ n - 1 + (x' + y' + z') = 12 := by
  have e : x + y + z < 12 ∧ x' + y' + z' = x + y + z + 1 := by
    rcases (by exact ar471 hj : j = 0 ∨ j = 1 ∨ j = 2) with rfl | rfl | rfl
    · have := lx rfl; rw [h0, h1, h2, if_pos rfl, if_neg (by decide), if_neg (by decide)]; clear h0 h1 h2 lx ly lz; lia
    · have := ly rfl; rw [h0, h1, h2, if_pos rfl, if_neg (by decide), if_neg (by decide)]; clear h0 h1 h2 lx ly lz; lia
    · have := lz rfl; rw [h0, h1, h2, if_pos rfl, if_neg (by decide), if_neg (by decide)]; clear h0 h1 h2 lx ly lz; lia
  obtain ⟨e1, e2⟩ := e
  rw [e2]
  generalize x + y + z = s at *
  clear hx hy hz lx ly lz h0 h1 h2 e2 hj
  exact ⟨by lia, by lia⟩
theorem run_tail (b : Base B) (o : D.Ok) (hF : Fs D F) (hw : D.Wk wk) (hTx : Tx 0 = F 0) (hT1 : ∀ j, 0 < j → j < 3 → Tx j = []) {L : Nat} {tx : Str} {φ : Nat → Prop} (hU : a.K < U) (hUs : σ U = some (.list [])) (s : Shop B wk Tx a σ (st00 Tx) σ) {Q : Post V}
    (h : ∀ N' (σ' : Store) told, N ≤ N' → (∀ x o, σ x = some o → (x < a.n 0 ∨ ∃ ob, o = .obj ob) → σ' x = some o) → σ'.fr = σ.fr → IsSorted (D.ends 3 0) told → Q (.tup [.lst told, .dct (D.fb 3), .int (lines (F 0))]) (σ'.reset φ) N') :
    (vRun B tb (d + 5) 194).S (callEnv fd166 L 166) ((stmtsOf (at_ bodyP 20)).drop 6) (roL0 D a U tx wk) σ N (Back φ Q) := by
  have s0 : Shop B wk Tx a (pt σ U (.list [])) (st00 Tx) σ := by rw [pt_id hUs]; exact s
  refine ⟨called_ok (f := 0) b o hF hw s0 (Op.first o) (by decide) (SR.first hTx hT1) fun N₁ σ₁ c st h1 s1 p r hc hn => ?_⟩
  refine ⟨RnJ B D F wk Tx a σ U, 12, roL D a U, .cons rfl (.cons rfl (.cons rfl (.cons rfl (.nil _)))), ⟨c, st, 0, [], rfl, by rw [hc 0 (by decide), hc 1 (by decide), hc 2 (by decide)]; rfl, s1, p, r, ?_⟩, ?_⟩
  · refine ⟨?_, .nil, fun _ h => nomatch h⟩
    have e : D.tl c = [] := by unfold Jb.tl; rw [hc 0 (by decide), hc 1 (by decide), hc 2 (by decide)]; rfl
    rw [e]
  clear s s0 s1 p r hc hn
  rintro n l σ' N' ⟨c, st, t, told, rfl, hn, s, p, r, T⟩ hN
  obtain ⟨ep, gS⟩ := s.S
  refine iDict (k := .s "clock") (.ref gS) g_clock (.froz (by decide) fun N₂ h2 => nNeL0 (.ref s.C) (.lst []) ⟨fun e => ?_, fun e => ?_⟩)
  · have h0 : 0 < st.cs.length := by
      cases q : st.cs with
      | nil => rw [q] at e; cases e
      | cons x xs => exact Nat.succ_pos _
    have hen : ∀ x ∈ st.cs, D.isEn x := fun x hx => Jb.runs_en x (r.pm.mem_iff.mp hx)
    have po := pop_ok (o.en_kind hen) r.hp h0
    obtain ⟨j, hj, hrun, ej⟩ := Jb.runs_mem (r.pm.mem_iff.mp (po.1.mem_iff.mp (.head _)))
    obtain ⟨he, hh⟩ := Ct.run_of hrun
    refine iDict (k := .s "clock") (.ref gS) g_clock ⟨heappop_ok (d := d + 2) b (P := D.isEn) Jb.en_lex s.C hen h0 (by have := r.pm.length_eq; have := Jb.runs_len (D := D) (c := c); lia) fun N₃ h3 => ?_⟩
    rw [ej] at po ⊢
    obtain ⟨po1, po2, po3⟩ := po
    have s2 := s.setC (hpop st.cs).2
    generalize (hpop st.cs).2 = rest at *
    have gU : pt σ' a.C (.list rest) U = some (.list told) := s2.kp U _ (pt_same _ _ _) (.inr (.inl hU))
    have tl : told.length < 2 ^ 20 := T.len p
    refine VMeth.builtin (.list (.ref gU)) rfl ⟨_, _, .refl, (by show 3 ≤ sizeLine; decide), bAppend .refl gU tl ?_⟩
    have s3 := s2.told (ys := told ++ [D.en j (c.l j)]) hU
    show (vRun B tb (d + 5) _).S _ _ _ (pt (pt σ' a.C (.list rest)) U (.list (told ++ [D.en j (c.l j)]))) _ _
    generalize pt (pt σ' a.C (.list rest)) U (.list (told ++ [D.en j (c.l j)])) = σ₃ at *
    clear gU s2
    have p1 := p.later (p.tr j hj he hh) fun i hi h1 h2 => o.le_hour hj hi (po3 _ (r.pm.mem_iff.mpr (Jb.mem_runs hi (Ct.run_t h1 h2))))
    have p4 := p.p4 hj
    have hl4 : c.l j < 4 := by exact arc216 he p4
    have n0 := p.cn4 (j := 0) (by decide); have n1 := p.cn4 (j := 1) (by decide); have n2 := p.cn4 (j := 2) (by decide)
    have fin : ∀ σ₄ N₄ c' st', Shop B wk Tx a (pt σ U (.list (told ++ [D.en j (c.l j)]))) st' σ₄ → Op D c' (D.dn (c.l j) j) 3 → SR D F c' st' 3 3 → (∀ i, i < 3 → c'.cn i = if i = j then c.cn i + 1 else c.cn i) → Nw D (D.dn (c.l j) j) rest st'.cs → ∃ m, m < n ∧ RnJ B D F wk Tx a σ U m (roL D a U) σ₄ N₄ := fun σ₄ N₄ c' st' s' p' r' hc' hn' => by
      obtain ⟨q1, q2⟩ := cn_next hj hn n0.1 n1.1 n2.1 (fun e => n0.2 (e ▸ hrun)) (fun e => n1.2 (e ▸ hrun)) (fun e => n2.2 (e ▸ hrun)) (hc' 0 (by decide)) (hc' 1 (by decide)) (hc' 2 (by decide))
      exact ⟨n - 1, q1, c', st', _, _, rfl, q2, s', p', r', T.next o hj hh po1 po3 hn' hc'⟩
    obtain ⟨ep3, gS3⟩ := s3.S
    have k0 : (0 : Int) ≤ (j : Nat) := Int.natCast_nonneg j
    refine .plain ⟨fun e2 => ?_, fun e2 => ?_⟩
    · have e2 : (j : Int) = 2 := of_decide_eq_true e2
      obtain rfl : j = 2 := by lia
      have hl : D.lv (c.l 2) 2 = D.dn (c.l 2) 2 := Jb.lv_now (by decide) fun q => absurd q (by decide)
      refine ⟨booked_t (d := d + 2) b o hw (l := c.l) (j := 2) (by decide) hl4 s3 hl (r.ts 2 hj he) r.bk (fun z => p.mono z) fun N₄ σ₄ h4 s4 => ?_⟩
      refine ⟨called_ok (f := 2) b o hF hw s4 (p1.leave hj he hh hl fun q => absurd q (by decide)) hj (r.leave hj he hh po1 po2 r.pb0 (fun i hi0 hi => ?_) rfl) fun N₅ σ₅ c' st' h5 s5 p' r' hc' hn' => ?_⟩
      · rw [r.pb i hi0 hi, show (c.lv 2).l (i - 1) = c.l (i - 1) from fup_ne (by lia)]
      · exact ⟨_, .cons rfl (.cons rfl (.cons rfl (.cons rfl (.nil _)))), fin _ _ c' st' s5 p' r' (fun i hi => (hc' i hi).trans (Ct.cn_lv hh i)) hn'⟩
    · have e2 : ¬ (j : Int) = 2 := of_decide_eq_false e2
      have hj2 : j < 2 := by lia
      have gI := s3.I
      refine .plain (iDict (k := .s "idle") (.ref gS3) g_idle (iList (i := ((j + 1 : Nat) : Int)) (v := .bool (st.is (j + 1))) (.ref gI) (by exact arc30) (by exact arc31 hj e2) (l3_at (f := fun j => V.bool (st.is j)) (by exact arc32 hj e2)) ?_))
      rw [r.is (j + 1) (by exact arc9 hj e2) (by exact arc70 hj e2) (by exact arc70 hj e2)]
      refine ⟨fun e3 => ?_, fun e3 => ?_⟩
      · have e3 : c.e (j + 1) = c.l (j + 1) := of_decide_eq_true e3
        refine iDict (k := .s "held") (.ref gS3) g_held (pList s3.H k0 (by show _ < (3 : Int); exact arc71 hj e2) (by show 3 < _; decide) ?_)
        have s4 := s3.setH (j := j) hj (D.wd (c.l j))
        refine ⟨called_ok (f := j + 1) b o hF hw s4 (p1.on hj2 he rfl e3) (by exact arc9 hj e2) (r.hold hj he hh po1 po2) fun N₅ σ₅ c' st' h5 s5 p' r' hc' hn' => ?_⟩
        exact ⟨_, .cons rfl (.cons rfl (.cons rfl (.cons rfl (.nil _)))), fin _ _ c' st' s5 p' r' (fun i hi => (hc' i hi).trans (Ct.cn_hold hh i)) hn'⟩
      · have e3 : c.e (j + 1) ≠ c.l (j + 1) := of_decide_eq_false e3
        have le1 := p.le (j + 1) (by exact arc9 hj e2)
        have epl : c.pl (j + 1) = c.l j := rfl
        obtain ⟨pre, hpre, M⟩ := s3.M (j + 1) (by exact arc9 hj e2)
        have epb := r.pb (j + 1) (by exact arc2) (by exact arc9 hj e2)
        rw [Nat.add_sub_cancel] at epb
        have M : Mach B σ₃ (a.A (j + 1)) pre (st.rs (j + 1)) (D.qd (c.e (j + 1)) (c.l j)) := by rw [← epb]; exact M
        refine .plain (iLst (i := ((j + 1 : Nat) : Int)) (by exact arc30) (by exact arc31 hj e2) (l3_at (f := fun j => V.ref (a.A j).x) (by exact arc32 hj e2)) (aGet M.x M.D (at_pb b) rfl rfl (bLen (.ref M.p) (by rw [List.length_map, Jb.qd_len]; exact arc220 he p4 e3 le1) (iTup k0 (by exact arc221 hj e2) (Jb.rm_at hj2) ⟨fun e4 => ?_, fun e4 => ?_⟩))))
        · have e4 : (((D.qd (c.e (j + 1)) (c.l j)).map V.str).length : Int) < (D.rm j : Nat) := of_decide_eq_true e4
          rw [List.length_map, Jb.qd_len] at e4
          have hl : D.lv (c.l j) j = D.dn (c.l j) j := Jb.lv_now hj fun _ q => (p1.tb (j + 1) (by exact arc9 hj e2) _).2 (by lia)
          refine iLst (i := ((j + 1 : Nat) : Int)) (by exact arc30) (by exact arc31 hj e2) (l3_at (f := fun j => V.ref (a.A j).x) (by exact arc32 hj e2)) (VMeth.inst M.x M.D (mt_push b) rfl ⟨push_token_ok (d := d + 4) b M (by rw [Jb.qd_len]; exact arc223 he p4 e3 le1) fun N₄ σ₄ h4 M4 k => ?_⟩)
          have s4 := s3.mach (by exact arc9 hj e2) M k ⟨pre, hpre, M4⟩
          refine ⟨booked_t (d := d + 2) b o hw (l := c.l) (j := j) hj hl4 s4 hl (r.ts j hj he) r.bk (fun z => p.mono z) fun N₅ σ₅ h5 s5 => ?_⟩
          refine ⟨called_ok (f := j) b o hF hw s5 (p1.leave hj he hh hl fun _ => ⟨by exact arc72 e3 le1, by lia⟩) hj (r.leave hj he hh po1 po2 ?_ (fun i hi0 hi => ?_) ?_) fun N₆ σ₆ c' st' h6 s6 p' r' hc' hn' => ?_⟩
          · show fup st.pb (j + 1) (D.qd (c.e (j + 1)) (c.l j) ++ [D.wd (c.l j)]) 0 = []
            exact (if_neg (by lia)).trans r.pb0
          · show fup st.pb (j + 1) (D.qd (c.e (j + 1)) (c.l j) ++ [D.wd (c.l j)]) i = _
            by_cases x : i = j + 1
            · subst x
              rw [fup_at, Nat.add_sub_cancel, show (c.lv j).l j = c.l j + 1 from fup_at, Jb.qd_s (by exact arc226 le1 epl)]
            · rw [fup_ne x, r.pb i hi0 hi, show (c.lv j).l (i - 1) = c.l (i - 1) from fup_ne (by exact arc66 hi0 x)]
          · funext i
            show fup st.rs (j + 1) (st.rs (j + 1)) i = st.rs i
            by_cases x : i = j + 1
            · subst x; exact fup_at
            · exact fup_ne x
          · exact ⟨_, .cons rfl (.cons rfl (.cons rfl (.cons rfl (.nil _)))), fin _ _ c' st' s6 p' r' (fun i hi => (hc' i hi).trans (Ct.cn_lv hh i)) hn'⟩
        · have e4 : ¬ (((D.qd (c.e (j + 1)) (c.l j)).map V.str).length : Int) < (D.rm j : Nat) := of_decide_eq_false e4
          rw [List.length_map, Jb.qd_len] at e4
          refine iDict (k := .s "held") (.ref gS3) g_held (pList s3.H k0 (by show _ < (3 : Int); exact arc71 hj e2) (by show 3 < _; decide) ?_)
          have s4 := s3.setH (j := j) hj (D.wd (c.l j))
          exact ⟨_, .cons rfl (.cons rfl (.cons rfl (.cons rfl (.nil _)))), fin _ _ (c.hold j) _ s4 (p1.stay hj2 he rfl (by exact arc72 e3 le1) (by lia)) (r.hold hj he hh po1 po2) (fun i hi => Ct.cn_hold hh i) (fun y hy => .inl hy)⟩
  · have hcs : st.cs = [] := by
      cases q : st.cs with
      | nil => rfl
      | cons x xs => rw [q] at e; cases e
    have hr : D.runs c = [] := by
      have := r.pm.symm
      rw [hcs] at this; exact this.eq_nil
    have all := p.all hr
    obtain ⟨ek, gK⟩ := s.K
    have gU : σ' U = some (.list told) := s.kp U _ (pt_same _ _ _) (.inr (.inl hU))
    obtain ⟨pre, hpre, M⟩ := s.M 0 (by decide)
    have e0 := all 0 (by decide)
    rw [r.i0 (by decide) (by decide) (e0.1.trans e0.2.1.symm), List.append_nil, hTx] at hpre
    subst hpre
    refine iDict (k := .s "book") (.ref gS) g_book (iLst (by decide) (by decide) (l3_at (f := fun j => V.ref (a.A j).x) (j := 0) (by decide)) (aGet M.x M.D (at_ln b) rfl rfl ?_))
    have hsub : ∀ (τ : Store) x, Sub ⟨fun b => if b = x then none else τ b, τ.fr⟩ τ := fun τ x => ⟨fun b o e => by
      by_cases z : b = x
      · simp [z] at e
      · simpa [z] using e, rfl⟩
    refine ⟨⟨fun b => if b = a.K then none else (if b = U then none else σ' b), σ'.fr⟩, _, .cons (.list (σ' := ⟨fun b => if b = U then none else σ' b, σ'.fr⟩) gU (hsub _ _) (if_pos rfl)) (.cons (.dict (es := st.bk) (ep := ek) ?_ (hsub _ _) (if_pos rfl)) .refl), (by show 3 ≤ sizeLine; decide), _, _, .refl, ?_⟩
    · exact (if_neg (by exact arc228 hU)).trans gK
    · rw [r.bk, Jb.bk_all fun j hj => (all j hj).2.1]
      refine h N₂ _ told (by exact arc229 h1 hN h2) (fun x ob e n => ?_) s.fr ⟨?_, T.s⟩
      · have LL := s.L
        have nK : x < a.n 0 → x < a.K := fun n => Nat.lt_of_lt_of_le n (Nat.le_trans LL.n0 (Nat.le_of_lt LL.SK))
        have xU : x ≠ U := by
          rcases n with n | ⟨o', rfl⟩
          · exact Nat.ne_of_lt (Nat.lt_trans (nK n) hU)
          · exact ne_of_kind e hUs nofun
        have q : σ' x = some ob := s.kp x ob ((pt_ne xU).trans e) (n.elim .inl fun n => .inr (.inr n))
        have xK : x ≠ a.K := by
          rcases n with n | ⟨o', rfl⟩
          · exact Nat.ne_of_lt (nK n)
          · exact ne_of_kind q gK nofun
        exact (if_neg xK).trans ((if_neg xU).trans q)
      · rw [← Jb.tl_all (c := c) fun j hj => by unfold Ct.cn; rw [(all j hj).2.1, (all j hj).2.2]; rfl]
        exact T.p
end
end
noncomputable section
/- a run walked: what is built -/
section
variable {B : Cx} {d : Nat} {σ : Store} {N : Nat} {D : Jb} {wk : Dk} {Tx : Nat → List Nat} {F : Nat → List Nat}
theorem run_mid (b : Base B) (o : D.Ok) (hF : Fs D F) (hw : D.Wk wk) (hTx : Tx 0 = F 0) (hT1 : ∀ j, 0 < j → j < 3 → Tx j = []) {L S H I T ep : Nat} {A : Nat → MA} {n : Nat → Nat} {tx : Str} {φ : Nat → Prop} (b0 : Bd (A 0) (n 0) (n 1)) (b1 : Bd (A 1) (n 1) (n 2)) (b2 : Bd (A 2) (n 2) (n 3))
    (hS : n 3 ≤ S) (hH : S < H) (hI : H < I) (hT : I < T) (hN : T < N) (hab : ∀ x, N ≤ x → σ x = none) (gS : σ S = some (.dict [(.s "lines", .lst (l3 fun j => .ref (A j).x)), (.s "held", .ref H), (.s "idle", .ref I), (.s "since", .ref T)] ep))
    (gH : σ H = some (.list [.str "", .str "", .str ""])) (gI : σ I = some (.list [.bool true, .bool true, .bool true])) (gT : σ T = some (.list [.int 0, .int 0, .int 0])) (hm : ∀ j, j < 3 → Mach B σ (A j) [] (Tx j) []) {Q : Post V}
    (h : ∀ N' (σ' : Store) told, N ≤ N' → (∀ x o, σ x = some o → (x < n 0 ∨ ∃ ob, o = .obj ob) → σ' x = some o) → σ'.fr = σ.fr → IsSorted (D.ends 3 0) told → Q (.tup [.lst told, .dct (D.fb 3), .int (lines (F 0))]) (σ'.reset φ) N') :
    (vRun B tb (d + 5) 198).S (callEnv fd166 L 166) ((stmtsOf (at_ bodyP 20)).drop 2) (upd (upd (locs ["text", "works", "rooms"] [.str tx, .dct wk, .tup [.int D.r0, .int D.r1]]) "lines" (.lst (l3 fun j => .ref (A j).x))) "shop" (.ref S)) σ N (Back φ Q) := by
  have n1 := b0.la; have n2 := b1.la; have n3 := b2.la
  refine .mut (by decide) fun C hC => pDict (k := .s "clock") ((pt_ne (by exact arc230 hH hI hT hN hC)).trans gS) (by show 4 < 2 ^ 20; decide) fun ep1 => ?_
  refine pDict (k := .s "works") (pt_same _ _ _) (by show 5 < 2 ^ 20; decide) fun ep2 => ?_
  refine fun K hK => .mut fun ek => pDict (k := .s "book") ((pt_ne (by lia)).trans (pt_same _ _ _)) (by show 6 < 2 ^ 20; decide) fun ep3 => ?_
  refine .mut (by decide) fun U hU => ?_
  have kp : ∀ {o1 o2 o3 o4 o5 o6 : AObj} x o, σ x = some o → x ≠ S → (pt (pt (pt (pt (pt (pt σ C o1) S o2) S o3) K o4) S o5) U o6) x = some o := fun x o e nS => by
    have : x < N := by
      rcases Nat.lt_or_ge x N with z | z
      · exact z
      · rw [hab x z] at e; cases e
    exact (pt_ne (by exact arc232 hC hK hU this)).trans ((pt_ne nS).trans ((pt_ne (by exact ar113 hC hK this)).trans ((pt_ne nS).trans ((pt_ne nS).trans ((pt_ne (by exact ar57 hC this)).trans e)))))
  refine run_tail (a := ⟨S, H, I, T, C, K, A, n⟩) (Tx := Tx) b o hF hw hTx hT1 (by show K < U; exact ar49 hU) (pt_same _ _ _) ⟨⟨ep3, ?_⟩, kp H _ gH (by show H ≠ S; exact ar271 hH), kp I _ gI (by show I ≠ S; exact arc233 hH hI), kp T _ gT (by show T ≠ S; exact arc234 hH hI hT), ?_, ⟨ek, ?_⟩, fun j hj => ⟨[], rfl, ?_⟩, ⟨b0, b1, b2, hS, hH, hI, hT, by show T < C; exact arc235 hN hC, by show C < K; exact ar49 hK⟩, fun x o e _ => e, rfl⟩ fun N' σ' told h1 k1 f1 hs => h N' σ' told ?_ (fun x o e q => k1 x o (kp x o e ?_) q) f1 hs
  · show pt _ U _ S = _
    refine (pt_ne (by exact arc236 hH hI hT hN hC hK hU)).trans (pt_same _ _ _)
  · show pt _ U _ C = some (.list [])
    exact (pt_ne (by exact ar131 hK hU)).trans ((pt_ne (by exact arc33 hH hI hT hN hC)).trans ((pt_ne (by exact ar1 hK)).trans ((pt_ne (by exact arc33 hH hI hT hN hC)).trans ((pt_ne (by exact arc33 hH hI hT hN hC)).trans (pt_same _ _ _)))))
  · show pt _ U _ K = some (.dict [] ek)
    exact (pt_ne (by exact ar1 hU)).trans ((pt_ne (by lia)).trans (pt_same _ _ _))
  · have m := hm j hj
    obtain ⟨lo, hi, h1, h2, bd⟩ : ∃ lo hi, n 0 ≤ lo ∧ hi ≤ n 3 ∧ Bd (A j) lo hi := by
      rcases (by exact ar471 hj : j = 0 ∨ j = 1 ∨ j = 2) with rfl | rfl | rfl
      · exact ⟨_, _, by exact arc14, by exact arc73 n2 n3, b0⟩
      · exact ⟨_, _, by exact arc18 n1, by exact arc18 n3, b1⟩
      · exact ⟨_, _, by exact arc73 n1 n2, by exact arc14, b2⟩
    have q1 := bd.la; have q2 := bd.ds; have q3 := bd.D; have q4 := bd.p
    have ob : ∀ {o1 o2 o3 o4 o5 o6 : AObj} x o, σ x = some o → ¬ LD o → (pt (pt (pt (pt (pt (pt σ C o1) S o2) S o3) K o4) S o5) U o6) x = some o := fun x o e n => kp x o e (ne_of_kind e gS fun q => n (q ▸ .dict _ _))
    refine ⟨m.ne, ob _ _ m.x (fun h => nomatch h), ob _ _ m.D (fun h => nomatch h), kp _ _ m.p (by show (A j).p ≠ S; exact arc74 hS h2 q4), ?_, ob _ _ m.ds (fun h => nomatch h), ?_, ob _ _ m.ct (fun h => nomatch h), ob _ _ m.ca (fun h => nomatch h), kp _ _ m.la (by show (A j).la ≠ S; exact arc74 hS h2 q1), m.len⟩
    · obtain ⟨o, fd, h, r⟩ := m.sm; exact ⟨o, fd, ob _ _ h (fun h => nomatch h), r⟩
    · obtain ⟨q, pm, doc, c, ctv, ⟨o, h1, h2⟩, ⟨c2, o2, vs, t, e1, e2, e3⟩⟩ := m.fr
      exact ⟨q, pm, doc, c, ctv, ⟨o, h1.imp id (fun h => ob _ _ h (fun h => nomatch h)), h2⟩, ⟨c2, o2, vs, t, e1, e2.imp id (fun h => ob _ _ h (fun h => nomatch h)), e3⟩⟩
  · exact Nat.le_trans (by exact arc238 hC hK hU) h1
  · rcases q with q | ⟨o', rfl⟩
    · have q : x < n 0 := q
      exact arc239 hS n1 n2 n3 q
    · exact ne_of_kind e gS nofun
end
end
noncomputable section
/- a run walked -/
section
variable {B : Cx} {d : Nat} {σ : Store} {N : Nat} {D : Jb} {wk : Dk} {F : Nat → List Nat}
theorem Mach.all {A : MA} {pre rest : List Nat} {pb : List Str} {σ' : Store} (m : Mach B σ A pre rest pb) (k : ∀ x o, σ x = some o → σ' x = some o) : Mach B σ' A pre rest pb := by
  refine ⟨m.ne, k _ _ m.x, k _ _ m.D, k _ _ m.p, ?_, k _ _ m.ds, ?_, k _ _ m.ct, k _ _ m.ca, k _ _ m.la, m.len⟩
  · obtain ⟨o, fd, h, r⟩ := m.sm; exact ⟨o, fd, k _ _ h, r⟩
  · obtain ⟨q, pm, doc, c, ctv, ⟨o, h1, h2⟩, ⟨c2, o2, vs, t, e1, e2, e3⟩⟩ := m.fr
    exact ⟨q, pm, doc, c, ctv, ⟨o, h1.imp id (k _ _), h2⟩, ⟨c2, o2, vs, t, e1, e2.imp id (k _ _), e3⟩⟩
theorem machine0_ok (b : Base B) (ht : TabOld B σ) {Q : Post V}
    (h : ∀ (A : MA) N' σ', N ≤ N' → Bd A N N' → Mach B σ' A [] [] [] → TabOld B σ' → (∀ a o, σ a = some o → σ' a = some o) → (∀ a, N' ≤ a → σ' a = none) → σ'.fr = σ.fr → Q (.ref A.x) σ' N') : WC B (d + 3) (.ref 119) [.str ""] σ N Q := by
  rw [s0]
  exact machine_ok b (Nat.zero_le _) (.inr ht) fun A N' σ' h1 h2 h3 h4 h5 h6 h7 => h A N' σ' h1 h2 h3 h4 (fun a o e => h5 a o e (.inr ht)) h6 h7
theorem run_ok (b : Base B) (o : D.Ok) (hF : Fs D F) (hw : D.Wk wk) (hlen : (F 0).length ≤ 10000) (ht : σ 114 = some (.obj (tabObj #[])) ∨ TabOld B σ) {Q : Post V}
    (h : ∀ N' (σ' : Store) told, N ≤ N' → TabOld B σ' → (∀ x o, σ x = some o → x ≠ 114 ∨ TabOld B σ → σ' x = some o) → σ'.fr = σ.fr → IsSorted (D.ends 3 0) told → Q (.tup [.lst told, .dct (D.fb 3), .int (lines (F 0))]) σ' N') :
    WC B (d + 6) (.ref 166) [.str (Mine.st (F 0)), .dct wk, .tup [.int D.r0, .int D.r1]] σ N Q := by
  refine C_fun b.tabOk (names := ["text", "works", "rooms"]) (b.fn rfl) (b.code rfl rfl) b.lim rfl (fun s as hl => ?_) (by decide) (by decide) ⟨rfl, rfl, rfl, rfl, rfl⟩ (fun L hL hσL hab => ?_)
  · obtain ⟨x, y, z, rfl⟩ := len3 hl
    exact .of_eq rfl
  have hq : TabOld B σ → TabOld B (σ.add L) := fun t => t.keep fun _ _ e => e
  refine ⟨machine_ok (d := d + 2) b hlen (ht.imp id hq) fun A0 N1 σ1 h1 d0 m0 t1 k1 n1 f1 => ⟨machine0_ok (d := d + 2) b t1 fun A1 N2 σ2 h2 d1 m1 t2 k2 n2 f2 => ⟨machine0_ok (d := d + 2) b t2 fun A2 N3 σ3 h3 d2 m2 t3 k3 n3 f3 => .froz (by show 3 ≤ sizeLine; decide) fun N4 h4 => ?_⟩⟩⟩
  refine fun S hS => .mut (by show 3 ≤ sizeLine; decide) fun H hH => .mut (by show 3 ≤ sizeLine; decide) fun I hI => .mut (by show 3 ≤ sizeLine; decide) fun T hT => ⟨[(.s "lines", .lst [.ref A0.x, .ref A1.x, .ref A2.x]), (.s "held", .ref H), (.s "idle", .ref I), (.s "since", .ref T)], rfl, .mut fun ep => ?_⟩
  have ks : ∀ {o1 o2 o3 o4 : AObj} x o, σ3 x = some o → pt ((pt (pt (pt (σ3.add S) H o1) I o2) T o3).reset σ3.fr) S o4 x = some o := fun x o e => by
    have : x < N3 := by
      rcases Nat.lt_or_ge x N3 with z | z
      · exact z
      · rw [n3 x z] at e; cases e
    refine (pt_ne (by exact arc240 h4 hS this)).trans ?_
    show (pt (pt (pt (σ3.add S) H _) I _) T _) x = some o
    exact (pt_ne (by exact arc241 h4 hS hH hI hT this)).trans ((pt_ne (by exact arc242 h4 hS hH hI this)).trans ((pt_ne (by lia)).trans e))
  have e1 : ∀ {o1 o2 o3 o4 : AObj}, pt ((pt (pt (pt (σ3.add S) H o1) I o2) T o3).reset σ3.fr) S o4 H = some o1 := fun {o1 o2 o3 o4} => by
    refine (pt_ne (by exact ar27 hH)).trans ?_
    show (pt (pt (pt (σ3.add S) H o1) I o2) T o3) H = _
    exact (pt_ne (by exact ar131 hI hT)).trans ((pt_ne (by exact ar1 hI)).trans (pt_same _ _ _))
  have e2 : ∀ {o1 o2 o3 o4 : AObj}, pt ((pt (pt (pt (σ3.add S) H o1) I o2) T o3).reset σ3.fr) S o4 I = some o2 := fun {o1 o2 o3 o4} => by
    refine (pt_ne (by exact ar438 hH hI)).trans ?_
    show (pt (pt (pt (σ3.add S) H o1) I o2) T o3) I = _
    exact (pt_ne (by exact ar1 hT)).trans (pt_same _ _ _)
  have e3 : ∀ {o1 o2 o3 o4 : AObj}, pt ((pt (pt (pt (σ3.add S) H o1) I o2) T o3).reset σ3.fr) S o4 T = some o3 := fun {o1 o2 o3 o4} => by
    refine (pt_ne (by exact arc75 hH hI hT)).trans ?_
    show (pt (pt (pt (σ3.add S) H o1) I o2) T o3) T = _
    exact pt_same _ _ _
  have e4 : ∀ {o1 o2 o3 o4 : AObj} x, T + 1 ≤ x → pt ((pt (pt (pt (σ3.add S) H o1) I o2) T o3).reset σ3.fr) S o4 x = none := fun {o1 o2 o3 o4} x hx => by
    refine (pt_ne (by exact arc244 hH hI hT hx)).trans ?_
    show (pt (pt (pt (σ3.add S) H o1) I o2) T o3) x = _
    exact (pt_ne (by exact ar27 hx)).trans ((pt_ne (by exact ar438 hT hx)).trans ((pt_ne (by exact arc75 hI hT hx)).trans (n3 x (by exact arc245 h4 hS hH hI hT hx))))
  refine run_mid (Tx := fun j => if j = 0 then F 0 else []) (A := fun j => if j = 0 then A0 else if j = 1 then A1 else A2) (n := fun j => if j = 0 then N else if j = 1 then N1 else if j = 2 then N2 else N3) b o hF hw rfl (fun j h0 _ => if_neg (by exact arc28 h0)) d0 d1 d2 (by show N3 ≤ S; exact ar59 h4 hS) (by exact ar49 hH) (by exact ar49 hI) (by exact ar49 hT) (Nat.lt_succ_self T) e4 (pt_same _ _ _) e1 e2 e3 (fun j hj => ?_) fun N' σ' told h5 k5 f5 hs => ?_
  · rcases (by exact ar471 hj : j = 0 ∨ j = 1 ∨ j = 2) with rfl | rfl | rfl
    · exact m0.all fun x o e => ks x o (k3 x o (k2 x o e))
    · exact m1.all fun x o e => ks x o (k3 x o e)
    · exact m2.all fun x o e => ks x o e
  · refine h N' (σ'.reset σ.fr) told (by lia) (t3.keep fun x o e => k5 x _ (ks x _ e) (.inr ⟨o, rfl⟩)) (fun x o e n => k5 x o (ks x o (k3 x o (k2 x o (k1 x o e (n.imp id hq))))) (.inl ?_)) rfl hs
    show x < N
    rcases Nat.lt_or_ge x N with z | z
    · exact z
    · rw [hab x z] at e; cases e
end
end
noncomputable section
/- plain facts for the law -/
theorem count_nl (T : List Nat) : Txt.count (st T) "\n" = (T.count 10 : Nat) := by
  have e : ("\n" : Str) = ⟨#[10]⟩ := by kernel_rfl
  have s : ∀ l : List Nat, (l.map fun n => PyData.str ⟨#[n]⟩) = (l.map fun n => (⟨#[n]⟩ : Str)).map PyData.str := fun l => by rw [List.map_map]; rfl
  rw [e, PyProof.Rows.count_is, s, Mine.countIn_strs]
  show (((T.map fun n => (⟨#[n]⟩ : Str)).count ⟨#[10]⟩ : Nat) : Int) = _
  congr 1
  induction T with
  | nil => rfl
  | cons c T ih =>
    rw [List.map_cons, List.count_cons, List.count_cons, ih]
    have : ((⟨#[c]⟩ : Str) == ⟨#[10]⟩) = (c == 10) := by
      by_cases h : c = 10
      · subst h; simp
      · rw [beq_eq_false_iff_ne.mpr h, beq_eq_false_iff_ne.mpr fun z => h (by injection z with z; simpa using z)]
    rw [this]
/- the jobs' names -/
noncomputable def wc : List (List Nat) := [[123, 97, 125], [98, 58, 49, 40, 41], [123, 99, 125], [100, 58, 51, 40, 41]]
noncomputable def wS (k : Nat) : Str := st (wc.getD k [])
noncomputable abbrev Ps := List (List Nat × Int)
theorem piece_lex {p : List Nat × Int} (h : p.1 ∈ wc) (r : List Nat) : ∃ f, lexO (piece p ++ r) = some (p.1, f) ∧ lexO f = lexO r ∧ ∀ c ∈ f, c ∈ piece p ++ r := by
  obtain ⟨w, n⟩ := p
  unfold wc at h
  simp only [List.mem_cons, List.not_mem_nil, or_false] at h
  have e0 := Int.fmod_nonneg_of_pos n (b := 2) (by decide)
  have e1 := Int.fmod_lt_of_pos n (b := 2) (by decide)
  have hs : sep n = 32 ∨ sep n = 10 := by unfold sep; split; exact .inl rfl; exact .inr rfl
  unfold piece
  dsimp only
  generalize sep n = s at *
  rcases (by lia : n.fmod 2 = 0 ∨ n.fmod 2 = 1) with e | e <;> rw [e]
  · refine ⟨r, ?_, rfl, fun c hc => List.mem_append_right _ hc⟩
    rcases hs with rfl | rfl <;> rcases h with rfl | rfl | rfl | rfl <;> kernel_rfl
  · refine ⟨s :: r, ?_, ?_, fun c hc => ?_⟩
    · rcases hs with rfl | rfl <;> rcases h with rfl | rfl | rfl | rfl <;> kernel_rfl
    · rcases hs with rfl | rfl <;> kernel_rfl
    · rw [List.append_assoc]; exact List.mem_append_right _ hc
theorem piece_lt {p : List Nat × Int} (h : p.1 ∈ wc) : ∀ c ∈ piece p, c < 128 := by
  obtain ⟨w, n⟩ := p
  unfold wc at h
  simp only [List.mem_cons, List.not_mem_nil, or_false] at h
  have e0 := Int.fmod_nonneg_of_pos n (b := 2) (by decide)
  have e1 := Int.fmod_lt_of_pos n (b := 2) (by decide)
  have hs : sep n = 32 ∨ sep n = 10 := by unfold sep; split; exact .inl rfl; exact .inr rfl
  unfold piece
  dsimp only
  generalize sep n = s at *
  rcases (by lia : n.fmod 2 = 0 ∨ n.fmod 2 = 1) with e | e <;> rw [e]
  · rcases hs with rfl | rfl <;> rcases h with rfl | rfl | rfl | rfl <;> decide
  · rcases hs with rfl | rfl <;> rcases h with rfl | rfl | rfl | rfl <;> decide
theorem lex_all : ∀ {ps : Ps}, (∀ p ∈ ps, p.1 ∈ wc) → ∀ G : List Nat, lexO G = lexO (txt ps) → (∀ c ∈ G, c < 128) → ∃ F : Nat → List Nat, F 0 = G ∧ (∀ k (h : k < ps.length), lexO (F k) = some (ps[k].1, F (k + 1))) ∧ lexO (F ps.length) = some ([], []) ∧ ∀ k, k ≤ ps.length → ∀ c ∈ F k, c < 128 := by
  intro ps
  induction ps with
  | nil => exact fun _ G e hG => ⟨fun _ => G, rfl, fun k h => absurd h (Nat.not_lt_zero _), e, fun _ _ => hG⟩
  | cons p ps ih =>
    intro hp G e hG
    have t : txt (p :: ps) = piece p ++ txt ps := List.flatMap_cons
    rw [t] at e
    obtain ⟨f, f1, f2, f3⟩ := piece_lex (hp p (.head _)) (txt ps)
    have lt : ∀ c ∈ txt ps, c < 128 := fun c hc => by
      obtain ⟨q, hq, hc⟩ := List.mem_flatMap.mp hc
      exact piece_lt (hp q (.tail _ hq)) c hc
    obtain ⟨F, F0, F1, F2, F3⟩ := ih (fun q hq => hp q (.tail _ hq)) f f2 fun c hc => (List.mem_append.mp (f3 c hc)).elim (piece_lt (hp p (.head _)) c) (lt c)
    refine ⟨fun k => match k with | 0 => G | k + 1 => F k, rfl, fun k h => ?_, F2, fun k h => ?_⟩
    · cases k with
      | zero => show lexO G = some (p.1, F 0); rw [e, f1, F0]
      | succ k => exact F1 k (by simpa using h)
    · cases k with
      | zero => exact hG
      | succ k => exact F3 k (by simpa using h)
theorem txt_lt {ps : Ps} (hp : ∀ p ∈ ps, p.1 ∈ wc) : ∀ c ∈ txt ps, c < 128 := fun c hc => by
  obtain ⟨q, hq, hc⟩ := List.mem_flatMap.mp hc
  exact piece_lt (hp q hq) c hc
/- the works' figures -/
noncomputable def wf (m : Int) : Nat → Int
  | 0 => m.fmod 6 + 1
  | 1 => (m.fdiv 6).fmod 6 + 1
  | _ => (m.fdiv 36).fmod 6 + 1
theorem wf_pos (m : Int) (d : Nat) : 1 ≤ wf m d := by
  have a := Int.fmod_nonneg_of_pos m (b := 6) (by decide)
  have b := Int.fmod_nonneg_of_pos (m.fdiv 6) (b := 6) (by decide)
  have c := Int.fmod_nonneg_of_pos (m.fdiv 36) (b := 6) (by decide)
  unfold wf
  split
  · exact Int.le_add_of_nonneg_left a
  · exact Int.le_add_of_nonneg_left b
  · exact Int.le_add_of_nonneg_left c
section
variable (m : Nat → Int)
noncomputable def rmI (x : Int) : Nat := (x.fmod 3).toNat
noncomputable def jA : Jb := ⟨[wS 0, wS 1, wS 2, wS 3], fun k d => wf (m k) d, rmI (m 4), rmI (m 5)⟩
noncomputable def jB : Jb := ⟨[wS 3, wS 2, wS 1, wS 0], fun k d => wf (m (3 - k)) (2 - d), rmI (m 5), rmI (m 4)⟩
theorem rmI_lt (x : Int) : rmI x < 3 := by
  have a := Int.fmod_nonneg_of_pos x (b := 3) (by decide)
  have b := Int.fmod_lt_of_pos x (b := 3) (by decide)
  unfold rmI; lia
theorem rmI_eq (x : Int) : ((rmI x : Nat) : Int) = x.fmod 3 := Int.toNat_of_nonneg (Int.fmod_nonneg_of_pos x (by decide))
theorem jA_ok : (jA m).Ok := ⟨rfl, by show ∀ i j, i < j → j < 4 → ([wS 0, wS 1, wS 2, wS 3] : List Str).getD i "" ≠ ([wS 0, wS 1, wS 2, wS 3] : List Str).getD j ""; exact fun i j h1 h2 => (by decide : ∀ j < 4, ∀ i < j, ([wS 0, wS 1, wS 2, wS 3] : List Str).getD i "" ≠ ([wS 0, wS 1, wS 2, wS 3] : List Str).getD j "") j h2 i h1, rmI_lt _, rmI_lt _, fun _ _ => wf_pos _ _, (by decide : ∀ k < 4, ([wS 0, wS 1, wS 2, wS 3] : List Str).getD k "" ≠ ""), (by decide : ∀ k < 4, (([wS 0, wS 1, wS 2, wS 3] : List Str).getD k "").length ≤ 1000)⟩
theorem jB_ok : (jB m).Ok := ⟨rfl, fun i j h1 h2 => (by decide : ∀ j < 4, ∀ i < j, ([wS 3, wS 2, wS 1, wS 0] : List Str).getD i "" ≠ ([wS 3, wS 2, wS 1, wS 0] : List Str).getD j "") j h2 i h1, rmI_lt _, rmI_lt _, fun _ _ => wf_pos _ _, (by decide : ∀ k < 4, ([wS 3, wS 2, wS 1, wS 0] : List Str).getD k "" ≠ ""), (by decide : ∀ k < 4, (([wS 3, wS 2, wS 1, wS 0] : List Str).getD k "").length ≤ 1000)⟩
/- dicts under way -/
noncomputable def wkA (n : Nat) : Dk := (List.range n).map fun k => (.s (wS k), .tup [.int (wf (m k) 0), .int (wf (m k) 1), .int (wf (m k) 2)])
noncomputable def wkB (n : Nat) : Dk := (List.range n).map fun k => (.s (wS k), .tup [.int (wf (m k) 2), .int (wf (m k) 1), .int (wf (m k) 0)])
noncomputable def wyD (n : Nat) : Dk := (List.range n).map fun k => (.s (wS k), .int ((m k).fdiv 216))
noncomputable def psA : Ps := [(wc.getD 0 [], (m 0).fdiv 216), (wc.getD 1 [], (m 1).fdiv 216), (wc.getD 2 [], (m 2).fdiv 216), (wc.getD 3 [], (m 3).fdiv 216)]
noncomputable def psB : Ps := [(wc.getD 3 [], (m 3).fdiv 216), (wc.getD 2 [], (m 2).fdiv 216), (wc.getD 1 [], (m 1).fdiv 216), (wc.getD 0 [], (m 0).fdiv 216)]
theorem wkA_s {n : Nat} (h : n < 4) : dset (wkA m n) (.s (wS n)) (.tup [.int (wf (m n) 0), .int (wf (m n) 1), .int (wf (m n) 2)]) = wkA m (n + 1) := by
  rcases (by exact arc1 h : n = 0 ∨ n = 1 ∨ n = 2 ∨ n = 3) with rfl | rfl | rfl | rfl <;> rfl
theorem wkB_s {n : Nat} (h : n < 4) : dset (wkB m n) (.s (wS n)) (.tup [.int (wf (m n) 2), .int (wf (m n) 1), .int (wf (m n) 0)]) = wkB m (n + 1) := by
  rcases (by exact arc1 h : n = 0 ∨ n = 1 ∨ n = 2 ∨ n = 3) with rfl | rfl | rfl | rfl <;> rfl
theorem wyD_s {n : Nat} (h : n < 4) : dset (wyD m n) (.s (wS n)) (.int ((m n).fdiv 216)) = wyD m (n + 1) := by
  rcases (by exact arc1 h : n = 0 ∨ n = 1 ∨ n = 2 ∨ n = 3) with rfl | rfl | rfl | rfl <;> rfl
theorem jA_wk : (jA m).Wk (wkA m 4) := fun k h => by
  rcases (by exact arc1 h : k = 0 ∨ k = 1 ∨ k = 2 ∨ k = 3) with rfl | rfl | rfl | rfl <;> rfl
theorem jB_wk : (jB m).Wk (wkB m 4) := fun k h => by
  rcases (by exact arc1 h : k = 0 ∨ k = 1 ∨ k = 2 ∨ k = 3) with rfl | rfl | rfl | rfl <;> rfl
theorem wy_A : ∀ p ∈ psA m, dget (wyD m 4) (.s (st p.1)) = some (.int p.2) := fun p hp => by
  unfold psA at hp
  simp only [List.mem_cons, List.not_mem_nil, or_false] at hp
  rcases hp with rfl | rfl | rfl | rfl <;> rfl
theorem wy_B : ∀ p ∈ psB m, dget (wyD m 4) (.s (st p.1)) = some (.int p.2) := fun p hp => by
  unfold psB at hp
  simp only [List.mem_cons, List.not_mem_nil, or_false] at hp
  rcases hp with rfl | rfl | rfl | rfl <;> rfl
theorem wc_in : ∀ i < 4, wc.getD i [] ∈ wc := by decide
theorem ps_A : ∀ p ∈ psA m, p.1 ∈ wc := fun p hp => by
  unfold psA at hp
  simp only [List.mem_cons, List.not_mem_nil, or_false] at hp
  rcases hp with rfl | rfl | rfl | rfl
  · exact wc_in 0 (by decide)
  · exact wc_in 1 (by decide)
  · exact wc_in 2 (by decide)
  · exact wc_in 3 (by decide)
theorem ps_B : ∀ p ∈ psB m, p.1 ∈ wc := fun p hp => by
  unfold psB at hp
  simp only [List.mem_cons, List.not_mem_nil, or_false] at hp
  rcases hp with rfl | rfl | rfl | rfl
  · exact wc_in 3 (by decide)
  · exact wc_in 2 (by decide)
  · exact wc_in 1 (by decide)
  · exact wc_in 0 (by decide)
theorem wc_len : ∀ w ∈ wc, w.length ≤ 10 := by decide
theorem fs_A : ∃ F, F 0 = txt (psA m) ∧ Fs (jA m) F := by
  obtain ⟨F, h0, h1, h2, h3⟩ := lex_all (ps_A m) (txt (psA m)) rfl (txt_lt (ps_A m))
  refine ⟨F, h0, ⟨fun k hk => ⟨_, ?_, h1 k hk⟩, h2, h3⟩⟩
  rcases (by exact arc1 hk : k = 0 ∨ k = 1 ∨ k = 2 ∨ k = 3) with rfl | rfl | rfl | rfl <;> rfl
theorem fs_B : ∃ F, F 0 = txt (psB m) ∧ Fs (jB m) F := by
  obtain ⟨F, h0, h1, h2, h3⟩ := lex_all (ps_B m) (txt (psB m)) rfl (txt_lt (ps_B m))
  refine ⟨F, h0, ⟨fun k hk => ⟨_, ?_, h1 k hk⟩, h2, h3⟩⟩
  rcases (by exact arc1 hk : k = 0 ∨ k = 1 ∨ k = 2 ∨ k = 3) with rfl | rfl | rfl | rfl <;> rfl
/- the same end -/
theorem ends_same : (jA m).dn 3 2 = (jB m).dn 3 2 := by
  have h := turned_round (fun k d => wf (m k) d) (fun k d => Int.le_trans (by decide) (wf_pos (m k) d)) (rmI_lt (m 4)) (rmI_lt (m 5))
  have a : (jA m).lv 3 2 = (jA m).dn 3 2 := Jb.lv_now (by decide) fun q => absurd q (by decide)
  have b : (jB m).lv 3 2 = (jB m).dn 3 2 := Jb.lv_now (by decide) fun q => absurd q (by decide)
  rw [← a, ← b]; exact h
end
/- what is told, compared -/
section
variable {D : Jb} {zs zs' : List V}
theorem Jb.en_mem {x : V} (h : x ∈ D.ends 3 0) : ∃ k j, k < 4 ∧ j < 3 ∧ x = D.en j k := by
  rw [← Jb.prs_ends] at h
  obtain ⟨p, hp, rfl⟩ := List.mem_map.mp h
  obtain ⟨k, j, hk, hj, rfl⟩ := Jb.prs_mem hp
  exact ⟨k, j, hk, hj, rfl⟩
theorem Jb.mem_en {k j : Nat} (hk : k < 4) (hj : j < 3) : D.en j k ∈ D.ends 3 0 := by
  unfold Jb.ends
  exact List.mem_append_left _ (List.mem_flatMap.mpr ⟨j, List.mem_range.mpr hj, List.mem_map.mpr ⟨k, List.mem_range.mpr hk, rfl⟩⟩)
theorem Jb.Ok.ends_eq (o : D.Ok) (h : IsSorted (D.ends 3 0) zs) (h' : IsSorted (D.ends 3 0) zs') : zs = zs' := by
  refine List.Perm.eq_of_pairwise (le := le) (fun a b ha hb h1 h2 => ?_) h.2 h'.2 (h.1.trans h'.1.symm)
  obtain ⟨k, j, hk, hj, rfl⟩ := Jb.en_mem (h.1.mem_iff.mp ha)
  obtain ⟨k', j', hk', hj', rfl⟩ := Jb.en_mem (h'.1.mem_iff.mp hb)
  have e : kl (D.en j k) = kl (D.en j' k') := LL.total _ _ (decide_eq_false h2) (decide_eq_false h1)
  have e : [[(D.dn k j).toNat], [((j : Nat) : Int).toNat], (D.wd k).cps.toList] = [[(D.dn k' j').toNat], [((j' : Nat) : Int).toNat], (D.wd k').cps.toList] := e
  injection e with e1 e; injection e with e2 e; injection e with e3 _
  injection e2 with e2 _
  have e2 : j = j' := e2
  subst e2
  have ew : D.wd k = D.wd k' := by
    cases q : D.wd k with | mk x =>
    cases q' : D.wd k' with | mk y =>
    rw [q, q'] at e3
    exact congrArg _ (Array.toList_inj.mp e3)
  have ek : k = k' := by
    rcases Nat.lt_trichotomy k k' with z | z | z
    · exact absurd ew (o.dist k k' z hk')
    · exact z
    · exact absurd ew.symm (o.dist k' k z hk)
  rw [ek]
theorem Jb.Ok.last_told (o : D.Ok) (h : IsSorted (D.ends 3 0) zs) : ∃ j k, zs[11]? = some (D.en j k) ∧ D.dn k j = D.dn 3 2 := by
  have hl : zs.length = 12 := by rw [h.1.length_eq]; exact Jb.ends_len
  have h11 : 11 < zs.length := by exact arc248 hl
  obtain ⟨k, j, hk, hj, e⟩ := Jb.en_mem (h.1.mem_iff.mp (List.getElem_mem h11))
  refine ⟨j, k, by rw [List.getElem?_eq_getElem h11, e], Int.le_antisymm (o.dn_max hk hj) ?_⟩
  obtain ⟨i, hi, ei⟩ := List.getElem_of_mem (h.1.mem_iff.mpr (Jb.mem_en (D := D) (k := 3) (j := 2) (by decide) (by decide)))
  have hle : le (D.en 2 3) (D.en j k) := by
    rw [← e, ← ei]
    by_cases x : i = 11
    · subst x; exact le_refl _
    · exact List.pairwise_iff_getElem.mp h.2 i 11 hi h11 (by lia)
  exact o.le_hour (by decide) hj hle
theorem PEqL_ens (n : Nat) : ∀ zs : List V, (∀ z ∈ zs, ∃ k j, z = D.en j k) → PEqL (n + 1) zs zs
  | [], _ => .nil _
  | z :: zs, h => by
    obtain ⟨k, j, rfl⟩ := h z (.head _)
    exact .cons (.tup (.cons (.int _ _) (.cons (.int _ _) (.cons (.str _ _) (.nil _))))) (PEqL_ens n zs fun z hz => h z (.tail _ hz))
theorem VEqD_self {n : Nat} {fs : Dk} : ∀ es : Dk, (∀ p ∈ es, dget fs p.1 = some p.2 ∧ VEq n p.2 p.2) → VEqD n fs es
  | [], _ => .nil _ _
  | (k, v) :: es, h => .cons (h (k, v) (.head _)).1 (h (k, v) (.head _)).2 (VEqD_self es fun p hp => h p (.tail _ hp))
theorem Jb.Ok.ss_all (o : D.Ok) {j : Nat} : ∀ {m : Nat}, m ≤ 4 → ∀ p ∈ D.ss j m, gget (D.ss j m) p.1 = some p.2 ∧ ∃ i < m, p.1 = .s (D.wd i)
  := by
  intro m
  induction m with
  | zero => intro _ p hp; cases hp
  | succ m ih =>
    intro hm p hp
    rcases List.mem_append.mp hp with hp | hp
    · obtain ⟨a, i, hi, e⟩ := ih (by exact ar24 hm) p hp
      refine ⟨?_, i, by exact ar479 hi, e⟩
      show gget (D.ss j m ++ _) _ = _
      unfold gget at a ⊢
      rw [List.find?_append]
      cases q : (D.ss j m).find? fun kv => decide (kv.1 = p.1) with
      | none => rw [q] at a; cases a
      | some x => rw [q] at a; exact a
    · rw [List.mem_singleton.mp hp]
      exact ⟨Jb.ss_last (o.ss_get (by exact arc49 hm)), m, by exact ar14, rfl⟩
theorem Jb.Ok.veq (o : D.Ok) {j : Nat} : VEq 4 (D.ent j 4) (D.ent j 4) := by
  refine .tup (.cons (.plain (.int _ _)) (.cons (.plain (.int _ _)) (.cons (.plain (.int _ _)) (.cons (.plain (.int _ _)) (.cons (.dct rfl (VEqD_self _ fun p hp => ?_)) (.nil _))))))
  obtain ⟨q, hq, rfl⟩ := List.mem_map.mp hp
  exact ⟨by rw [dget_vm, (o.ss_all (by decide) q hq).1]; rfl, .plain (.int _ _)⟩
theorem Jb.fb_get {i : Nat} (hi : i < 3) : dget (D.fb 3) (.s (nm i)) = some (D.ent i 4) := by
  rcases (by exact ar471 hi : i = 0 ∨ i = 1 ∨ i = 2) with rfl | rfl | rfl <;> rfl
theorem Jb.Ok.same (o : D.Ok) (h : IsSorted (D.ends 3 0) zs) (x : Int) : VEqL 5 [.lst zs, .dct (D.fb 3), .int x] [.lst zs, .dct (D.fb 3), .int x] := by
  refine .cons (.plain (.lst (PEqL_ens (D := D) 3 zs fun z hz => ?_))) (.cons (.dct rfl (VEqD_self _ fun p hp => ?_)) (.cons (.plain (.int _ _)) (.nil _)))
  · obtain ⟨k, j, _, _, e⟩ := Jb.en_mem (h.1.mem_iff.mp hz); exact ⟨k, j, e⟩
  · obtain ⟨i, hi, rfl⟩ := List.mem_map.mp hp
    exact ⟨Jb.fb_get (List.mem_range.mp hi), o.veq⟩
end
end
noncomputable section
/- the law's walk: the end -/
section
variable {B : Cx} {d : Nat} {σ : Store} {N L : Nat} {m : Nat → Int} {φ : Nat → Prop}
theorem run_at (b : Base B) {D : Jb} (o : D.Ok) {wk : Dk} (hw : D.Wk wk) {ps : Ps} (hF : ∃ F, F 0 = txt ps ∧ Fs D F) (hlen : (txt ps).length ≤ 10000) (ht : σ 114 = some (.obj (tabObj #[])) ∨ TabOld B σ) {Q : Post V}
    (h : ∀ N' (σ' : Store) told, N ≤ N' → TabOld B σ' → (∀ x o, σ x = some o → x ≠ 114 ∨ TabOld B σ → σ' x = some o) → σ'.fr = σ.fr → IsSorted (D.ends 3 0) told → Q (.tup [.lst told, .dct (D.fb 3), .int (1 + Txt.count (st (txt ps)) "\n")]) σ' N') :
    WC B (d + 6) (.ref 166) [.str (st (txt ps)), .dct wk, .tup [.int D.r0, .int D.r1]] σ N Q := by
  obtain ⟨F, h0, hF⟩ := hF
  rw [count_nl] at h
  rw [← h0] at hlen h ⊢
  exact run_ok b o hF hw hlen ht h
noncomputable def laL (s : V) (m : Nat → Int) (t1 t2 : List V) : Loc := upd (upd (upd (upd (upd (upd (upd (upd (upd (locs ["script"] [s]) "works" (.dct (wkA m 4))) "back" (.dct (wkB m 4))) "ways" (.dct (wyD m 4))) "rooms" (.tup [.int (rmI (m 4) : Nat), .int (rmI (m 5) : Nat)])) "turned" (.lst [.str (wS 3), .str (wS 2), .str (wS 1), .str (wS 0)])) "forth_text" (.str (st (txt (psA m))))) "back_text" (.str (st (txt (psB m)))))
  "forth_run" (.tup [.lst t1, .dct ((jA m).fb 3), .int (1 + Txt.count (st (txt (psA m))) "\n")])) "back_run" (.tup [.lst t2, .dct ((jB m).fb 3), .int (1 + Txt.count (st (txt (psB m))) "\n")])
noncomputable def laL2 (m : Nat → Int) (t1 t2 : List V) : Loc := [("forth_run", .tup [.lst t1, .dct ((jA m).fb 3), .int (1 + Txt.count (st (txt (psA m))) "\n")]), ("back_run", .tup [.lst t2, .dct ((jB m).fb 3), .int (1 + Txt.count (st (txt (psB m))) "\n")])]
theorem law_end (b : Base B) {s : V} {t1 t2 : List V} (h1 : IsSorted ((jA m).ends 3 0) t1) (h2 : IsSorted ((jB m).ends 3 0) t2) (c2 : σ (L + 2) = some (.cell (some (.lst [.str (wS 0), .str (wS 1), .str (wS 2), .str (wS 3)])))) (c4 : σ (L + 4) = some (.cell none)) (ht : TabOld B σ) {Q : Post V} (h : ∀ N' (σ' : Store), TabOld B σ' → Q (.bool true) σ' N') :
    (vRun B tb (d + 6) 187).S (callEnvC fd185 L 185) ((stmtsOf (at_ bodyP 23)).drop 13) (laL s m t1 t2) σ N (Back φ Q) := by
  refine .plain ⟨_, c2, ⟨due_ok (d := d + 4) b (jA_ok m) (es := wkA m 4) (jA_wk m) fun N₁ zs n1 hz => nNeT (n := 5) ?_ (by decide) (.neg rfl ?_)⟩⟩
  · rw [(jA_ok m).ends_eq hz h1]; exact (jA_ok m).same h1 _
  refine .plain (iTup (by decide) (by decide) rfl (iTup (by decide) (by decide) rfl ⟨_, _, .refl, (by show 2 ≤ sizeLine; decide), ⟨due_ok (d := d + 4) b (jB_ok m) (es := wkB m 4) (jB_wk m) fun N₂ zs2 n2 hz2 => nNeT (n := 5) ?_ (by decide) (.neg rfl ?_)⟩⟩))
  · rw [(jB_ok m).ends_eq hz2 h2]; exact (jB_ok m).same h2 _
  refine iTup (by decide) (by decide) rfl (iTup (by decide) (by decide) rfl ⟨_, _, .refl, (by show 2 ≤ sizeLine; decide), ?_⟩)
  refine .items iter_tup (fun i l σ' _ => l = laL2 m t1 t2 ∧ (∃ v, σ' (L + 4) = some (.cell v)) ∧ TabOld B σ') (laL2 m t1 t2) (.cons rfl (.cons rfl (.nil _))) ⟨rfl, ⟨_, c4⟩, ht⟩ (fun _ _ _ _ _ _ => trivial) ?_ ?_
  · rintro i l σ' N₃ hi ⟨rfl, ⟨v, hc⟩, ht'⟩ n3
    obtain ⟨D, o, e⟩ : ∃ D : Jb, D.Ok ∧ [V.dct ((jA m).fb 3), V.dct ((jB m).fb 3)].getD i .none = .dct (D.fb 3) := by
      have hi : i < 2 := hi
      rcases (by exact ar132 hi : i = 0 ∨ i = 1) with rfl | rfl
      · exact ⟨_, jA_ok m, rfl⟩
      · exact ⟨_, jB_ok m, rfl⟩
    rw [e]
    refine ⟨⟨_, hc⟩, .plain ⟨_, pt_same _ _ _, VComp.list (iter_keys (.dct (D.fb 3))) (fun _ _ => trivial) (fun _ => []) rfl (fun ac C i N₄ hi n4 => ?_) (fun N₄ n4 => ?_)⟩⟩
    · have hi : i < 3 := by rw [Jb.fb_len] at hi; exact hi
      have ei : ((D.fb 3).getD i (.i 0, .none)).1.v = .str (nm i) := by
        rcases (by exact ar471 hi : i = 0 ∨ i = 1 ∨ i = 2) with rfl | rfl | rfl <;> rfl
      rw [ei]
      refine ⟨_, pt_same _ _ _, iDict (k := .s (nm i)) (.dct _) (Jb.fb_get hi) (iTup (v := .dct (vm V.int (D.ss i 4))) (by decide) (by decide) rfl ⟨count_ok' (d := d + 5) b fun N₅ n5 => ⟨_, pt_same _ _ _, iDict (k := .s (nm i)) (.dct _) (Jb.fb_get hi) (iTup (v := .int (D.sy i 4)) (by decide) (by decide) rfl ?_)⟩⟩)⟩
      rw [Jb.ss_sum]
      exact .neg (by simp) ⟨rfl, rfl⟩
    · refine .froz (by decide) fun N₅ n5 => nNeL0 (.lst []) (.lst []) (.neg rfl ?_)
      exact ⟨_, .cons rfl (.cons rfl (.nil _)), rfl, ⟨_, pt_same _ _ _⟩, ht'.keep fun a o e => (pt_ne (ne_of_kind e hc nofun)).trans e⟩
  · rintro l σ' N₃ ⟨rfl, _, ht'⟩ n3
    obtain ⟨j, k, e1, e1'⟩ := (jA_ok m).last_told h1
    obtain ⟨j2, k2, e2, e2'⟩ := (jB_ok m).last_told h2
    refine iTup (by decide) (by decide) rfl (iLst (by decide) (by decide) e1 (iTup (v := .int ((jA m).dn k j)) (by decide) (by decide) rfl (iTup (by decide) (by decide) rfl (iLst (by decide) (by decide) e2 (iTup (v := .int ((jB m).dn k2 j2)) (by decide) (by decide) rfl ?_)))))
    have e : decide ((jA m).dn k j = (jB m).dn k2 j2) = true := decide_eq_true (by rw [e1', e2']; exact ends_same m)
    show Back φ Q (.ret (.bool (decide ((jA m).dn k j = (jB m).dn k2 j2)))) (laL2 m t1 t2) σ' N₃
    rw [e]
    exact ⟨_, _, .refl, h N₃ _ (ht'.keep fun a o e => e)⟩
end
end
noncomputable section
/- the law's walk -/
noncomputable def C4 (σ : Store) (L : Nat) (a b c e : Option V) : Store := pt (pt (pt (pt (σ.add L) (L + 1) (.cell a)) (L + 2) (.cell b)) (L + 3) (.cell c)) (L + 4) (.cell e)
section
variable {B : Cx} {d : Nat} {σ : Store} {N L : Nat} {a b c e x : Option V}
theorem C4.g1 : C4 σ L a b c e (L + 1) = some (.cell a) := (pt_ne (by exact ar449)).trans ((pt_ne (by exact ar450)).trans ((pt_ne (by exact ar7)).trans (pt_same _ _ _)))
theorem C4.g2 : C4 σ L a b c e (L + 2) = some (.cell b) := (pt_ne (by exact ar451)).trans ((pt_ne (by exact ar452)).trans (pt_same _ _ _))
theorem C4.g3 : C4 σ L a b c e (L + 3) = some (.cell c) := (pt_ne (by exact ar453)).trans (pt_same _ _ _)
theorem C4.g4 : C4 σ L a b c e (L + 4) = some (.cell e) := pt_same _ _ _
theorem C4.lo {i : Nat} {o : AObj} (hi : i < L) (h : σ i = some o) : C4 σ L a b c e i = some o := (pt_ne (by exact ar454 hi)).trans ((pt_ne (by exact ar455 hi)).trans ((pt_ne (by exact ar456 hi)).trans ((pt_ne (by exact ar457 hi)).trans h)))
theorem C4.s3 : pt (C4 σ L a b c e) (L + 3) (.cell x) = C4 σ L a b x e := by unfold C4; rw [pt_comm (a := L + 4) (b := L + 3) (by exact ar458), pt_pt]
theorem C4.s2 : pt (C4 σ L a b c e) (L + 2) (.cell x) = C4 σ L a x c e := by unfold C4; rw [pt_comm (a := L + 4) (b := L + 2) (by exact ar459), pt_comm (a := L + 3) (b := L + 2) (by exact ar460), pt_pt]
theorem C4.s1 : pt (C4 σ L a b c e) (L + 1) (.cell x) = C4 σ L x b c e := by unfold C4; rw [pt_comm (a := L + 4) (b := L + 1) (by exact ar461), pt_comm (a := L + 3) (b := L + 1) (by exact ar462), pt_comm (a := L + 2) (b := L + 1) (by exact ar94), pt_pt]
end
section
variable {B : Cx} {d : Nat} {σ : Store} {N : Nat}
noncomputable def figs (m : Nat → Int) (n : Nat) : List V := (List.range n).map fun k => .tup [.int (wf (m k) 0), .int (wf (m k) 1), .int (wf (m k) 2)]
noncomputable def wsV : List V := [.str (wS 0), .str (wS 1), .str (wS 2), .str (wS 3)]
noncomputable def nsV (m : Nat → Int) : List V := [.int (m 0), .int (m 1), .int (m 2), .int (m 3), .int (m 4), .int (m 5)]
theorem wsV_at {k : Nat} (h : k < 4) : wsV[(k : Int).toNat]? = some (.str (wS k)) := by
  rcases (by exact arc1 h : k = 0 ∨ k = 1 ∨ k = 2 ∨ k = 3) with rfl | rfl | rfl | rfl <;> rfl
theorem figs_at {m : Nat → Int} {k : Nat} (h : k < 4) : (figs m 4)[(k : Int).toNat]? = some (.tup [.int (wf (m k) 0), .int (wf (m k) 1), .int (wf (m k) 2)]) := by
  rcases (by exact arc1 h : k = 0 ∨ k = 1 ∨ k = 2 ∨ k = 3) with rfl | rfl | rfl | rfl <;> rfl
theorem nsV_at {m : Nat → Int} {k : Nat} (h : k < 4) : (nsV m)[(k : Int).toNat]? = some (.int (m k)) := by
  rcases (by exact arc1 h : k = 0 ∨ k = 1 ∨ k = 2 ∨ k = 3) with rfl | rfl | rfl | rfl <;> rfl
theorem wsV_is : [V.str "{a}", V.str "b:1()", V.str "{c}", V.str "d:3()"] = wsV := by kernel_rfl
theorem names_same : PEqL 1 namesV wsV := by rw [show namesV = wsV from wsV_is]; exact PEqL.strs 1 [wS 0, wS 1, wS 2, wS 3]
theorem ns_is {ms : List Int} (h : ms.length = 6) : ∃ m : Nat → Int, ms.map V.int = nsV m := by
  obtain ⟨a, r, rfl, h1⟩ := lenS h
  obtain ⟨b, r', rfl, h2⟩ := lenS h1
  obtain ⟨c, d, e, f, rfl⟩ := len4 (x := .none) (y := .none) (z := .none) (u := .none) h2
  exact ⟨fun k => [a, b, c, d, e, f].getD k 0, rfl⟩
theorem law_ok (b : Base B) {o : Obj} {ns : List Int} (ho : Scr o ns) (hz : ns.length ≤ 63) (h114 : σ 114 = some (.obj (tabObj #[]))) {Q : Post V} (h : ∀ N' σ', TabOld B σ' → Q (.bool true) σ' N') : WK B (d + 7) (.ref 185) [.imm o] σ N Q := by
  refine K_funC b.tabOk (names := ["script"]) (b.fn rfl) (b.code rfl rfl) b.lim rfl rfl (fun s hl => ?_) (fun n x hx => by cases hx with | head => exact .inl rfl | tail _ h => cases h) (fun n => by show (["book", "figures", "words", "numbers"] : List Str).Nodup; decide) ⟨rfl, rfl, rfl, rfl, rfl⟩ (fun L N₁ hL hσL hab hLN hcs => ?_)
  · obtain ⟨x, rfl⟩ := len1 hl
    rfl
  have hc1 : L + 4 < N₁ := hcs ("book", L + 4) (.head _)
  show (vRun B tb (d + 6) 200).S (callEnvC fd185 L 185) (stmtsOf (at_ bodyP 23)) (locs ["script"] [.imm o]) (C4 σ L none none none none) N₁ (Back σ.fr Q)
  refine ⟨numbers_ok b ho (Nat.le_trans hz (by decide)) fun N₂ ms h2 hm => ⟨⟨_, C4.g1⟩, ?_⟩⟩
  obtain ⟨m, em⟩ := ns_is hm
  rw [C4.s1, em]
  refine .froz (by decide) fun N₃ h3 => ⟨⟨_, C4.g2⟩, ?_⟩
  rw [C4.s2, wsV_is]
  refine .plain ⟨names_ok b fun N₄ h4 => ⟨_, C4.g2, nNeL (n := 1) (.lst _) (.lst _) names_same (by decide) (.neg rfl ?_)⟩⟩
  refine ⟨_, C4.g1, sList (.lst (nsV m)) (by decide) (by show 6 ≤ sizeLine; decide) ?_⟩
  rw [show lpick (nsV m) none (some 4) none = [.int (m 0), .int (m 1), .int (m 2), .int (m 3)] from lpick_to _ 4]
  refine VComp.list (iter_list (.lst _)) (fun _ _ => .lst _) (figs m) rfl (fun ac C i N' hi hN => ?_) (fun N₅ h5 => ⟨⟨_, C4.g3⟩, ?_⟩)
  · have hi : i < 4 := hi
    have e : [V.int (m 0), V.int (m 1), V.int (m 2), V.int (m 3)].getD i .none = .int (m i) := by
      rcases (by exact arc1 hi : i = 0 ∨ i = 1 ∨ i = 2 ∨ i = 3) with rfl | rfl | rfl | rfl <;> rfl
    rw [e]
    refine .pos rfl ⟨by unfold figs; rw [List.length_map, List.length_range]; exact arc10 hi, ⟨by decide, ⟨⟨by decide, by decide⟩, ⟨by decide, ⟨⟨by decide, by decide⟩, ⟨by decide, ⟨_, _, .refl, (by show 3 ≤ sizeLine; decide), ?_⟩⟩⟩⟩⟩⟩⟩
    exact ⟨by unfold figs; rw [List.range_succ, List.map_append]; rfl, rfl⟩
  rw [C4.s3]
  have k0 : ∀ i : Nat, (0 : Int) ≤ (i : Nat) := Int.natCast_nonneg
  -- works
  refine bRange fun x1 x2 x3 => VComp.dict (iter_range (n := 4) (by decide)) (fun _ _ => trivial) (wkA m) rfl (fun ac C i N' ep hi hN => ?_) (fun N₆ h6 => ?_)
  · exact .pos rfl ⟨by unfold wkA; rw [List.length_map, List.length_range]; exact arc10 hi, _, C4.g2, iLst (k0 i) (by exact arc0 hi) (wsV_at hi) ⟨_, C4.g3, iLst (k0 i) (by exact arc0 hi) (figs_at hi) ⟨.s (wS i), rfl, fun ep' => ⟨⟨ep', by rw [wkA_s m hi]⟩, rfl⟩⟩⟩⟩
  -- back
  refine bRange fun x1 x2 x3 => VComp.dict (iter_range (n := 4) (by decide)) (fun _ _ => trivial) (wkB m) rfl (fun ac C i N' ep hi hN => ?_) (fun N₇ h7 => ?_)
  · exact .pos rfl ⟨by unfold wkB; rw [List.length_map, List.length_range]; exact arc10 hi, _, C4.g2, iLst (k0 i) (by exact arc0 hi) (wsV_at hi) ⟨_, C4.g3, iLst (k0 i) (by exact arc0 hi) (figs_at hi) (iTup (by decide) (by decide) rfl ⟨_, C4.g3, iLst (k0 i) (by exact arc0 hi) (figs_at hi) (iTup (by decide) (by decide) rfl ⟨_, C4.g3, iLst (k0 i) (by exact arc0 hi) (figs_at hi) (iTup (by decide) (by decide) rfl ⟨_, _, .refl, (by show 3 ≤ sizeLine; decide), ⟨.s (wS i), rfl, fun ep' => ⟨⟨ep', by rw [wkB_s m hi]⟩, rfl⟩⟩⟩)⟩)⟩)⟩⟩
  -- ways
  refine bRange fun x1 x2 x3 => VComp.dict (iter_range (n := 4) (by decide)) (fun _ _ => trivial) (wyD m) rfl (fun ac C i N' ep hi hN => ?_) (fun N₈ h8 => ?_)
  · exact .pos rfl ⟨by unfold wyD; rw [List.length_map, List.length_range]; exact arc10 hi, _, C4.g2, iLst (k0 i) (by exact arc0 hi) (wsV_at hi) ⟨_, C4.g1, iLst (k0 i) (by exact arc0 hi) (nsV_at hi) ⟨⟨by decide, by decide⟩, ⟨.s (wS i), rfl, fun ep' => ⟨⟨ep', by rw [wyD_s m hi]⟩, rfl⟩⟩⟩⟩⟩
  -- rooms
  refine ⟨_, C4.g1, iLst (v := .int (m 4)) (by decide) (by decide) rfl ⟨by decide, ⟨_, C4.g1, iLst (v := .int (m 5)) (by decide) (by decide) rfl ⟨by decide, ⟨_, _, .refl, (by show 2 ≤ sizeLine; decide), ?_⟩⟩⟩⟩⟩
  -- turned
  refine ⟨_, C4.g2, iLst (by decide) (by decide) (wsV_at (k := 3) (by decide)) ⟨_, C4.g2, iLst (by decide) (by decide) (wsV_at (k := 2) (by decide)) ⟨_, C4.g2, iLst (by decide) (by decide) (wsV_at (k := 1) (by decide)) ⟨_, C4.g2, iLst (by decide) (by decide) (wsV_at (k := 0) (by decide)) (.froz (by show 4 ≤ sizeLine; decide) fun N₉ h9 => ?_)⟩⟩⟩⟩
  -- texts
  refine ⟨_, C4.g2, ⟨text_ok b (ps := psA m) (wy_A m) (fun p hp => wc_len _ (ps_A m p hp)) (by show 4 ≤ 100; decide) fun N10 h10 => ?_⟩⟩
  refine ⟨text_ok b (ps := psB m) (wy_B m) (fun p hp => wc_len _ (ps_B m p hp)) (by show 4 ≤ 100; decide) fun N11 h11 => ?_⟩
  -- runs
  have l114 : 114 < L := by
    rcases Nat.lt_or_ge 114 L with z | z
    · exact z
    · rw [hab 114 (Nat.le_trans hL z)] at h114; cases h114
  have lenA : (txt (psA m)).length ≤ 10000 := Nat.le_trans (txt_len fun p hp => wc_len _ (ps_A m p hp)) (by show 23 * 4 ≤ 10000; decide)
  have lenB : (txt (psB m)).length ≤ 10000 := Nat.le_trans (txt_len fun p hp => wc_len _ (ps_B m p hp)) (by show 23 * 4 ≤ 10000; decide)
  rw [← rmI_eq (m 4), ← rmI_eq (m 5)]
  refine ⟨run_at b (jA_ok m) (jA_wk m) (fs_A m) lenA (.inl (C4.lo l114 h114)) fun N12 σ₁ t1 h12 ht1 k1 f1 s1 => ?_⟩
  have g2 := k1 _ _ C4.g2 (.inl (by exact arc250 l114))
  have g4 := k1 _ _ C4.g4 (.inl (by exact arc251 l114))
  refine iTup (by decide) (by decide) rfl (iTup (by decide) (by decide) rfl ⟨_, _, .refl, (by show 2 ≤ sizeLine; decide), ⟨run_at b (jB_ok m) (jB_wk m) (fs_B m) lenB (.inr ht1) fun N13 σ₂ t2 h13 ht2 k2 f2 s2 => ?_⟩⟩)
  exact law_end b s1 s2 (k2 _ _ g2 (.inr ht1)) (k2 _ _ g4 (.inr ht1)) ht2 h
end
end
noncomputable section
/- the entry -/
noncomputable def tabsP : List (Nat × Nat) := [(118, 114)]
theorem goodP {xs : List PyData} {cl : Str → Option Addr} {mean : ExcName → Option Value} {s₁ s' : Shared} (hs : Shape.int.list.has (.list xs) = true) (hk : ∀ b o, s₁.heap.get? b = some o → s'.heap.get? b = some o) (ho : s'.os = s₁.os) (hg : s'.gens = #[]) :
    GoodW rwP.row.claim cl mean [ofPy (.list xs)] s₁ (.ok (.ret (.bool true))) s' :=
  ⟨.inl ⟨.bool true, .bool true, [], rfl, fun _ => rfl, .bool true, by (refine' postW_of ?s ?v ?e; (case s => o_shape); (case v => wtm_val); (case e => w_fin)), fun _ => ⟨List.nodup_nil, fun _ h => nomatch h⟩⟩, hk, ho, hg⟩
theorem walkP : WalkO viewP [] (XL viewP []) hkP.says rwP.row.toRowW dP [] fun f vs => PySem.call f vs := by
  intro w s₀ s₁ mg mb G Y fa o pm cd doc dV kV ho hd hcd hD hmg hg args vals as hpre hlay hrd hwl hlo
  have T := G.T
  have hT9 : TabsAt tabsP s₁.heap := List.forall_mem_cons.mpr ⟨⟨codeHd_of_K (c := 118) (P := 114) Y.frag (by kernel_rfl), Y.tabs 114 (.head _)⟩, fun _ h => nomatch h⟩
  clear ho hd hcd hD
  wrow_args hpre hlay hrd hwl hlo
  all_goals
    rename_i hL _ _ _ hI _ hle _
    refine enter_call ?_
    refine kn_post hT9 (fun _ _ => rfl) ?_
    have X := Y.frag
    obtain ⟨on, es, ep, hn1, hn2, hn3⟩ := Y.names
    have hmgx : ∀ x ∈ nsP, mg x.1 = x.2 := fun x hx => by
      obtain ⟨o', es', ep', e, hd', _, hf⟩ := T.g
      rw [hn1] at e; cases e
      rw [hn2] at hd'; cases hd'
      rw [← hf]; exact hn3 x hx
    have hfa : fa = 185 := by
      have := hmgx ("law", some (.ref 185)) (by decide)
      rw [show mg dP.name = mg "law" from rfl, this] at hmg
      injection hmg with e; injection e with e; exact e.symm
    subst hfa
    obtain ⟨os, hsys⟩ := Y.sys
    obtain ⟨ol, hol, hoc, no, hod⟩ := hL
    have h114 : s₁.heap.get? 114 = some (tabObj #[]) := Y.tabs 114 (.head _)
    have hsys' : (ghostOf s₁.heap tabsP).get? sysModules = some os := ghost_ne hsys (by decide)
    let B : Cx := ⟨rwP.row.prog, w, ghostOf s₁.heap tabsP, s₁.os, ⟨os, hsys'⟩⟩
    have b : Base B := by
      refine ⟨ghost_K hT9 X (by kernel_rfl), (ghost_top hT9 T).nolimit, fun c hc => ?_, ⟨mg, mb, ghost_ns hT9 T.g, ghost_ns hT9 T.b, hmgx, T.builtins⟩, ⟨(ghost_code hT9).1, ⟨mg, ghost_ns hT9 T.g, ?_⟩, by decide⟩⟩
      · obtain ⟨o, vs, e1, e2, e3⟩ := Y.quals c hc
        exact ⟨o, vs, ghost_get hT9 e1 (fun q => by rw [q] at e2; cases e2; cases e3), e2, e3⟩
      · obtain ⟨bm, ob, a1, a2, a3, a4, a5, a6⟩ := T.bmain
        refine ⟨bm, ob, a1, a2, ?_, ?_, ghost_get hT9 a3 (fun q => by rw [q] at a4; cases a4), a4, a5, a6⟩
        · intro z
          rw [z, hn1] at a3; cases a3
          rw [hn2] at a6; cases a6
        · intro z
          rw [z, h114] at a3; cases a3; cases a4
    let σ₀ : Store := pt ⟨fun _ => none, fun _ => False⟩ 114 (.obj (tabObj #[]))
    have σ0 : ∀ a, a ≠ 114 → σ₀ a = none := fun a h => pt_ne h
    have I : Inv B σ₀ s₁.heap.objs.size s₁ := by
      refine ⟨fun a o e => ?_, fun c o e => ⟨of_hideAll _ e, σ0 c fun z => ?_⟩, hg, rfl, fun a o e => ?_, Nat.le_refl _, fun a f => f.elim⟩
      · by_cases z : a = 114
        · subst z; rw [show σ₀ 114 = some (.obj (tabObj #[])) from pt_same _ _ _] at e; cases e; exact h114
        · rw [σ0 a z] at e; cases e
      · have : (ghostOf s₁.heap tabsP).get? 114 = none := hideAll_none _ (List.Mem.head _)
        rw [z] at e
        exact absurd (this.symm.trans e) (by simp)
      · by_cases z : a = 114
        · subst z; exact Heap.lt_size h114
        · rw [σ0 a z] at e; cases e
    have scr : Scr ol _ := ⟨hoc, _, no, hod, hI⟩
    refine codeAny_mono (law_ok b scr (by exact ar488 hle) (pt_same _ _ _) (d := 3) (Q := fun v σ' _ => v = .bool true ∧ TabOld B σ') (fun N' σ' t => ⟨rfl, t⟩) callerA s₁ [_] ⟨rfl, by decide, by decide⟩ I (.cons (.imm hol ⟨σ0 _ fun z => ?_, id⟩ ?_) .nil)) fun r s' q => ?_
    · rw [z, h114] at hol; cases hol; cases hoc
    · unfold Frozen; rw [hoc]; decide
    · rcases r with e | (v | _ | _ | _) <;> first | exact q.elim | skip
      obtain ⟨u, σ', N', r, I', S, n, rfl, c1, c2, oc, ht, _⟩ := q
      obtain ⟨_, rfl⟩ := r.inv
      exact ⟨goodP (by assumption) (fun c o e => (I'.base c o e).1) I'.os I'.gens, ⟨_, I'.store 114 _ ht⟩, trivial⟩
theorem allP : rwP.Holds := headP walkP
end
end Mine
theorem PySem.Challenge.cw_pg0130_02_holds : PySem.Challenge.rw_pg0130_02.Holds :=
  Mine.allP

