import PyProof.Rows.All
import Lean
import Wide.All
import Open.Line
import OpenK.KTop
import OpenK.KCell
import OpenK.KDict
import OpenK.KMeth
import OpenK.KOps
import OpenK.KMore
import KE.KDictLaws
import Lean
import PySem.Challenge.RW_ik0043_01
set_option Elab.async false
set_option linter.unusedVariables false
set_option bootstrap.genMatcherCode false
set_option genSizeOfSpec false
set_option compiler.extract_closed false
section
set_option Elab.async false
set_option compiler.extract_closed false
namespace Mine
open Lean PyProof.Rows
abbrev TacM := MacroM (TSyntax `tactic)
def mwFirst (l : List (TSyntax `tactic)) : TacM := do
  l.dropLast.foldrM (fun a r => `(tactic| first | $a:tactic | $r:tactic)) (l.getLastD (← `(tactic| fail)))
def mwSat (key : TSyntax `tactic) (here there : Name) : TacM := do
  let mut t ← `($(mkIdent here))
  let mut l : List (TSyntax `tactic) := []
  for _ in [0:4] do
    l := l ++ [← `(tactic| exact ⟨$t, rfl⟩)]
    t ← `($(mkIdent there) $t)
  mwFirst (l ++ [← `(tactic| (refine' ⟨?m, ?_⟩; (case m => $key:tactic); rfl))])
def mwClose (k : Char) : TacM := match k with
  | 'r' => `(tactic| rfl)
  | 'a' => `(tactic| assumption)
  | 's' => `(tactic| walk_at "sat")
  | 'm' => `(tactic| walk_at "mem")
  | 'o' => `(tactic| walk_at "own")
  | 'n' => `(tactic| walk_at "num")
  | 't' => `(tactic| walk_at "tat")
  | 'k' => `(tactic| walk_at "take")
  | 'h' => `(tactic| exact $(mkIdent `Fc.Ok.hh) (by assumption))
  | _ => `(tactic| exact List.mem_cons_self)
def mwRow (row : String) : TacM := do
  let ws := row.splitOn " "
  let w := (ws.headD "").toList
  let kinds := w.filter Char.isAlpha
  let hs ← kinds.zipIdx.mapM fun (_, i) => do pure (mkIdent (← Macro.addMacroScope (.mkSimple s!"h{i}")))
  let ps ← (w.filter (· == '.')).mapM fun _ => `((by assumption))
  let hargs ← hs.mapM fun h => `(?$h)
  let args := (ps ++ hargs).toArray
  let firsts : List (TSyntax `tactic) ← ws.tail.mapM fun n => do
    let id := mkIdent n.toName
    let t ← if n.startsWith "KF." then (if args.isEmpty then `(⟨$id, ?_⟩) else `(⟨$id $args*, ?_⟩)) else `($id $(args.push (← `(?_)))*)
    if kinds.isEmpty then `(tactic| refine $t) else `(tactic| refine' $t)
  let one ← mwFirst firsts
  let head ← if w.contains '~' then pure one else `(tactic| with_reducible $one:tactic)
  if w.contains '!' then `(tactic| ($head:tactic; intro $(mkIdent `qq) $(mkIdent `aq)))
  else
    (kinds.zip hs).foldlM (fun (a : TSyntax `tactic) (k, h) => do `(tactic| ($a:tactic; case $h:ident => $(← mwClose k):tactic))) head
def mwAll (rows : List String) : MacroM Syntax := do
  let t ← mwFirst (← rows.mapM mwRow)
  pure t
end Mine
end
section
set_option maxRecDepth 100000
set_option Elab.async false
namespace Mine
open PySem PySem.W PySem.Calls PyProof.Rows
theorem wp_if {α : Type} {M : Model} {A : Around} {E : Value → Shared → Prop} {s : Shared} {c : Bool} {a b : Sem α} {Q : α → Shared → Prop} (hc : c = true) (h : wpAny M A a Q E s) : wpAny M A (if c = true then a else b) Q E s := by
  rw [if_pos hc]; exact h
theorem bi_iter : entryFor table "iter" = some Builtin.«iter» := entryFor_of_tree (by kernel_rfl)
theorem bi_next : entryFor table "next" = some Builtin.«next» := entryFor_of_tree (by kernel_rfl)
theorem ok_iter (a : Value) : argsOk "iter" ⟨[a], []⟩ := by unfold argsOk; kernel_rfl
theorem ok_next (a : Value) : argsOk "next" ⟨[a], []⟩ := by unfold argsOk; kernel_rfl
theorem ns_no {K : Frag} {h : Heap} {N : Addr} {mg : Str → Option Value} {n : Str} {ob : Obj} {des : Array DictEntry} {ee : Nat} (X : K.In h) (G : h.Ns N mg) (e : K.lookup N = some ob) (hb : ob.data = .dict des ee) (q : nsFind des n = none) : mg n = none := by
  obtain ⟨o, es, ep, ho, hd, _, hf⟩ := G
  have q2 := X _ _ e
  rw [ho] at q2
  cases q2
  rw [hb] at hd
  cases hd
  rw [← hf]; exact q
theorem cell_of {x : Str} (names : List (Str × NameKind)) : ∀ (n : Nat) (acc : List (Str × Addr)), names.lookup x = some .cell ∨ (acc.lookup x).isSome = true → ((cellsFrom n names acc).lookup x).isSome = true := by
  induction names with
  | nil => exact fun n acc h => h.elim nofun id
  | cons p r ih =>
    obtain ⟨y, k⟩ := p
    intro n acc h
    unfold cellsFrom
    rw [List.lookup_cons] at h
    split
    · refine ih _ _ ?_
      rw [List.lookup_cons]
      cases q : x == y
      · rw [q] at h; exact h
      · exact .inr rfl
    · rename_i hk
      refine ih _ _ (h.imp (fun h => ?_) id)
      cases q : x == y
      · rw [q] at h; exact h
      · rw [q] at h
        have : k = .cell := Option.some.inj h
        subst this
        exact absurd rfl hk
theorem found_fn {K : Frag} {C f : Addr} {od : Obj} {name : Str} {g : Value} (hh : hasDictIn K C = true) (ha : findIn K (.ref C) name = some (some (.ref f))) (hg : specialIn K (.ref f) "__get__" = some (some g)) (ht : takesIn K (.ref f) = some false) (hc : copiedNames.contains name = false)
    (hl : lookIn name od = some none) : findObj K C (some od) name = some (.bind g (.ref f)) := by
  unfold hasDictIn at hh
  cases q : clsIn K C with
  | none => rw [q] at hh; cases hh
  | some cd =>
    rw [q] at hh
    have hh : cd.hasDict = true := hh
    have ho : PySem.W.ownOf cd (some od) name = some none := by
      unfold PySem.W.ownOf
      rw [hh]; exact hl
    unfold findObj
    simp only [q, ha, hg, ht, ho, hc, Option.bind_some, Bool.false_and, Bool.false_eq_true, if_false]
section
variable {M : Model} {A : Around} {E : Value → Shared → Prop} {s : Shared}
noncomputable def StarO (M : Model) (A : Around) (E : Value → Shared → Prop) (v : Value) (Q : List Value → Shared → Prop) (s : Shared) : Prop :=
  wpAny M A (notIterableAtAll v) (fun b s₂ => b = false ∧ wpAny M A (collect v) Q E s₂) E s
theorem star_one {f : Value} {x : Sem Value} {pos : Pos} {Q : Args → Shared → Prop} (h : wpAny M A x (fun v s₁ => StarO M A E v (fun vs s₂ => Q ⟨vs, []⟩ s₂) s₁) E s) :
    wpAny M A (evalArgs f true [(true, (do let v ← x; standAt pos; pure v))] []) Q E s := by
  unfold evalArgs
  refine wpAny_bind (wpAny_bind (wpAny_mono h (fun v s₁ h₁ => wpAny_bind (wpAny_standAt (wpAny_pure ?_))) fun _ _ x => x))
  unfold StarO at h₁
  refine wpAny_holding (wpAny_bind (wpAny_pure (wpAny_bind (wpAny_bind (wpAny_mono h₁ (fun b s₂ h₂ => ?_) fun _ _ x => x)))))
  obtain ⟨rfl, h₂⟩ := h₂
  have z := wpAny_holding (vs := []) (wpAny_mono h₂ (fun vs s₃ h₃ => (wpAny_pure h₃ : wpAny M A (pure (⟨vs, []⟩ : Args)) Q E s₃)) fun _ _ x => x)
  first
    | exact z
    | exact wpAny_bind (wpAny_pure z)
theorem call_star {f : Value} {first : List Value} {pos : Pos} {Q : Value → Shared → Prop} {P : Heap → Prop} {args : List (Bool × Sem Value)} (hst : args.any (·.1) = true)
    (hk : ∀ h, P h → ∃ k, (k = Keeper.frame ∨ k = Keeper.machine ∨ k = Keeper.boundFrame) ∧ Looks M h (keeperOf f) k)
    (h : wpAny M A (evalArgs f true args []) (fun a s₁ => P s₁.heap ∧ wpAny M A (call f (first ++ a.pos) a.kw) Q E s₁) E s) : wpAny M A (callWith pos f first args []) Q E s := by
  unfold callWith
  refine wpAny_bind (wpAny_holding (wpAny_mono h (fun a s₁ ⟨hP, h₁⟩ => wpAny_bind (wpAny_standAt ?_)) fun _ _ x => x))
  obtain ⟨k, hk', L⟩ := hk _ hP
  rw [hst]
  refine wpAny_bind (L.here ?_)
  have fin : ∀ {t : Sem Value}, wpAny M A t Q E s₁ → wpAny M A (t >>= fun r => holding [r] point >>= fun _ => pure r) Q E s₁ :=
    fun ht => wpAny_bind (wpAny_mono ht (fun r s₂ hr => wpAny_bind (wpAny_holding (wpAny_point (wpAny_pure hr)))) fun _ _ x => x)
  have mk (m : Value) : wpAny M A (callMarked m f (first ++ a.pos) a.kw) Q E s₁ := by unfold callMarked; exact Calls.wpAny_keep h₁
  rcases hk' with rfl | rfl | rfl
  · exact fin (mk _)
  · dsimp only; first | exact fin (wpAny_operating h₁) | exact fin (mk _)
  · dsimp only; first | exact fin (mk _) | exact fin (wpAny_operating h₁)
end
end Mine
end
section
set_option maxRecDepth 100000
set_option Elab.async false
namespace Mine
open PySem PySem.W PySem.Calls PyProof.Rows
section
noncomputable def topAt (i : Nat) : Stmt := match PySem.Challenge.pw_ik0043_01.main.body[i]? with
  | some s => s
  | none => .Pass ⟨0, 0, 0, 0⟩
noncomputable def inCls (s : Stmt) (j : Nat) : Stmt := match s with
  | .ClassDef _ _ _ b _ _ _ _ _ _ _ => (match b[j]? with | some x => x | none => .Pass ⟨0, 0, 0, 0⟩)
  | _ => .Pass ⟨0, 0, 0, 0⟩
noncomputable def fnObj (s : Stmt) (q m : Str) (t : Nat) (d : Value) (c : Addr) : Obj := match s with
  | .FunctionDef n ps b _ _ _ sc _ _ _ => Obj.mk (.type "function") none (.func (FuncData.mk n q ps (.stmts b) sc 3 [] d .none .none (.str m t) none (.ref c) .none 0)) #[]
  | _ => Obj.mk .none none .plain #[]
noncomputable def ke (P : Params) (n : Str) (t : Nat) (v : Value) : DictEntry := DictEntry.mk (PyData.keyHash P n) (.str n t) v
noncomputable def KF1 (P : Params) : Frag := [
  (3, Obj.mk (Value.type "dict") none (Data.dict #[ke P "__name__" 165 (Value.str (Str.ofString "law_ik0043_01") 438), ke P "__doc__" 166 Value.none, ke P "__package__" 167 Value.none, ke P "__loader__" 168 (Value.builtin "__main__.__loader__#opaque"), ke P "__spec__" 169 Value.none, ke P "__annotations__" 170 (Value.ref 6), ke P "__builtins__" 171 (Value.ref 4), ke P "__file__" 173 (Value.str (Str.ofString "/claim/cut.py") 172), ke P "__cached__" 174 Value.none, ke P "_wall" 193 (Value.ref 21), ke P "filterfalse" 245 (Value.ref 54), ke P "_filter" 255 (Value.ref 65), ke P "_NODE_OUT" 260 (Value.int (-1) 259), ke P "_NODE_DONE" 263 (Value.int (-2) 262), ke P "_NodeInfo" 300 (Value.ref 84), ke P "CycleError" 318 (Value.ref 99), ke P "TopologicalSorter" 437 (Value.ref 181), ke P "_law_near" 445 (Value.ref 190), ke P "_law_struck" 451 (Value.ref 195), ke P "_law_led" 457 (Value.ref 200), ke P "_law_levels" 463 (Value.ref 205), ke P "_law_fan" 471 (Value.ref 212), ke P "law" 477 (Value.ref 217)] 23) #[]),
  (35, Obj.mk (Value.type "code") none (Data.fields #[Value.str (Str.ofString "__init__") 211, Value.str (Str.ofString "filterfalse.__init__") 212, Value.str (Str.ofString "/claim/cut.py") 213, Value.int 8 0, Value.int 3 0, Value.int 3 0, Value.int 0 0, Value.int 3 0, Value.ref 30, Value.bool true, Value.int 181 0, Value.ref 31, Value.none, Value.ref 32, Value.ref 33, Value.ref 34, Value.int 217 0, Value.int 8 0, Value.str (Str.ofString "/claim/cut.py") 218]) #[]),
  (36, fnObj (inCls (topAt 2) 1) "filterfalse.__init__" "itertools" 194 .none 35),
  (42, Obj.mk (Value.type "code") none (Data.fields #[Value.str (Str.ofString "__iter__") 220, Value.str (Str.ofString "filterfalse.__iter__") 221, Value.str (Str.ofString "/claim/cut.py") 222, Value.int 12 0, Value.int 1 0, Value.int 0 0, Value.int 0 0, Value.int 3 0, Value.ref 37, Value.bool true, Value.int 181 0, Value.ref 38, Value.none, Value.ref 39, Value.ref 40, Value.ref 41, Value.int 224 0, Value.int 12 0, Value.str (Str.ofString "/claim/cut.py") 225]) #[]),
  (43, fnObj (inCls (topAt 2) 2) "filterfalse.__iter__" "itertools" 194 .none 42),
  (49, Obj.mk (Value.type "code") none (Data.fields #[Value.str (Str.ofString "__next__") 227, Value.str (Str.ofString "filterfalse.__next__") 228, Value.str (Str.ofString "/claim/cut.py") 229, Value.int 15 0, Value.int 1 0, Value.int 0 0, Value.int 0 0, Value.int 3 0, Value.ref 44, Value.bool true, Value.int 181 0, Value.ref 45, Value.none, Value.ref 46, Value.ref 47, Value.ref 48, Value.int 233 0, Value.int 15 0, Value.str (Str.ofString "/claim/cut.py") 234]) #[]),
  (50, fnObj (inCls (topAt 2) 3) "filterfalse.__next__" "itertools" 194 .none 49),
  (53, Obj.mk (Value.type "dict") none (Data.dict #[ke P "__module__" 203 (Value.str (Str.ofString "itertools") 194), ke P "__firstlineno__" 207 (Value.int 5 206), ke P "__slots__" 210 (Value.ref 29), ke P "__init__" 219 (Value.ref 36), ke P "__iter__" 226 (Value.ref 43), ke P "__next__" 235 (Value.ref 50), ke P "__static_attributes__" 238 (Value.ref 51), ke P "_func" 240 (Value.ref 55), ke P "_it" 242 (Value.ref 56), ke P "__doc__" 243 Value.none] 4) #[]),
  (54, Obj.mk (Value.type "type") none (Data.cls (ClassData.mk (Str.ofString "filterfalse") [Value.type "object"] [Value.ref 54, Value.type "object"] 53 (Str.ofString "filterfalse") false [Str.ofString "_func", Str.ofString "_it"] [] false none false)) #[none, none, some (Value.str (Str.ofString "filterfalse") 196), some (Value.str (Str.ofString "filterfalse") 204), some (Value.builtin "object.__new__"), some (Value.bool false)]),
  (55, Obj.mk (Value.type "member_descriptor") none (Data.fields #[Value.str (Str.ofString "_func") 239, Value.ref 54, Value.builtin "proto.slot", Value.builtin "proto.slot#set", Value.int 1 0]) #[]),
  (56, Obj.mk (Value.type "member_descriptor") none (Data.fields #[Value.str (Str.ofString "_it") 241, Value.ref 54, Value.builtin "proto.slot", Value.builtin "proto.slot#set", Value.int 0 0]) #[]),
  (64, Obj.mk (Value.type "code") none (Data.fields #[Value.str (Str.ofString "_filter") 248, Value.str (Str.ofString "_filter") 249, Value.str (Str.ofString "/claim/cut.py") 250, Value.int 25 0, Value.int 2 0, Value.int 0 0, Value.int 0 0, Value.int 3 0, Value.ref 59, Value.bool true, Value.int 181 0, Value.ref 60, Value.none, Value.ref 61, Value.ref 62, Value.ref 63, Value.int 253 0, Value.int 25 0, Value.str (Str.ofString "/claim/cut.py") 254]) #[]),
  (65, fnObj (topAt 4) "_filter" "cpy313.filecmp" 246 .none 64),
  (79, Obj.mk (Value.type "code") none (Data.fields #[Value.str (Str.ofString "__init__") 280, Value.str (Str.ofString "_NodeInfo.__init__") 281, Value.str (Str.ofString "/claim/cut.py") 282, Value.int 33 0, Value.int 2 0, Value.int 0 0, Value.int 0 0, Value.int 3 0, Value.ref 74, Value.bool true, Value.int 181 0, Value.ref 75, Value.none, Value.ref 76, Value.ref 77, Value.ref 78, Value.int 285 0, Value.int 33 0, Value.str (Str.ofString "/claim/cut.py") 286]) #[]),
  (80, fnObj (inCls (topAt 8) 1) "_NodeInfo.__init__" "cpy313.graphlib" 256 .none 79),
  (83, Obj.mk (Value.type "dict") none (Data.dict #[ke P "__module__" 271 (Value.str (Str.ofString "cpy313.graphlib") 256), ke P "__firstlineno__" 275 (Value.int 30 274), ke P "__slots__" 279 (Value.ref 73), ke P "__init__" 287 (Value.ref 80), ke P "__static_attributes__" 291 (Value.ref 81), ke P "node" 293 (Value.ref 85), ke P "npredecessors" 295 (Value.ref 86), ke P "successors" 297 (Value.ref 87), ke P "__doc__" 298 Value.none] 5) #[]),
  (84, Obj.mk (Value.type "type") none (Data.cls (ClassData.mk (Str.ofString "_NodeInfo") [Value.type "object"] [Value.ref 84, Value.type "object"] 83 (Str.ofString "_NodeInfo") false [Str.ofString "node", Str.ofString "npredecessors", Str.ofString "successors"] [] false none false)) #[none, none, some (Value.str (Str.ofString "_NodeInfo") 264), some (Value.str (Str.ofString "_NodeInfo") 272), some (Value.builtin "object.__new__"), some (Value.bool false)]),
  (85, Obj.mk (Value.type "member_descriptor") none (Data.fields #[Value.str (Str.ofString "node") 292, Value.ref 84, Value.builtin "proto.slot", Value.builtin "proto.slot#set", Value.int 2 0]) #[]),
  (86, Obj.mk (Value.type "member_descriptor") none (Data.fields #[Value.str (Str.ofString "npredecessors") 294, Value.ref 84, Value.builtin "proto.slot", Value.builtin "proto.slot#set", Value.int 1 0]) #[]),
  (87, Obj.mk (Value.type "member_descriptor") none (Data.fields #[Value.str (Str.ofString "successors") 296, Value.ref 84, Value.builtin "proto.slot", Value.builtin "proto.slot#set", Value.int 0 0]) #[]),
  (98, Obj.mk (Value.type "dict") none (Data.dict #[ke P "__module__" 308 (Value.str (Str.ofString "cpy313.graphlib") 256), ke P "__firstlineno__" 312 (Value.int 37 311), ke P "__static_attributes__" 313 (Value.ref 97), ke P "__weakref__" 315 (Value.ref 100), ke P "__doc__" 316 Value.none] 3) #[]),
  (99, Obj.mk (Value.type "type") none (Data.cls (ClassData.mk (Str.ofString "CycleError") [Value.type "ValueError"] [Value.ref 99, Value.type "ValueError", Value.type "Exception", Value.type "BaseException", Value.type "object"] 98 (Str.ofString "CycleError") true [] [] false none false)) #[some (Value.ref 90), none, some (Value.str (Str.ofString "CycleError") 301), some (Value.str (Str.ofString "CycleError") 309), some (Value.builtin "ValueError.__new__"), some (Value.bool true)]),
  (100, Obj.mk (Value.type "getset_descriptor") none (Data.fields #[Value.str (Str.ofString "__weakref__") 314, Value.ref 99, Value.builtin "ExceptionGroup.__weakref__", Value.none]) #[]),
  (110, Obj.mk (Value.type "tuple") none (Data.seq #[Value.none]) #[]),
  (116, Obj.mk (Value.type "code") none (Data.fields #[Value.str (Str.ofString "__init__") 331, Value.str (Str.ofString "TopologicalSorter.__init__") 332, Value.str (Str.ofString "/claim/cut.py") 333, Value.int 41 0, Value.int 2 0, Value.int 0 0, Value.int 0 0, Value.int 3 0, Value.ref 111, Value.bool true, Value.int 181 0, Value.ref 112, Value.none, Value.ref 113, Value.ref 114, Value.ref 115, Value.int 338 0, Value.int 41 0, Value.str (Str.ofString "/claim/cut.py") 339]) #[]),
  (117, fnObj (inCls (topAt 10) 0) "TopologicalSorter.__init__" "cpy313.graphlib" 256 (.ref 110) 116),
  (123, Obj.mk (Value.type "code") none (Data.fields #[Value.str (Str.ofString "_get_nodeinfo") 341, Value.str (Str.ofString "TopologicalSorter._get_nodeinfo") 342, Value.str (Str.ofString "/claim/cut.py") 343, Value.int 50 0, Value.int 2 0, Value.int 0 0, Value.int 0 0, Value.int 3 0, Value.ref 118, Value.bool true, Value.int 181 0, Value.ref 119, Value.none, Value.ref 120, Value.ref 121, Value.ref 122, Value.int 347 0, Value.int 50 0, Value.str (Str.ofString "/claim/cut.py") 348]) #[]),
  (124, fnObj (inCls (topAt 10) 1) "TopologicalSorter._get_nodeinfo" "cpy313.graphlib" 256 .none 123),
  (130, Obj.mk (Value.type "code") none (Data.fields #[Value.str (Str.ofString "add") 350, Value.str (Str.ofString "TopologicalSorter.add") 351, Value.str (Str.ofString "/claim/cut.py") 352, Value.int 55 0, Value.int 2 0, Value.int 0 0, Value.int 0 0, Value.int 7 0, Value.ref 125, Value.bool true, Value.int 181 0, Value.ref 126, Value.none, Value.ref 127, Value.ref 128, Value.ref 129, Value.int 359 0, Value.int 55 0, Value.str (Str.ofString "/claim/cut.py") 360]) #[]),
  (131, fnObj (inCls (topAt 10) 2) "TopologicalSorter.add" "cpy313.graphlib" 256 .none 130),
  (135, Obj.mk (Value.type "code") none (Data.fields #[Value.str (Str.ofString "prepare") 362, Value.str (Str.ofString "TopologicalSorter.prepare") 363, Value.str (Str.ofString "/claim/cut.py") 364, Value.int 64 0, Value.int 1 0, Value.int 0 0, Value.int 0 0, Value.int 3 0, Value.ref 132, Value.bool true, Value.int 181 0, Value.ref 133, Value.none, Value.none, Value.none, Value.ref 134, Value.int 365 0, Value.int 64 0, Value.str (Str.ofString "/claim/cut.py") 366]) #[]),
  (136, fnObj (inCls (topAt 10) 3) "TopologicalSorter.prepare" "cpy313.graphlib" 256 .none 135),
  (142, Obj.mk (Value.type "code") none (Data.fields #[Value.str (Str.ofString "get_ready") 368, Value.str (Str.ofString "TopologicalSorter.get_ready") 369, Value.str (Str.ofString "/claim/cut.py") 370, Value.int 72 0, Value.int 1 0, Value.int 0 0, Value.int 0 0, Value.int 3 0, Value.ref 137, Value.bool true, Value.int 181 0, Value.ref 138, Value.none, Value.ref 139, Value.ref 140, Value.ref 141, Value.int 375 0, Value.int 72 0, Value.str (Str.ofString "/claim/cut.py") 376]) #[]),
  (143, fnObj (inCls (topAt 10) 4) "TopologicalSorter.get_ready" "cpy313.graphlib" 256 .none 142),
  (149, Obj.mk (Value.type "code") none (Data.fields #[Value.str (Str.ofString "is_active") 378, Value.str (Str.ofString "TopologicalSorter.is_active") 379, Value.str (Str.ofString "/claim/cut.py") 380, Value.int 83 0, Value.int 1 0, Value.int 0 0, Value.int 0 0, Value.int 3 0, Value.ref 144, Value.bool true, Value.int 181 0, Value.ref 145, Value.none, Value.ref 146, Value.ref 147, Value.ref 148, Value.int 382 0, Value.int 83 0, Value.str (Str.ofString "/claim/cut.py") 383]) #[]),
  (150, fnObj (inCls (topAt 10) 5) "TopologicalSorter.is_active" "cpy313.graphlib" 256 .none 149),
  (163, Obj.mk (Value.type "code") none (Data.fields #[Value.str (Str.ofString "done") 392, Value.str (Str.ofString "TopologicalSorter.done") 393, Value.str (Str.ofString "/claim/cut.py") 394, Value.int 91 0, Value.int 1 0, Value.int 0 0, Value.int 0 0, Value.int 7 0, Value.ref 158, Value.bool true, Value.int 181 0, Value.ref 159, Value.none, Value.ref 160, Value.ref 161, Value.ref 162, Value.int 403 0, Value.int 91 0, Value.str (Str.ofString "/claim/cut.py") 404]) #[]),
  (164, fnObj (inCls (topAt 10) 7) "TopologicalSorter.done" "cpy313.graphlib" 256 .none 163),
  (170, Obj.mk (Value.type "code") none (Data.fields #[Value.str (Str.ofString "_find_cycle") 406, Value.str (Str.ofString "TopologicalSorter._find_cycle") 407, Value.str (Str.ofString "/claim/cut.py") 408, Value.int 114 0, Value.int 1 0, Value.int 0 0, Value.int 0 0, Value.int 3 0, Value.ref 165, Value.bool true, Value.int 181 0, Value.ref 166, Value.none, Value.ref 167, Value.ref 168, Value.ref 169, Value.int 416 0, Value.int 114 0, Value.str (Str.ofString "/claim/cut.py") 417]) #[]),
  (171, fnObj (inCls (topAt 10) 8) "TopologicalSorter._find_cycle" "cpy313.graphlib" 256 .none 170),
  (180, Obj.mk (Value.type "dict") none (Data.dict #[ke P "__module__" 326 (Value.str (Str.ofString "cpy313.graphlib") 256), ke P "__firstlineno__" 330 (Value.int 39 329), ke P "__init__" 340 (Value.ref 117), ke P "_get_nodeinfo" 349 (Value.ref 124), ke P "add" 361 (Value.ref 131), ke P "prepare" 367 (Value.ref 136), ke P "get_ready" 377 (Value.ref 143), ke P "is_active" 384 (Value.ref 150), ke P "__bool__" 391 (Value.ref 157), ke P "done" 405 (Value.ref 164), ke P "_find_cycle" 418 (Value.ref 171), ke P "static_order" 425 (Value.ref 178), ke P "__static_attributes__" 430 (Value.ref 179), ke P "__dict__" 432 (Value.ref 182), ke P "__weakref__" 434 (Value.ref 183), ke P "__doc__" 435 Value.none] 4) #[]),
  (181, Obj.mk (Value.type "type") none (Data.cls (ClassData.mk (Str.ofString "TopologicalSorter") [Value.type "object"] [Value.ref 181, Value.type "object"] 180 (Str.ofString "TopologicalSorter") true [] [] false none false)) #[none, none, some (Value.str (Str.ofString "TopologicalSorter") 319), some (Value.str (Str.ofString "TopologicalSorter") 327), some (Value.builtin "object.__new__"), some (Value.bool true)]),
  (182, Obj.mk (Value.type "getset_descriptor") none (Data.fields #[Value.str (Str.ofString "__dict__") 431, Value.ref 181, Value.builtin "function.__dict__", Value.builtin "function.__dict__#set"]) #[]),
  (183, Obj.mk (Value.type "getset_descriptor") none (Data.fields #[Value.str (Str.ofString "__weakref__") 433, Value.ref 181, Value.builtin "ExceptionGroup.__weakref__", Value.none]) #[]),
  (189, Obj.mk (Value.type "code") none (Data.fields #[Value.str (Str.ofString "_law_near") 440, Value.str (Str.ofString "_law_near") 441, Value.str (Str.ofString "/claim/cut.py") 442, Value.int 146 0, Value.int 2 0, Value.int 0 0, Value.int 0 0, Value.int 3 0, Value.ref 186, Value.bool true, Value.int 181 0, Value.ref 187, Value.none, Value.none, Value.none, Value.ref 188, Value.int 443 0, Value.int 146 0, Value.str (Str.ofString "/claim/cut.py") 444]) #[]),
  (190, fnObj (topAt 12) "_law_near" "law_ik0043_01" 438 .none 189),
  (194, Obj.mk (Value.type "code") none (Data.fields #[Value.str (Str.ofString "_law_struck") 446, Value.str (Str.ofString "_law_struck") 447, Value.str (Str.ofString "/claim/cut.py") 448, Value.int 154 0, Value.int 2 0, Value.int 0 0, Value.int 0 0, Value.int 3 0, Value.ref 191, Value.bool true, Value.int 181 0, Value.ref 192, Value.none, Value.none, Value.none, Value.ref 193, Value.int 449 0, Value.int 154 0, Value.str (Str.ofString "/claim/cut.py") 450]) #[]),
  (195, fnObj (topAt 13) "_law_struck" "law_ik0043_01" 438 .none 194),
  (199, Obj.mk (Value.type "code") none (Data.fields #[Value.str (Str.ofString "_law_led") 452, Value.str (Str.ofString "_law_led") 453, Value.str (Str.ofString "/claim/cut.py") 454, Value.int 163 0, Value.int 2 0, Value.int 0 0, Value.int 0 0, Value.int 3 0, Value.ref 196, Value.bool true, Value.int 181 0, Value.ref 197, Value.none, Value.none, Value.none, Value.ref 198, Value.int 455 0, Value.int 163 0, Value.str (Str.ofString "/claim/cut.py") 456]) #[]),
  (200, fnObj (topAt 14) "_law_led" "law_ik0043_01" 438 .none 199),
  (204, Obj.mk (Value.type "code") none (Data.fields #[Value.str (Str.ofString "_law_levels") 458, Value.str (Str.ofString "_law_levels") 459, Value.str (Str.ofString "/claim/cut.py") 460, Value.int 174 0, Value.int 2 0, Value.int 0 0, Value.int 0 0, Value.int 3 0, Value.ref 201, Value.bool true, Value.int 181 0, Value.ref 202, Value.none, Value.none, Value.none, Value.ref 203, Value.int 461 0, Value.int 174 0, Value.str (Str.ofString "/claim/cut.py") 462]) #[]),
  (205, fnObj (topAt 15) "_law_levels" "law_ik0043_01" 438 .none 204),
  (211, Obj.mk (Value.type "code") none (Data.fields #[Value.str (Str.ofString "_law_fan") 464, Value.str (Str.ofString "_law_fan") 465, Value.str (Str.ofString "/claim/cut.py") 466, Value.int 179 0, Value.int 0 0, Value.int 0 0, Value.int 0 0, Value.int 3 0, Value.ref 206, Value.bool true, Value.int 181 0, Value.ref 207, Value.none, Value.ref 208, Value.ref 209, Value.ref 210, Value.int 469 0, Value.int 179 0, Value.str (Str.ofString "/claim/cut.py") 470]) #[]),
  (212, fnObj (topAt 16) "_law_fan" "law_ik0043_01" 438 .none 211),
  (216, Obj.mk (Value.type "code") none (Data.fields #[Value.str (Str.ofString "law") 472, Value.str (Str.ofString "law") 473, Value.str (Str.ofString "/claim/cut.py") 474, Value.int 189 0, Value.int 1 0, Value.int 0 0, Value.int 0 0, Value.int 3 0, Value.ref 213, Value.bool true, Value.int 181 0, Value.ref 214, Value.none, Value.none, Value.none, Value.ref 215, Value.int 475 0, Value.int 189 0, Value.str (Str.ofString "/claim/cut.py") 476]) #[]),
  (217, fnObj (topAt 17) "law" "law_ik0043_01" 438 .none 216)]
noncomputable def as1 : List Addr := [3, 35, 36, 42, 43, 49, 50, 53, 54, 55, 56, 64, 65, 79, 80, 83, 84, 85, 86, 87, 98, 99, 100, 110, 116, 117, 123, 124, 130, 131, 135, 136, 142, 143, 149, 150, 163, 164, 170, 171, 180, 181, 182, 183, 189, 190, 194, 195, 199, 200, 204, 205, 211, 212, 216, 217]
end
end Mine
end
section
set_option maxRecDepth 100000
set_option Elab.async false
namespace Mine
open PySem PySem.W PyProof.Rows PySem.SeqAt
theorem law_said : PySem.Challenge.rw_ik0043_01.wellSaid = true := by kernel_rfl
end Mine
end
section
set_option maxRecDepth 100000
set_option Elab.async false
set_option linter.unusedVariables false
set_option maxHeartbeats 8000000
namespace Mine
open PySem PySem.W PyProof.Rows PySem.SeqAt
structure Kept (P : Prop) : Prop where
  out : P
theorem hcut {A : Prop} {T : Prop} (_hc : T) (g : A) : A := g
noncomputable def headP : {P : Prop // P → PySem.Challenge.rw_ik0043_01.Holds} := by
  refine' ⟨_, fun h0 => (fun h : Kept _ => ?m) ⟨h0⟩⟩
  case m =>
    clear h0
    refine' hcut ?hc ?g
    case g =>
      refine holds_law law_said fun said => ?_
      o_head (kHook KF1 as1 (fun _ => by kernel_rfl))
      case hw => w_witness2
    case hc => exact h.out
end Mine
end
section
namespace Mine
theorem ex0and2 {a0 a1 : Prop} {P : Prop} (h : a0 ∧ a1) (k : a0 → a1 → P) : P := k h.1 h.2
theorem ex0and3 {a0 a1 a2 : Prop} {P : Prop} (h : a0 ∧ a1 ∧ a2) (k : a0 → a1 → a2 → P) : P := k h.1 h.2.1 h.2.2
theorem ex0and4 {a0 a1 a2 a3 : Prop} {P : Prop} (h : a0 ∧ a1 ∧ a2 ∧ a3) (k : a0 → a1 → a2 → a3 → P) : P := k h.1 h.2.1 h.2.2.1 h.2.2.2
theorem ex0and5 {a0 a1 a2 a3 a4 : Prop} {P : Prop} (h : a0 ∧ a1 ∧ a2 ∧ a3 ∧ a4) (k : a0 → a1 → a2 → a3 → a4 → P) : P := k h.1 h.2.1 h.2.2.1 h.2.2.2.1 h.2.2.2.2
theorem ex1and2 {t0 : Sort _} {a0 a1 : t0 → Prop} {P : Prop} (h : ∃ x0, a0 x0 ∧ a1 x0) (k : ∀ x0, a0 x0 → a1 x0 → P) : P := by obtain ⟨x0, h⟩ := h; exact k x0 h.1 h.2
theorem ex1and3 {t0 : Sort _} {a0 a1 a2 : t0 → Prop} {P : Prop} (h : ∃ x0, a0 x0 ∧ a1 x0 ∧ a2 x0) (k : ∀ x0, a0 x0 → a1 x0 → a2 x0 → P) : P := by obtain ⟨x0, h⟩ := h; exact k x0 h.1 h.2.1 h.2.2
theorem ex1and4 {t0 : Sort _} {a0 a1 a2 a3 : t0 → Prop} {P : Prop} (h : ∃ x0, a0 x0 ∧ a1 x0 ∧ a2 x0 ∧ a3 x0) (k : ∀ x0, a0 x0 → a1 x0 → a2 x0 → a3 x0 → P) : P := by obtain ⟨x0, h⟩ := h; exact k x0 h.1 h.2.1 h.2.2.1 h.2.2.2
theorem ex1and5 {t0 : Sort _} {a0 a1 a2 a3 a4 : t0 → Prop} {P : Prop} (h : ∃ x0, a0 x0 ∧ a1 x0 ∧ a2 x0 ∧ a3 x0 ∧ a4 x0) (k : ∀ x0, a0 x0 → a1 x0 → a2 x0 → a3 x0 → a4 x0 → P) : P := by obtain ⟨x0, h⟩ := h; exact k x0 h.1 h.2.1 h.2.2.1 h.2.2.2.1 h.2.2.2.2
theorem ex1and6 {t0 : Sort _} {a0 a1 a2 a3 a4 a5 : t0 → Prop} {P : Prop} (h : ∃ x0, a0 x0 ∧ a1 x0 ∧ a2 x0 ∧ a3 x0 ∧ a4 x0 ∧ a5 x0) (k : ∀ x0, a0 x0 → a1 x0 → a2 x0 → a3 x0 → a4 x0 → a5 x0 → P) : P := by obtain ⟨x0, h⟩ := h; exact k x0 h.1 h.2.1 h.2.2.1 h.2.2.2.1 h.2.2.2.2.1 h.2.2.2.2.2
theorem ex1and7 {t0 : Sort _} {a0 a1 a2 a3 a4 a5 a6 : t0 → Prop} {P : Prop} (h : ∃ x0, a0 x0 ∧ a1 x0 ∧ a2 x0 ∧ a3 x0 ∧ a4 x0 ∧ a5 x0 ∧ a6 x0) (k : ∀ x0, a0 x0 → a1 x0 → a2 x0 → a3 x0 → a4 x0 → a5 x0 → a6 x0 → P) : P := by obtain ⟨x0, h⟩ := h; exact k x0 h.1 h.2.1 h.2.2.1 h.2.2.2.1 h.2.2.2.2.1 h.2.2.2.2.2.1 h.2.2.2.2.2.2
theorem ex2and3 {t0 : Sort _} {t1 : Sort _} {a0 a1 a2 : t0 → t1 → Prop} {P : Prop} (h : ∃ x0 x1, a0 x0 x1 ∧ a1 x0 x1 ∧ a2 x0 x1) (k : ∀ x0 x1, a0 x0 x1 → a1 x0 x1 → a2 x0 x1 → P) : P := by obtain ⟨x0, x1, h⟩ := h; exact k x0 x1 h.1 h.2.1 h.2.2
theorem ex2and4 {t0 : Sort _} {t1 : Sort _} {a0 a1 a2 a3 : t0 → t1 → Prop} {P : Prop} (h : ∃ x0 x1, a0 x0 x1 ∧ a1 x0 x1 ∧ a2 x0 x1 ∧ a3 x0 x1) (k : ∀ x0 x1, a0 x0 x1 → a1 x0 x1 → a2 x0 x1 → a3 x0 x1 → P) : P := by obtain ⟨x0, x1, h⟩ := h; exact k x0 x1 h.1 h.2.1 h.2.2.1 h.2.2.2
theorem ex2and5 {t0 : Sort _} {t1 : Sort _} {a0 a1 a2 a3 a4 : t0 → t1 → Prop} {P : Prop} (h : ∃ x0 x1, a0 x0 x1 ∧ a1 x0 x1 ∧ a2 x0 x1 ∧ a3 x0 x1 ∧ a4 x0 x1) (k : ∀ x0 x1, a0 x0 x1 → a1 x0 x1 → a2 x0 x1 → a3 x0 x1 → a4 x0 x1 → P) : P := by obtain ⟨x0, x1, h⟩ := h; exact k x0 x1 h.1 h.2.1 h.2.2.1 h.2.2.2.1 h.2.2.2.2
theorem ex2and6 {t0 : Sort _} {t1 : Sort _} {a0 a1 a2 a3 a4 a5 : t0 → t1 → Prop} {P : Prop} (h : ∃ x0 x1, a0 x0 x1 ∧ a1 x0 x1 ∧ a2 x0 x1 ∧ a3 x0 x1 ∧ a4 x0 x1 ∧ a5 x0 x1) (k : ∀ x0 x1, a0 x0 x1 → a1 x0 x1 → a2 x0 x1 → a3 x0 x1 → a4 x0 x1 → a5 x0 x1 → P) : P := by obtain ⟨x0, x1, h⟩ := h; exact k x0 x1 h.1 h.2.1 h.2.2.1 h.2.2.2.1 h.2.2.2.2.1 h.2.2.2.2.2
theorem ex2and7 {t0 : Sort _} {t1 : Sort _} {a0 a1 a2 a3 a4 a5 a6 : t0 → t1 → Prop} {P : Prop} (h : ∃ x0 x1, a0 x0 x1 ∧ a1 x0 x1 ∧ a2 x0 x1 ∧ a3 x0 x1 ∧ a4 x0 x1 ∧ a5 x0 x1 ∧ a6 x0 x1) (k : ∀ x0 x1, a0 x0 x1 → a1 x0 x1 → a2 x0 x1 → a3 x0 x1 → a4 x0 x1 → a5 x0 x1 → a6 x0 x1 → P) : P := by obtain ⟨x0, x1, h⟩ := h; exact k x0 x1 h.1 h.2.1 h.2.2.1 h.2.2.2.1 h.2.2.2.2.1 h.2.2.2.2.2.1 h.2.2.2.2.2.2
theorem ex3and2 {t0 : Sort _} {t1 : Sort _} {t2 : Sort _} {a0 a1 : t0 → t1 → t2 → Prop} {P : Prop} (h : ∃ x0 x1 x2, a0 x0 x1 x2 ∧ a1 x0 x1 x2) (k : ∀ x0 x1 x2, a0 x0 x1 x2 → a1 x0 x1 x2 → P) : P := by obtain ⟨x0, x1, x2, h⟩ := h; exact k x0 x1 x2 h.1 h.2
theorem ex3and3 {t0 : Sort _} {t1 : Sort _} {t2 : Sort _} {a0 a1 a2 : t0 → t1 → t2 → Prop} {P : Prop} (h : ∃ x0 x1 x2, a0 x0 x1 x2 ∧ a1 x0 x1 x2 ∧ a2 x0 x1 x2) (k : ∀ x0 x1 x2, a0 x0 x1 x2 → a1 x0 x1 x2 → a2 x0 x1 x2 → P) : P := by obtain ⟨x0, x1, x2, h⟩ := h; exact k x0 x1 x2 h.1 h.2.1 h.2.2
theorem ex3and4 {t0 : Sort _} {t1 : Sort _} {t2 : Sort _} {a0 a1 a2 a3 : t0 → t1 → t2 → Prop} {P : Prop} (h : ∃ x0 x1 x2, a0 x0 x1 x2 ∧ a1 x0 x1 x2 ∧ a2 x0 x1 x2 ∧ a3 x0 x1 x2) (k : ∀ x0 x1 x2, a0 x0 x1 x2 → a1 x0 x1 x2 → a2 x0 x1 x2 → a3 x0 x1 x2 → P) : P := by obtain ⟨x0, x1, x2, h⟩ := h; exact k x0 x1 x2 h.1 h.2.1 h.2.2.1 h.2.2.2
theorem ex3and5 {t0 : Sort _} {t1 : Sort _} {t2 : Sort _} {a0 a1 a2 a3 a4 : t0 → t1 → t2 → Prop} {P : Prop} (h : ∃ x0 x1 x2, a0 x0 x1 x2 ∧ a1 x0 x1 x2 ∧ a2 x0 x1 x2 ∧ a3 x0 x1 x2 ∧ a4 x0 x1 x2) (k : ∀ x0 x1 x2, a0 x0 x1 x2 → a1 x0 x1 x2 → a2 x0 x1 x2 → a3 x0 x1 x2 → a4 x0 x1 x2 → P) : P := by obtain ⟨x0, x1, x2, h⟩ := h; exact k x0 x1 x2 h.1 h.2.1 h.2.2.1 h.2.2.2.1 h.2.2.2.2
theorem ex3and6 {t0 : Sort _} {t1 : Sort _} {t2 : Sort _} {a0 a1 a2 a3 a4 a5 : t0 → t1 → t2 → Prop} {P : Prop} (h : ∃ x0 x1 x2, a0 x0 x1 x2 ∧ a1 x0 x1 x2 ∧ a2 x0 x1 x2 ∧ a3 x0 x1 x2 ∧ a4 x0 x1 x2 ∧ a5 x0 x1 x2) (k : ∀ x0 x1 x2, a0 x0 x1 x2 → a1 x0 x1 x2 → a2 x0 x1 x2 → a3 x0 x1 x2 → a4 x0 x1 x2 → a5 x0 x1 x2 → P) : P := by obtain ⟨x0, x1, x2, h⟩ := h; exact k x0 x1 x2 h.1 h.2.1 h.2.2.1 h.2.2.2.1 h.2.2.2.2.1 h.2.2.2.2.2
theorem ex3and8 {t0 : Sort _} {t1 : Sort _} {t2 : Sort _} {a0 a1 a2 a3 a4 a5 a6 a7 : t0 → t1 → t2 → Prop} {P : Prop} (h : ∃ x0 x1 x2, a0 x0 x1 x2 ∧ a1 x0 x1 x2 ∧ a2 x0 x1 x2 ∧ a3 x0 x1 x2 ∧ a4 x0 x1 x2 ∧ a5 x0 x1 x2 ∧ a6 x0 x1 x2 ∧ a7 x0 x1 x2) (k : ∀ x0 x1 x2, a0 x0 x1 x2 → a1 x0 x1 x2 → a2 x0 x1 x2 → a3 x0 x1 x2 → a4 x0 x1 x2 → a5 x0 x1 x2 → a6 x0 x1 x2 → a7 x0 x1 x2 → P) : P := by obtain ⟨x0, x1, x2, h⟩ := h; exact k x0 x1 x2 h.1 h.2.1 h.2.2.1 h.2.2.2.1 h.2.2.2.2.1 h.2.2.2.2.2.1 h.2.2.2.2.2.2.1 h.2.2.2.2.2.2.2
theorem ex3and16 {t0 : Sort _} {t1 : Sort _} {t2 : Sort _} {a0 a1 a2 a3 a4 a5 a6 a7 a8 a9 a10 a11 a12 a13 a14 a15 : t0 → t1 → t2 → Prop} {P : Prop} (h : ∃ x0 x1 x2, a0 x0 x1 x2 ∧ a1 x0 x1 x2 ∧ a2 x0 x1 x2 ∧ a3 x0 x1 x2 ∧ a4 x0 x1 x2 ∧ a5 x0 x1 x2 ∧ a6 x0 x1 x2 ∧ a7 x0 x1 x2 ∧ a8 x0 x1 x2 ∧ a9 x0 x1 x2 ∧ a10 x0 x1 x2 ∧ a11 x0 x1 x2 ∧ a12 x0 x1 x2 ∧ a13 x0 x1 x2 ∧ a14 x0 x1 x2 ∧ a15 x0 x1 x2) (k : ∀ x0 x1 x2, a0 x0 x1 x2 → a1 x0 x1 x2 → a2 x0 x1 x2 → a3 x0 x1 x2 → a4 x0 x1 x2 → a5 x0 x1 x2 → a6 x0 x1 x2 → a7 x0 x1 x2 → a8 x0 x1 x2 → a9 x0 x1 x2 → a10 x0 x1 x2 → a11 x0 x1 x2 → a12 x0 x1 x2 → a13 x0 x1 x2 → a14 x0 x1 x2 → a15 x0 x1 x2 → P) : P := by obtain ⟨x0, x1, x2, h⟩ := h; exact k x0 x1 x2 h.1 h.2.1 h.2.2.1 h.2.2.2.1 h.2.2.2.2.1 h.2.2.2.2.2.1 h.2.2.2.2.2.2.1 h.2.2.2.2.2.2.2.1 h.2.2.2.2.2.2.2.2.1 h.2.2.2.2.2.2.2.2.2.1 h.2.2.2.2.2.2.2.2.2.2.1 h.2.2.2.2.2.2.2.2.2.2.2.1 h.2.2.2.2.2.2.2.2.2.2.2.2.1 h.2.2.2.2.2.2.2.2.2.2.2.2.2.1 h.2.2.2.2.2.2.2.2.2.2.2.2.2.2.1 h.2.2.2.2.2.2.2.2.2.2.2.2.2.2.2
theorem ex4and3 {t0 : Sort _} {t1 : Sort _} {t2 : Sort _} {t3 : Sort _} {a0 a1 a2 : t0 → t1 → t2 → t3 → Prop} {P : Prop} (h : ∃ x0 x1 x2 x3, a0 x0 x1 x2 x3 ∧ a1 x0 x1 x2 x3 ∧ a2 x0 x1 x2 x3) (k : ∀ x0 x1 x2 x3, a0 x0 x1 x2 x3 → a1 x0 x1 x2 x3 → a2 x0 x1 x2 x3 → P) : P := by obtain ⟨x0, x1, x2, x3, h⟩ := h; exact k x0 x1 x2 x3 h.1 h.2.1 h.2.2
theorem ex4and5 {t0 : Sort _} {t1 : Sort _} {t2 : Sort _} {t3 : Sort _} {a0 a1 a2 a3 a4 : t0 → t1 → t2 → t3 → Prop} {P : Prop} (h : ∃ x0 x1 x2 x3, a0 x0 x1 x2 x3 ∧ a1 x0 x1 x2 x3 ∧ a2 x0 x1 x2 x3 ∧ a3 x0 x1 x2 x3 ∧ a4 x0 x1 x2 x3) (k : ∀ x0 x1 x2 x3, a0 x0 x1 x2 x3 → a1 x0 x1 x2 x3 → a2 x0 x1 x2 x3 → a3 x0 x1 x2 x3 → a4 x0 x1 x2 x3 → P) : P := by obtain ⟨x0, x1, x2, x3, h⟩ := h; exact k x0 x1 x2 x3 h.1 h.2.1 h.2.2.1 h.2.2.2.1 h.2.2.2.2
theorem ex4and7 {t0 : Sort _} {t1 : Sort _} {t2 : Sort _} {t3 : Sort _} {a0 a1 a2 a3 a4 a5 a6 : t0 → t1 → t2 → t3 → Prop} {P : Prop} (h : ∃ x0 x1 x2 x3, a0 x0 x1 x2 x3 ∧ a1 x0 x1 x2 x3 ∧ a2 x0 x1 x2 x3 ∧ a3 x0 x1 x2 x3 ∧ a4 x0 x1 x2 x3 ∧ a5 x0 x1 x2 x3 ∧ a6 x0 x1 x2 x3) (k : ∀ x0 x1 x2 x3, a0 x0 x1 x2 x3 → a1 x0 x1 x2 x3 → a2 x0 x1 x2 x3 → a3 x0 x1 x2 x3 → a4 x0 x1 x2 x3 → a5 x0 x1 x2 x3 → a6 x0 x1 x2 x3 → P) : P := by obtain ⟨x0, x1, x2, x3, h⟩ := h; exact k x0 x1 x2 x3 h.1 h.2.1 h.2.2.1 h.2.2.2.1 h.2.2.2.2.1 h.2.2.2.2.2.1 h.2.2.2.2.2.2
theorem ex4and8 {t0 : Sort _} {t1 : Sort _} {t2 : Sort _} {t3 : Sort _} {a0 a1 a2 a3 a4 a5 a6 a7 : t0 → t1 → t2 → t3 → Prop} {P : Prop} (h : ∃ x0 x1 x2 x3, a0 x0 x1 x2 x3 ∧ a1 x0 x1 x2 x3 ∧ a2 x0 x1 x2 x3 ∧ a3 x0 x1 x2 x3 ∧ a4 x0 x1 x2 x3 ∧ a5 x0 x1 x2 x3 ∧ a6 x0 x1 x2 x3 ∧ a7 x0 x1 x2 x3) (k : ∀ x0 x1 x2 x3, a0 x0 x1 x2 x3 → a1 x0 x1 x2 x3 → a2 x0 x1 x2 x3 → a3 x0 x1 x2 x3 → a4 x0 x1 x2 x3 → a5 x0 x1 x2 x3 → a6 x0 x1 x2 x3 → a7 x0 x1 x2 x3 → P) : P := by obtain ⟨x0, x1, x2, x3, h⟩ := h; exact k x0 x1 x2 x3 h.1 h.2.1 h.2.2.1 h.2.2.2.1 h.2.2.2.2.1 h.2.2.2.2.2.1 h.2.2.2.2.2.2.1 h.2.2.2.2.2.2.2
theorem ex4and10 {t0 : Sort _} {t1 : Sort _} {t2 : Sort _} {t3 : Sort _} {a0 a1 a2 a3 a4 a5 a6 a7 a8 a9 : t0 → t1 → t2 → t3 → Prop} {P : Prop} (h : ∃ x0 x1 x2 x3, a0 x0 x1 x2 x3 ∧ a1 x0 x1 x2 x3 ∧ a2 x0 x1 x2 x3 ∧ a3 x0 x1 x2 x3 ∧ a4 x0 x1 x2 x3 ∧ a5 x0 x1 x2 x3 ∧ a6 x0 x1 x2 x3 ∧ a7 x0 x1 x2 x3 ∧ a8 x0 x1 x2 x3 ∧ a9 x0 x1 x2 x3) (k : ∀ x0 x1 x2 x3, a0 x0 x1 x2 x3 → a1 x0 x1 x2 x3 → a2 x0 x1 x2 x3 → a3 x0 x1 x2 x3 → a4 x0 x1 x2 x3 → a5 x0 x1 x2 x3 → a6 x0 x1 x2 x3 → a7 x0 x1 x2 x3 → a8 x0 x1 x2 x3 → a9 x0 x1 x2 x3 → P) : P := by obtain ⟨x0, x1, x2, x3, h⟩ := h; exact k x0 x1 x2 x3 h.1 h.2.1 h.2.2.1 h.2.2.2.1 h.2.2.2.2.1 h.2.2.2.2.2.1 h.2.2.2.2.2.2.1 h.2.2.2.2.2.2.2.1 h.2.2.2.2.2.2.2.2.1 h.2.2.2.2.2.2.2.2.2
theorem ex5and6 {t0 : Sort _} {t1 : Sort _} {t2 : Sort _} {t3 : Sort _} {t4 : Sort _} {a0 a1 a2 a3 a4 a5 : t0 → t1 → t2 → t3 → t4 → Prop} {P : Prop} (h : ∃ x0 x1 x2 x3 x4, a0 x0 x1 x2 x3 x4 ∧ a1 x0 x1 x2 x3 x4 ∧ a2 x0 x1 x2 x3 x4 ∧ a3 x0 x1 x2 x3 x4 ∧ a4 x0 x1 x2 x3 x4 ∧ a5 x0 x1 x2 x3 x4) (k : ∀ x0 x1 x2 x3 x4, a0 x0 x1 x2 x3 x4 → a1 x0 x1 x2 x3 x4 → a2 x0 x1 x2 x3 x4 → a3 x0 x1 x2 x3 x4 → a4 x0 x1 x2 x3 x4 → a5 x0 x1 x2 x3 x4 → P) : P := by obtain ⟨x0, x1, x2, x3, x4, h⟩ := h; exact k x0 x1 x2 x3 x4 h.1 h.2.1 h.2.2.1 h.2.2.2.1 h.2.2.2.2.1 h.2.2.2.2.2
theorem ex5and8 {t0 : Sort _} {t1 : Sort _} {t2 : Sort _} {t3 : Sort _} {t4 : Sort _} {a0 a1 a2 a3 a4 a5 a6 a7 : t0 → t1 → t2 → t3 → t4 → Prop} {P : Prop} (h : ∃ x0 x1 x2 x3 x4, a0 x0 x1 x2 x3 x4 ∧ a1 x0 x1 x2 x3 x4 ∧ a2 x0 x1 x2 x3 x4 ∧ a3 x0 x1 x2 x3 x4 ∧ a4 x0 x1 x2 x3 x4 ∧ a5 x0 x1 x2 x3 x4 ∧ a6 x0 x1 x2 x3 x4 ∧ a7 x0 x1 x2 x3 x4) (k : ∀ x0 x1 x2 x3 x4, a0 x0 x1 x2 x3 x4 → a1 x0 x1 x2 x3 x4 → a2 x0 x1 x2 x3 x4 → a3 x0 x1 x2 x3 x4 → a4 x0 x1 x2 x3 x4 → a5 x0 x1 x2 x3 x4 → a6 x0 x1 x2 x3 x4 → a7 x0 x1 x2 x3 x4 → P) : P := by obtain ⟨x0, x1, x2, x3, x4, h⟩ := h; exact k x0 x1 x2 x3 x4 h.1 h.2.1 h.2.2.1 h.2.2.2.1 h.2.2.2.2.1 h.2.2.2.2.2.1 h.2.2.2.2.2.2.1 h.2.2.2.2.2.2.2
theorem ex5and9 {t0 : Sort _} {t1 : Sort _} {t2 : Sort _} {t3 : Sort _} {t4 : Sort _} {a0 a1 a2 a3 a4 a5 a6 a7 a8 : t0 → t1 → t2 → t3 → t4 → Prop} {P : Prop} (h : ∃ x0 x1 x2 x3 x4, a0 x0 x1 x2 x3 x4 ∧ a1 x0 x1 x2 x3 x4 ∧ a2 x0 x1 x2 x3 x4 ∧ a3 x0 x1 x2 x3 x4 ∧ a4 x0 x1 x2 x3 x4 ∧ a5 x0 x1 x2 x3 x4 ∧ a6 x0 x1 x2 x3 x4 ∧ a7 x0 x1 x2 x3 x4 ∧ a8 x0 x1 x2 x3 x4) (k : ∀ x0 x1 x2 x3 x4, a0 x0 x1 x2 x3 x4 → a1 x0 x1 x2 x3 x4 → a2 x0 x1 x2 x3 x4 → a3 x0 x1 x2 x3 x4 → a4 x0 x1 x2 x3 x4 → a5 x0 x1 x2 x3 x4 → a6 x0 x1 x2 x3 x4 → a7 x0 x1 x2 x3 x4 → a8 x0 x1 x2 x3 x4 → P) : P := by obtain ⟨x0, x1, x2, x3, x4, h⟩ := h; exact k x0 x1 x2 x3 x4 h.1 h.2.1 h.2.2.1 h.2.2.2.1 h.2.2.2.2.1 h.2.2.2.2.2.1 h.2.2.2.2.2.2.1 h.2.2.2.2.2.2.2.1 h.2.2.2.2.2.2.2.2
theorem ex6and12 {t0 : Sort _} {t1 : Sort _} {t2 : Sort _} {t3 : Sort _} {t4 : Sort _} {t5 : Sort _} {a0 a1 a2 a3 a4 a5 a6 a7 a8 a9 a10 a11 : t0 → t1 → t2 → t3 → t4 → t5 → Prop} {P : Prop} (h : ∃ x0 x1 x2 x3 x4 x5, a0 x0 x1 x2 x3 x4 x5 ∧ a1 x0 x1 x2 x3 x4 x5 ∧ a2 x0 x1 x2 x3 x4 x5 ∧ a3 x0 x1 x2 x3 x4 x5 ∧ a4 x0 x1 x2 x3 x4 x5 ∧ a5 x0 x1 x2 x3 x4 x5 ∧ a6 x0 x1 x2 x3 x4 x5 ∧ a7 x0 x1 x2 x3 x4 x5 ∧ a8 x0 x1 x2 x3 x4 x5 ∧ a9 x0 x1 x2 x3 x4 x5 ∧ a10 x0 x1 x2 x3 x4 x5 ∧ a11 x0 x1 x2 x3 x4 x5) (k : ∀ x0 x1 x2 x3 x4 x5, a0 x0 x1 x2 x3 x4 x5 → a1 x0 x1 x2 x3 x4 x5 → a2 x0 x1 x2 x3 x4 x5 → a3 x0 x1 x2 x3 x4 x5 → a4 x0 x1 x2 x3 x4 x5 → a5 x0 x1 x2 x3 x4 x5 → a6 x0 x1 x2 x3 x4 x5 → a7 x0 x1 x2 x3 x4 x5 → a8 x0 x1 x2 x3 x4 x5 → a9 x0 x1 x2 x3 x4 x5 → a10 x0 x1 x2 x3 x4 x5 → a11 x0 x1 x2 x3 x4 x5 → P) : P := by obtain ⟨x0, x1, x2, x3, x4, x5, h⟩ := h; exact k x0 x1 x2 x3 x4 x5 h.1 h.2.1 h.2.2.1 h.2.2.2.1 h.2.2.2.2.1 h.2.2.2.2.2.1 h.2.2.2.2.2.2.1 h.2.2.2.2.2.2.2.1 h.2.2.2.2.2.2.2.2.1 h.2.2.2.2.2.2.2.2.2.1 h.2.2.2.2.2.2.2.2.2.2.1 h.2.2.2.2.2.2.2.2.2.2.2
theorem ex8and5 {t0 : Sort _} {t1 : Sort _} {t2 : Sort _} {t3 : Sort _} {t4 : Sort _} {t5 : Sort _} {t6 : Sort _} {t7 : Sort _} {a0 a1 a2 a3 a4 : t0 → t1 → t2 → t3 → t4 → t5 → t6 → t7 → Prop} {P : Prop} (h : ∃ x0 x1 x2 x3 x4 x5 x6 x7, a0 x0 x1 x2 x3 x4 x5 x6 x7 ∧ a1 x0 x1 x2 x3 x4 x5 x6 x7 ∧ a2 x0 x1 x2 x3 x4 x5 x6 x7 ∧ a3 x0 x1 x2 x3 x4 x5 x6 x7 ∧ a4 x0 x1 x2 x3 x4 x5 x6 x7) (k : ∀ x0 x1 x2 x3 x4 x5 x6 x7, a0 x0 x1 x2 x3 x4 x5 x6 x7 → a1 x0 x1 x2 x3 x4 x5 x6 x7 → a2 x0 x1 x2 x3 x4 x5 x6 x7 → a3 x0 x1 x2 x3 x4 x5 x6 x7 → a4 x0 x1 x2 x3 x4 x5 x6 x7 → P) : P := by obtain ⟨x0, x1, x2, x3, x4, x5, x6, x7, h⟩ := h; exact k x0 x1 x2 x3 x4 x5 x6 x7 h.1 h.2.1 h.2.2.1 h.2.2.2.1 h.2.2.2.2
theorem ex17and4 {t0 : Sort _} {t1 : Sort _} {t2 : Sort _} {t3 : Sort _} {t4 : Sort _} {t5 : Sort _} {t6 : Sort _} {t7 : Sort _} {t8 : Sort _} {t9 : Sort _} {t10 : Sort _} {t11 : Sort _} {t12 : Sort _} {t13 : Sort _} {t14 : Sort _} {t15 : Sort _} {t16 : Sort _} {a0 a1 a2 a3 : t0 → t1 → t2 → t3 → t4 → t5 → t6 → t7 → t8 → t9 → t10 → t11 → t12 → t13 → t14 → t15 → t16 → Prop} {P : Prop} (h : ∃ x0 x1 x2 x3 x4 x5 x6 x7 x8 x9 x10 x11 x12 x13 x14 x15 x16, a0 x0 x1 x2 x3 x4 x5 x6 x7 x8 x9 x10 x11 x12 x13 x14 x15 x16 ∧ a1 x0 x1 x2 x3 x4 x5 x6 x7 x8 x9 x10 x11 x12 x13 x14 x15 x16 ∧ a2 x0 x1 x2 x3 x4 x5 x6 x7 x8 x9 x10 x11 x12 x13 x14 x15 x16 ∧ a3 x0 x1 x2 x3 x4 x5 x6 x7 x8 x9 x10 x11 x12 x13 x14 x15 x16) (k : ∀ x0 x1 x2 x3 x4 x5 x6 x7 x8 x9 x10 x11 x12 x13 x14 x15 x16, a0 x0 x1 x2 x3 x4 x5 x6 x7 x8 x9 x10 x11 x12 x13 x14 x15 x16 → a1 x0 x1 x2 x3 x4 x5 x6 x7 x8 x9 x10 x11 x12 x13 x14 x15 x16 → a2 x0 x1 x2 x3 x4 x5 x6 x7 x8 x9 x10 x11 x12 x13 x14 x15 x16 → a3 x0 x1 x2 x3 x4 x5 x6 x7 x8 x9 x10 x11 x12 x13 x14 x15 x16 → P) : P := by obtain ⟨x0, x1, x2, x3, x4, x5, x6, x7, x8, x9, x10, x11, x12, x13, x14, x15, x16, h⟩ := h; exact k x0 x1 x2 x3 x4 x5 x6 x7 x8 x9 x10 x11 x12 x13 x14 x15 x16 h.1 h.2.1 h.2.2.1 h.2.2.2
theorem ex4and2 {t0 : Sort _} {t1 : Sort _} {t2 : Sort _} {t3 : Sort _} {a0 a1 : t0 → t1 → t2 → t3 → Prop} {P : Prop} (h : ∃ x0 x1 x2 x3, a0 x0 x1 x2 x3 ∧ a1 x0 x1 x2 x3) (k : ∀ x0 x1 x2 x3, a0 x0 x1 x2 x3 → a1 x0 x1 x2 x3 → P) : P := by obtain ⟨x0, x1, x2, x3, h⟩ := h; exact k x0 x1 x2 x3 h.1 h.2
theorem ex5and2 {t0 : Sort _} {t1 : Sort _} {t2 : Sort _} {t3 : Sort _} {t4 : Sort _} {a0 a1 : t0 → t1 → t2 → t3 → t4 → Prop} {P : Prop} (h : ∃ x0 x1 x2 x3 x4, a0 x0 x1 x2 x3 x4 ∧ a1 x0 x1 x2 x3 x4) (k : ∀ x0 x1 x2 x3 x4, a0 x0 x1 x2 x3 x4 → a1 x0 x1 x2 x3 x4 → P) : P := by obtain ⟨x0, x1, x2, x3, x4, h⟩ := h; exact k x0 x1 x2 x3 x4 h.1 h.2
theorem ex6and8 {t0 : Sort _} {t1 : Sort _} {t2 : Sort _} {t3 : Sort _} {t4 : Sort _} {t5 : Sort _} {a0 a1 a2 a3 a4 a5 a6 a7 : t0 → t1 → t2 → t3 → t4 → t5 → Prop} {P : Prop} (h : ∃ x0 x1 x2 x3 x4 x5, a0 x0 x1 x2 x3 x4 x5 ∧ a1 x0 x1 x2 x3 x4 x5 ∧ a2 x0 x1 x2 x3 x4 x5 ∧ a3 x0 x1 x2 x3 x4 x5 ∧ a4 x0 x1 x2 x3 x4 x5 ∧ a5 x0 x1 x2 x3 x4 x5 ∧ a6 x0 x1 x2 x3 x4 x5 ∧ a7 x0 x1 x2 x3 x4 x5) (k : ∀ x0 x1 x2 x3 x4 x5, a0 x0 x1 x2 x3 x4 x5 → a1 x0 x1 x2 x3 x4 x5 → a2 x0 x1 x2 x3 x4 x5 → a3 x0 x1 x2 x3 x4 x5 → a4 x0 x1 x2 x3 x4 x5 → a5 x0 x1 x2 x3 x4 x5 → a6 x0 x1 x2 x3 x4 x5 → a7 x0 x1 x2 x3 x4 x5 → P) : P := by obtain ⟨x0, x1, x2, x3, x4, x5, h⟩ := h; exact k x0 x1 x2 x3 x4 x5 h.1 h.2.1 h.2.2.1 h.2.2.2.1 h.2.2.2.2.1 h.2.2.2.2.2.1 h.2.2.2.2.2.2.1 h.2.2.2.2.2.2.2
end Mine
end
section
set_option maxRecDepth 100000
namespace Mine
theorem leT {a b c : Nat} (h : a ≤ b) (q : Nat.ble b c = true) : a ≤ c := Nat.le_trans h (Nat.le_of_ble_eq_true q)
theorem ltT {a b c : Nat} (h : a ≤ b) (q : Nat.blt b c = true) : a < c := Nat.lt_of_le_of_lt h (Nat.le_of_ble_eq_true q)
theorem om1 {K N A B L i G : Nat} (h : K + A ≤ N) (hl : i < L) (e1 : A = L - i + 1 + G) (e2 : B = L - (i + 1) + 1 + G) : K + B < N := by omega
theorem om2 {K' K N L A F : Nat} (e : N = K + F) (h : K' + (L + 2) ≤ K) (e2 : A = L - 0 + 1 + F) : K' + A ≤ N := by omega
theorem om3 {K N A B L i : Nat} (h : K + A ≤ N) (e : A = L - i + 1 + B) : K + B ≤ N := by omega
theorem om4 {i L : Nat} (h : i < L) : L - (i + 1) < L - i := by omega
theorem maxmin (i n : Nat) : max (0 : Int) (min (i : Int) (n : Int)) = ((min i n : Nat) : Int) := by omega
theorem toNatSub {a b : Nat} : (((b : Int) - a + 1 - 1) / 1).toNat = b - a := by rw [Int.ediv_one, Int.add_sub_cancel]; exact Int.toNat_sub b a
theorem unitsIn {u n d e : Nat} (h : u + 10 * (n + 1) < 5000) (hd : d ≤ 100) : u + 3 + 1 + min d e < 9900 := by omega
theorem om13 {a j n : Nat} (h : a ≤ min j n) (hn : n ≤ 50000) : a + (n - j) ≤ 100000 := by omega
theorem exi2 {t0 : Sort _} {t1 : Sort _} {a : t0 → t1 → Prop} (w0 : t0) (w1 : t1) (h : a w0 w1) : ∃ x0 x1, a x0 x1 := ⟨w0, w1, h⟩
theorem exi3 {t0 : Sort _} {t1 : Sort _} {t2 : Sort _} {a : t0 → t1 → t2 → Prop} (w0 : t0) (w1 : t1) (w2 : t2) (h : a w0 w1 w2) : ∃ x0 x1 x2, a x0 x1 x2 := ⟨w0, w1, w2, h⟩
theorem exi4 {t0 : Sort _} {t1 : Sort _} {t2 : Sort _} {t3 : Sort _} {a : t0 → t1 → t2 → t3 → Prop} (w0 : t0) (w1 : t1) (w2 : t2) (w3 : t3) (h : a w0 w1 w2 w3) : ∃ x0 x1 x2 x3, a x0 x1 x2 x3 := ⟨w0, w1, w2, w3, h⟩
theorem exi5 {t0 : Sort _} {t1 : Sort _} {t2 : Sort _} {t3 : Sort _} {t4 : Sort _} {a : t0 → t1 → t2 → t3 → t4 → Prop} (w0 : t0) (w1 : t1) (w2 : t2) (w3 : t3) (w4 : t4) (h : a w0 w1 w2 w3 w4) : ∃ x0 x1 x2 x3 x4, a x0 x1 x2 x3 x4 := ⟨w0, w1, w2, w3, w4, h⟩
theorem exi6 {t0 : Sort _} {t1 : Sort _} {t2 : Sort _} {t3 : Sort _} {t4 : Sort _} {t5 : Sort _} {a : t0 → t1 → t2 → t3 → t4 → t5 → Prop} (w0 : t0) (w1 : t1) (w2 : t2) (w3 : t3) (w4 : t4) (w5 : t5) (h : a w0 w1 w2 w3 w4 w5) : ∃ x0 x1 x2 x3 x4 x5, a x0 x1 x2 x3 x4 x5 := ⟨w0, w1, w2, w3, w4, w5, h⟩
end Mine
end
section
set_option maxRecDepth 100000
set_option Elab.async false
namespace Mine
open PySem PySem.W PySem.Calls PyProof.Rows
noncomputable def er : Value → Value
  | .int i _ => .int i 0
  | .float b _ => .float b 0
  | .str s _ => .str s 0
  | .bytes b _ => .bytes b 0
  | v => v
theorem er_int {v : Value} {i : Int} (h : er v = .int i 0) : ∃ t, v = .int i t := by
  cases v <;> simp [er] at h
  subst h; exact ⟨_, rfl⟩
theorem er_str {v : Value} {x : Str} (h : er v = .str x 0) : ∃ t, v = .str x t := by
  cases v <;> simp [er] at h
  subst h; exact ⟨_, rfl⟩
theorem er_bool {v : Value} {b : Bool} (h : er v = .bool b) : v = .bool b := by
  cases v <;> simp [er] at h
  subst h; rfl
theorem er_none {v : Value} (h : er v = .none) : v = .none := by
  cases v <;> simp [er] at h
  rfl
theorem er_ref {v : Value} {a : Addr} (h : er v = .ref a) : v = .ref a := by
  cases v <;> simp [er] at h
  subst h; rfl
theorem er_type {v : Value} {a : String} (h : er v = .type a) : v = .type a := by
  cases v <;> simp [er] at h
  subst h; rfl
theorem er_builtin {v : Value} {a : String} (h : er v = .builtin a) : v = .builtin a := by
  cases v <;> simp [er] at h
  subst h; rfl
inductive AO
  | list (xs : List Value)
  | tup (xs : List Value)
  | dict (es : List (Value × Value)) (n : Nat)
  | iset (ks : List Int)
  | sset (ks : List Str)
  | inst (C d : Addr)
  | ns (es : List (Str × Value))
  | slots (C d : Addr) (vs : List (Option Value))
  | iter (l : Addr) (i : Nat)
  | titer (l : Addr) (i : Nat)
  | meth (f self : Value)
  | bm (cls : String) (fn self : Value)
  | rng (a b : Int)
  | vals (d : Addr)
  | exc (cls : Value) (ta : Addr)
  | args (xs : List Value)
  | pin (o : Obj)
section
variable (prog : Program) (w : World)
noncomputable def KDict (des : Array DictEntry) (es : List (Value × Value)) : Prop :=
  (∃ kvs : List (Int × Value), KeysOf (intKind prog w) des ∧ Pairs (intKind prog w) des.toList kvs ∧ (kvs.map (·.1)).Nodup ∧ es = kvs.map fun p => (.int p.1 0, er p.2)) ∨
  (∃ kvs : List (Str × Value), KeysOf (strKind prog w) des ∧ Pairs (strKind prog w) des.toList kvs ∧ (kvs.map (·.1)).Nodup ∧ es = kvs.map fun p => (.str p.1 0, er p.2))
noncomputable def NsE : List DictEntry → List (Str × Value) → Prop
  | [], [] => True
  | e :: r, p :: q => (∃ t, e.key = .str p.1 t) ∧ er e.val = p.2 ∧ NsE r q
  | _, _ => False
noncomputable def RepO : AO → Obj → Prop
  | .list xs, o => o.cls = .type "list" ∧ o.dict = none ∧ o.slots = #[] ∧ ∃ items n, o.data = .seq items n ∧ items.toList.map er = xs
  | .tup xs, o => o.cls = .type "tuple" ∧ o.dict = none ∧ o.slots = #[] ∧ ∃ items n, o.data = .seq items n ∧ items.toList.map er = xs
  | .dict es n, o => o.ExactDict ∧ ∃ des, o.data = .dict des n ∧ KDict prog w des es
  | .iset ks, o => ∃ S, o.SetObjOf (intKind prog w) S ks.length ∧ ∀ k, S k = decide (k ∈ ks)
  | .sset ks, o => ∃ S, o.SetObjOf (strKind prog w) S ks.length ∧ ∀ k, S k = decide (k ∈ ks)
  | .inst C d, o => o = instObj C d
  | .ns es, o => ∃ des n, o = dictOf des n ∧ NsE des es
  | .slots C d vs, o => o.cls = .ref C ∧ o.dict = some d ∧ o.data = .plain ∧ o.slots.toList.map (Option.map er) = vs
  | .iter l i, o => o = { cls := .type "list_iterator", dict := none, data := .fields #[.ref l, .int i 0], slots := #[] }
  | .titer l i, o => o = { cls := .type "tuple_iterator", dict := none, data := .fields #[.ref l, .int i 0], slots := #[] }
  | .meth f self, o => o = methodObj f self
  | .bm cls fn self, o => o.cls = .type cls ∧ ∃ s', o.data = .fields #[fn, s'] ∧ er s' = self
  | .rng a b, o => ∃ t u v, o = { cls := .type "range", dict := none, data := .fields #[.int a t, .int b u, .int 1 v], slots := #[] }
  | .exc cls ta, o => o.cls = cls ∧ ∃ vs, o.data = .fields vs ∧ vs[0]? = some (.ref ta)
  | .args xs, o => o.cls = .type "tuple" ∧ ∃ items n, o.data = .seq items n ∧ items.toList.map er = xs
  | .vals d, o => o.cls = .type "dict_values" ∧ o.data = .fields #[.ref d]
  | .pin p, o => o = p
noncomputable abbrev AHeap := Addr → Option AO
noncomputable def upd (H : AHeap) (a : Addr) (o : AO) : AHeap := fun b => if b = a then some o else H b
noncomputable def KeepAt (fr : List Addr) (o : Obj) (h : Heap) (b : Addr) : Prop := ∃ sl, h.get? b = some { o with slots := sl } ∧ (b ∉ fr → sl = o.slots)
noncomputable def frAddrs (l : List Env) : List Addr := l.filterMap (·.frame)
structure Fc where
  A : Around
  base : Heap
  stk : List Env
  os : OsState
structure HRel (F : Fc) (H : AHeap) (s : Shared) : Prop where
  stays : F.base.StaysIn s.heap
  cells : ∀ a o, H a = some o → ∃ o', s.heap.get? a = some o' ∧ RepO prog w o o'
  notBase : ∀ a, H a ≠ none → F.base.get? a = none
  frames : s.heap.FunFrames F.base F.stk
  frCls : ∀ env ∈ F.stk, ∀ L, env.frame = some L → H L = none ∧ ∃ o es n, s.heap.get? L = some o ∧ o.data = .dict es n
  gens : s.gens = #[]
  os : s.os = F.os
structure After (fr own : List Addr) (H : AHeap) (s : Shared) (H' : AHeap) (s' : Shared) : Prop where
  keep : ∀ b o, s.heap.get? b = some o → H b = none → b ∉ own → KeepAt fr o s'.heap b
  alive : ∀ b, s.heap.get? b ≠ none → s'.heap.get? b ≠ none
  dom : ∀ b, H' b ≠ none → H b ≠ none ∨ s.heap.get? b = none
end
theorem KeepAt.refl {fr : List Addr} {o : Obj} {h : Heap} {b : Addr} (e : h.get? b = some o) : KeepAt fr o h b := ⟨o.slots, e, fun _ => rfl⟩
theorem After.refl (fr own : List Addr) (H : AHeap) (s : Shared) : After fr own H s H s :=
  ⟨fun _ _ e _ _ => .refl e, fun _ e => e, fun _ e => .inl e⟩
theorem After.trans {fr own : List Addr} {H H₁ H₂ : AHeap} {s s₁ s₂ : Shared} (x : After fr own H s H₁ s₁) (y : After fr own H₁ s₁ H₂ s₂) : After fr own H s H₂ s₂ where
  keep b o e hn ho := by
    obtain ⟨sl, e1, c1⟩ := x.keep b o e hn ho
    have hn1 : H₁ b = none := by
      cases q : H₁ b with
      | none => rfl
      | some z =>
        rcases x.dom b (by rw [q]; exact nofun) with h | h
        · exact absurd hn h
        · rw [e] at h; cases h
    obtain ⟨sl2, e2, c2⟩ := y.keep b _ e1 hn1 ho
    exact ⟨sl2, e2, fun hc => (c2 hc).trans (c1 hc)⟩
  alive b e := y.alive b (x.alive b e)
  dom b e := by
    rcases y.dom b e with h | h
    · exact x.dom b h
    · refine .inr ?_
      cases q : s.heap.get? b with
      | none => rfl
      | some z => exact absurd h (x.alive b (by rw [q]; exact nofun))
theorem After.forget {fr own : List Addr} {H H₁ H₂ : AHeap} {s s₁ : Shared} (x : After fr own H s H₁ s₁) (h : ∀ a o, H₂ a = some o → H₁ a = some o) : After fr own H s H₂ s₁ where
  keep := x.keep
  alive := x.alive
  dom b e := x.dom b (by
    cases q : H₂ b with
    | none => exact absurd q e
    | some z => rw [h b z q]; exact nofun)
theorem funFrames_of_data {h h' base : Heap} (k : ∀ b o, h.get? b = some o → (∀ vs, o.data ≠ .fields vs) → ∃ o', h'.get? b = some o' ∧ ∀ vs, o'.data ≠ .fields vs) {l : List Env}
    (hl : h.FunFrames base l) : h'.FunFrames base l := by
  induction l with
  | nil => trivial
  | cons env rest ih =>
    obtain ⟨hk, ⟨L, o, hf, hn, ho, hd⟩, hr⟩ := hl
    obtain ⟨o', ho', hd'⟩ := k L o ho hd
    exact ⟨hk, ⟨L, o', hf, hn, ho', hd'⟩, ih hr⟩
section
variable {prog : Program} {w : World} {F : Fc} {H H' : AHeap} {s s' : Shared}
theorem HRel.forget (R : HRel prog w F H s) (h : ∀ a o, H' a = some o → H a = some o) : HRel prog w F H' s where
  stays := R.stays
  cells a o e := R.cells a o (h a o e)
  notBase a e := R.notBase a (by
    cases q : H' a with
    | none => exact absurd q e
    | some z => rw [h a z q]; exact nofun)
  frames := R.frames
  frCls env he L hL := by
    obtain ⟨h1, h2⟩ := R.frCls env he L hL
    refine ⟨?_, h2⟩
    cases q : H' L with
    | none => rfl
    | some z => rw [h L z q] at h1; cases h1
  gens := R.gens
  os := R.os
theorem HRel.fresh (R : HRel prog w F H s) : H s.heap.objs.size = none := by
  cases q : H s.heap.objs.size with
  | none => rfl
  | some o =>
    obtain ⟨o', e, _⟩ := R.cells _ _ q
    exact absurd (Heap.lt_size e) (Nat.lt_irrefl _)
theorem HRel.none_of (R : HRel prog w F H s) {a : Addr} (e : s.heap.get? a = none) : H a = none := by
  cases q : H a with
  | none => rfl
  | some o =>
    obtain ⟨o', e', _⟩ := R.cells _ _ q
    rw [e] at e'; cases e'
theorem HRel.grow (R : HRel prog w F H s) (hk : ∀ b o, s.heap.get? b = some o → s'.heap.get? b = some o) (hg : s'.gens = s.gens) (ho : s'.os = s.os) : HRel prog w F H s' where
  stays b o e := hk b o (R.stays b o e)
  cells a o e := let ⟨o', e', r⟩ := R.cells a o e; ⟨o', hk _ _ e', r⟩
  notBase := R.notBase
  frames := R.frames.of_keeps fun b o e _ => ⟨o, hk b o e, rfl⟩
  frCls env he L hL := let ⟨h1, o, es, n, h2, h3⟩ := R.frCls env he L hL; ⟨h1, o, es, n, hk _ _ h2, h3⟩
  gens := hg.trans R.gens
  os := ho.trans R.os
theorem After.grow (fr own : List Addr) (hk : ∀ b o, s.heap.get? b = some o → s'.heap.get? b = some o) : After fr own H s H s' where
  keep b o e _ _ := .refl (hk b o e)
  alive b e := by
    cases q : s.heap.get? b with
    | none => exact absurd q e
    | some o => rw [hk b o q]; exact nofun
  dom _ e := .inl e
theorem HRel.new (R : HRel prog w F H s) (hk : ∀ b o, s.heap.get? b = some o → s'.heap.get? b = some o) (hg : s'.gens = s.gens) (ho : s'.os = s.os)
    {a : Addr} {o : AO} {o' : Obj} (hn : s.heap.get? a = none) (e : s'.heap.get? a = some o') (r : RepO prog w o o') : HRel prog w F (upd H a o) s' where
  stays b o e := hk b o (R.stays b o e)
  cells b ob eb := by
    unfold upd at eb
    by_cases h : b = a
    · subst h; rw [if_pos rfl] at eb; cases eb; exact ⟨o', e, r⟩
    · rw [if_neg h] at eb; obtain ⟨x, e', q⟩ := R.cells b ob eb; exact ⟨x, hk _ _ e', q⟩
  notBase b eb := by
    by_cases h : b = a
    · subst h
      cases q : F.base.get? b with
      | none => rfl
      | some z => rw [R.stays b z q] at hn; cases hn
    · exact R.notBase b (by unfold upd at eb; rwa [if_neg h] at eb)
  frames := R.frames.of_keeps fun b o e _ => ⟨o, hk b o e, rfl⟩
  frCls env he L hL := by
    refine ex0and2 (R.frCls env he L hL) fun h1 y1_ => ?_; obtain ⟨ol, es, n, h2, h3⟩ := y1_
    refine ⟨?_, ol, es, n, hk _ _ h2, h3⟩
    unfold upd
    rw [if_neg]; exact h1
    rintro rfl; rw [hn] at h2; cases h2
  gens := hg.trans R.gens
  os := ho.trans R.os
theorem After.new (fr own : List Addr) (hk : ∀ b o, s.heap.get? b = some o → s'.heap.get? b = some o) {a : Addr} {o : AO} (hn : s.heap.get? a = none) : After fr own H s (upd H a o) s' where
  keep b o e _ _ := .refl (hk b o e)
  alive b e := by
    cases q : s.heap.get? b with
    | none => exact absurd q e
    | some o => rw [hk b o q]; exact nofun
  dom b e := by
    unfold upd at e
    by_cases h : b = a
    · exact .inr (h ▸ hn)
    · rw [if_neg h] at e; exact .inl e
theorem HRel.set (R : HRel prog w F H s) {a : Addr} {o : AO} {o' : Obj} (ha : H a ≠ none) (hk : ∀ b ob, b ≠ a → s.heap.get? b = some ob → s'.heap.get? b = some ob) (hg : s'.gens = s.gens) (ho : s'.os = s.os)
    (e : s'.heap.get? a = some o') (r : RepO prog w o o') : HRel prog w F (upd H a o) s' where
  stays b ob eb := hk b ob (fun q => by subst q; rw [R.notBase b ha] at eb; cases eb) (R.stays b ob eb)
  cells b ob eb := by
    unfold upd at eb
    by_cases h : b = a
    · subst h; rw [if_pos rfl] at eb; cases eb; exact ⟨o', e, r⟩
    · rw [if_neg h] at eb; obtain ⟨x, e', q⟩ := R.cells b ob eb; exact ⟨x, hk _ _ h e', q⟩
  notBase b eb := by
    by_cases h : b = a
    · subst h; exact R.notBase b ha
    · exact R.notBase b (by unfold upd at eb; rwa [if_neg h] at eb)
  frames := by
    have hf := R.frames
    have hc := R.frCls
    clear R
    revert hf hc
    generalize F.stk = l
    induction l with
    | nil => intros; trivial
    | cons env rest ih =>
      rintro ⟨h1, ⟨L, ol, h2, h3, h4, h5⟩, h6⟩ hc
      refine ⟨h1, ⟨L, ol, h2, h3, hk L ol ?_ h4, h5⟩, ih h6 fun x hx => hc x (List.mem_cons_of_mem _ hx)⟩
      rintro rfl
      exact ha (hc env List.mem_cons_self L h2).1
  frCls env he L hL := by
    refine ex0and2 (R.frCls env he L hL) fun h1 y1_ => ?_; obtain ⟨ol, es, n, h2, h3⟩ := y1_
    have hne : L ≠ a := by rintro rfl; exact ha h1
    refine ⟨?_, ol, es, n, hk _ _ hne h2, h3⟩
    unfold upd
    rw [if_neg hne]; exact h1
  gens := hg.trans R.gens
  os := ho.trans R.os
theorem After.set (fr own : List Addr) {a : Addr} {o : AO} {o' : Obj} (ha : H a ≠ none) (hk : ∀ b ob, b ≠ a → s.heap.get? b = some ob → s'.heap.get? b = some ob) (e : s'.heap.get? a = some o') : After fr own H s (upd H a o) s' where
  keep b ob eb hn _ := .refl (hk b ob (fun q => by subst q; exact ha hn) eb)
  alive b eb := by
    by_cases h : b = a
    · subst h; rw [e]; exact nofun
    · cases q : s.heap.get? b with
      | none => exact absurd q eb
      | some ob => rw [hk b ob h q]; exact nofun
  dom b eb := by
    unfold upd at eb
    by_cases h : b = a
    · exact .inl (h ▸ ha)
    · rw [if_neg h] at eb; exact .inl eb
end
section
variable {prog : Program} {w : World} {F : Fc} {H H' : AHeap} {s s' : Shared}
theorem HRel.priv (R : HRel prog w F H s) {a : Addr} (ha : H a = none) (hb : F.base.get? a = none) (hk : ∀ b, b ≠ a → s'.heap.get? b = s.heap.get? b) (hg : s'.gens = s.gens) (ho : s'.os = s.os)
    {o' : Obj} (e : s'.heap.get? a = some o') (hd : ∀ vs, o'.data ≠ .fields vs) (hd2 : (∃ o es n, s.heap.get? a = some o ∧ o.data = .dict es n) → ∃ es n, o'.data = .dict es n) : HRel prog w F H s' where
  stays b ob eb := by
    have : b ≠ a := by rintro rfl; rw [hb] at eb; cases eb
    rw [hk b this]; exact R.stays b ob eb
  cells b ob eb := by
    have : b ≠ a := by rintro rfl; rw [ha] at eb; cases eb
    rw [hk b this]; exact R.cells b ob eb
  notBase := R.notBase
  frames := by
    refine funFrames_of_data (h := s.heap) (hl := R.frames) fun b o eb hnf => ?_
    by_cases h : b = a
    · subst h; exact ⟨o', e, hd⟩
    · exact ⟨o, (hk b h).trans eb, hnf⟩
  frCls env he L hL := by
    refine ex0and2 (R.frCls env he L hL) fun h1 y1_ => ?_; obtain ⟨ol, es, n, h2, h3⟩ := y1_
    refine ⟨h1, ?_⟩
    by_cases h : L = a
    · subst h
      obtain ⟨es', n', q⟩ := hd2 ⟨ol, es, n, h2, h3⟩
      exact ⟨o', es', n', e, q⟩
    · exact ⟨ol, es, n, (hk L h).trans h2, h3⟩
  gens := hg.trans R.gens
  os := ho.trans R.os
theorem After.priv {fr own : List Addr} {a : Addr} (ha : a ∈ own) (hk : ∀ b, b ≠ a → s'.heap.get? b = s.heap.get? b) {o' : Obj} (e : s'.heap.get? a = some o') : After fr own H s H s' where
  keep b ob eb _ hn := .refl ((hk b fun q => hn (q ▸ ha)).trans eb)
  alive b eb := by
    by_cases h : b = a
    · subst h; rw [e]; exact nofun
    · rw [hk b h]; exact eb
  dom _ e := .inl e
end
end Mine
end
section
set_option maxRecDepth 100000
set_option Elab.async false
namespace Mine
open PySem PySem.W PySem.Calls PyProof.Rows
class Er (α : Type) where
  e : α → α
noncomputable instance : Er Value := ⟨er⟩
noncomputable instance : Er Unit := ⟨id⟩
noncomputable instance : Er Bool := ⟨id⟩
noncomputable instance : Er Flow := ⟨fun | .ret v => .ret (er v) | f => f⟩
noncomputable instance {α : Type} [Er α] : Er (List α) := ⟨List.map Er.e⟩
noncomputable instance {α : Type} [Er α] : Er (Option α) := ⟨Option.map Er.e⟩
noncomputable instance {α β : Type} [Er α] [Er β] : Er (α × β) := ⟨fun p => (Er.e p.1, Er.e p.2)⟩
structure Fx extends Fc where
  env : Env
  own : List Addr
structure St where
  vars : List (Str × Value)
  H : AHeap
structure VRel (F : Fx) (st : St) (s : Shared) : Prop where
  loc : ∃ m, s.heap.Ns F.env.locals m ∧ ∀ x v, st.vars.lookup x = some v → F.env.kindOf x = some .local → ∃ w, m x = some w ∧ er w = v
  cel : ∀ x v, st.vars.lookup x = some v → F.env.kindOf x = some .cell → ∃ c w, F.env.cells.lookup x = some c ∧ s.heap.IsCell c (some w) ∧ er w = v
  locH : st.H F.env.locals = none
  locB : F.base.get? F.env.locals = none
  celO : ∀ x c, F.env.cells.lookup x = some c → st.H c = none ∧ c ≠ F.env.locals ∧ F.base.get? c = none ∧ ∃ v, s.heap.IsCell c v
  inj : ∀ x y c, F.env.cells.lookup x = some c → F.env.cells.lookup y = some c → x = y
  ownA : ∀ a ∈ F.own, st.H a = none ∧ ∃ o, s.heap.get? a = some o ∧ ∀ vs, o.data ≠ .fields vs
noncomputable def Rel (prog : Program) (w : World) (F : Fx) (st : St) (s : Shared) : Prop := HRel prog w F.toFc st.H s ∧ VRel F st s
noncomputable def ExcAt (base h₀ : Heap) (H : AHeap) (h : Heap) (ea : Addr) (cls : Value) (args : List Value) (fl : Option Value) : Prop :=
  ∃ oe vs ta items, h.get? ea = some oe ∧ oe.cls = cls ∧ oe.data = .fields vs ∧ vs[0]? = some (.ref ta) ∧ IsTup h ta items ∧ items.toList.map er = args ∧
    H ea = none ∧ (h₀.get? ea = none ∧ base.get? ea = none) ∧ (H ta = none ∧ h₀.get? ta = none ∧ base.get? ta = none) ∧
    ((vs[1]? = some .none ∧ fl = none) ∨ ∃ T oT ts f, vs[1]? = some (.ref T) ∧ h.get? T = some oT ∧ oT.data = .fields ts ∧ ts[3]? = some f ∧ T ≠ ea ∧ H T = none ∧ (h₀.get? T = none ∧ base.get? T = none) ∧ fl = some f)
noncomputable def okFl (L : Addr) : Option Value → Prop
  | none => True
  | some f => f = .none ∨ f = rawInt L
noncomputable def XPost (prog : Program) (w : World) (F : Fx) (X : Value → List Value → St → Prop) (H₀ : AHeap) (s₀ : Shared) (e : Value) (s' : Shared) : Prop :=
  ∃ st' ea cls args fl, e = .ref ea ∧ ExcAt F.base s₀.heap st'.H s'.heap ea cls args fl ∧ (∀ L, F.env.frame = some L → okFl L fl) ∧ Rel prog w F st' s' ∧ After (frAddrs F.stk) F.own H₀ s₀ st'.H s' ∧ X cls args st'
noncomputable def T (prog : Program) (w : World) (F : Fx) {α : Type} [Er α] (t : Sem α) (Q : α → St → Prop) (X : Value → List Value → St → Prop) (st : St) : Prop :=
  ∀ s, Rel prog w F st s → wpAny (model prog w) F.A t (fun v s' => ∃ st', Rel prog w F st' s' ∧ After (frAddrs F.stk) F.own st.H s st'.H s' ∧ Q (Er.e v) st') (XPost prog w F X st.H s) s
section
variable {prog : Program} {w : World} {F : Fx} {α β : Type} [Er α] [Er β] {st st' : St} {s s₀ : Shared} {H₀ : AHeap} {X : Value → List Value → St → Prop}
theorem ExcAt.older {base h₀ h₁ h : Heap} {H : AHeap} {ea : Addr} {cls : Value} {args : List Value} {fl : Option Value} (x : ExcAt base h₁ H h ea cls args fl) (k : ∀ b, h₀.get? b ≠ none → h₁.get? b ≠ none) : ExcAt base h₀ H h ea cls args fl := by
  have k' : ∀ b, h₁.get? b = none → h₀.get? b = none := fun b e => by
    cases q : h₀.get? b with
    | none => rfl
    | some o => exact absurd e (k b (by rw [q]; exact nofun))
  refine ex4and10 x fun oe vs ta items h1 h2 h3 h4 h5 h6 h7 h8 h9 h10 => ?_; try clear x
  refine ⟨oe, vs, ta, items, h1, h2, h3, h4, h5, h6, h7, ⟨k' _ h8.1, h8.2⟩, ⟨h9.1, k' _ h9.2.1, h9.2.2⟩, ?_⟩
  rcases h10 with h | ⟨T, oT, ts, f, a1, a2, a3, a4, a5, a6, a7, a8⟩
  · exact .inl h
  · exact .inr ⟨T, oT, ts, f, a1, a2, a3, a4, a5, a6, ⟨k' _ a7.1, a7.2⟩, a8⟩
theorem XPost.older {H : AHeap} {e : Value} {s' : Shared} (x : XPost prog w F X H s e s') (A : After (frAddrs F.stk) F.own H₀ s₀ H s) : XPost prog w F X H₀ s₀ e s' := by
  refine ex5and6 x fun st' ea cls args fl h1 h2 h3 h4 h5 h6 => ?_; try clear x
  exact ⟨st', ea, cls, args, fl, h1, h2.older A.alive, h3, h4, A.trans h5, h6⟩
theorem T.then {t : Sem α} {Q : α → St → Prop} {Q' : α → Shared → Prop} (h : T prog w F t Q X st) (R : Rel prog w F st s) (A : After (frAddrs F.stk) F.own H₀ s₀ st.H s)
    (k : ∀ v s' st', Rel prog w F st' s' → After (frAddrs F.stk) F.own H₀ s₀ st'.H s' → Q (Er.e v) st' → Q' v s') : wpAny (model prog w) F.A t Q' (XPost prog w F X H₀ s₀) s :=
  wpAny_mono (h s R) (fun v s' ⟨st', R', A', q⟩ => k v s' st' R' (A.trans A') q) fun _ _ x => x.older A
theorem T.mono {t : Sem α} {Q Q' : α → St → Prop} {X' : Value → List Value → St → Prop} (h : T prog w F t Q X st) (hq : ∀ v st', Q v st' → Q' v st') (hx : ∀ c a st', X c a st' → X' c a st') : T prog w F t Q' X' st :=
  fun s R => wpAny_mono (h s R) (fun v _ z => by obtain ⟨st', R', A', q⟩ := z; exact ⟨st', R', A', hq _ _ q⟩) fun _ _ z => by refine ex5and6 z fun st' ea cls args fl h1 h2 h3 h4 h5 h6 => ?_; try clear z; exact ⟨st', ea, cls, args, fl, h1, h2, h3, h4, h5, hx _ _ _ h6⟩
theorem T.post {t : Sem α} {Q Q' : α → St → Prop} (h : T prog w F t Q X st) (hq : ∀ v st', Q v st' → Q' v st') : T prog w F t Q' X st := h.mono hq fun _ _ _ x => x
theorem Rel.forget (R : Rel prog w F st s) (hv : ∀ x v, st'.vars.lookup x = some v → st.vars.lookup x = some v) (hH : ∀ a o, st'.H a = some o → st.H a = some o) : Rel prog w F st' s := by
  have hn : ∀ a, st.H a = none → st'.H a = none := fun a e => by
    cases q : st'.H a with
    | none => rfl
    | some o => rw [hH a o q] at e; cases e
  obtain ⟨R1, ⟨⟨m, hm, hl⟩, hc, h3, h4, h5, h6, h7⟩⟩ := R
  exact ⟨R1.forget hH, ⟨⟨m, hm, fun x v e k => hl x v (hv x v e) k⟩, fun x v e k => hc x v (hv x v e) k, hn _ h3, h4, fun x c e => let ⟨a, b⟩ := h5 x c e; ⟨hn _ a, b⟩, h6, fun a ha => let ⟨a1, b⟩ := h7 a ha; ⟨hn _ a1, b⟩⟩⟩
theorem T.drop {t : Sem α} {Q : α → St → Prop} (h : T prog w F t (fun v st₁ => ∃ st₂, (∀ x v, st₂.vars.lookup x = some v → st₁.vars.lookup x = some v) ∧ (∀ a o, st₂.H a = some o → st₁.H a = some o) ∧ Q v st₂) X st) : T prog w F t Q X st :=
  fun s R => wpAny_mono (h s R) (fun _ _ hz => ex1and3 hz fun _ R' A' hy => ex1and3 hy fun st₂ hv hH q => ⟨st₂, R'.forget hv hH, A'.forget hH, q⟩) fun _ _ x => x
theorem T.dropVars {t : Sem α} {Q : α → St → Prop} {vs : List (Str × Value)} (hv : ∀ x v, vs.lookup x = some v → st.vars.lookup x = some v) (h : T prog w F t Q X ⟨vs, st.H⟩) : T prog w F t Q X st :=
  fun s R => h s (R.forget (st' := ⟨vs, st.H⟩) hv fun _ _ e => e)
end
section
variable {prog : Program} {w : World} {F : Fx} {st : St} {s s' s₀ : Shared} {H₀ : AHeap}
theorem Rel.grow (R : Rel prog w F st s) (hk : ∀ b o, s.heap.get? b = some o → s'.heap.get? b = some o) (hg : s'.gens = s.gens) (ho : s'.os = s.os) : Rel prog w F st s' := by
  obtain ⟨R1, ⟨⟨m, hm, hl⟩, hc, h3, h4, h5, h6, h7⟩⟩ := R
  exact ⟨R1.grow hk hg ho, ⟨⟨m, hm.keeps hk, hl⟩, fun x v e k => let ⟨c, w, a, ⟨o, b, d⟩, r⟩ := hc x v e k; ⟨c, w, a, ⟨o, hk _ _ b, d⟩, r⟩, h3, h4,
    fun x c e => let ⟨a, b, d, v, o, g, r⟩ := h5 x c e; ⟨a, b, d, v, o, hk _ _ g, r⟩, h6, fun a ha => let ⟨a1, o, e, r⟩ := h7 a ha; ⟨a1, o, hk _ _ e, r⟩⟩⟩
theorem Rel.toks (R : Rel prog w F st s) {n : Nat} : Rel prog w F st { s with toks := n } := R.grow (fun _ _ e => e) rfl rfl
theorem Rel.new (R : Rel prog w F st s) (hk : ∀ b o, s.heap.get? b = some o → s'.heap.get? b = some o) (hg : s'.gens = s.gens) (ho : s'.os = s.os)
    {a : Addr} {o : AO} {o' : Obj} (hn : s.heap.get? a = none) (e : s'.heap.get? a = some o') (r : RepO prog w o o') : Rel prog w F ⟨st.vars, upd st.H a o⟩ s' := by
  obtain ⟨R1, ⟨⟨m, hm, hl⟩, hc, h3, h4, h5, h6, h7⟩⟩ := R
  have hne : ∀ b ob, s.heap.get? b = some ob → b ≠ a := fun b ob eb q => by rw [q, hn] at eb; cases eb
  refine ⟨R1.new hk hg ho hn e r, ⟨⟨m, hm.keeps hk, hl⟩, fun x v e k => let ⟨c, w, a, ⟨o, b, d⟩, r⟩ := hc x v e k; ⟨c, w, a, ⟨o, hk _ _ b, d⟩, r⟩, ?_, h4, fun x c e => ?_, h6, fun b hb => let ⟨a1, ob, eb, r⟩ := h7 b hb; ⟨by show upd st.H a o b = none; unfold upd; rw [if_neg (hne _ _ eb)]; exact a1, ob, hk _ _ eb, r⟩⟩⟩
  · refine ex3and2 hm fun ol _ _ hol _ => ?_; try clear hm
    show upd st.H a o F.env.locals = none
    unfold upd; rw [if_neg (hne _ _ hol)]; exact h3
  · refine ex0and4 (h5 x c e) fun a1 b1 d1 y3_ => ?_; obtain ⟨v, ob, g, rr⟩ := y3_
    refine ⟨?_, b1, d1, v, ob, hk _ _ g, rr⟩
    show upd st.H a o c = none
    unfold upd; rw [if_neg (hne _ _ g)]; exact a1
theorem Rel.set (R : Rel prog w F st s) {a : Addr} {o : AO} {o' : Obj} (ha : st.H a ≠ none) (hk : ∀ b ob, b ≠ a → s.heap.get? b = some ob → s'.heap.get? b = some ob) (hg : s'.gens = s.gens) (ho : s'.os = s.os)
    (e : s'.heap.get? a = some o') (r : RepO prog w o o') : Rel prog w F ⟨st.vars, upd st.H a o⟩ s' := by
  obtain ⟨R1, ⟨⟨m, hm, hl⟩, hc, h3, h4, h5, h6, h7⟩⟩ := R
  have hL : F.env.locals ≠ a := by intro q; rw [q] at h3; exact ha h3
  have hcn : ∀ x c, F.env.cells.lookup x = some c → c ≠ a := fun x c e q => by have := (h5 x c e).1; rw [q] at this; exact ha this
  refine ⟨R1.set ha hk hg ho e r, ⟨⟨m, ?_, hl⟩, fun x v e k => let ⟨c, w, a1, ⟨o, b, d⟩, r⟩ := hc x v e k; ⟨c, w, a1, ⟨o, hk _ _ (hcn x c a1) b, d⟩, r⟩, ?_, h4, fun x c e => ?_, h6, fun b hb => ?_⟩⟩
  · refine ex3and2 hm fun ol es ep hol r => ?_; try clear hm
    exact ⟨ol, es, ep, hk _ _ hL hol, r⟩
  · show upd st.H a o F.env.locals = none
    unfold upd; rw [if_neg hL]; exact h3
  · refine ex0and4 (h5 x c e) fun a1 b1 d1 y3_ => ?_; obtain ⟨v, ob, g, rr⟩ := y3_
    refine ⟨?_, b1, d1, v, ob, hk _ _ (hcn x c e) g, rr⟩
    show upd st.H a o c = none
    unfold upd; rw [if_neg (hcn x c e)]; exact a1
  · obtain ⟨a1, ob, eb, r⟩ := h7 b hb
    have q : b ≠ a := fun q => ha (q ▸ a1)
    exact ⟨by show upd st.H a o b = none; unfold upd; rw [if_neg q]; exact a1, ob, hk _ _ q eb, r⟩
end
section
variable {prog : Program} {w : World} {F : Fx} {st : St} {s : Shared}
theorem Rel.apart (R : Rel prog w F st s) {C : Addr} (hC : s.heap.get? C = none) : F.base.get? C = none ∧ C ∉ frAddrs F.stk ∧ F.env.locals ≠ C ∧ (∀ x c, F.env.cells.lookup x = some c → c ≠ C) ∧ C ∉ F.own := by
  have ne : ∀ b ob, s.heap.get? b = some ob → b ≠ C := fun b ob e q => by rw [q, hC] at e; cases e
  refine ⟨?_, fun hm => ?_, ?_, fun x c e => ?_, fun ha => ?_⟩
  · cases q : F.base.get? C with
    | none => rfl
    | some o => exact absurd rfl (ne C o (R.1.stays C o q))
  · obtain ⟨env, he, q⟩ := List.mem_filterMap.mp hm
    refine ex0and2 (R.1.frCls env he C q) fun _ y1_ => ?_; obtain ⟨oL, _, _, eL, _⟩ := y1_
    exact ne _ _ eL rfl
  · obtain ⟨m0, ⟨oL, _, _, eL, _⟩, _⟩ := R.2.loc
    exact ne _ _ eL
  · refine ex0and4 (R.2.celO x c e) fun _ _ _ y3_ => ?_; obtain ⟨_, oc, eoc, _⟩ := y3_
    exact ne _ _ eoc
  · obtain ⟨_, oa, ea, _⟩ := R.2.ownA C ha
    exact ne _ _ ea rfl
end
noncomputable def setV (vs : List (Str × Value)) (x : Str) (v : Value) : List (Str × Value) := match vs with
  | [] => [(x, v)]
  | p :: r => if p.1 = x then (x, v) :: r else p :: setV r x v
theorem setV_lookup (vs : List (Str × Value)) (x : Str) (v : Value) (y : Str) : (setV vs x v).lookup y = if y = x then some v else vs.lookup y := by
  induction vs with
  | nil =>
    show List.lookup y [(x, v)] = _
    by_cases h : y = x
    · subst h; simp [List.lookup]
    · have : (y == x) = false := by simpa using h
      simp [List.lookup, this, h]
  | cons p r ih =>
    unfold setV
    by_cases hp : p.1 = x
    · rw [if_pos hp]
      by_cases h : y = x
      · subst h; simp
      · have h1 : (y == x) = false := by simpa using h
        have h2 : (y == p.1) = false := by rw [hp]; exact h1
        simp [List.lookup, h1, h2, h]
    · rw [if_neg hp]
      obtain ⟨p1, p2⟩ := p
      by_cases hy : y = p1
      · subst hy
        simp only at hp
        simp [hp]
      · have h2 : (y == p1) = false := by simpa using hy
        simp only [List.lookup, h2]
        exact ih
section
variable {prog : Program} {w : World} {F : Fx} {st : St} {X : Value → List Value → St → Prop}
theorem T_storeL {x : Str} {v v' : Value} {Q : Unit → St → Prop} (he : er v' = v) (hk : F.env.kindOf x = some .local) (hf : F.env.scope.kind = .function) (ho : F.env.locals ∈ F.own)
    (h : Q () ⟨setV st.vars x v, st.H⟩) : T prog w F (storeName F.env x v') Q X st := by
  intro s R
  obtain ⟨R1, ⟨⟨m, hm, hl⟩, hc, h3, h4, h5, h6, h7⟩⟩ := R
  refine wpAny_storeName_local hk hm (fun h' hn hs => ?_) (by rw [hf]; rfl)
  refine ex3and4 (id hn) fun o' es' ep' ho' hd' hsk' hm' => ?_
  refine ⟨⟨setV st.vars x v, st.H⟩, ⟨?_, ⟨⟨_, hn, fun y u e k => ?_⟩, fun y u e k => ?_, h3, h4, fun y c e => ?_, h6, fun a ha => ?_⟩⟩, ?_, h⟩
  · exact R1.priv (s' := { s with heap := h', toks := s.toks + 1 }) h3 h4 hs.2 rfl rfl ho' (fun vs q => by rw [hd'] at q; cases q) fun _ => ⟨es', ep', hd'⟩
  · rw [setV_lookup] at e
    by_cases hy : y = x
    · rw [if_pos hy] at e; cases e; exact ⟨v', if_pos hy, he⟩
    · rw [if_neg hy] at e
      obtain ⟨u', a, b⟩ := hl y u e k
      exact ⟨u', (if_neg hy).trans a, b⟩
  · have hy : y ≠ x := by rintro rfl; rw [hk] at k; cases k
    rw [setV_lookup, if_neg hy] at e
    refine ex2and3 (hc y u e k) fun c u' a y3_ r => ?_; obtain ⟨o, b, d⟩ := y3_
    exact exi2 c u' ⟨a, ⟨o, (hs.2 _ (h5 y c a).2.1).trans b, d⟩, r⟩
  · refine ex0and4 (h5 y c e) fun a1 b1 d1 y3_ => ?_; obtain ⟨u, ob, g, rr⟩ := y3_
    exact ⟨a1, b1, d1, u, ob, (hs.2 _ b1).trans g, rr⟩
  · obtain ⟨a1, ob, eb, r⟩ := h7 a ha
    refine ⟨a1, ?_⟩
    by_cases q : a = F.env.locals
    · subst q; exact ⟨o', ho', fun vs z => by rw [hd'] at z; cases z⟩
    · exact ⟨ob, (hs.2 _ q).trans eb, r⟩
  · exact After.priv (s' := { s with heap := h', toks := s.toks + 1 }) ho hs.2 ho'
theorem T_storeC {x : Str} {v v' : Value} {Q : Unit → St → Prop} (he : er v' = v) (hk : F.env.kindOf x = some .cell) (hf : F.env.scope.kind = .function) (ho : ∀ c, F.env.cells.lookup x = some c → c ∈ F.own)
    (hx : (F.env.cells.lookup x).isSome = true) (h : Q () ⟨setV st.vars x v, st.H⟩) : T prog w F (storeName F.env x v') Q X st := by
  intro s R
  obtain ⟨R1, ⟨⟨m, hm, hl⟩, hc, h3, h4, h5, h6, h7⟩⟩ := R
  obtain ⟨c, hcx⟩ := Option.isSome_iff_exists.mp hx
  refine ex0and4 (h5 x c hcx) fun c1 c2 c3 y3_ => ?_; obtain ⟨v₀, hv₀⟩ := y3_
  refine wpAny_storeName_cell hf hk hcx hv₀ (fun h' hn hs => ?_)
  obtain ⟨o', ho', hd'⟩ := id hn
  refine ⟨⟨setV st.vars x v, st.H⟩, ⟨?_, ⟨⟨m, hm.sameBut hs (Ne.symm c2), fun y u e k => ?_⟩, fun y u e k => ?_, h3, h4, fun y d e => ?_, h6, fun a ha => ?_⟩⟩, ?_, h⟩
  · exact R1.priv (s' := { s with heap := h' }) c1 c3 hs.2 rfl rfl ho' (fun vs q => by rw [hd'] at q; cases q) fun ⟨o, es, n, q1, q2⟩ => by
      obtain ⟨oc, q3, q4⟩ := hv₀
      rw [q3] at q1; cases q1; rw [q4] at q2; cases q2
  · have hy : y ≠ x := by rintro rfl; rw [hk] at k; cases k
    rw [setV_lookup, if_neg hy] at e
    exact hl y u e k
  · rw [setV_lookup] at e
    by_cases hy : y = x
    · subst hy
      rw [if_pos rfl] at e; cases e
      exact exi2 c v' ⟨hcx, hn, he⟩
    · rw [if_neg hy] at e
      refine ex2and3 (hc y u e k) fun d u' a y3_ r => ?_; obtain ⟨o, b, dd⟩ := y3_
      have : d ≠ c := fun q => hy (h6 y x c (q ▸ a) hcx)
      exact exi2 d u' ⟨a, ⟨o, (hs.2 _ this).trans b, dd⟩, r⟩
  · refine ex0and4 (h5 y d e) fun a1 b1 d1 y3_ => ?_; obtain ⟨u, ob, g, rr⟩ := y3_
    refine ⟨a1, b1, d1, ?_⟩
    by_cases hq : d = c
    · subst hq; exact ⟨_, hn⟩
    · exact ⟨u, ob, (hs.2 _ hq).trans g, rr⟩
  · obtain ⟨a1, ob, eb, r⟩ := h7 a ha
    refine ⟨a1, ?_⟩
    by_cases q : a = c
    · subst q; exact ⟨o', ho', fun vs z => by rw [hd'] at z; cases z⟩
    · exact ⟨ob, (hs.2 _ q).trans eb, r⟩
  · exact After.priv (s' := { s with heap := h' }) (ho c hcx) hs.2 ho'
theorem T_nameL {x : Str} {pos : Pos} {v : Value} {Q : Value → St → Prop} (hv : st.vars.lookup x = some v) (hk : F.env.kindOf x = some .local) (hf : F.env.scope.kind = .function)
    (hd : (x == ("__debug__" : Str)) = false) (h : Q v st) : T prog w F (eval (.Name x pos) F.env) Q X st := by
  intro s R
  obtain ⟨m, hm, hl⟩ := R.2.loc
  obtain ⟨u, hu, e⟩ := hl x v hv hk
  exact wpAny_Name (wpAny_loadName_local hf hk hm hu ⟨st, R, .refl _ _ _ _, by show Q (er u) st; rw [e]; exact h⟩) hd
theorem T_nameC {x : Str} {pos : Pos} {v : Value} {Q : Value → St → Prop} (hv : st.vars.lookup x = some v) (hk : F.env.kindOf x = some .cell) (hf : F.env.scope.kind = .function)
    (hd : (x == ("__debug__" : Str)) = false) (h : Q v st) : T prog w F (eval (.Name x pos) F.env) Q X st := by
  intro s R
  refine ex2and3 (R.2.cel x v hv hk) fun c u hc hi e => ?_
  exact wpAny_Name (wpAny_loadName_cell hf hk hc hi ⟨st, R, .refl _ _ _ _, by show Q (er u) st; rw [e]; exact h⟩) hd
theorem T_loadC {x : Str} {v : Value} {Q : Value → St → Prop} (hv : st.vars.lookup x = some v) (hk : F.env.kindOf x = some .cell) (hf : F.env.scope.kind = .function)
    (h : Q v st) : T prog w F (loadName F.env x) Q X st := by
  intro s R
  refine ex2and3 (R.2.cel x v hv hk) fun c u hc hi e => ?_
  exact wpAny_loadName_cell hf hk hc hi ⟨st, R, .refl _ _ _ _, by show Q (er u) st; rw [e]; exact h⟩
structure Glb (F : Fc) (mg mb : Str → Option Value) : Prop where
  g : F.base.Ns mainGlobals mg
  b : F.base.Ns builtinsNs mb
theorem T_nameG {x : Str} {pos : Pos} {v : Value} {mg mb : Str → Option Value} {Q : Value → St → Prop} (G : Glb F.toFc mg mb) (hg : F.env.globals = mainGlobals) (hv : mg x = some v) (hk : F.env.kindOf x = some .globalImplicit) (hf : F.env.scope.kind = .function)
    (hd : (x == ("__debug__" : Str)) = false) (h : Q (er v) st) : T prog w F (eval (.Name x pos) F.env) Q X st := by
  intro s R
  exact Name_function_global hf hk (loadGlobal_global (hg ▸ G.g.keeps R.1.stays) hv ⟨st, R, .refl _ _ _ _, h⟩) hd
theorem T_nameB {x : Str} {pos : Pos} {v : Value} {mg mb : Str → Option Value} {Q : Value → St → Prop} (G : Glb F.toFc mg mb) (hg : F.env.globals = mainGlobals) (hb : F.env.builtins = builtinsNs) (hn : mg x = none) (hv : mb x = some v) (hk : F.env.kindOf x = some .globalImplicit) (hf : F.env.scope.kind = .function)
    (hd : (x == ("__debug__" : Str)) = false) (h : Q (er v) st) : T prog w F (eval (.Name x pos) F.env) Q X st := by
  intro s R
  exact Name_function_global hf hk (loadGlobal_builtin (hg ▸ G.g.keeps R.1.stays) hn (hb ▸ G.b.keeps R.1.stays) hv ⟨st, R, .refl _ _ _ _, h⟩) hd
theorem T_int {i : Int} {k : Nat} {pos : Pos} {Q : Value → St → Prop} (h : Q (.int i 0) st) : T prog w F (eval (.Constant (.int i) k pos) F.env) Q X st :=
  fun _ R => wpAny_Constant_int ⟨st, R.toks, .grow _ _ fun _ _ e => e, h⟩
theorem T_str {x : Str} {k : Nat} {pos : Pos} {Q : Value → St → Prop} (h : Q (.str x 0) st) : T prog w F (eval (.Constant (.str x) k pos) F.env) Q X st :=
  fun _ R => wpAny_Constant_str ⟨st, R.toks, .grow _ _ fun _ _ e => e, h⟩
theorem T_bool {b : Bool} {k : Nat} {pos : Pos} {Q : Value → St → Prop} (h : Q (.bool b) st) : T prog w F (eval (.Constant (.bool b) k pos) F.env) Q X st :=
  fun _ R => wpAny_Constant_bool ⟨st, R, .refl _ _ _ _, h⟩
theorem T_none {k : Nat} {pos : Pos} {Q : Value → St → Prop} (h : Q .none st) : T prog w F (eval (.Constant .none k pos) F.env) Q X st :=
  fun _ R => wpAny_Constant_none ⟨st, R, .refl _ _ _ _, h⟩
end
end Mine
end
section
set_option maxRecDepth 100000
set_option Elab.async false
set_option linter.unusedVariables false
namespace Mine
open PySem PySem.W PySem.Calls PyProof.Rows
noncomputable def hide (h : Heap) : List Addr → Heap
  | [] => h
  | a :: r => (hide h r).update a fun o => { o with data := .freed }
theorem get_freed (h : Heap) (a : Addr) : (h.update a fun o => { o with data := .freed }).get? a = none := by
  cases q : (h.update a fun o => { o with data := .freed }).get? a with
  | none => rfl
  | some o =>
    exfalso
    obtain ⟨e, hf⟩ := Heap.get?_some_iff.mp q
    obtain ⟨objs, l⟩ := h
    simp only [Heap.update, Array.getElem?_modify, if_true] at e
    obtain ⟨o', _, rfl⟩ := Option.map_eq_some_iff.mp e
    exact Bool.noConfusion hf
theorem hide_get (h : Heap) (b : Addr) : ∀ l : List Addr, (hide h l).get? b = if b ∈ l then none else h.get? b
  | [] => by simp [hide]
  | a :: r => by
    unfold hide
    by_cases e : b = a
    · subst e; simp [get_freed]
    · rw [Heap.get?_update_other _ _ (Ne.symm e), hide_get h b r]
      simp [e]
section
variable {prog : Program} {w : World} {F : Fx} {st : St} {s s' s₀ : Shared} {H₀ : AHeap} {X : Value → List Value → St → Prop}
theorem After.noted {fr own : List Addr} {H : AHeap} (A : After fr own H₀ s₀ H s) (R : HRel prog w F.toFc H s') (k : ∀ b o, s.heap.get? b = some o → s₀.heap.get? b ≠ none → H b = none → KeepAt fr o s'.heap b) : After fr own H₀ s₀ H s' where
  keep b o e hn ho := by
    obtain ⟨sl, e1, c1⟩ := A.keep b o e hn ho
    have hn1 : H b = none := by
      cases q : H b with
      | none => rfl
      | some z =>
        rcases A.dom b (by rw [q]; exact nofun) with h | h
        · exact absurd hn h
        · rw [e] at h; cases h
    obtain ⟨sl2, e2, c2⟩ := k b _ e1 (by rw [e]; exact nofun) hn1
    exact ⟨sl2, e2, fun hc => (c2 hc).trans (c1 hc)⟩
  alive b e := by
    cases q : H b with
    | none =>
      cases q2 : s.heap.get? b with
      | none => exact absurd q2 (A.alive b e)
      | some o => obtain ⟨sl, e2, _⟩ := k b o q2 e q; rw [e2]; exact nofun
    | some z => obtain ⟨o', e', _⟩ := R.cells b z q; rw [e']; exact nofun
  dom := A.dom
theorem Rel.bystanders (R : Rel prog w F st s) {h' : Heap} {bad : List Addr} (hb : ∀ a ∈ bad, st.H a = none) (hbase : ∀ a ∈ bad, F.base.get? a = none)
    (hex : ∀ b o, b ∉ bad → s.heap.get? b = some o → h'.get? b = some o) (hup : ∀ b o, s.heap.get? b = some o → (∀ vs, o.data ≠ .fields vs) → ∃ sl, h'.get? b = some { o with slots := sl }) : Rel prog w F st { s with heap := h' } := by
  obtain ⟨R1, ⟨⟨m, hm, hl⟩, hc, h3, h4, h5, h6, h7⟩⟩ := R
  have hcell : ∀ c v, s.heap.IsCell c v → Heap.IsCell h' c v := fun c v ⟨o, ho, hd⟩ => by
    obtain ⟨sl, e⟩ := hup c o ho fun vs q => by rw [hd] at q; cases q
    exact ⟨_, e, hd⟩
  refine ⟨⟨?_, ?_, R1.notBase, ?_, ?_, R1.gens, R1.os⟩, ⟨⟨m, ?_, hl⟩, ?_, h3, h4, ?_, h6, fun a ha => ?_⟩⟩
  · intro b o e
    exact hex b o (fun hm => by rw [hbase b hm] at e; cases e) (R1.stays b o e)
  · intro a o e
    obtain ⟨o', e', r⟩ := R1.cells a o e
    exact ⟨o', hex a o' (fun hm => by rw [hb a hm] at e; cases e) e', r⟩
  · exact R1.frames.of_keeps fun b o e hn => let ⟨sl, q⟩ := hup b o e hn; ⟨_, q, rfl⟩
  · intro env he L hL
    refine ex0and2 (R1.frCls env he L hL) fun h1 y1_ => ?_; obtain ⟨o, es, n, h2, h3⟩ := y1_
    obtain ⟨sl, q⟩ := hup L o h2 fun vs q => by rw [h3] at q; cases q
    exact ⟨h1, exi3 _ es n ⟨q, h3⟩⟩
  · refine ex3and3 hm fun o es ep ho hd r => ?_; try clear hm
    obtain ⟨sl, q⟩ := hup _ o ho fun vs q => by rw [hd] at q; cases q
    exact ⟨_, es, ep, q, hd, r⟩
  · intro x v e k
    refine ex2and3 (hc x v e k) fun c u a b r => ?_
    exact exi2 c u ⟨a, hcell _ _ b, r⟩
  · intro x c e
    refine ex0and4 (h5 x c e) fun a b d y3_ => ?_; obtain ⟨v, g⟩ := y3_
    exact ⟨a, b, d, v, hcell _ _ g⟩
  · obtain ⟨a1, ob, eb, r⟩ := h7 a ha
    obtain ⟨sl, q⟩ := hup a ob eb r
    exact ⟨a1, _, q, r⟩
theorem HRel.frAt (R : HRel prog w F.toFc st.H s) {b : Addr} (hb : b ∈ frAddrs F.stk) : st.H b = none ∧ F.base.get? b = none ∧ ∃ o es n, s.heap.get? b = some o ∧ o.data = .dict es n := by
  obtain ⟨env, he, hf⟩ := List.mem_filterMap.mp hb
  obtain ⟨h1, r⟩ := R.frCls env he b hf
  exact ⟨h1, (R.frames.mem hb).1, r⟩
structure Flew (prog : Program) (w : World) (F : Fx) (st : St) (h₀ : Heap) (s s' : Shared) : Prop where
  rel : Rel prog w F st s'
  keep : ∀ b o, s.heap.get? b = some o → h₀.get? b ≠ none → st.H b = none → KeepAt (frAddrs F.stk) o s'.heap b
theorem Flew.refl {h₀ : Heap} (R : Rel prog w F st s) : Flew prog w F st h₀ s s := ⟨R, fun b o e _ _ => .refl e⟩
theorem Flew.trans {h₀ : Heap} {s₁ s₂ : Shared} (x : Flew prog w F st h₀ s s₁) (y : Flew prog w F st h₀ s₁ s₂) : Flew prog w F st h₀ s s₂ :=
  ⟨y.rel, fun b o e h0 hn => by
    obtain ⟨sl, e1, c1⟩ := x.keep b o e h0 hn
    obtain ⟨sl2, e2, c2⟩ := y.keep b _ e1 h0 hn
    exact ⟨sl2, e2, fun hc => (c2 hc).trans (c1 hc)⟩⟩
theorem flew_of {h₀ h' : Heap} {bad : List Addr} {e : Addr} {cls a0 fl : Value} {args : List Value} {ta : Addr} {items : Array Value} (R : Rel prog w F st s)
    (hbH : ∀ a ∈ bad, st.H a = none) (hbB : ∀ a ∈ bad, F.base.get? a = none) (hb0 : ∀ a ∈ bad, a ∉ frAddrs F.stk → h₀.get? a = none)
    (he : e ∈ bad) (hef : e ∉ frAddrs F.stk) (ha0 : a0 = .ref ta) (hta : IsTup s.heap ta items) (hargs : items.toList.map er = args) (htH : st.H ta = none ∧ h₀.get? ta = none ∧ F.base.get? ta = none)
    (h₀s : ∀ b, h₀.get? b ≠ none → s.heap.get? b ≠ none)
    (hst : (hide s.heap bad).StaysIn h') (ht : h'.TracedAtW (hide s.heap bad) e cls a0 fl)
    (hup : ∀ b o, s.heap.get? b = some o → (∀ vs, o.data ≠ .fields vs) → ∃ sl, h'.get? b = some { o with slots := sl }) :
    Flew prog w F st h₀ s { s with heap := h' } ∧ ExcAt F.base h₀ st.H h' e cls args (some fl) := by
  have hex : ∀ b o, b ∉ bad → s.heap.get? b = some o → h'.get? b = some o := fun b o hb e => hst b o (by rw [hide_get, if_neg hb]; exact e)
  refine ⟨⟨R.bystanders hbH hbB hex hup, fun b o eb h0 hn => ?_⟩, ?_⟩
  · by_cases hb : b ∈ bad
    · by_cases hf : b ∈ frAddrs F.stk
      · refine ex0and3 (HRel.frAt R.1 hf) fun _ _ y2_ => ?_; obtain ⟨o', es, n, q1, q2⟩ := y2_
        rw [eb] at q1; cases q1
        obtain ⟨sl, q⟩ := hup b o eb fun vs z => by rw [q2] at z; cases z
        exact ⟨sl, q, fun hc => absurd hf hc⟩
      · exact absurd (hb0 b hb hf) h0
    · exact .refl (hex b o hb eb)
  · refine ex5and9 ht fun oe vs T oT ts q1 y6_ q4 q5 q6 q7 q8 q9 q10 => ?_; try clear ht; obtain ⟨q2, q3⟩ := y6_
    have hta' : IsTup h' ta items := by
      refine ex1and3 hta fun o ho hc y3_ => ?_; try clear hta; obtain ⟨n, hd⟩ := y3_
      obtain ⟨sl, q⟩ := hup ta o ho fun vs z => by rw [hd] at z; cases z
      exact ⟨_, q, hc, n, hd⟩
    refine ⟨oe, vs, ta, items, q1, q2, q4, by rw [q3, ha0], hta', hargs, hbH e he, ⟨hb0 e he hef, hbB e he⟩, htH, .inr ⟨T, oT, ts, fl, q5, q8, q9, q10, q7, ?_, ⟨?_, ?_⟩, rfl⟩⟩
    · by_cases hb : T ∈ bad
      · exact hbH T hb
      · rw [hide_get, if_neg hb] at q6
        exact R.1.none_of q6
    · by_cases hb : T ∈ bad
      · refine hb0 T hb fun hf => ?_
        refine ex0and3 (HRel.frAt R.1 hf) fun _ _ y2_ => ?_; obtain ⟨o', es, n, z1, z2⟩ := y2_
        obtain ⟨sl, z⟩ := hup T o' z1 fun vs z => by rw [z2] at z; cases z
        rw [q8] at z; cases z
        rw [z2] at q9; cases q9
      · rw [hide_get, if_neg hb] at q6
        cases z : h₀.get? T with
        | none => rfl
        | some o => exact absurd q6 (h₀s T (by rw [z]; exact nofun))
    · by_cases hb : T ∈ bad
      · exact hbB T hb
      · rw [hide_get, if_neg hb] at q6
        cases z : F.base.get? T with
        | none => rfl
        | some o => rw [R.1.stays T o z] at q6; cases q6
theorem After.flew {own : List Addr} (A : After (frAddrs F.stk) own H₀ s₀ st.H s) (x : Flew prog w F st s₀.heap s s') : After (frAddrs F.stk) own H₀ s₀ st.H s' := A.noted x.rel.1 x.keep
structure Runs (F : Fx) (outer : List Env) (L : Addr) : Prop where
  stk : F.stk = F.env :: outer
  fr : F.A.frames = some F.stk
  frame : F.env.frame = some L
theorem bads {h₀ : Heap} {ea : Addr} {cls : Value} {args : List Value} {fl : Option Value} (R : Rel prog w F st s) (x : ExcAt F.base h₀ st.H s.heap ea cls args fl) :
    ea ∉ frAddrs F.stk ∧ F.base.get? ea = none := by
  refine ex4and10 x fun oe vs ta items h1 h2 h3 h4 h5 h6 h7 h8 h9 h10 => ?_; try clear x
  refine ⟨fun hf => ?_, ?_⟩
  · refine ex0and3 (HRel.frAt R.1 hf) fun _ _ y2_ => ?_; obtain ⟨o', es, n, z1, z2⟩ := y2_
    rw [h1] at z1; cases z1
    rw [z2] at h3; cases h3
  · exact h8.2
theorem note {h₀ : Heap} {outer : List Env} {L ea : Addr} {cls : Value} {args : List Value} {fl : Option Value} {Q : Unit → Shared → Prop} {E : Value → Shared → Prop}
    (U : Runs F outer L) (R : Rel prog w F st s) (x : ExcAt F.base h₀ st.H s.heap ea cls args fl) (hfl : okFl L fl) (h₀s : ∀ b, h₀.get? b ≠ none → s.heap.get? b ≠ none)
    (h : ∀ s', Flew prog w F st h₀ s s' → ExcAt F.base h₀ st.H s'.heap ea cls args (some (rawInt L)) → Q () s') : wpAny (model prog w) F.A (noteFrame (.ref ea) F.env) Q E s := by
  obtain ⟨hef, heB⟩ := bads R x
  have x' := x
  refine ex4and10 x fun oe vs ta items h1 h2 h3 h4 h5 h6 h7 h8 h9 h10 => ?_; try clear x
  have hfr : F.A.frames = some (F.env :: outer) := by rw [U.fr, U.stk]
  rcases h10 with ⟨hn, rfl⟩ | ⟨T, oT, ts, f, a1, a2, a3, a4, a5, a6, a7, rfl⟩
  · -- new
    let bad := ea :: frAddrs F.stk
    have hbH : ∀ a ∈ bad, st.H a = none := fun a ha => (List.mem_cons.mp ha).elim (fun e => e ▸ h7) fun hf => (HRel.frAt R.1 hf).1
    have hbB : ∀ a ∈ bad, F.base.get? a = none := fun a ha => (List.mem_cons.mp ha).elim (fun e => e ▸ heB) fun hf => (HRel.frAt R.1 hf).2.1
    have hb0 : ∀ a ∈ bad, a ∉ frAddrs F.stk → h₀.get? a = none := fun a ha hn => (List.mem_cons.mp ha).elim (fun e => e ▸ h8.1) fun hf => absurd hf hn
    have hst0 : (hide s.heap bad).StaysIn s.heap := fun b o e => by
      rw [hide_get] at e
      split at e
      · cases e
      · exact e
    have hff : s.heap.FunFrames (hide s.heap bad) (F.env :: outer) := by
      rw [← U.stk]
      have hf := R.1.frames
      have : ∀ l, (∀ b ∈ frAddrs l, b ∈ bad) → s.heap.FunFrames F.base l → s.heap.FunFrames (hide s.heap bad) l := by
        intro l
        induction l with
        | nil => intros; trivial
        | cons env rest ih =>
          rintro hm ⟨z1, ⟨L', o, z2, z3, z4⟩, z5⟩
          refine ⟨z1, ⟨L', o, z2, ?_, z4⟩, ih (fun b hb => hm b ?_) z5⟩
          · rw [hide_get, if_pos (hm L' (by unfold frAddrs; rw [List.filterMap_cons, z2]; exact List.mem_cons_self))]
          · unfold frAddrs at hb ⊢
            rw [List.filterMap_cons, z2]; exact List.mem_cons_of_mem _ hb
      exact this _ (fun b hb => List.mem_cons_of_mem _ hb) hf
    unfold noteFrame
    simp only [U.frame]
    refine wpAny_bind (wpAny_field h1 h3 hn ?_)
    rw [if_neg (by decide)]
    refine wpAny_entryW hfr hff U.frame h1 hst0 (by rw [hide_get, if_pos List.mem_cons_self]) h3 (Array.getElem?_eq_some_iff.mp hn).1 h4 fun h' hN => ?_
    obtain ⟨n1, n2, n3, n4⟩ := hN
    obtain ⟨q1, q2⟩ := flew_of R hbH hbB hb0 List.mem_cons_self hef rfl h5 h6 h9 h₀s n1 n3 n4
    exact h _ q1 (h2 ▸ q2)
  · have hTf : T ∉ frAddrs F.stk := fun hf => by
      refine ex0and3 (HRel.frAt R.1 hf) fun _ _ y2_ => ?_; obtain ⟨o', es, n, z1, z2⟩ := y2_
      rw [a2] at z1; cases z1
      rw [z2] at a3; cases a3
    let bad := ea :: T :: frAddrs F.stk
    have hbH : ∀ a ∈ bad, st.H a = none := fun a ha => by
      rcases List.mem_cons.mp ha with rfl | ha
      · exact h7
      · rcases List.mem_cons.mp ha with rfl | ha
        · exact a6
        · exact (HRel.frAt R.1 ha).1
    have hbB : ∀ a ∈ bad, F.base.get? a = none := fun a ha => by
      rcases List.mem_cons.mp ha with rfl | ha
      · exact heB
      · rcases List.mem_cons.mp ha with rfl | ha
        · exact a7.2
        · exact (HRel.frAt R.1 ha).2.1
    have hb0 : ∀ a ∈ bad, a ∉ frAddrs F.stk → h₀.get? a = none := fun a ha hn => by
      rcases List.mem_cons.mp ha with rfl | ha
      · exact h8.1
      · rcases List.mem_cons.mp ha with rfl | ha
        · exact a7.1
        · exact absurd ha hn
    have hst0 : (hide s.heap bad).StaysIn s.heap := fun b o e => by
      rw [hide_get] at e
      split at e
      · cases e
      · exact e
    have hff : s.heap.FunFrames (hide s.heap bad) (F.env :: outer) := by
      rw [← U.stk]
      have hf := R.1.frames
      have : ∀ l, (∀ b ∈ frAddrs l, b ∈ bad) → s.heap.FunFrames F.base l → s.heap.FunFrames (hide s.heap bad) l := by
        intro l
        induction l with
        | nil => intros; trivial
        | cons env rest ih =>
          rintro hm ⟨z1, ⟨L', o, z2, z3, z4⟩, z5⟩
          refine ⟨z1, ⟨L', o, z2, ?_, z4⟩, ih (fun b hb => hm b ?_) z5⟩
          · rw [hide_get, if_pos (hm L' (by unfold frAddrs; rw [List.filterMap_cons, z2]; exact List.mem_cons_self))]
          · unfold frAddrs at hb ⊢
            rw [List.filterMap_cons, z2]; exact List.mem_cons_of_mem _ hb
      exact this _ (fun b hb => List.mem_cons_of_mem _ (List.mem_cons_of_mem _ hb)) hf
    have heN : (hide s.heap bad).get? ea = none := by rw [hide_get, if_pos List.mem_cons_self]
    have hTN : (hide s.heap bad).get? T = none := by rw [hide_get, if_pos (List.mem_cons_of_mem _ List.mem_cons_self)]
    rcases hfl with rfl | rfl
    · refine wpAny_noteFrame_onW hfr hff U.frame ⟨oe, vs, T, oT, ts, h1, ⟨h2, h4⟩, h3, a1, hTN, a5, a2, a3, a4⟩ hst0 heN fun h' hN => ?_
      obtain ⟨n1, n2, n3, n4⟩ := hN
      obtain ⟨q1, q2⟩ := flew_of R hbH hbB hb0 List.mem_cons_self hef rfl h5 h6 h9 h₀s n1 n3 n4
      exact h _ q1 q2
    · exact wpAny_noteFrame_againW U.frame (base := hide s.heap bad) ⟨oe, vs, T, oT, ts, h1, ⟨h2, h4⟩, h3, a1, hTN, a5, a2, a3, a4⟩ (h s (.refl R) x')
theorem flight {h₀ : Heap} {ea : Addr} {cls f : Value} {args : List Value} {fr : Option Addr} {Q : Unit → Shared → Prop} {E : Value → Shared → Prop}
    (R : Rel prog w F st s) (x : ExcAt F.base h₀ st.H s.heap ea cls args (some f)) (h₀s : ∀ b, h₀.get? b ≠ none → s.heap.get? b ≠ none)
    (h : ∀ s', Flew prog w F st h₀ s s' → ExcAt F.base h₀ st.H s'.heap ea cls args (some (fr.elim .none fun f => rawInt f)) → Q () s') : wpAny (model prog w) F.A (setFlight (.ref ea) fr) Q E s := by
  refine ex4and10 x fun oe vs ta items h1 h2 h3 h4 h5 h6 h7 h8 h9 h10 => ?_; try clear x
  rcases h10 with ⟨_, z⟩ | ⟨T, oT, ts, f', a1, a2, a3, a4, a5, a6, a7, z⟩
  · cases z
  cases z
  have hsz3 : 3 < ts.size := (Array.getElem?_eq_some_iff.mp a4).1
  unfold setFlight
  refine wpAny_bind (wpAny_field h1 h3 a1 ?_)
  rw [if_pos (show (Value.ref T != Value.none) = true from by simp)]
  have other : ∀ b, b ≠ T → (s.heap.update T (Obj.mapFields (·.setIfInBounds 3 (fr.elim Value.none fun f => rawInt f)))).get? b = s.heap.get? b :=
    fun b hb => Heap.get?_update_other _ _ (Ne.symm hb)
  have hT' := Heap.get?_update_self (Obj.mapFields (·.setIfInBounds 3 (fr.elim Value.none fun f => rawInt f))) a2 (Obj.isFreed_of_fields (Obj.data_mapFields a3 _))
  have up : ∀ b o, s.heap.get? b = some o → (∀ vs, o.data ≠ .fields vs) → (s.heap.update T (Obj.mapFields (·.setIfInBounds 3 (fr.elim Value.none fun f => rawInt f)))).get? b = some o := fun b o e hn => by
    rw [other b ?_]; exact e
    rintro rfl; rw [a2] at e; cases e; exact hn _ a3
  refine wpAny_setField a2 a3 hsz3 (h _ ⟨R.bystanders (bad := [T]) (fun a ha => List.mem_singleton.mp ha ▸ a6) (fun a ha => List.mem_singleton.mp ha ▸ a7.2) (fun b o hb e => (other b fun q => hb (List.mem_singleton.mpr q)).trans e)
    (fun b o e hn => ⟨o.slots, up b o e hn⟩), fun b o e h0 hn => .refl ((other b fun q => h0 (q ▸ a7.1)).trans e)⟩ ?_)
  refine ⟨oe, vs, ta, items, (other _ (Ne.symm a5)).trans h1, h2, h3, h4, ?_, h6, h7, h8, h9, .inr ⟨T, _, _, _, a1, hT', Obj.data_mapFields a3 _, by simp [hsz3], a5, a6, a7, rfl⟩⟩
  refine ex1and3 h5 fun o ho hc y3_ => ?_; try clear h5; obtain ⟨n, hd⟩ := y3_
  exact ⟨o, up _ _ ho (fun vs q => by rw [hd] at q; cases q), hc, n, hd⟩
theorem leaves {h₀ : Heap} {outer : List Env} {L ea : Addr} {cls : Value} {args : List Value} {fl : Option Value} {Q : Unit → Shared → Prop} {E : Value → Shared → Prop}
    (U : Runs F outer L) (R : Rel prog w F st s) (x : ExcAt F.base h₀ st.H s.heap ea cls args fl) (hfl : okFl L fl) (h₀s : ∀ b, h₀.get? b ≠ none → s.heap.get? b ≠ none)
    (h : ∀ s', Flew prog w F st h₀ s s' → ExcAt F.base h₀ st.H s'.heap ea cls args (some .none) → Q () s') : wpAny (model prog w) F.A (leaving F.env (.ref ea)) Q E s := by
  unfold leaving
  refine wpAny_bind (note U R x hfl h₀s fun s₁ W x₁ => ?_)
  refine flight W.rel x₁ (fun b hb => ?_) fun s₂ W₂ x₂ => h s₂ (W.trans W₂) x₂
  cases q : st.H b with
  | none =>
    cases q2 : s.heap.get? b with
    | none => exact absurd q2 (h₀s b hb)
    | some o => obtain ⟨sl, e2, _⟩ := W.keep b o q2 hb q; rw [e2]; exact nofun
  | some z => obtain ⟨o', e', _⟩ := W.rel.1.cells b z q; rw [e']; exact nofun
theorem XPost.cameBack {outer : List Env} {L : Addr} {e : Value} (U : Runs F outer L) (x : XPost prog w F X H₀ s₀ e s') : notedBy (model prog w) F.A F.env (cameBackBy (model prog w) F.A F.env (XPost prog w F X H₀ s₀)) e s' := by
  refine ex5and6 x fun st' ea cls args fl y5_ h2 h3 h4 h5 h6 => ?_; try clear x; obtain rfl := y5_
  refine note U h4 h2 (h3 L U.frame) h5.alive fun s'' W x' => ?_
  have x'' := x'
  refine ex4and10 x' fun oe vs ta items q1 q2 q3 q4 q5 q6 q7 q8 q9 q10 => ?_; try clear x'
  rcases q10 with ⟨_, z⟩ | ⟨T, oT, ts, f', a1, a2, a3, a4, a5, a6, a7, z⟩
  · cases z
  unfold cameBackBy
  refine wpAny_bind (wpAny_field q1 q3 a1 ?_)
  rw [if_neg (show ¬ ((Value.ref T == Value.none) = true) from by simp)]
  refine flight W.rel x'' (h5.flew W).alive fun s₃ W₃ x₃ => ?_
  refine ⟨st', ea, cls, args, _, rfl, x₃, fun L' hL' => ?_, W₃.rel, (h5.flew W).flew W₃, h6⟩
  rw [hL']
  exact .inr rfl
end
end Mine
end
section
set_option maxRecDepth 100000
set_option Elab.async false
set_option linter.unusedVariables false
namespace Mine
open PySem PySem.W PySem.Calls PyProof.Rows
inductive SK
  | list | tup
  | keys (es : List (Value × Value)) (n : Nat)
  | vals (d : Addr) (es : List (Value × Value)) (n : Nat)
  | rng (a b : Int)
  | pin (o : Obj)
noncomputable def intsFrom (a : Int) (n : Nat) : List Value := (List.range n).map fun (i : Nat) => .int (a + i) 0
noncomputable def Src (st : St) (v : Value) (xs : List Value) : SK → Prop
  | .list => ∃ l, v = .ref l ∧ st.H l = some (.list xs)
  | .tup => ∃ l, v = .ref l ∧ st.H l = some (.tup xs)
  | .keys es n => ∃ d, v = .ref d ∧ st.H d = some (.dict es n) ∧ xs = es.map (·.1)
  | .vals d es n => ∃ vw, v = .ref vw ∧ st.H vw = some (.vals d) ∧ st.H d = some (.dict es n) ∧ xs = es.map (·.2)
  | .rng a b => ∃ r, v = .ref r ∧ st.H r = some (.rng a b) ∧ xs = intsFrom a (b - a).toNat ∧ -(2 ^ 60) < a ∧ a < 2 ^ 60 ∧ -(2 ^ 60) < b ∧ b < 2 ^ 60
  | .pin p => ∃ l, v = .ref l ∧ st.H l = some (.pin p) ∧ ∃ items n, p.cls = .type "list" ∧ p.data = .seq items n ∧ items.toList.map er = xs
section
variable {prog : Program} {w : World} {F : Fx} {st : St} {s s' s₀ : Shared} {H₀ : AHeap} {X : Value → List Value → St → Prop} {v : Value} {xs : List Value} {k : SK}
noncomputable def ItO (v : Value) (xs : List Value) (i : Nat) : SK → Obj → Prop
  | .list, o => o.cls = .type "list_iterator" ∧ o.data = .fields #[v, .int i 0]
  | .pin _, o => o.cls = .type "list_iterator" ∧ o.data = .fields #[v, .int i 0]
  | .tup, o => o.cls = .type "tuple_iterator" ∧ o.data = .fields #[v, .int i 0]
  | .keys es n, o => o.cls = .type "dict_keyiterator" ∧ o.data = .fields #[v, .int i 0, .int xs.length 0, .int n 0]
  | .vals d es n, o => o.cls = .type "dict_valueiterator" ∧ o.data = .fields #[.ref d, .int i 0, .int xs.length 0, .int n 0]
  | .rng a b, o => o = { cls := .type "range_iterator", dict := none, data := .fields #[rawInt (a + i), rawInt ((b - a).toNat - i : Int), rawInt 1], slots := #[] }
theorem list_at {l : Addr} (R : HRel prog w F.toFc st.H s) (h : st.H l = some (.list xs)) : ∃ items, s.heap.IsList l items ∧ items.toList.map er = xs := by
  refine ex1and5 (R.cells _ _ h) fun o ho hc _ _ y5_ => ?_; obtain ⟨items, n, hd, he⟩ := y5_
  exact ⟨items, ⟨o, ho, hc, n, hd⟩, he⟩
theorem pin_at {l : Addr} {p : Obj} (R : HRel prog w F.toFc st.H s) (h : st.H l = some (.pin p)) (hp : ∃ items n, p.cls = .type "list" ∧ p.data = .seq items n ∧ items.toList.map er = xs) : ∃ items, s.heap.IsList l items ∧ items.toList.map er = xs := by
  obtain ⟨o, ho, e⟩ := R.cells _ _ h
  refine ex2and3 hp fun items n hc hd he => ?_; try clear hp
  have e : o = p := e
  subst e
  exact ⟨items, ⟨_, ho, hc, n, hd⟩, he⟩
theorem tup_at {l : Addr} (R : HRel prog w F.toFc st.H s) (h : st.H l = some (.tup xs)) : ∃ items, s.heap.IsTuple l items ∧ items.toList.map er = xs := by
  refine ex1and5 (R.cells _ _ h) fun o ho hc _ _ y5_ => ?_; obtain ⟨items, n, hd, he⟩ := y5_
  exact ⟨items, ⟨o, ho, hc, n, hd⟩, he⟩
theorem dict_at {d : Addr} {es : List (Value × Value)} {n : Nat} (R : HRel prog w F.toFc st.H s) (h : st.H d = some (.dict es n)) :
    (∃ kvs : List (Int × Value), s.heap.DictAt (intKind prog w) d kvs n ∧ es = kvs.map fun p => (.int p.1 0, er p.2)) ∨
    (∃ kvs : List (Str × Value), s.heap.DictAt (strKind prog w) d kvs n ∧ es = kvs.map fun p => (.str p.1 0, er p.2)) := by
  refine ex1and3 (R.cells _ _ h) fun o ho hx y3_ => ?_; obtain ⟨des, hd, hk⟩ := y3_
  rcases hk with ⟨kvs, k1, k2, k3, k4⟩ | ⟨kvs, k1, k2, k3, k4⟩
  · exact .inl ⟨kvs, ⟨o, des, ho, hx, hd, k1, k2, k3⟩, k4⟩
  · exact .inr ⟨kvs, ⟨o, des, ho, hx, hd, k1, k2, k3⟩, k4⟩
theorem vals_at {d vw : Addr} (R : HRel prog w F.toFc st.H s) (h : st.H vw = some (.vals d)) : s.heap.IsValuesView vw d := by
  obtain ⟨o, ho, hc, hd⟩ := R.cells _ _ h
  exact ⟨o, ho, hc, hd⟩
noncomputable def NoSys (F : Fc) : Prop := F.base.get? sysModules ≠ none
theorem notSys {F : Fc} {H : AHeap} (R : HRel prog w F H s) (N : NoSys F) {d : Addr} (h : H d ≠ none) : (d == sysModules) = false := by
  have : d ≠ sysModules := by rintro rfl; exact N (R.notBase _ h)
  exact beq_eq_false_iff_ne.mpr this
theorem is_int {prog : Program} {w : World} {k : Int} {key : Value} (h : (intKind prog w).is k key = true) : er key = .int k 0 := by
  have h' : key.isInt k = true := h
  cases key <;> simp [Value.isInt] at h'
  subst h'; rfl
theorem is_str {prog : Program} {w : World} {k : Str} {key : Value} (h : (strKind prog w).is k key = true) : er key = .str k 0 := by
  have h' : key.isStr k = true := (strKind prog w).strs k k 0 key (strKind_is prog w k 0) ▸ h
  cases key <;> simp [Value.isStr] at h'
  rename_i x t
  have : x = k := h'
  subst this; rfl
theorem pyIter_src {Q : Value → Shared → Prop} {E : Value → Shared → Prop} {A : Around} (R : Rel prog w F st s) (hs : Src st v xs k) (N : NoSys F.toFc)
    (h : ∀ o, ItO v xs 0 k o → o.isFreed = false → Q (.ref s.heap.objs.size) { s with heap := s.heap.push o }) : wpAny (model prog w) A (pyIter v) Q E s := by
  cases k with
  | pin p =>
    obtain ⟨l, rfl, hl, hp⟩ := hs
    obtain ⟨items, hi, _⟩ := pin_at R.1 hl hp
    exact wpAny_pyIter_list hi (h _ ⟨rfl, rfl⟩ rfl)
  | list =>
    obtain ⟨l, rfl, hl⟩ := hs
    obtain ⟨items, hi, _⟩ := list_at R.1 hl
    exact wpAny_pyIter_list hi (h _ ⟨rfl, rfl⟩ rfl)
  | tup =>
    obtain ⟨l, rfl, hl⟩ := hs
    obtain ⟨items, hi, _⟩ := tup_at R.1 hl
    exact wpAny_pyIter_tuple hi (h _ ⟨rfl, rfl⟩ rfl)
  | keys es n =>
    obtain ⟨d, rfl, hd, rfl⟩ := hs
    have ns := notSys R.1 N (d := d) (by rw [hd]; exact nofun)
    rcases dict_at R.1 hd with ⟨kvs, h1, rfl⟩ | ⟨kvs, h1, rfl⟩
    · exact wpAny_pyIter_dict ns h1 (h _ ⟨rfl, by simp⟩ rfl)
    · exact wpAny_pyIter_dict ns h1 (h _ ⟨rfl, by simp⟩ rfl)
  | vals d es n =>
    refine ex1and4 hs fun vw y1_ hv hd y4_ => ?_; try clear hs; obtain rfl := y1_; obtain rfl := y4_
    have hvw := vals_at R.1 hv
    rcases dict_at R.1 hd with ⟨kvs, h1, rfl⟩ | ⟨kvs, h1, rfl⟩
    · exact wpAny_pyIter_values hvw h1 (h _ ⟨rfl, by simp⟩ rfl)
    · exact wpAny_pyIter_values hvw h1 (h _ ⟨rfl, by simp⟩ rfl)
  | rng a b =>
    refine ex1and7 hs fun r y1_ hr y3_ b1 b2 b3 b4 => ?_; try clear hs; obtain rfl := y1_; obtain rfl := y3_
    refine ex1and2 (R.1.cells _ _ hr) fun o ho y2_ => ?_; obtain ⟨t, u, v, rfl⟩ := y2_
    have hsz : Builtin.Range.rangeSize a b 1 = ((b - a).toNat : Int) := by
      unfold Builtin.Range.rangeSize
      split
      · split <;> omega
      · omega
    refine wpAny_pyIter_range ho ?_ (h _ ?_ rfl)
    · unfold Builtin.Range.small Builtin.Range.rangeFitsLong
      rw [hsz]
      simp only [Bool.and_eq_true, decide_eq_true_eq, Bool.or_eq_true, beq_iff_eq]
      refine ⟨⟨⟨⟨⟨?_, ?_⟩, ?_, ?_⟩, by decide, by decide⟩, ?_, ?_⟩, .inr ?_⟩
      all_goals (try omega)
      rw [if_pos (by decide)]
      simp only [Bool.and_eq_true, decide_eq_true_eq]
      omega
    · show ({ cls := .type "range_iterator", data := .fields #[rawInt a, rawInt (Builtin.Range.rangeSize a b 1), rawInt 1] } : Obj) = _
      rw [hsz]
      simp
theorem next_item {ia : Addr} {o : Obj} {i : Nat} {x : Value} {Q : Option Value → Shared → Prop} {E : Value → Shared → Prop} {A : Around} (R : Rel prog w F st s) (hs : Src st v xs k) (hia : s.heap.get? ia = some o) (hI : ItO v xs i k o) (hx : xs[i]? = some x)
    (h : ∀ x' h' o' tk, er x' = x → h'.get? ia = some o' → ItO v xs (i + 1) k o' → Heap.SameBut ia s.heap h' → Q (some x') { s with heap := h', toks := tk }) : wpAny (model prog w) A (pyNext (.ref ia)) Q E s := by
  have hxs := hx
  cases k with
  | pin p =>
    obtain ⟨l, rfl, hl, hp⟩ := hs
    obtain ⟨items, hi, rfl⟩ := pin_at R.1 hl hp
    rw [List.getElem?_map] at hx
    obtain ⟨x', hx', rfl⟩ := Option.map_eq_some_iff.mp hx
    refine wpAny_pyNext_list_item ⟨o, hia, hI.1, hI.2⟩ hi (by simpa using hx') fun h' ⟨o', a, b, c⟩ hsb => ?_
    exact h _ h' o' s.toks rfl a ⟨b, c⟩ hsb
  | list =>
    obtain ⟨l, rfl, hl⟩ := hs
    obtain ⟨items, hi, rfl⟩ := list_at R.1 hl
    rw [List.getElem?_map] at hx
    obtain ⟨x', hx', rfl⟩ := Option.map_eq_some_iff.mp hx
    refine wpAny_pyNext_list_item ⟨o, hia, hI.1, hI.2⟩ hi (by simpa using hx') fun h' ⟨o', a, b, c⟩ hsb => ?_
    exact h _ h' o' s.toks rfl a ⟨b, c⟩ hsb
  | tup =>
    obtain ⟨l, rfl, hl⟩ := hs
    obtain ⟨items, hi, rfl⟩ := tup_at R.1 hl
    rw [List.getElem?_map] at hx
    obtain ⟨x', hx', rfl⟩ := Option.map_eq_some_iff.mp hx
    refine wpAny_pyNext_tuple_item ⟨o, hia, hI.1, hI.2⟩ hi (by simpa using hx') fun h' ⟨o', a, b, c⟩ hsb => ?_
    exact h _ h' o' s.toks rfl a ⟨b, c⟩ hsb
  | keys es n =>
    obtain ⟨d, rfl, hd, rfl⟩ := hs
    rcases dict_at R.1 hd with ⟨kvs, h1, rfl⟩ | ⟨kvs, h1, rfl⟩
    · rw [List.getElem?_map, List.getElem?_map, Option.map_map] at hx
      obtain ⟨⟨q, u⟩, hq, rfl⟩ := Option.map_eq_some_iff.mp hx
      refine wpAny_pyNext_dict_item ⟨o, hia, hI.1, by simpa using hI.2⟩ h1 hq fun key h' hkey ⟨o', a, b, c⟩ hsb => ?_
      exact h _ h' o' s.toks (is_int hkey) a ⟨b, by simpa using c⟩ hsb
    · rw [List.getElem?_map, List.getElem?_map, Option.map_map] at hx
      obtain ⟨⟨q, u⟩, hq, rfl⟩ := Option.map_eq_some_iff.mp hx
      refine wpAny_pyNext_dict_item ⟨o, hia, hI.1, by simpa using hI.2⟩ h1 hq fun key h' hkey ⟨o', a, b, c⟩ hsb => ?_
      exact h _ h' o' s.toks (is_str hkey) a ⟨b, by simpa using c⟩ hsb
  | vals d es n =>
    refine ex1and4 hs fun vw y1_ hv hd y4_ => ?_; try clear hs; obtain rfl := y1_; obtain rfl := y4_
    obtain ⟨c1, c2⟩ := hI
    rcases dict_at R.1 hd with ⟨kvs, h1, rfl⟩ | ⟨kvs, h1, rfl⟩
    · rw [List.getElem?_map, List.getElem?_map, Option.map_map] at hx
      obtain ⟨⟨q, u⟩, hq, rfl⟩ := Option.map_eq_some_iff.mp hx
      refine wpAny_pyNext_values_item ⟨o, hia, c1, by simpa using c2⟩ h1 hq fun h' ⟨o', a, b, c⟩ hsb => ?_
      exact h _ h' o' s.toks rfl a ⟨b, by simpa using c⟩ hsb
    · rw [List.getElem?_map, List.getElem?_map, Option.map_map] at hx
      obtain ⟨⟨q, u⟩, hq, rfl⟩ := Option.map_eq_some_iff.mp hx
      refine wpAny_pyNext_values_item ⟨o, hia, c1, by simpa using c2⟩ h1 hq fun h' ⟨o', a, b, c⟩ hsb => ?_
      exact h _ h' o' s.toks rfl a ⟨b, by simpa using c⟩ hsb
  | rng a b =>
    refine ex1and7 hs fun r y1_ hr y3_ b1 b2 b3 b4 => ?_; try clear hs; obtain rfl := y1_; obtain rfl := y3_
    have hI' : o = _ := hI
    subst hI'
    have hlt : i < (b - a).toNat := by
      have := (List.getElem?_eq_some_iff.mp hx).1
      simpa [intsFrom] using this
    refine wpAny_pyNext_range_item hia (by omega) fun h' h1 hsb => ?_
    refine h _ h' _ _ ?_ h1 ?_ hsb
    · unfold intsFrom at hx
      rw [List.getElem?_map, List.getElem?_range hlt] at hx
      exact (Option.some.inj hx).symm ▸ rfl
    · have e1 : a + (i : Int) + 1 = a + ((i + 1 : Nat) : Int) := by omega
      have e2 : ((b - a).toNat : Int) - i - 1 = ((b - a).toNat : Int) - ((i + 1 : Nat) : Int) := by omega
      show ({ cls := .type "range_iterator", dict := none, data := .fields #[rawInt (a + i + 1), rawInt (((b - a).toNat : Int) - i - 1), rawInt 1], slots := #[] } : Obj) = _
      rw [e1, e2]
theorem next_done {ia : Addr} {o : Obj} {i : Nat} {Q : Option Value → Shared → Prop} {E : Value → Shared → Prop} {A : Around} (hh : A.handled = none) (R : Rel prog w F st s) (hs : Src st v xs k) (hia : s.heap.get? ia = some o) (hI : ItO v xs i k o) (hx : xs[i]? = none)
    (hle : i ≤ xs.length) (h : ∀ h', Heap.ExtBut ia s.heap h' → Q none { s with heap := h' }) : wpAny (model prog w) A (pyNext (.ref ia)) Q E s := by
  cases k with
  | pin p =>
    obtain ⟨l, rfl, hl, hp⟩ := hs
    obtain ⟨items, hi, rfl⟩ := pin_at R.1 hl hp
    exact wpAny_pyNext_list_end hh ⟨o, hia, hI.1, hI.2⟩ hi (by simpa using hx) h
  | list =>
    obtain ⟨l, rfl, hl⟩ := hs
    obtain ⟨items, hi, rfl⟩ := list_at R.1 hl
    exact wpAny_pyNext_list_end hh ⟨o, hia, hI.1, hI.2⟩ hi (by simpa using hx) h
  | tup =>
    obtain ⟨l, rfl, hl⟩ := hs
    obtain ⟨items, hi, rfl⟩ := tup_at R.1 hl
    exact wpAny_pyNext_tuple_end hh ⟨o, hia, hI.1, hI.2⟩ hi (by simpa using hx) h
  | keys es n =>
    obtain ⟨d, rfl, hd, rfl⟩ := hs
    rcases dict_at R.1 hd with ⟨kvs, h1, rfl⟩ | ⟨kvs, h1, rfl⟩
    · exact wpAny_pyNext_dict_end hh ⟨o, hia, hI.1, by simpa using hI.2⟩ h1 (by simpa using hx) h
    · exact wpAny_pyNext_dict_end hh ⟨o, hia, hI.1, by simpa using hI.2⟩ h1 (by simpa using hx) h
  | vals d es n =>
    refine ex1and4 hs fun vw y1_ hv hd y4_ => ?_; try clear hs; obtain rfl := y1_; obtain rfl := y4_
    obtain ⟨c1, c2⟩ := hI
    rcases dict_at R.1 hd with ⟨kvs, h1, rfl⟩ | ⟨kvs, h1, rfl⟩
    · exact wpAny_pyNext_values_end hh ⟨o, hia, c1, by simpa using c2⟩ h1 (by simpa using hx) h
    · exact wpAny_pyNext_values_end hh ⟨o, hia, c1, by simpa using c2⟩ h1 (by simpa using hx) h
  | rng a b =>
    refine ex1and7 hs fun r y1_ hr y3_ b1 b2 b3 b4 => ?_; try clear hs; obtain rfl := y1_; obtain rfl := y3_
    have hI' : o = _ := hI
    subst hI'
    have hlt : ¬ i < (b - a).toNat := fun h => by
      have := List.getElem?_eq_none_iff.mp hx
      simp [intsFrom] at this
      omega
    exact wpAny_pyNext_range_end hh hia (by omega) h
theorem ItO.fields {i : Nat} {o : Obj} (h : ItO v xs i k o) : ∃ vs, o.data = .fields vs := by
  cases k with
  | list => exact ⟨_, h.2⟩
  | pin p => exact ⟨_, h.2⟩
  | tup => exact ⟨_, h.2⟩
  | keys es n => exact ⟨_, h.2⟩
  | vals d es n => exact ⟨_, h.2⟩
  | rng a b => cases (show o = _ from h); exact ⟨_, rfl⟩
theorem Src.same {v : Value} (h : Src st (er v) xs k) : er v = v := by
  have : ∀ a, er v = .ref a → er v = v := fun a e => by rw [er_ref e]; rfl
  cases k with
  | list => exact let ⟨l, e, _⟩ := h; this l e
  | pin p => exact let ⟨l, e, _⟩ := h; this l e
  | tup => exact let ⟨l, e, _⟩ := h; this l e
  | keys es n => exact let ⟨l, e, _⟩ := h; this l e
  | vals d es n => exact let ⟨l, e, _⟩ := h; this l e
  | rng a b => exact let ⟨l, e, _⟩ := h; this l e
theorem Rel.hid (R : Rel prog w F st s) {ia : Addr} {o : Obj} {s' : Shared} (hia : s.heap.get? ia = some o) (hH : st.H ia = none) (hB : F.base.get? ia = none)
    (hk : Heap.ExtBut ia s.heap s'.heap) (hg : s'.gens = s.gens) (ho : s'.os = s.os) (hf : ∃ vs, o.data = .fields vs) : Rel prog w F st s' := by
  obtain ⟨fs, hfs⟩ := hf
  have := R.bystanders (h' := s'.heap) (bad := [ia]) (fun a ha => List.mem_singleton.mp ha ▸ hH) (fun a ha => List.mem_singleton.mp ha ▸ hB) (fun b o hb e => hk b o (fun q => hb (List.mem_singleton.mpr q)) e)
    (fun b ob e hn => ⟨ob.slots, hk b ob (by rintro rfl; rw [hia] at e; cases e; exact hn _ hfs) e⟩)
  exact this.grow (fun _ _ e => e) hg ho
theorem After.hid {fr own : List Addr} (A : After fr own H₀ s₀ st.H s) {ia : Addr} {s' : Shared} (hn : s₀.heap.get? ia = none) (hk : Heap.ExtBut ia s.heap s'.heap) : After fr own H₀ s₀ st.H s' where
  keep b o e h1 h2 := by
    obtain ⟨sl, e1, c1⟩ := A.keep b o e h1 h2
    exact ⟨sl, hk b _ (by rintro rfl; rw [hn] at e; cases e) e1, c1⟩
  alive b e := by
    cases q : s.heap.get? b with
    | none => exact absurd q (A.alive b e)
    | some o => rw [hk b o (by rintro rfl; exact e hn) q]; exact nofun
  dom := A.dom
end
end Mine
end
section
set_option maxRecDepth 100000
set_option Elab.async false
set_option linter.unusedVariables false
namespace Mine
open PySem PySem.W PySem.Calls PyProof.Rows
section
variable {prog : Program} {w : World} {F : Fx} {st : St} {s s' s₀ : Shared} {H₀ : AHeap} {X : Value → List Value → St → Prop}
theorem T_nil {Q : Flow → St → Prop} (h : Q .next st) : T prog w F (execs [] F.env) Q X st := fun s R => wpAny_execs_nil ⟨st, R, .refl _ _ _ _, h⟩
theorem T.absQ' {α : Type} [Er α] {t : Sem α} {Q : α → St → Prop} (h : ∀ Q' : α → St → Prop, (∀ a st', Q a st' → Q' a st') → T prog w F t Q' X st) : T prog w F t Q X st := h Q fun _ _ q => q
theorem T.absX {α : Type} [Er α] {t : Sem α} {Q : α → St → Prop} (h : ∀ X' : Value → List Value → St → Prop, (∀ c a st', X c a st' → X' c a st') → T prog w F t Q X' st) : T prog w F t Q X st := h X fun _ _ _ q => q
theorem T_cons {a : Stmt} {r : List Stmt} {Q : Flow → St → Prop} (h : T prog w F (exec a F.env) (fun f st' => match f with | .next => T prog w F (execs r F.env) Q X st' | f => Q f st') X st) :
    T prog w F (execs (a :: r) F.env) Q X st := fun s R =>
  wpAny_execs_cons (h.then R (.refl _ _ _ _) fun f s' st' R' A' q => by
    cases f with
    | next => exact T.then q R' A' fun f s' st' R' A' q => ⟨st', R', A', q⟩
    | brk => exact ⟨st', R', A', q⟩
    | cont => exact ⟨st', R', A', q⟩
    | ret v => exact ⟨st', R', A', q⟩)
theorem T_exprS {e : Expr} {pos : Pos} {Q : Flow → St → Prop} (hi : interactive F.env = false) (hs : swapsWith e none pos.line F.env = pure false) (h : T prog w F (eval e F.env) (fun _ => Q .next) X st) :
    T prog w F (exec (.Expr e pos) F.env) Q X st := fun s R => wpAny_Expr_any (h s R) hi hs
theorem T_ret {e : Expr} {pos : Pos} {Q : Flow → St → Prop} (h : T prog w F (eval e F.env) (fun v => Q (.ret v)) X st) : T prog w F (exec (.Return (some e) pos) F.env) Q X st := fun s R => wpAny_Return_some (h s R)
theorem T_break {pos : Pos} {Q : Flow → St → Prop} (h : Q .brk st) : T prog w F (exec (.Break pos) F.env) Q X st := fun s R => wpAny_Break ⟨st, R, .refl _ _ _ _, h⟩
theorem T_continue {pos : Pos} {Q : Flow → St → Prop} (h : Q .cont st) : T prog w F (exec (.Continue pos) F.env) Q X st := fun s R => wpAny_Continue ⟨st, R, .refl _ _ _ _, h⟩
theorem T_assignName {x : Str} {p pos : Pos} {value : Expr} {Q : Flow → St → Prop} (hs : swapsWith value (some (.Name x p)) pos.line F.env = pure false)
    (h : T prog w F (eval value F.env) (fun v st' => ∀ v', er v' = v → T prog w F (storeName F.env x v') (fun _ => Q .next) X st') X st) : T prog w F (exec (.Assign [.Name x p] value pos) F.env) Q X st := fun s R =>
  wpAny_Assign_Name (h.then R (.refl _ _ _ _) fun v s' st' R' A' q => (q v rfl).then R' A' fun _ s'' st'' R'' A'' q => ⟨st'', R'', A'', q⟩) hs
theorem T_assignSub {o i value : Expr} {p pos : Pos} {Q : Flow → St → Prop} (hs : swapsWith value (some (.Subscript o i p)) pos.line F.env = pure false)
    (h : T prog w F (eval value F.env) (fun v st₁ => T prog w F (eval o F.env) (fun ov st₂ => T prog w F (eval i F.env) (fun iv st₃ =>
      ∀ v' ov' iv', er v' = v → er ov' = ov → er iv' = iv → T prog w F (setItem ov' iv' v') (fun _ => Q .next) X st₃) X st₂) X st₁) X st) : T prog w F (exec (.Assign [.Subscript o i p] value pos) F.env) Q X st := fun s R =>
  wpAny_Assign_Subscript (h.then R (.refl _ _ _ _) fun v s₁ st₁ R₁ A₁ h₁ => h₁.then R₁ A₁ fun ov s₂ st₂ R₂ A₂ h₂ => h₂.then R₂ A₂ fun iv s₃ st₃ R₃ A₃ h₃ =>
    (h₃ v ov iv rfl rfl rfl).then R₃ A₃ fun _ s₄ st₄ R₄ A₄ q => ⟨st₄, R₄, A₄, q⟩) hs
theorem T_assignAttr {o value : Expr} {attr : Str} {p pos : Pos} {Q : Flow → St → Prop} (hs : swapsWith value (some (.Attribute o attr p)) pos.line F.env = pure false)
    (h : T prog w F (eval value F.env) (fun v st₁ => T prog w F (eval o F.env) (fun ov st₂ => ∀ v' ov', er v' = v → er ov' = ov → T prog w F (setAttr ov' attr v') (fun _ => Q .next) X st₂) X st₁) X st) :
    T prog w F (exec (.Assign [.Attribute o attr p] value pos) F.env) Q X st := fun s R =>
  plainObj_wpAny_Assign_Attribute (h.then R (.refl _ _ _ _) fun v s₁ st₁ R₁ A₁ h₁ => h₁.then R₁ A₁ fun ov s₂ st₂ R₂ A₂ h₂ =>
    (h₂ v ov rfl rfl).then R₂ A₂ fun _ s₄ st₄ R₄ A₄ q => ⟨st₄, R₄, A₄, q⟩) hs
theorem T_augAttr {o value : Expr} {attr : Str} {p pos : Pos} {op : Operator} {Q : Flow → St → Prop}
    (h : T prog w F (eval o F.env) (fun ov st₁ => ∀ ov', er ov' = ov → T prog w F (getAttr ov' attr true) (fun old st₂ => T prog w F (eval value F.env) (fun v st₃ => ∀ old' v', er old' = old → er v' = v →
      T prog w F (inplaceOp op old' v') (fun new st₄ => ∀ new', er new' = new → T prog w F (setAttr ov' attr new') (fun _ => Q .next) X st₄) X st₃) X st₂) X st₁) X st) :
    T prog w F (exec (.AugAssign (.Attribute o attr p) op value pos) F.env) Q X st := fun s R =>
  wpAny_AugAssign_AttributeAny (h.then R (.refl _ _ _ _) fun ov s₁ st₁ R₁ A₁ h₁ => (h₁ ov rfl).then R₁ A₁ fun old s₂ st₂ R₂ A₂ h₂ => h₂.then R₂ A₂ fun v s₃ st₃ R₃ A₃ h₃ =>
    (h₃ old v rfl rfl).then R₃ A₃ fun new s₄ st₄ R₄ A₄ h₄ => (h₄ new rfl).then R₄ A₄ fun _ s₅ st₅ R₅ A₅ q => ⟨st₅, R₅, A₅, q⟩)
theorem T_augName {x : Str} {value : Expr} {p pos : Pos} {op : Operator} {Q : Flow → St → Prop}
    (h : T prog w F (loadName F.env x) (fun old st₂ => T prog w F (eval value F.env) (fun v st₃ => ∀ old' v', er old' = old → er v' = v →
      T prog w F (inplaceOp op old' v') (fun new st₄ => ∀ new', er new' = new → T prog w F (storeName F.env x new') (fun _ => Q .next) X st₄) X st₃) X st₂) X st) :
    T prog w F (exec (.AugAssign (.Name x p) op value pos) F.env) Q X st := fun s R =>
  wpAny_AugAssign_Name (h.then R (.refl _ _ _ _) fun old s₂ st₂ R₂ A₂ h₂ => h₂.then R₂ A₂ fun v s₃ st₃ R₃ A₃ h₃ =>
    (h₃ old v rfl rfl).then R₃ A₃ fun new s₄ st₄ R₄ A₄ h₄ => (h₄ new rfl).then R₄ A₄ fun _ s₅ st₅ R₅ A₅ q => ⟨st₅, R₅, A₅, q⟩)
theorem T_assign2 {t₁ t₂ value : Expr} {pos : Pos} {Q : Flow → St → Prop} (he : (assignEach [t₁, t₂] F.env).map (·.2) = [assign t₁ F.env, assign t₂ F.env]) (hw : swappedStores [t₁, t₂] value F.env = pure none)
    (h : T prog w F (eval value F.env) (fun v st₁ => ∀ v', er v' = v → T prog w F (assign t₁ F.env v') (fun _ st₂ => T prog w F (assign t₂ F.env v') (fun _ => Q .next) X st₂) X st₁) X st) :
    T prog w F (exec (.Assign [t₁, t₂] value pos) F.env) Q X st := fun s R =>
  wpAny_Assign_two (h.then R (.refl _ _ _ _) fun v s₁ st₁ R₁ A₁ h₁ => (h₁ v rfl).then R₁ A₁ fun _ s₂ st₂ R₂ A₂ h₂ => h₂.then R₂ A₂ fun _ s₃ st₃ R₃ A₃ q => ⟨st₃, R₃, A₃, q⟩) he hw
theorem T_assign1 {t value : Expr} {pos : Pos} {Q : Flow → St → Prop} (hs : swapsWithSole [t] value pos.line F.env = pure false) (hw : swappedStores [t] value F.env = pure none)
    (he : (assignEach [t] F.env).map (·.2) = [assign t F.env])
    (h : T prog w F (eval value F.env) (fun v st₁ => ∀ v', er v' = v → T prog w F (assign t F.env v') (fun _ => Q .next) X st₁) X st) :
    T prog w F (exec (.Assign [t] value pos) F.env) Q X st := fun s R =>
  wpAny_Assign_stores (h.then R (.refl _ _ _ _) fun v s₁ st₁ R₁ A₁ h₁ => by
    rw [he]
    exact (h₁ v rfl).then R₁ A₁ fun _ s₂ st₂ R₂ A₂ q => ⟨st₂, R₂, A₂, q⟩) hs hw
theorem T_tName {x : Str} {p : Pos} {v : Value} {Q : Unit → St → Prop} (h : T prog w F (storeName F.env x v) Q X st) : T prog w F (assign (.Name x p) F.env v) Q X st := fun s R => wpAny_assign_Name (h s R)
theorem T_tSub {o i : Expr} {p : Pos} {v : Value} {Q : Unit → St → Prop}
    (h : T prog w F (eval o F.env) (fun ov st₂ => T prog w F (eval i F.env) (fun iv st₃ => ∀ ov' iv', er ov' = ov → er iv' = iv → T prog w F (setItem ov' iv' v) Q X st₃) X st₂) X st) :
    T prog w F (assign (.Subscript o i p) F.env v) Q X st := fun s R => by
  rw [assign_Subscript]
  exact wpAny_bind (wpAny_holding (h.then R (.refl _ _ _ _) fun ov s₂ st₂ R₂ A₂ h₂ => wpAny_bind (wpAny_holding (h₂.then R₂ A₂ fun iv s₃ st₃ R₃ A₃ h₃ => wpAny_bind (wpAny_standAt (wpAny_bind (wpAny_holding
    ((h₃ ov iv rfl rfl).then R₃ A₃ fun _ s₄ st₄ R₄ A₄ q => wpAny_release ⟨st₄, R₄, A₄, q⟩))))))))
theorem T_tTuple {elts : List Expr} {k : Nat} {p : Pos} {t : Addr} {xs : List Value} {Q : Unit → St → Prop} (hh : F.A.handled = none) (ht : st.H t = some (.tup xs))
    (hn : (assignEach elts F.env).length = xs.length) (hstar : (assignEach elts F.env).findIdx? (·.1) = none)
    (h : ∀ vs, vs.map er = xs → T prog w F (assignInOrder ((assignEach elts F.env).map (·.2)) vs) Q X st) : T prog w F (assign (.Tuple elts k p) F.env (.ref t)) Q X st := fun s R => by
  obtain ⟨items, hi, he⟩ := tup_at R.1 ht
  refine wpAny_assign_Tuple hh hi (by rw [hn, ← he]; simp) hstar fun h' hx => ?_
  have hk : ∀ b o, s.heap.get? b = some o → h'.get? b = some o := fun b o e => hx b o (Nat.ne_of_lt (Heap.lt_size e)) e
  exact (h items.toList he).then (R.grow (s' := { s with heap := h' }) hk rfl rfl) (.grow _ _ hk) fun _ s₄ st₄ R₄ A₄ q => ⟨st₄, R₄, A₄, q⟩
theorem T_order0 {Q : Unit → St → Prop} (h : Q () st) : T prog w F (assignInOrder [] []) Q X st := fun s R => wpAny_pure ⟨st, R, .refl _ _ _ _, h⟩
theorem T_order {t : Value → Sem Unit} {ts : List (Value → Sem Unit)} {x : Value} {xs : List Value} {Q : Unit → St → Prop}
    (h : T prog w F (t x) (fun _ st₁ => T prog w F (assignInOrder ts xs) Q X st₁) X st) : T prog w F (assignInOrder (t :: ts) (x :: xs)) Q X st := fun s R =>
  wpAny_assignInOrder_more (h.then R (.refl _ _ _ _) fun _ s₁ st₁ R₁ A₁ h₁ => h₁.then R₁ A₁ fun _ s₂ st₂ R₂ A₂ q => ⟨st₂, R₂, A₂, q⟩)
theorem T_if {test : Expr} {body orelse : List Stmt} {pos : Pos} {Q : Flow → St → Prop}
    (h : T prog w F (isTrue test F.env (eval test F.env)) (fun b st' => if b then T prog w F (execs body F.env) Q X st' else T prog w F (execs orelse F.env) Q X st') X st) :
    T prog w F (exec (.If test body orelse pos) F.env) Q X st := fun s R =>
  wpAny_If (h.then R (.refl _ _ _ _) fun b s' st' R' A' q => by
    have q : if b = true then _ else _ := q
    cases b
    · exact T.then q R' A' fun _ s₂ st₂ R₂ A₂ q => ⟨st₂, R₂, A₂, q⟩
    · exact T.then q R' A' fun _ s₂ st₂ R₂ A₂ q => ⟨st₂, R₂, A₂, q⟩)
theorem T_isCmp {l r : Expr} {op : CmpOp} {pos : Pos} {whole : Sem Value} {Q : Bool → St → Prop} (hm : behindInMarks op r = false)
    (h : T prog w F (eval l F.env) (fun a st₁ => T prog w F (eval r F.env) (fun b st₂ => ∀ a' b', er a' = a → er b' = b → T prog w F (compareOp op a' b') (fun c st₃ => ∃ t, c = .bool t ∧ Q t st₃) X st₂) X st₁) X st) :
    T prog w F (isTrue (.Compare l [op] [r] pos) F.env whole) Q X st := fun s R =>
  wpAny_isTrue_Compare1 (h.then R (.refl _ _ _ _) fun a s₁ st₁ R₁ A₁ h₁ => h₁.then R₁ A₁ fun b s₂ st₂ R₂ A₂ h₂ => (h₂ a b rfl rfl).then R₂ A₂ fun c s₃ st₃ R₃ A₃ ⟨t, e, q⟩ => by
    rw [er_bool e]
    exact wpAny_truthy_bool ⟨st₃, R₃, A₃, q⟩) hm
theorem T_cmp {l r : Expr} {op : CmpOp} {pos : Pos} {Q : Value → St → Prop} (hm : behindInMarks op r = false)
    (h : T prog w F (eval l F.env) (fun a st₁ => T prog w F (eval r F.env) (fun b st₂ => ∀ a' b', er a' = a → er b' = b → T prog w F (compareOp op a' b') Q X st₂) X st₁) X st) :
    T prog w F (eval (.Compare l [op] [r] pos) F.env) Q X st := fun s R =>
  wpAny_Compare1 (h.then R (.refl _ _ _ _) fun a s₁ st₁ R₁ A₁ h₁ => h₁.then R₁ A₁ fun b s₂ st₂ R₂ A₂ h₂ => (h₂ a b rfl rfl).then R₂ A₂ fun c s₃ st₃ R₃ A₃ q => ⟨st₃, R₃, A₃, q⟩) hm
theorem T_isNot {x : Expr} {pos : Pos} {whole : Sem Value} {Q : Bool → St → Prop} (h : T prog w F (isTrue x F.env (eval x F.env)) (fun b => Q (!b)) X st) : T prog w F (isTrue (.UnaryOp .Not x pos) F.env whole) Q X st := fun s R =>
  wpAny_isTrue_Not (h.then R (.refl _ _ _ _) fun b s₁ st₁ R₁ A₁ q => ⟨st₁, R₁, A₁, q⟩)
theorem T_isOr {vs : List Expr} {pos : Pos} {whole : Sem Value} {Q : Bool → St → Prop} (h : T prog w F (allTrue .Or vs F.env) Q X st) : T prog w F (isTrue (.BoolOp .Or vs pos) F.env whole) Q X st := fun s R => wpAny_isTrue_BoolOp (h s R)
theorem T_isAnd {vs : List Expr} {pos : Pos} {whole : Sem Value} {Q : Bool → St → Prop} (h : T prog w F (allTrue .And vs F.env) Q X st) : T prog w F (isTrue (.BoolOp .And vs pos) F.env whole) Q X st := fun s R => wpAny_isTrue_BoolOp (h s R)
theorem T_or0 {Q : Bool → St → Prop} (h : Q false st) : T prog w F (allTrue .Or [] F.env) Q X st := fun s R => wpAny_allTrue_Or_nil ⟨st, R, .refl _ _ _ _, h⟩
theorem T_and0 {Q : Bool → St → Prop} (h : Q true st) : T prog w F (allTrue .And [] F.env) Q X st := fun s R => wpAny_allTrue_And_nil ⟨st, R, .refl _ _ _ _, h⟩
theorem T_or1 {x : Expr} {r : List Expr} {Q : Bool → St → Prop} (h : T prog w F (isTrue x F.env (eval x F.env)) (fun b st' => if b then Q true st' else T prog w F (allTrue .Or r F.env) Q X st') X st) : T prog w F (allTrue .Or (x :: r) F.env) Q X st := fun s R =>
  wpAny_allTrue_Or_cons (h.then R (.refl _ _ _ _) fun b s' st' R' A' q => by
    have q : if b = true then _ else _ := q
    cases b
    · exact T.then q R' A' fun _ s₂ st₂ R₂ A₂ q => ⟨st₂, R₂, A₂, q⟩
    · exact ⟨st', R', A', q⟩)
theorem T_and1 {x : Expr} {r : List Expr} {Q : Bool → St → Prop} (h : T prog w F (isTrue x F.env (eval x F.env)) (fun b st' => if b then T prog w F (allTrue .And r F.env) Q X st' else Q false st') X st) : T prog w F (allTrue .And (x :: r) F.env) Q X st := fun s R =>
  wpAny_allTrue_And_cons (h.then R (.refl _ _ _ _) fun b s' st' R' A' q => by
    have q : if b = true then _ else _ := q
    cases b
    · exact ⟨st', R', A', q⟩
    · exact T.then q R' A' fun _ s₂ st₂ R₂ A₂ q => ⟨st₂, R₂, A₂, q⟩)
theorem T_isVal {e : Expr} {whole : Sem Value} {Q : Bool → St → Prop} (he : isTrue e F.env whole = (do let v ← whole; standAt e.pos; holding [v] (truthy v)))
    (h : T prog w F whole (fun v st' => ∀ v', er v' = v → T prog w F (truthy v') Q X st') X st) : T prog w F (isTrue e F.env whole) Q X st := fun s R =>
  wpAny_isTrue_value (h.then R (.refl _ _ _ _) fun v s₁ st₁ R₁ A₁ h₁ => (h₁ v rfl).then R₁ A₁ fun _ s₂ st₂ R₂ A₂ q => ⟨st₂, R₂, A₂, q⟩) he
theorem T_binop {l r : Expr} {op : Operator} {pos : Pos} {Q : Value → St → Prop}
    (h : T prog w F (eval l F.env) (fun a st₁ => T prog w F (eval r F.env) (fun b st₂ => ∀ a' b', er a' = a → er b' = b → T prog w F (binaryOp op a' b') Q X st₂) X st₁) X st) :
    T prog w F (eval (.BinOp l op r pos) F.env) Q X st := fun s R =>
  wpAny_BinOp (h.then R (.refl _ _ _ _) fun a s₁ st₁ R₁ A₁ h₁ => h₁.then R₁ A₁ fun b s₂ st₂ R₂ A₂ h₂ => (h₂ a b rfl rfl).then R₂ A₂ fun c s₃ st₃ R₃ A₃ q => ⟨st₃, R₃, A₃, q⟩)
theorem T_unop {x : Expr} {op : UnaryOp} {pos : Pos} {Q : Value → St → Prop} (h : T prog w F (eval x F.env) (fun a st₁ => ∀ a', er a' = a → T prog w F (unaryOp op a') Q X st₁) X st) :
    T prog w F (eval (.UnaryOp op x pos) F.env) Q X st := fun s R =>
  wpAny_UnaryOp (h.then R (.refl _ _ _ _) fun a s₁ st₁ R₁ A₁ h₁ => (h₁ a rfl).then R₁ A₁ fun c s₃ st₃ R₃ A₃ q => ⟨st₃, R₃, A₃, q⟩)
theorem T_walrus {t value : Expr} {pos : Pos} {Q : Value → St → Prop} (h : T prog w F (eval value F.env) (fun v st₁ => ∀ v', er v' = v → T prog w F (assign t F.env v') (fun _ => Q v) X st₁) X st) :
    T prog w F (eval (.NamedExpr t value pos) F.env) Q X st := fun s R =>
  wpAny_NamedExpr (h.then R (.refl _ _ _ _) fun v s₁ st₁ R₁ A₁ h₁ => (h₁ v rfl).then R₁ A₁ fun _ s₃ st₃ R₃ A₃ q => ⟨st₃, R₃, A₃, q⟩)
theorem T_for {target iter : Expr} {body orelse : List Stmt} {pos : Pos} {Q : Flow → St → Prop} {outer : List Env} {L : Addr} (U : Runs F outer L) (hh : F.A.handled = none) (N : NoSys F.toFc)
    (hs : ∀ x, foldedSetIterable iter F.env x = pure x) (ht : ∀ v, letOwnedTupleGo target v = fun _ => pure ())
    (h : T prog w F (eval iter F.env) (fun v st₁ => ∃ xs k, ∃ I : Nat → St → Prop, Src st₁ v xs k ∧ I 0 st₁ ∧ (∀ i st', I i st' → Src st' v xs k) ∧
      (∀ i x st' x', xs[i]? = some x → I i st' → er x' = x → T prog w F (assign target F.env x') (fun _ st₂ => T prog w F (execs body F.env) (fun f st₃ => match f with
        | .next => I (i + 1) st₃ | .cont => I (i + 1) st₃ | .brk => Q .next st₃ | .ret v => Q (.ret v) st₃) X st₂) X st') ∧
      (∀ st', I xs.length st' → T prog w F (execs orelse F.env) Q X st')) X st) :
    T prog w F (exec (.For target iter body orelse pos) F.env) Q X st := by
  intro s R
  refine wpAny_For (h.then R (.refl _ _ _ _) fun v s₁ st₁ R₁ A₁ hv => ?_) hs
  refine ex3and5 hv fun xs k I hsrc hI0 hIs hstep hend => ?_; try clear hv
  have hsame := hsrc.same
  have hsrc' : Src st₁ v xs k := hsame ▸ hsrc
  refine pyIter_src R₁ hsrc' N fun o₀ hito hfr => ?_
  have hia0 := Heap.get?_push_size s₁.heap hfr
  have grow : ∀ b ob, s₁.heap.get? b = some ob → (s₁.heap.push o₀).get? b = some ob := fun b ob e => Heap.get?_push_of_some _ e
  have hfresh1 : s₁.heap.get? s₁.heap.objs.size = none := Heap.get?_none_of_le (Nat.le_refl _)
  have hfresh : s.heap.get? s₁.heap.objs.size = none := by
    cases q : s.heap.get? s₁.heap.objs.size with
    | none => rfl
    | some ob => exact absurd hfresh1 (A₁.alive _ (by rw [q]; exact nofun))
  have hB : F.base.get? s₁.heap.objs.size = none := by
    cases q : F.base.get? s₁.heap.objs.size with
    | none => rfl
    | some ob => rw [R₁.1.stays _ _ q] at hfresh1; cases hfresh1
  generalize hiaE : s₁.heap.objs.size = ia at *
  refine ex0and5 (R₁.apart hfresh1) fun _ hiaF _ _ hown => ?_
  refine codeAny_forLoop (fun n s' => ∃ i st' o, n = xs.length - i ∧ i ≤ xs.length ∧ I i st' ∧ Rel prog w F st' s' ∧ After (frAddrs F.stk) F.own st.H s st'.H s' ∧ s'.heap.get? ia = some o ∧ ItO v xs i k o ∧ st'.H ia = none) ?_ xs.length
    ⟨0, st₁, o₀, by omega, Nat.zero_le _, hI0, R₁.grow (s' := { s₁ with heap := s₁.heap.push o₀ }) grow rfl rfl, A₁.trans (.grow _ _ grow), hia0, hito, R₁.1.none_of hfresh1⟩ (fun v' => congrFun (ht _) v')
  rintro n s' hx0_; refine ex3and8 hx0_ fun i st' o y3_ hile hI R' A' hia hit hH => ?_; try clear hx0_; obtain rfl := y3_
  have hsi : Src st' v xs k := hsame ▸ hIs i st' hI
  have hfl := hit.fields
  cases hx : xs[i]? with
  | none =>
    have hi : i = xs.length := by have := List.getElem?_eq_none_iff.mp hx; omega
    subst hi
    refine next_done hh R' hsi hia hit hx hile fun h' hext => ?_
    have R2 := R'.hid (s' := { s' with heap := h' }) hia hH hB hext rfl rfl hfl
    have A2 := After.hid (s' := { s' with heap := h' }) A' hfresh hext
    exact wpAny_mono ((hend st' hI).then R2 A2 fun f s₃ st₃ R₃ A₃ q => ⟨st₃, R₃, A₃, q⟩) (fun _ _ z => z) fun e s₃ x => XPost.cameBack U x
  | some x =>
    have hi : i < xs.length := (List.getElem?_eq_some_iff.mp hx).1
    refine next_item R' hsi hia hit hx fun x' h' o' tk hx' hia' hit' hsb => ?_
    have R2 := R'.hid (s' := { s' with heap := h', toks := tk }) hia hH hB hsb.extBut rfl rfl hfl
    have A2 := After.hid (s' := { s' with heap := h', toks := tk }) A' hfresh hsb.extBut
    refine wpAny_mono ((hstep i x st' x' hx hI hx').then R2 (.refl _ F.own _ _) fun _ s₃ st₃ R₃ A₃ hb => ?_) (fun _ _ z => z) fun e s₃ x => XPost.cameBack U (x.older A2)
    refine wpAny_mono (T.then hb R₃ A₃ fun f s₄ st₄ R₄ A₄ q => ?_) (fun _ _ z => z) fun e s₃ x => XPost.cameBack U (x.older A2)
    have A5 := A2.trans A₄
    have inv : I (i + 1) st₄ → ∃ m, m < xs.length - i ∧ ∃ i st' o, m = xs.length - i ∧ i ≤ xs.length ∧ I i st' ∧ Rel prog w F st' s₄ ∧ After (frAddrs F.stk) F.own st.H s st'.H s₄ ∧ s₄.heap.get? ia = some o ∧ ItO v xs i k o ∧ st'.H ia = none := fun hI4 => by
      obtain ⟨sl, e1, c1⟩ := A₄.keep ia o' hia' hH hown
      have hsl := c1 hiaF
      refine ⟨xs.length - (i + 1), om4 (by assumption), i + 1, st₄, o', rfl, by assumption, hI4, R₄, A5, ?_, hit', ?_⟩
      · rw [e1, hsl]
      · cases q : st₄.H ia with
        | none => rfl
        | some z =>
          rcases A₄.dom ia (by rw [q]; exact nofun) with h | h
          · exact absurd hH h
          · rw [show ({ s' with heap := h', toks := tk } : Shared).heap.get? ia = some o' from hia'] at h; cases h
    cases f with
    | next => exact inv q
    | cont => exact inv q
    | brk => exact ⟨st₄, R₄, A5, q⟩
    | ret v => exact ⟨st₄, R₄, A5, q⟩
theorem T_while {test : Expr} {body orelse : List Stmt} {pos : Pos} {Q : Flow → St → Prop} {outer : List Env} {L : Addr} (U : Runs F outer L) (I : Nat → St → Prop) (n : Nat) (h0 : I n st)
    (hstep : ∀ n st', I n st' → T prog w F (isTrue test F.env (eval test F.env)) (fun b st₂ => if b then T prog w F (execs body F.env) (fun f st₃ => match f with
        | .next => ∃ m, m < n ∧ I m st₃ | .cont => ∃ m, m < n ∧ I m st₃ | .brk => Q .next st₃ | .ret v => Q (.ret v) st₃) X st₂ else T prog w F (execs orelse F.env) Q X st₂) X st') :
    T prog w F (exec (.While test body orelse pos) F.env) Q X st := by
  intro s R
  refine wpAny_While (codeAny_whileLoop (fun n s' => ∃ st', I n st' ∧ Rel prog w F st' s' ∧ After (frAddrs F.stk) F.own st.H s st'.H s') ?_ n ⟨st, h0, R, .refl _ _ _ _⟩)
  rintro n s' ⟨st', hI, R', A'⟩
  refine wpAny_mono ((hstep n st' hI).then R' A' fun b s₂ st₂ R₂ A₂ hb => ?_) (fun _ _ z => z) fun e s₃ x => XPost.cameBack U x
  have hb : if b = true then _ else _ := hb
  cases b
  · rw [if_neg (by decide)] at hb
    refine wpAny_mono (T.then hb R₂ A₂ fun f s₄ st₄ R₄ A₄ q => ?_) (fun _ _ z => z) fun e s₃ x => XPost.cameBack U x
    exact ⟨st₄, R₄, A₄, q⟩
  · rw [if_pos rfl] at hb
    refine wpAny_mono (T.then hb R₂ A₂ fun f s₄ st₄ R₄ A₄ q => ?_) (fun _ _ z => z) fun e s₃ x => XPost.cameBack U x
    cases f with
    | next => obtain ⟨m, hm, hI⟩ := q; exact ⟨m, hm, st₄, hI, R₄, A₄⟩
    | cont => obtain ⟨m, hm, hI⟩ := q; exact ⟨m, hm, st₄, hI, R₄, A₄⟩
    | brk => exact ⟨st₄, R₄, A₄, q⟩
    | ret v => exact ⟨st₄, R₄, A₄, q⟩
end
end Mine
end
section
set_option maxRecDepth 100000
set_option Elab.async false
set_option linter.unusedVariables false
namespace Mine
open PySem PySem.W PySem.Calls PyProof.Rows
section
variable {prog : Program} {w : World} {F : Fx} {st : St} {s s' s₀ : Shared} {H₀ H H' : AHeap} {X : Value → List Value → St → Prop}
theorem KeepAt.ns {h h' : Heap} {a : Addr} {m : Str → Option Value} (hn : h.Ns a m) (k : ∀ o, h.get? a = some o → KeepAt fr o h' a) : h'.Ns a m := by
  refine ex3and3 hn fun o es ep ho hd r => ?_; try clear hn
  obtain ⟨sl, e, _⟩ := k o ho
  exact ⟨_, es, ep, e, hd, r⟩
theorem KeepAt.cell {h h' : Heap} {a : Addr} {v : Option Value} (hn : h.IsCell a v) (k : ∀ o, h.get? a = some o → KeepAt fr o h' a) : h'.IsCell a v := by
  obtain ⟨o, ho, hd⟩ := hn
  obtain ⟨sl, e, _⟩ := k o ho
  exact ⟨_, e, hd⟩
theorem VRel.back {fr own' : List Addr} (V : VRel F st s) (A : After fr own' st.H s H' s') (hL : F.env.locals ∉ own') (hc : ∀ x c, F.env.cells.lookup x = some c → c ∉ own') (ho : ∀ a ∈ F.own, a ∉ own') : VRel F ⟨st.vars, H'⟩ s' := by
  obtain ⟨⟨m, hm, hl⟩, hcel, h3, h4, h5, h6, h7⟩ := V
  have hn : ∀ b ob, s.heap.get? b = some ob → st.H b = none → H' b = none := fun b ob e h => by
    cases q : H' b with
    | none => rfl
    | some z =>
      rcases A.dom b (by rw [q]; exact nofun) with h' | h'
      · exact absurd h h'
      · rw [e] at h'; cases h'
  refine ex3and2 (id hm) fun oL esL epL hoL rL => ?_
  refine ⟨⟨m, KeepAt.ns hm fun o e => A.keep _ o e h3 hL, hl⟩, fun x v e k => ?_, hn _ _ hoL h3, h4, fun x c e => ?_, h6, fun a ha => ?_⟩
  · refine ex2and3 (hcel x v e k) fun c u a b r => ?_
    exact exi2 c u ⟨a, KeepAt.cell b fun o e => A.keep _ o e (h5 x c a).1 (hc x c a), r⟩
  · refine ex0and4 (h5 x c e) fun a1 b1 d1 y3_ => ?_; obtain ⟨v, hv⟩ := y3_
    obtain ⟨oc, hoc, hdc⟩ := id hv
    exact ⟨hn _ _ hoc a1, b1, d1, v, KeepAt.cell hv fun o e' => A.keep _ o e' a1 (hc x c e)⟩
  · obtain ⟨a1, ob, eb, r⟩ := h7 a ha
    obtain ⟨sl, e, _⟩ := A.keep a ob eb a1 (ho a ha)
    exact ⟨hn _ _ eb a1, _, e, r⟩
theorem After.inner {fr own own' : List Addr} (A : After fr own H₀ s₀ H s) (B : After fr own' H s H' s') (hf : ∀ b ∈ own', s₀.heap.get? b = none) : After fr own H₀ s₀ H' s' where
  keep b o e hn ho := by
    obtain ⟨sl, e1, c1⟩ := A.keep b o e hn ho
    have hn1 : H b = none := by
      cases q : H b with
      | none => rfl
      | some z =>
        rcases A.dom b (by rw [q]; exact nofun) with h | h
        · exact absurd hn h
        · rw [e] at h; cases h
    obtain ⟨sl2, e2, c2⟩ := B.keep b _ e1 hn1 (fun hm => by rw [hf b hm] at e; cases e)
    exact ⟨sl2, e2, fun hc => (c2 hc).trans (c1 hc)⟩
  alive b e := B.alive b (A.alive b e)
  dom b e := by
    rcases B.dom b e with h | h
    · exact A.dom b h
    · refine .inr ?_
      cases q : s₀.heap.get? b with
      | none => rfl
      | some z => exact absurd h (A.alive b (by rw [q]; exact nofun))
theorem Rel.quiet (R : Rel prog w F st s) {C : Addr} {h' : Heap} (hH : st.H C = none) (hB : F.base.get? C = none) (hs : Heap.SameBut C s.heap h') (hfr : C ∉ frAddrs F.stk) (hL : F.env.locals ≠ C)
    (hce : ∀ x c, F.env.cells.lookup x = some c → c ≠ C) (ho : C ∉ F.own) : Rel prog w F st { s with heap := h' } := by
  have neH : ∀ b, st.H b ≠ none → b ≠ C := fun b e q => by rw [q, hH] at e; exact e rfl
  have hB' : ∀ b ob, F.base.get? b = some ob → b ≠ C := fun b ob e q => by rw [q, hB] at e; cases e
  obtain ⟨R1, ⟨⟨m, hm, hl⟩, hcel, h3, h4, h5, h6, h7⟩⟩ := R
  have frq : ∀ l, (∀ env ∈ l, env.frame ≠ some C) → s.heap.FunFrames F.base l → Heap.FunFrames h' F.base l := by
    intro l
    induction l with
    | nil => intros; trivial
    | cons env rest ih =>
      rintro hcl ⟨z1, ⟨L, o, z2, z3, z4, z5⟩, z6⟩
      have : L ≠ C := fun q => hcl env List.mem_cons_self (q ▸ z2)
      exact ⟨z1, ⟨L, o, z2, z3, (hs.2 _ this).trans z4, z5⟩, ih (fun e he => hcl e (List.mem_cons_of_mem _ he)) z6⟩
  refine ⟨⟨fun b o e => (hs.2 b (hB' b o e)).trans (R1.stays b o e), fun a o e => ?_, R1.notBase, frq _ (fun env he q => hfr (List.mem_filterMap.mpr ⟨env, he, q⟩)) R1.frames, fun env he L hL => ?_, R1.gens, R1.os⟩, ⟨⟨m, hm.sameBut hs hL, hl⟩, fun x v e k => ?_, h3, h4, fun x c e => ?_, h6, fun a ha => ?_⟩⟩
  · obtain ⟨o', e', r⟩ := R1.cells a o e
    exact ⟨o', (hs.2 a (neH a (by rw [e]; exact nofun))).trans e', r⟩
  · refine ex0and2 (R1.frCls env he L hL) fun z1 y1_ => ?_; obtain ⟨o, es, n, z2, z3⟩ := y1_
    exact ⟨z1, exi3 o es n ⟨(hs.2 _ (fun q => hfr (List.mem_filterMap.mpr ⟨env, he, q ▸ hL⟩))).trans z2, z3⟩⟩
  · refine ex2and3 (hcel x v e k) fun c u a y3_ r => ?_; obtain ⟨o, b, d⟩ := y3_
    exact exi2 c u ⟨a, ⟨o, (hs.2 _ (hce x c a)).trans b, d⟩, r⟩
  · refine ex0and4 (h5 x c e) fun a1 b1 d1 y3_ => ?_; obtain ⟨v, o, b, d⟩ := y3_
    exact ⟨a1, b1, d1, v, o, (hs.2 _ (hce x c e)).trans b, d⟩
  · obtain ⟨a1, ob, eb, r⟩ := h7 a ha
    exact ⟨a1, ob, (hs.2 _ (fun q => ho (q ▸ ha))).trans eb, r⟩
theorem Rel.aside {st₀ : St} (R₀ : Rel prog w F st₀ s₀) (R : Rel prog w F st s) {C : Addr} {h' : Heap} (hC : s₀.heap.get? C = none) (hH : st.H C = none) (hs : Heap.SameBut C s.heap h') : Rel prog w F st { s with heap := h' } :=
  let ⟨a, b, c, d, e⟩ := R₀.apart hC
  R.quiet hH a hs b c d e
theorem After.aside {fr own : List Addr} (A : After fr own H₀ s₀ H s) {C : Addr} {h' : Heap} (hC : s₀.heap.get? C = none) (hs : Heap.SameBut C s.heap h') : After fr own H₀ s₀ H { s with heap := h' } where
  keep b o e hn ho := by
    obtain ⟨sl, e1, c1⟩ := A.keep b o e hn ho
    exact ⟨sl, (hs.2 b (fun q => by rw [q, hC] at e; cases e)).trans e1, c1⟩
  alive b e := by
    show h'.get? b ≠ none
    rw [hs.2 b (fun q => e (q ▸ hC))]
    exact A.alive b e
  dom := A.dom
noncomputable def Clos (env : Env) : List (Str × Addr) → Prop
  | [] => True
  | p :: r => env.cells.lookup p.1 = some p.2 ∧ Clos env r
theorem Clos.at {env : Env} : ∀ {cl : List (Str × Addr)}, Clos env cl → ∀ x c, cl.lookup x = some c → env.cells.lookup x = some c := by
  intro cl
  induction cl with
  | nil => intro _ x c e; cases e
  | cons p r ih =>
    rintro ⟨h1, h2⟩ x c e
    obtain ⟨y, d⟩ := p
    by_cases q : x = y
    · subst q; simp only [List.lookup, beq_self_eq_true] at e; cases e; exact h1
    · have : (x == y) = false := by simpa using q
      simp only [List.lookup, this] at e
      exact ih h2 x c e
noncomputable abbrev cfx (F : Fx) (scope : Scope) (cl : List (Str × Addr)) (C : Addr) : Fx := { F with env := compEnvC scope cl C F.env, own := [C] }
noncomputable def Cap (vars : List (Str × Value)) (env : Env) (scope : Scope) (cl : List (Str × Addr)) : List (Str × Value) → Prop
  | [] => True
  | (x, v) :: r => (vars.lookup x = some v ∧ env.kindOf x = some .cell ∧ (relabel scope env).names.lookup x = some .cell ∧ cl.lookup x = env.cells.lookup x) ∧ Cap vars env scope cl r
theorem Cap.at {vars : List (Str × Value)} {env : Env} {scope : Scope} {cl : List (Str × Addr)} : ∀ {cv : List (Str × Value)}, Cap vars env scope cl cv → ∀ x v, cv.lookup x = some v →
    vars.lookup x = some v ∧ env.kindOf x = some .cell ∧ (relabel scope env).names.lookup x = some .cell ∧ cl.lookup x = env.cells.lookup x := by
  intro cv
  induction cv with
  | nil => intro _ x v e; cases e
  | cons p r ih =>
    obtain ⟨y, u⟩ := p
    intro h x v e
    have h1 := h.1
    have h2 := h.2
    clear h
    by_cases q : x = y
    · subst q; simp only [List.lookup, beq_self_eq_true] at e; cases e; exact h1
    · have : (x == y) = false := by simpa using q
      simp only [List.lookup, this] at e
      exact ih h2 x v e
theorem comp_enter {scope : Scope} {cl : List (Str × Addr)} {cv : List (Str × Value)} {C : Addr} {h' : Heap} (R : Rel prog w F st s) (hcl : Clos F.env cl) (hcv : Cap st.vars F.env scope cl cv)
    (hC : s.heap.get? C = none) (hkeep : ∀ b o, s.heap.get? b = some o → h'.get? b = some o) (hns : h'.Ns C fun _ => none) {tk : Nat} : Rel prog w (cfx F scope cl C) ⟨cv, st.H⟩ { s with heap := h', toks := tk } := by
  have R' := R.grow (s' := { s with heap := h', toks := tk }) hkeep rfl rfl
  refine ⟨R'.1, ⟨⟨_, hns, fun x v e k => ?_⟩, fun x v e k => ?_, R.1.none_of hC, ?_, fun x c e => ?_, fun x y c e1 e2 => ?_, fun a ha => ?_⟩⟩
  · have := (hcv.at x v e).2.2.1
    have k' : (relabel scope F.env).names.lookup x = some .local := k
    rw [this] at k'; cases k'
  · obtain ⟨a1, a2, a3, a4⟩ := hcv.at x v e
    refine ex2and3 (R'.2.cel x v a1 a2) fun c u b1 b2 b3 => ?_
    exact exi2 c u ⟨by show cl.lookup x = _; rw [a4]; exact b1, b2, b3⟩
  · cases q : F.base.get? C with
    | none => exact q
    | some o => rw [R.1.stays C o q] at hC; cases hC
  · have e' := hcl.at x c e
    obtain ⟨z1, z2, z3, z4⟩ := R'.2.celO x c e'
    refine ex0and4 (R.2.celO x c e') fun _ _ _ y3_ => ?_; obtain ⟨_, oc, eoc, _⟩ := y3_
    exact ⟨z1, (fun q => by have q : c = C := q; rw [q, hC] at eoc; cases eoc), z3, z4⟩
  · exact R.2.inj x y c (hcl.at x c e1) (hcl.at y c e2)
  · obtain rfl := List.mem_singleton.mp ha
    refine ex3and3 hns fun o es ep ho hd _ => ?_; try clear hns
    exact ⟨R.1.none_of hC, o, ho, fun vs q => by rw [hd] at q; cases q⟩
noncomputable abbrev NoX : Value → List Value → St → Prop := fun _ _ _ => False
theorem noXp {e : Value} {H₀ : AHeap} {E : Prop} (x : XPost prog w F NoX H₀ s₀ e s') : E := by
  refine ex5and6 x fun _ _ _ _ _ _ _ _ _ _ h => ?_; try clear x
  exact False.elim h
theorem T.thenN {α : Type} [Er α] {t : Sem α} {Q : α → St → Prop} {Q' : α → Shared → Prop} {E : Value → Shared → Prop} (h : T prog w F t Q NoX st) (R : Rel prog w F st s) (A : After (frAddrs F.stk) F.own H₀ s₀ st.H s)
    (k : ∀ v s' st', Rel prog w F st' s' → After (frAddrs F.stk) F.own H₀ s₀ st'.H s' → Q (Er.e v) st' → Q' v s') : wpAny (model prog w) F.A t Q' E s :=
  wpAny_mono (h.then R A k) (fun _ _ z => z) fun _ _ x => noXp x
noncomputable def tests (ifs : List Expr) (env : Env) : Sem Bool := forIn ifs true fun c r => if r = true then do let ok ← isTrue c env (eval c env); pure (ForInStep.yield ok) else pure (ForInStep.yield r)
theorem T_tests0 {Q : Bool → St → Prop} (h : Q true st) : T prog w F (tests [] F.env) Q X st := fun s R => wpAny_tests_nil ⟨st, R, .refl _ _ _ _, h⟩
theorem T_tests1 {c : Expr} {Q : Bool → St → Prop} (h : T prog w F (isTrue c F.env (eval c F.env)) Q X st) : T prog w F (tests [c] F.env) Q X st := fun s R => wpAny_tests_one (h s R)
theorem Rel.claim {st₁ : St} {s₁ : Shared} (R₁ : Rel prog w F st₁ s₁) (R : Rel prog w F st s) {D : Addr} {ao : AO} {o : Obj} (hD : s₁.heap.get? D = none) (hDx : s.heap.get? D = some o) (hr : RepO prog w ao o) : Rel prog w F ⟨st.vars, upd st.H D ao⟩ s := by
  have hne : ∀ b ob, s₁.heap.get? b = some ob → b ≠ D := fun b ob e q => by rw [q, hD] at e; cases e
  have hu : ∀ b ob, s₁.heap.get? b = some ob → st.H b = none → upd st.H D ao b = none := fun b ob e h => by unfold upd; rw [if_neg (hne _ _ e)]; exact h
  refine ⟨⟨R.1.stays, fun a oa e => ?_, fun a e => ?_, R.1.frames, fun env he L hL => ?_, R.1.gens, R.1.os⟩, ?_⟩
  · have e : upd st.H D ao a = some oa := e
    unfold upd at e
    by_cases q : a = D
    · subst q; rw [if_pos rfl] at e; cases e; exact ⟨_, hDx, hr⟩
    · rw [if_neg q] at e; exact R.1.cells a oa e
  · have e : upd st.H D ao a ≠ none := e
    unfold upd at e
    by_cases q : a = D
    · subst q
      cases q2 : F.base.get? a with
      | none => rfl
      | some ob => rw [R₁.1.stays _ _ q2] at hD; cases hD
    · rw [if_neg q] at e; exact R.1.notBase a e
  · obtain ⟨f1, f2⟩ := R.1.frCls env he L hL
    refine ex0and2 (R₁.1.frCls env he L hL) fun _ y1_ => ?_; obtain ⟨oL, es, n, eL, _⟩ := y1_
    exact ⟨hu _ _ eL f1, f2⟩
  · obtain ⟨v1, v2, v3, v4, v5, v6, v7⟩ := R.2
    obtain ⟨m0, ⟨oL, _, _, eL, _⟩, _⟩ := R₁.2.loc
    refine ⟨v1, v2, hu _ _ eL v3, v4, fun y c e => ?_, v6, fun a ha => ?_⟩
    · obtain ⟨q1, q2⟩ := v5 y c e
      refine ex0and4 (R₁.2.celO y c e) fun _ _ _ y3_ => ?_; obtain ⟨_, oc, eoc, _⟩ := y3_
      exact ⟨hu _ _ eoc q1, q2⟩
    · obtain ⟨q1, q2⟩ := v7 a ha
      obtain ⟨_, oa, ea, _⟩ := R₁.2.ownA a ha
      exact ⟨hu _ _ ea q1, q2⟩
theorem After.claim {fr own : List Addr} (A : After fr own H₀ s₀ H s) {D : Addr} {ao : AO} (hD : s₀.heap.get? D = none) : After fr own H₀ s₀ (upd H D ao) s where
  keep := A.keep
  alive := A.alive
  dom b e := by
    unfold upd at e
    by_cases q : b = D
    · exact .inr (q ▸ hD)
    · rw [if_neg q] at e; exact A.dom b e
theorem Rel.ne {own : List Addr} (R : Rel prog w F st s) {C : Addr} (hC : s.heap.get? C = none) (ho : own = [C]) : F.env.locals ∉ own ∧ (∀ x c, F.env.cells.lookup x = some c → c ∉ own) ∧ ∀ a ∈ F.own, a ∉ own := by
  subst ho
  refine ⟨fun hm => ?_, fun y c e hm => ?_, fun a ha hm => ?_⟩
  · obtain ⟨m, ⟨oL, _, _, eL, _⟩, _⟩ := R.2.loc
    rw [List.mem_singleton.mp hm, hC] at eL; cases eL
  · refine ex0and4 (R.2.celO y c e) fun _ _ _ y3_ => ?_; obtain ⟨_, oc, eoc, _⟩ := y3_
    rw [List.mem_singleton.mp hm, hC] at eoc; cases eoc
  · obtain ⟨_, oa, ea, _⟩ := R.2.ownA a ha
    rw [List.mem_singleton.mp hm, hC] at ea; cases ea
theorem comp_back {st₁ : St} {s₁ : Shared} {scope : Scope} {cl : List (Str × Addr)} {cv : List (Str × Value)} {C : Addr} (R₁ : Rel prog w F st₁ s₁) (hC : s₁.heap.get? C = none) (R : Rel prog w (cfx F scope cl C) ⟨cv, H⟩ s) (A : After (frAddrs F.stk) [C] st₁.H s₁ H s) : Rel prog w F ⟨st₁.vars, H⟩ s := by
  obtain ⟨n1, n2, n3⟩ := R₁.ne hC rfl
  exact ⟨R.1, R₁.2.back A n1 n2 n3⟩
noncomputable def Handed (prog : Program) (w : World) (F : Fx) (Q : Value → St → Prop) (X : Value → List Value → St → Prop) (u : Option (Value → Sem Unit)) (a : Addr) (st : St) : Prop := match u with
  | none => Q (.ref a) st
  | some u => T prog w F (u (.ref a)) (fun _ => Q .none) X st
theorem comp_end {st₁ : St} {s₁ : Shared} {scope : Scope} {cl : List (Str × Addr)} {cv : List (Str × Value)} {C D : Addr} {ao : AO} {o : Obj} {Q : Value → St → Prop} {u : Option (Value → Sem Unit)} (R₁ : Rel prog w F st₁ s₁) (A₁ : After (frAddrs F.stk) F.own H₀ s₀ st₁.H s₁) (hC : s₁.heap.get? C = none)
    (hD : s₁.heap.get? D = none) (hCD : C ≠ D) (R : Rel prog w (cfx F scope cl C) ⟨cv, H⟩ s) (A : After (frAddrs F.stk) [C] st₁.H s₁ H s) (hDx : s.heap.get? D = some o) (hr : RepO prog w ao o) (hHC : H C = none) (h : Handed prog w F Q X u D ⟨st₁.vars, upd H D ao⟩) :
    compPost (model prog w) F.A (XPost prog w F X H₀ s₀) u (fun v s' => ∃ st', Rel prog w F st' s' ∧ After (frAddrs F.stk) F.own H₀ s₀ st'.H s' ∧ Q (Er.e v) st') (.ref D) C (.ok .next) s := by
  have nul0 : ∀ a, s₁.heap.get? a = none → s₀.heap.get? a = none := fun a ha => by
    cases q : s₀.heap.get? a with
    | none => rfl
    | some ob => exact absurd ha (A₁.alive _ (by rw [q]; exact nofun))
  have RF := comp_back R₁ hC R A
  have RL := R₁.claim RF hD hDx hr
  have AL := (A₁.inner A (fun b hb => by obtain rfl := List.mem_singleton.mp hb; exact nul0 _ hC)).claim (ao := ao) (nul0 _ hD)
  have hUC : upd H D ao C = none := by unfold upd; rw [if_neg hCD]; exact hHC
  obtain ⟨mC, hmC, _⟩ := R.2.loc
  cases u with
  | none => exact ⟨mC, hmC, fun h'' hs'' => ⟨_, R₁.aside RL hC hUC hs'', AL.aside (nul0 _ hC) hs'', h⟩⟩
  | some u =>
    have h' : T prog w F (u (.ref D)) (fun _ => Q .none) X ⟨st₁.vars, upd H D ao⟩ := h
    refine wpAny_mono (h'.then RL (.refl _ _ _ _) fun _ s₃ st₃ R₃ A₃ q => ?_) (fun _ _ z => z) fun e s₃ x => x.older AL
    refine ex3and2 (id hmC) fun oC esC epC hoC rC => ?_
    obtain ⟨n1, n2, n3⟩ := R₁.ne hC rfl
    have hown : C ∉ F.own := fun ha => n3 C ha List.mem_cons_self
    refine ⟨mC, KeepAt.ns hmC fun o e => A₃.keep _ o e hUC hown, fun h'' hs'' => ⟨st₃, R₁.aside R₃ hC ?_ hs'', (AL.trans A₃).aside (nul0 _ hC) hs'', q⟩⟩
    cases z : st₃.H C with
    | none => rfl
    | some zz =>
      rcases A₃.dom C (by rw [z]; exact nofun) with h' | h'
      · exact absurd hUC h'
      · rw [show s.heap.get? C = some oC from hoC] at h'; cases h'
theorem comp_start {st₁ : St} {s₁ : Shared} {scope : Scope} {cl : List (Str × Addr)} {cv : List (Str × Value)} {o₀ oD : Obj} {h₁ : Heap} (R₁ : Rel prog w F st₁ s₁) (hcl : Clos F.env cl) (hcv : Cap st₁.vars F.env scope cl cv) (hf₀ : o₀.isFreed = false) (hfD : oD.isFreed = false)
    (hns : h₁.Ns ((s₁.heap.push o₀).push oD).objs.size fun x => (List.reverse ([] : List (Str × Value))).lookup x) (hsb : Heap.SameBut ((s₁.heap.push o₀).push oD).objs.size (((s₁.heap.push o₀).push oD).push { cls := .type "dict", data := .dict #[] }) h₁) {tk : Nat} :
    ∃ ia D C, ia = s₁.heap.objs.size ∧ D = (s₁.heap.push o₀).objs.size ∧ C = ((s₁.heap.push o₀).push oD).objs.size ∧ ia ≠ D ∧ ia ≠ C ∧ C ≠ D ∧ s₁.heap.get? ia = none ∧ s₁.heap.get? D = none ∧ s₁.heap.get? C = none ∧
      h₁.get? ia = some o₀ ∧ h₁.get? D = some oD ∧ Rel prog w (cfx F scope cl C) ⟨cv, st₁.H⟩ { s₁ with heap := h₁, toks := tk } ∧ After (frAddrs F.stk) [C] st₁.H s₁ st₁.H { s₁ with heap := h₁, toks := tk } ∧ st₁.H ia = none ∧ st₁.H D = none ∧ st₁.H C = none := by
  have z2 : (s₁.heap.push o₀).objs.size = s₁.heap.objs.size + 1 := Heap.size_push ..
  have z3 : ((s₁.heap.push o₀).push oD).objs.size = s₁.heap.objs.size + 2 := by rw [Heap.size_push, z2]
  have nul : ∀ a, s₁.heap.objs.size ≤ a → s₁.heap.get? a = none := fun a ha => Heap.get?_none_of_le ha
  have hI1 := nul s₁.heap.objs.size (Nat.le_refl _)
  have hD1 := nul (s₁.heap.push o₀).objs.size (by omega)
  have hC1 := nul ((s₁.heap.push o₀).push oD).objs.size (by omega)
  have up1 : ∀ b o, b ≠ ((s₁.heap.push o₀).push oD).objs.size → ((s₁.heap.push o₀).push oD).get? b = some o → h₁.get? b = some o := fun b o hb e => by
    rw [hsb.2 b hb]; exact Heap.get?_push_of_some _ e
  have keep1 : ∀ b o, s₁.heap.get? b = some o → h₁.get? b = some o := fun b o e => up1 b o (fun q => by rw [q, hC1] at e; cases e) (Heap.get?_push_of_some _ (Heap.get?_push_of_some _ e))
  exact exi3 _ _ _ ⟨rfl, rfl, rfl, by omega, by omega, by omega, hI1, hD1, hC1, up1 _ _ (by omega) (Heap.get?_push_of_some _ (Heap.get?_push_size _ hf₀)), up1 _ _ (by omega) (Heap.get?_push_size _ hfD), comp_enter R₁ hcl hcv hC1 keep1 hns, .grow (s' := { s₁ with heap := h₁, toks := tk }) _ _ keep1, R₁.1.none_of hI1, R₁.1.none_of hD1, R₁.1.none_of hC1⟩
theorem kindOf_comp {scope : Scope} {cl : List (Str × Addr)} {C : Addr} {x : Str} (hx : scope.names.lookup x = some .local) : (cfx F scope cl C).env.kindOf x = some .local := lookup_relabel_local hx
theorem pyIter_it {v : Value} {xs : List Value} {k : SK} {i : Nat} {ia : Addr} {o : Obj} {A : Around} {Q : Value → Shared → Prop} {E : Value → Shared → Prop} {st₁ : St} (hs : Src st₁ v xs k) (R : Rel prog w F st s) (hia : s.heap.get? ia = some o) (hI : ItO v xs i k o) (h : Q (.ref ia) s) :
    wpAny (model prog w) A (pyIter (.ref ia)) Q E s := by
  cases k with
  | pin p => obtain ⟨l, rfl, _⟩ := hs; exact wpAny_pyIter_listiter ⟨o, hia, hI.1, hI.2⟩ h
  | list => obtain ⟨l, rfl, _⟩ := hs; exact wpAny_pyIter_listiter ⟨o, hia, hI.1, hI.2⟩ h
  | tup => obtain ⟨l, rfl, _⟩ := hs; exact wpAny_pyIter_tupleiter ⟨o, hia, hI.1, hI.2⟩ h
  | keys es n => obtain ⟨l, rfl, _⟩ := hs; exact wpAny_pyIter_keyiter ⟨o, hia, hI.1, hI.2⟩ h
  | vals d es n => exact wpAny_pyIter_valiter ⟨o, hia, hI.1, hI.2⟩ h
  | rng a b => cases (show o = _ from hI); exact wpAny_pyIter_rangeiter hia h
theorem line3 {a i n : Nat} (h1 : a ≤ i) (h2 : i ≤ n) (h3 : n ≤ 1000000) : a ≤ sizeLine := by rw [sizeLine_eq]; omega
theorem T_listCore {elt iter : Expr} {x : Str} {px : Pos} {ifs : List Expr} {scope : Scope} {cl : List (Str × Addr)} {pos : Pos} (cv : List (Str × Value)) {Q : Value → St → Prop} (u : Option (Value → Sem Unit))
    (hclos : closureFor scope F.env = pure cl) (hcl : Clos F.env cl) (hcell : ∀ y ∈ scope.names, y.2 ≠ .cell) (hkind : scope.kind = .function)
    (hnames : ∀ y ∈ scope.names, y.2 = .local → scope.names.lookup y.1 = some .local) (hx : scope.names.lookup x = some .local) (hs : ∀ x, foldedSetIterable iter F.env x = pure x)
    (hh : F.A.handled = none) (N : NoSys F.toFc)
    (h : T prog w F (eval iter F.env) (fun v st₁ => Cap st₁.vars F.env scope cl cv ∧ ∃ xs k, ∃ I : Nat → List Value → AHeap → Prop, Src st₁ v xs k ∧ xs.length ≤ 1000000 ∧ I 0 [] st₁.H ∧ (∀ i acc H vs, I i acc H → Src ⟨vs, H⟩ v xs k) ∧
      (∀ i acc H, I i acc H → acc.length ≤ i) ∧
      (∀ C i x' acc H, xs[i]? = some x' → I i acc H → T prog w (cfx F scope cl C) (tests ifs (cfx F scope cl C).env) (fun ok st₂ => if ok then T prog w (cfx F scope cl C) (eval elt (cfx F scope cl C).env) (fun y st₃ => I (i + 1) (acc ++ [y]) st₃.H ∧ ∀ z u, cv.lookup z = some u → st₃.vars.lookup z = some u) NoX st₂
        else I (i + 1) acc st₂.H ∧ ∀ z u, cv.lookup z = some u → st₂.vars.lookup z = some u) NoX ⟨setV cv x x', H⟩) ∧
      (∀ acc H a, I xs.length acc H → H a = none → Handed prog w F Q X u a ⟨st₁.vars, upd H a (.list acc)⟩)) X st) :
    T prog w F (comprehension (.ListComp elt [⟨.Name x px, iter, ifs, 0⟩] scope pos) scope F.env (firstIterPos [⟨.Name x px, iter, ifs, 0⟩] pos) (newList []) false (eval iter F.env) u) Q X st := by
  intro s R
  refine wpAny_comprehension_free rfl hs hclos hkind hnames (h.then R (.refl _ _ _ _) fun v s₁ st₁ R₁ A₁ hv => ?_)
  refine ex0and2 hv fun hcv y1_ => ?_; try clear hv; obtain ⟨xs, k, I, hsrc, hlen, hI0, hIs, hIl, hstep, hend⟩ := y1_
  have hsame : Er.e v = v := Src.same hsrc
  rw [hsame] at hsrc hIs
  refine pyIter_src R₁ hsrc N fun o₀ hito hfr => ?_
  refine wpAny_newObj_type (wpAny_newFunctionEnv hcell (by intro y hy; simp at hy) (fun h₁ hns₁ hsb₁ => ?_) hkind) (by size_fits)
  dsimp only at hns₁ hsb₁ ⊢
  refine ex3and16 (comp_start (tk := s₁.toks) R₁ hcl hcv hfr rfl hns₁ hsb₁) fun ia D C eI eD eC hID hIC hCD hI1 hD1 hC1 hia hDa R0 A0 hHI0 hHD0 hHC0 => ?_
  rw [← eI, ← eD, ← eC]
  have hB : F.base.get? ia = none := by
    cases q : F.base.get? ia with
    | none => rfl
    | some ob => rw [R₁.1.stays _ _ q] at hI1; cases hI1
  let Inv : Nat → Shared → Prop := fun n s' => ∃ i acc H o ys ep, n = xs.length - i ∧ i ≤ xs.length ∧ I i acc H ∧ Rel prog w (cfx F scope cl C) ⟨cv, H⟩ s' ∧ After (frAddrs F.stk) [C] st₁.H s₁ H s' ∧
    s'.heap.get? ia = some o ∧ ItO v xs i k o ∧ H ia = none ∧ s'.heap.get? D = some { cls := .type "list", dict := none, data := .seq ys ep, slots := #[] } ∧ ys.toList.map er = acc ∧ H D = none ∧ H C = none
  have start : Inv xs.length { s₁ with heap := h₁, toks := s₁.toks } :=
    ⟨0, [], st₁.H, o₀, #[], 0, (Nat.sub_zero _).symm, Nat.zero_le _, hI0, R0, A0, hia, hito, hHI0, hDa, rfl, hHD0, hHC0⟩
  have loop : ∀ n s', Inv n s' → codeAny (model prog w) F.A (.compLoop (.ListComp elt [⟨.Name x px, iter, ifs, 0⟩] scope pos) 0 (.ref ia) (.ref D) (compEnvC scope cl C F.env))
      (compPost (model prog w) F.A (XPost prog w F X st.H s) u (fun v s' => ∃ st', Rel prog w F st' s' ∧ After (frAddrs F.stk) F.own st.H s st'.H s' ∧ Q (Er.e v) st') (.ref D) C) s' := by
    intro n s' hInv
    refine codeAny_compLoop_tests Inv ?_ n hInv
    clear hInv n s'
    rintro n s' hx0_; refine ex6and12 hx0_ fun i acc H o ys ep y6_ hile hI R' A' hia' hit hHI hDx hys hHD hHC => ?_; try clear hx0_; obtain rfl := y6_
    have hsi : Src ⟨cv, H⟩ v xs k := hIs i acc H cv hI
    have hfl := hit.fields
    cases hxi : xs[i]? with
    | none =>
      have hi : i = xs.length := Nat.le_antisymm hile (List.getElem?_eq_none_iff.mp hxi)
      subst hi
      refine next_done hh R' hsi hia' hit hxi hile fun h' hext => ?_
      have R2 := R'.hid (s' := { s' with heap := h' }) hia' hHI hB hext rfl rfl hfl
      have A2 := After.hid (s' := { s' with heap := h' }) (st := ⟨cv, H⟩) A' hI1 hext
      exact comp_end R₁ A₁ hC1 hD1 hCD R2 A2 (ao := .list acc) (hext D _ (Ne.symm hID) hDx) ⟨rfl, rfl, rfl, ys, ep, rfl, hys⟩ hHC (hend acc H D hI hHD)
    | some x' =>
      have hi : i < xs.length := (List.getElem?_eq_some_iff.mp hxi).1
      refine next_item R' hsi hia' hit hxi fun x₀ h' o' tk hx' hia2 hit2 hsb => ?_
      have R2 := R'.hid (s' := { s' with heap := h', toks := tk }) hia' hHI hB hsb.extBut rfl rfl hfl
      have A2 := After.hid (s' := { s' with heap := h', toks := tk }) (st := ⟨cv, H⟩) A' hI1 hsb.extBut
      have hD2 : ({ s' with heap := h', toks := tk } : Shared).heap.get? D = _ := hsb.extBut D _ (Ne.symm hID) hDx
      have hDown : D ∉ [C] := fun hm => hCD (List.mem_singleton.mp hm).symm
      have hIown : ia ∉ [C] := fun hm => hIC (List.mem_singleton.mp hm)
      have hst : T prog w (cfx F scope cl C) (storeName (cfx F scope cl C).env x x₀) (fun _ st => st = ⟨setV cv x x', H⟩) NoX ⟨cv, H⟩ :=
        T_storeL hx' (kindOf_comp hx) (by show (relabel scope F.env).kind = _; exact hkind) List.mem_cons_self rfl
      refine wpAny_assign_Name (hst.thenN (F := cfx F scope cl C) R2 (.refl _ _ _ _) fun _ s₃ st₃ R₃ A₃ e₃ => ?_)
      subst e₃
      have fin : ∀ (st₅ : St) (s₅ : Shared) (acc' : List Value), Rel prog w (cfx F scope cl C) st₅ s₅ → After (frAddrs F.stk) [C] st₁.H s₁ st₅.H s₅ → s₅.heap.get? ia = some o' → st₅.H ia = none → st₅.H D = none → st₅.H C = none → I (i + 1) acc' st₅.H → (∀ z u, cv.lookup z = some u → st₅.vars.lookup z = some u) →
          ∀ ys' ep', s₅.heap.get? D = some { cls := .type "list", dict := none, data := .seq ys' ep', slots := #[] } → ys'.toList.map er = acc' → ∃ m, m < xs.length - i ∧ Inv m s₅ := by
        intro st₅ s₅ acc' R5 A5 h1 h2 h3 h4 hI5 hv5 ys' ep' hD5 hys'
        exact ⟨xs.length - (i + 1), Nat.sub_lt_sub_left hi (Nat.lt_succ_self i), i + 1, acc', st₅.H, o', ys', ep', rfl, hi, hI5, R5.forget (st' := ⟨cv, st₅.H⟩) hv5 fun _ _ e => e, A5, h1, hit2, h2, hD5, hys', h3, h4⟩
      obtain ⟨mC, ⟨oC, _, _, eC2, _⟩, _⟩ := R2.2.loc
      have still : ∀ (st₅ : St) (s₅ : Shared), After (frAddrs F.stk) [C] H { s' with heap := h', toks := tk } st₅.H s₅ → s₅.heap.get? ia = some o' ∧ st₅.H ia = none ∧ st₅.H D = none ∧ st₅.H C = none ∧ s₅.heap.get? D = some { cls := .type "list", dict := none, data := .seq ys ep, slots := #[] } := by
        intro st₅ s₅ A5
        obtain ⟨sl, e1, c1⟩ := A5.keep ia o' hia2 hHI hIown
        have hsl := c1 (R₁.apart hI1).2.1
        have dn : ∀ b ob, ({ s' with heap := h', toks := tk } : Shared).heap.get? b = some ob → H b = none → st₅.H b = none := fun b ob e hb => by
          cases q : st₅.H b with
          | none => rfl
          | some z =>
            rcases A5.dom b (by rw [q]; exact nofun) with h | h
            · exact absurd hb h
            · rw [e] at h; cases h
        obtain ⟨sl2, e2, c2⟩ := A5.keep D _ hD2 hHD hDown
        exact ⟨by rw [e1, hsl], dn _ _ hia2 hHI, dn _ _ hD2 hHD, dn _ _ eC2 hHC, by rw [e2, c2 (R₁.apart hD1).2.1]⟩
      refine (hstep C i x' acc H hxi hI).thenN (F := cfx F scope cl C) R₃ A₃ fun ok s₄ st₄ R₄ A₄ hok => ?_
      have hok : if ok = true then _ else _ := hok
      cases ok with
      | false =>
        rw [if_neg (by decide)] at hok
        rw [if_neg (by decide)]
        refine ex0and5 (still _ _ A₄) fun t1 t2 t3 t4 t5 => ?_
        exact fin st₄ s₄ acc R₄ (A2.trans A₄) t1 t2 t3 t4 hok.1 hok.2 ys ep t5 hys
      | true =>
        rw [if_pos rfl] at hok
        rw [if_pos rfl]
        refine T.thenN (F := cfx F scope cl C) hok R₄ A₄ fun y s₅ st₅ R₅ A₅ hy => ?_
        refine ex0and5 (still _ _ A₅) fun t1 t2 t3 t4 t5 => ?_
        have hsz : ys.size ≤ sizeLine := by
          have := hIl i acc H hI
          rw [← hys, List.length_map, Array.length_toList] at this
          exact line3 this hile hlen
        refine wpAny_list_append_plain ⟨ep, t5⟩ (fun h₆ hl₆ hs₆ => ?_) hsz
        obtain ⟨ep', hD6⟩ := hl₆
        refine ex0and5 (R₁.apart hD1) fun b1 b2 b3 b4 b5 => ?_
        have R6 : Rel prog w (cfx F scope cl C) st₅ { s₅ with heap := h₆ } := R₅.quiet t3 b1 hs₆ b2 hCD (fun x c e => b4 x c (hcl.at x c e)) hDown
        exact fin st₅ { s₅ with heap := h₆ } (acc ++ [Er.e y]) R6 ((A2.trans A₅).aside hD1 hs₆) ((hs₆.2 ia hID).trans t1) t2 t3 t4 hy.1 hy.2 (ys.push y) ep' hD6 (by rw [Array.toList_push, List.map_append, hys]; rfl)
  exact codeAny_compStart_list (loop _ _ start) (pyIter_it hsrc R0 hia hito (loop _ _ start))
theorem T_dictCore {kx vx iter : Expr} {x : Str} {px : Pos} {ifs : List Expr} {scope : Scope} {cl : List (Str × Addr)} {pos : Pos} (cv : List (Str × Value)) {Q : Value → St → Prop} (u : Option (Value → Sem Unit))
    (hclos : closureFor scope F.env = pure cl) (hcl : Clos F.env cl) (hcell : ∀ y ∈ scope.names, y.2 ≠ .cell) (hkind : scope.kind = .function)
    (hnames : ∀ y ∈ scope.names, y.2 = .local → scope.names.lookup y.1 = some .local) (hx : scope.names.lookup x = some .local) (hs : ∀ x, foldedSetIterable iter F.env x = pure x)
    (hh : F.A.handled = none) (N : NoSys F.toFc)
    (h : T prog w F (eval iter F.env) (fun v st₁ => Cap st₁.vars F.env scope cl cv ∧ ∃ xs k, ∃ I : Nat → List (Int × Value) → AHeap → Prop, Src st₁ v xs k ∧ xs.length ≤ 1000000 ∧ I 0 [] st₁.H ∧ (∀ i acc H vs, I i acc H → Src ⟨vs, H⟩ v xs k) ∧
      (∀ i acc H, I i acc H → acc.length ≤ i) ∧
      (∀ C i x' acc H, xs[i]? = some x' → I i acc H → T prog w (cfx F scope cl C) (tests ifs (cfx F scope cl C).env) (fun ok st₂ => if ok then T prog w (cfx F scope cl C) (eval kx (cfx F scope cl C).env) (fun kv st₃ => T prog w (cfx F scope cl C) (eval vx (cfx F scope cl C).env) (fun y st₄ => ∃ q, kv = .int q 0 ∧ (∀ p ∈ acc, p.1 ≠ q) ∧ I (i + 1) (acc ++ [(q, y)]) st₄.H ∧ ∀ z u, cv.lookup z = some u → st₄.vars.lookup z = some u) NoX st₃) NoX st₂
        else I (i + 1) acc st₂.H ∧ ∀ z u, cv.lookup z = some u → st₂.vars.lookup z = some u) NoX ⟨setV cv x x', H⟩) ∧
      (∀ acc H a n, I xs.length acc H → H a = none → Handed prog w F Q X u a ⟨st₁.vars, upd H a (.dict (acc.map fun p => (.int p.1 0, p.2)) n)⟩)) X st) :
    T prog w F (comprehension (.DictComp kx vx [⟨.Name x px, iter, ifs, 0⟩] scope pos) scope F.env (firstIterPos [⟨.Name x px, iter, ifs, 0⟩] pos) newDict false (eval iter F.env) u) Q X st := by
  intro s R
  refine wpAny_comprehension_free rfl hs hclos hkind hnames (h.then R (.refl _ _ _ _) fun v s₁ st₁ R₁ A₁ hv => ?_)
  refine ex0and2 hv fun hcv y1_ => ?_; try clear hv; obtain ⟨xs, k, I, hsrc, hlen, hI0, hIs, hIl, hstep, hend⟩ := y1_
  have hsame : Er.e v = v := Src.same hsrc
  rw [hsame] at hsrc hIs
  refine pyIter_src R₁ hsrc N fun o₀ hito hfr => ?_
  refine wpAny_newObj_type (wpAny_newFunctionEnv hcell (by intro y hy; simp at hy) (fun h₁ hns₁ hsb₁ => ?_) hkind) (by size_fits)
  dsimp only at hns₁ hsb₁ ⊢
  refine ex3and16 (comp_start (tk := s₁.toks) R₁ hcl hcv hfr rfl hns₁ hsb₁) fun ia D C eI eD eC hID hIC hCD hI1 hD1 hC1 hia hDa R0 A0 hHI0 hHD0 hHC0 => ?_
  rw [← eI, ← eD, ← eC]
  have hB : F.base.get? ia = none := by
    cases q : F.base.get? ia with
    | none => rfl
    | some ob => rw [R₁.1.stays _ _ q] at hI1; cases hI1
  let Inv : Nat → Shared → Prop := fun n s' => ∃ i acc H o kvs ep, n = xs.length - i ∧ i ≤ xs.length ∧ I i acc H ∧ Rel prog w (cfx F scope cl C) ⟨cv, H⟩ s' ∧ After (frAddrs F.stk) [C] st₁.H s₁ H s' ∧
    s'.heap.get? ia = some o ∧ ItO v xs i k o ∧ H ia = none ∧ s'.heap.DictAt (intKind prog w) D kvs ep ∧ kvs.map (fun p => (p.1, er p.2)) = acc ∧ H D = none ∧ H C = none
  have start : Inv xs.length { s₁ with heap := h₁, toks := s₁.toks } :=
    ⟨0, [], st₁.H, o₀, [], 0, (Nat.sub_zero _).symm, Nat.zero_le _, hI0, R0, A0, hia, hito, hHI0, ⟨_, #[], hDa, ⟨rfl, rfl, rfl⟩, rfl, fun e he => by simp at he, .nil, List.nodup_nil⟩, rfl, hHD0, hHC0⟩
  have loop : ∀ n s', Inv n s' → codeAny (model prog w) F.A (.compLoop (.DictComp kx vx [⟨.Name x px, iter, ifs, 0⟩] scope pos) 0 (.ref ia) (.ref D) (compEnvC scope cl C F.env))
      (compPost (model prog w) F.A (XPost prog w F X st.H s) u (fun v s' => ∃ st', Rel prog w F st' s' ∧ After (frAddrs F.stk) F.own st.H s st'.H s' ∧ Q (Er.e v) st') (.ref D) C) s' := by
    intro n s' hInv
    refine codeAny_compLoop_testsD Inv ?_ n hInv
    clear hInv n s'
    rintro n s' hx0_; refine ex6and12 hx0_ fun i acc H o kvs ep y6_ hile hI R' A' hia' hit hHI hDx hys hHD hHC => ?_; try clear hx0_; obtain rfl := y6_
    have hsi : Src ⟨cv, H⟩ v xs k := hIs i acc H cv hI
    have hfl := hit.fields
    cases hxi : xs[i]? with
    | none =>
      have hi : i = xs.length := Nat.le_antisymm hile (List.getElem?_eq_none_iff.mp hxi)
      subst hi
      refine next_done hh R' hsi hia' hit hxi hile fun h' hext => ?_
      have R2 := R'.hid (s' := { s' with heap := h' }) hia' hHI hB hext rfl rfl hfl
      have A2 := After.hid (s' := { s' with heap := h' }) (st := ⟨cv, H⟩) A' hI1 hext
      refine ex2and6 hDx fun oD des d1 d2 d3 d4 d5 d6 => ?_; try clear hDx
      exact comp_end R₁ A₁ hC1 hD1 hCD R2 A2 (ao := .dict (acc.map fun p => (.int p.1 0, p.2)) ep) (hext D _ (Ne.symm hID) d1) ⟨d2, des, d3, .inl ⟨kvs, d4, d5, d6, by rw [← hys, List.map_map]; rfl⟩⟩ hHC (hend acc H D ep hI hHD)
    | some x' =>
      have hi : i < xs.length := (List.getElem?_eq_some_iff.mp hxi).1
      refine next_item R' hsi hia' hit hxi fun x₀ h' o' tk hx' hia2 hit2 hsb => ?_
      have R2 := R'.hid (s' := { s' with heap := h', toks := tk }) hia' hHI hB hsb.extBut rfl rfl hfl
      have A2 := After.hid (s' := { s' with heap := h', toks := tk }) (st := ⟨cv, H⟩) A' hI1 hsb.extBut
      have hD2 : ({ s' with heap := h', toks := tk } : Shared).heap.DictAt (intKind prog w) D kvs ep := hDx.at' fun o e => hsb.extBut D o (Ne.symm hID) e
      have hDown : D ∉ [C] := fun hm => hCD (List.mem_singleton.mp hm).symm
      have hIown : ia ∉ [C] := fun hm => hIC (List.mem_singleton.mp hm)
      have hst : T prog w (cfx F scope cl C) (storeName (cfx F scope cl C).env x x₀) (fun _ st => st = ⟨setV cv x x', H⟩) NoX ⟨cv, H⟩ :=
        T_storeL hx' (kindOf_comp hx) (by show (relabel scope F.env).kind = _; exact hkind) List.mem_cons_self rfl
      refine wpAny_assign_Name (hst.thenN (F := cfx F scope cl C) R2 (.refl _ _ _ _) fun _ s₃ st₃ R₃ A₃ e₃ => ?_)
      subst e₃
      have fin : ∀ (st₅ : St) (s₅ : Shared) (acc' : List (Int × Value)), Rel prog w (cfx F scope cl C) st₅ s₅ → After (frAddrs F.stk) [C] st₁.H s₁ st₅.H s₅ → s₅.heap.get? ia = some o' → st₅.H ia = none → st₅.H D = none → st₅.H C = none → I (i + 1) acc' st₅.H → (∀ z u, cv.lookup z = some u → st₅.vars.lookup z = some u) →
          ∀ kvs' ep', s₅.heap.DictAt (intKind prog w) D kvs' ep' → kvs'.map (fun p => (p.1, er p.2)) = acc' → ∃ m, m < xs.length - i ∧ Inv m s₅ := by
        intro st₅ s₅ acc' R5 A5 h1 h2 h3 h4 hI5 hv5 kvs' ep' hD5 hys'
        exact ⟨xs.length - (i + 1), Nat.sub_lt_sub_left hi (Nat.lt_succ_self i), i + 1, acc', st₅.H, o', kvs', ep', rfl, hi, hI5, R5.forget (st' := ⟨cv, st₅.H⟩) hv5 fun _ _ e => e, A5, h1, hit2, h2, hD5, hys', h3, h4⟩
      obtain ⟨mC, ⟨oC, _, _, eC2, _⟩, _⟩ := R2.2.loc
      have still : ∀ (st₅ : St) (s₅ : Shared), After (frAddrs F.stk) [C] H { s' with heap := h', toks := tk } st₅.H s₅ → s₅.heap.get? ia = some o' ∧ st₅.H ia = none ∧ st₅.H D = none ∧ st₅.H C = none ∧ s₅.heap.DictAt (intKind prog w) D kvs ep := by
        intro st₅ s₅ A5
        obtain ⟨sl, e1, c1⟩ := A5.keep ia o' hia2 hHI hIown
        have hsl := c1 (R₁.apart hI1).2.1
        have dn : ∀ b ob, ({ s' with heap := h', toks := tk } : Shared).heap.get? b = some ob → H b = none → st₅.H b = none := fun b ob e hb => by
          cases q : st₅.H b with
          | none => rfl
          | some z =>
            rcases A5.dom b (by rw [q]; exact nofun) with h | h
            · exact absurd hb h
            · rw [e] at h; cases h
        obtain ⟨oD, des, d1, dr⟩ := hD2
        obtain ⟨sl2, e2, c2⟩ := A5.keep D _ d1 hHD hDown
        exact ⟨by rw [e1, hsl], dn _ _ hia2 hHI, dn _ _ d1 hHD, dn _ _ eC2 hHC, ⟨oD, des, by rw [e2, c2 (R₁.apart hD1).2.1], dr⟩⟩
      refine (hstep C i x' acc H hxi hI).thenN (F := cfx F scope cl C) R₃ A₃ fun ok s₄ st₄ R₄ A₄ hok => ?_
      have hok : if ok = true then _ else _ := hok
      cases ok with
      | false =>
        rw [if_neg (by decide)] at hok
        rw [if_neg (by decide)]
        refine ex0and5 (still _ _ A₄) fun t1 t2 t3 t4 t5 => ?_
        exact fin st₄ s₄ acc R₄ (A2.trans A₄) t1 t2 t3 t4 hok.1 hok.2 kvs ep t5 hys
      | true =>
        rw [if_pos rfl] at hok
        rw [if_pos rfl]
        refine T.thenN (F := cfx F scope cl C) hok R₄ A₄ fun kv s₅' st₅' R₅' A₅' hy' => ?_
        refine T.thenN (F := cfx F scope cl C) hy' R₅' A₅' fun y s₅ st₅ R₅ A₅ hy => ?_
        refine ex1and4 hy fun q hq hnew hI5 hv5 => ?_; try clear hy
        obtain ⟨tq, rfl⟩ := er_int hq
        refine ex0and5 (still _ _ A₅) fun t1 t2 t3 t4 t5 => ?_
        have hsz : kvs.length ≤ sizeLine := by
          have := hIl i acc H hI
          rw [← hys, List.length_map] at this
          exact line3 this hile hlen
        refine wpAny_dictSet_pairs (knd := intKind prog w) (k := q) (intKind_is _ _ _ _) t5.dictOf (fun h₆ hm₆ hs₆ => ?_) hsz
        obtain ⟨ep', hD6⟩ := hm₆.dictAt
        have hst : stored kvs q y = kvs ++ [(q, y)] := by
          unfold stored
          rw [if_neg]
          simp only [List.any_eq_true, decide_eq_true_eq, not_exists, not_and]
          intro p hp he
          exact hnew (p.1, er p.2) (by rw [← hys]; exact List.mem_map.mpr ⟨p, hp, rfl⟩) he
        rw [hst] at hD6
        refine ex0and5 (R₁.apart hD1) fun b1 b2 b3 b4 b5 => ?_
        have R6 : Rel prog w (cfx F scope cl C) st₅ { s₅ with heap := h₆, toks := s₅.toks + 1 } := (R₅.quiet t3 b1 hs₆ b2 hCD (fun x c e => b4 x c (hcl.at x c e)) hDown).toks
        have A6 : After (frAddrs F.stk) [C] st₁.H s₁ st₅.H { s₅ with heap := h₆, toks := s₅.toks + 1 } := ((A2.trans A₅).aside hD1 hs₆).trans (.grow (s' := { s₅ with heap := h₆, toks := s₅.toks + 1 }) _ _ fun _ _ e => e)
        exact fin st₅ { s₅ with heap := h₆, toks := s₅.toks + 1 } (acc ++ [(q, Er.e y)]) R6 A6 ((hs₆.2 ia hID).trans t1) t2 t3 t4 hI5 hv5 (kvs ++ [(q, y)]) ep' hD6 (by rw [List.map_append, hys]; rfl)
  exact codeAny_compStart_dict (loop _ _ start) (pyIter_it hsrc R0 hia hito (loop _ _ start))
theorem T_listComp {elt iter : Expr} {x : Str} {px : Pos} {ifs : List Expr} {scope : Scope} {pos : Pos} {Q : Value → St → Prop}
    (h : T prog w F (comprehension (.ListComp elt [⟨.Name x px, iter, ifs, 0⟩] scope pos) scope F.env (firstIterPos [⟨.Name x px, iter, ifs, 0⟩] pos) (newList []) false (eval iter F.env) none) Q X st) :
    T prog w F (eval (.ListComp elt [⟨.Name x px, iter, ifs, 0⟩] scope pos) F.env) Q X st := fun s R => by
  rw [eval_ListComp]; exact h s R
theorem T_dictComp {kx vx iter : Expr} {x : Str} {px : Pos} {ifs : List Expr} {scope : Scope} {pos : Pos} {Q : Value → St → Prop}
    (h : T prog w F (comprehension (.DictComp kx vx [⟨.Name x px, iter, ifs, 0⟩] scope pos) scope F.env (firstIterPos [⟨.Name x px, iter, ifs, 0⟩] pos) newDict false (eval iter F.env) none) Q X st) :
    T prog w F (eval (.DictComp kx vx [⟨.Name x px, iter, ifs, 0⟩] scope pos) F.env) Q X st := fun s R => by
  rw [arm_eval_DictComp]; exact h s R
theorem T_assignDict {kx vx iter : Expr} {x y : Str} {px py : Pos} {ifs : List Expr} {scope : Scope} {pos spos : Pos} {Q : Flow → St → Prop}
    (hsw : swapsWith (.DictComp kx vx [⟨.Name x px, iter, ifs, 0⟩] scope pos) (some (.Name y py)) spos.line F.env = pure true)
    (h : T prog w F (comprehension (.DictComp kx vx [⟨.Name x px, iter, ifs, 0⟩] scope pos) scope F.env (firstIterPos [⟨.Name x px, iter, ifs, 0⟩] pos) newDict false (eval iter F.env) (some (assign (.Name y py) F.env))) (fun _ => Q .next) X st) :
    T prog w F (exec (.Assign [.Name y py] (.DictComp kx vx [⟨.Name x px, iter, ifs, 0⟩] scope pos) spos) F.env) Q X st := fun s R => by
  rw [exec_Assign_Name_used _ _ _ _ hsw]
  refine wpAny_bind (wpAny_standAt (wpAny_bind ?_))
  exact wpAny_bind (wpAny_mono (h s R) (fun _ _ q => wpAny_pure (wpAny_pure q)) fun _ _ e => e)
end
end Mine
end
section
set_option maxRecDepth 100000
set_option Elab.async false
set_option linter.unusedVariables false
namespace Mine
open PySem PySem.W PySem.Calls PyProof.Rows
section
variable {prog : Program} {w : World} {s s' s₀ : Shared} {H₀ H H' : AHeap} {st : St}
structure Fc.Ok (n : Nat) (F : Fc) : Prop where
  fr : F.A.frames = some F.stk
  depth : F.A.depth + n < 900
  units : F.A.units + 10 * n < 5000
  lim : F.base.NoLimit
  hh : F.A.handled = none
noncomputable def CPost (prog : Program) (w : World) (F : Fc) (H : AHeap) (s : Shared) (Q : Value → AHeap → Prop) (X : Value → List Value → AHeap → Prop) (r : Result) (s' : Shared) : Prop := match r with
  | .ok (.ret v) => ∃ H', HRel prog w F H' s' ∧ After (frAddrs F.stk) [] H s H' s' ∧ Q (er v) H'
  | .ok _ => False
  | .error e => ∃ H' ea cls args, e = .ref ea ∧ ExcAt F.base s.heap H' s'.heap ea cls args (some .none) ∧ HRel prog w F H' s' ∧ After (frAddrs F.stk) [] H s H' s' ∧ X cls args H'
noncomputable def Calls (prog : Program) (w : World) (F : Fc) (f : Value) (args : List Value) (H : AHeap) (Q : Value → AHeap → Prop) (X : Value → List Value → AHeap → Prop) : Prop :=
  ∀ s args', args'.map er = args → HRel prog w F H s → codeAny (model prog w) F.A (.call f ⟨args', []⟩) (CPost prog w F H s Q X) s
theorem CPost.elim {F : Fc} {s s' : Shared} {Q : Value → AHeap → Prop} {X : Value → List Value → AHeap → Prop} {r : Result} {P : Prop} (z : CPost prog w F H s Q X r s')
    (k1 : ∀ v H', r = .ok (.ret v) → HRel prog w F H' s' → After (frAddrs F.stk) [] H s H' s' → Q (er v) H' → P)
    (k2 : ∀ H' ea cls args, r = .error (.ref ea) → ExcAt F.base s.heap H' s'.heap ea cls args (some .none) → HRel prog w F H' s' → After (frAddrs F.stk) [] H s H' s' → X cls args H' → P) : P := by
  cases r with
  | ok f => cases f with
    | ret v => obtain ⟨H', a, b, c⟩ := z; exact k1 v H' rfl a b c
    | _ => exact False.elim z
  | error e => refine ex4and5 z fun H' ea cls args y4_ x a b q => ?_; try clear z; obtain rfl := y4_; exact k2 H' ea cls args rfl x a b q
theorem Calls.mono {F : Fc} {f : Value} {args : List Value} {Q Q' : Value → AHeap → Prop} {X X' : Value → List Value → AHeap → Prop} (h : Calls prog w F f args H Q X) (hq : ∀ v H, Q v H → Q' v H) (hx : ∀ c a H, X c a H → X' c a H) : Calls prog w F f args H Q' X' := by
  intro s args' ha R
  refine codeAny_mono (h s args' ha R) fun r s' z => ?_
  refine CPost.elim z (fun v H' e a b c => ?_) (fun H' ea cls args e a c d x => ?_) <;> subst e
  · exact ⟨H', a, b, hq _ _ c⟩
  · exact ⟨H', ea, cls, args, rfl, a, c, d, hx _ _ _ x⟩
theorem After.wider {fr fr' own own' : List Addr} (A : After fr own H₀ s₀ H s) (B : After fr' own' H s H' s') (hf : ∀ b ∈ own', s₀.heap.get? b = none) (hr : ∀ b ∈ fr', b ∈ fr ∨ s₀.heap.get? b = none) : After fr own H₀ s₀ H' s' where
  keep b o e hn ho := by
    obtain ⟨sl, e1, c1⟩ := A.keep b o e hn ho
    have hn1 : H b = none := by
      cases q : H b with
      | none => rfl
      | some z =>
        rcases A.dom b (by rw [q]; exact nofun) with h | h
        · exact absurd hn h
        · rw [e] at h; cases h
    obtain ⟨sl2, e2, c2⟩ := B.keep b _ e1 hn1 (fun hm => by rw [hf b hm] at e; cases e)
    refine ⟨sl2, e2, fun hc => (c2 fun hm => ?_).trans (c1 hc)⟩
    rcases hr b hm with h | h
    · exact hc h
    · rw [e] at h; cases h
  alive b e := B.alive b (A.alive b e)
  dom b e := by
    rcases B.dom b e with h | h
    · exact A.dom b h
    · refine .inr ?_
      cases q : s₀.heap.get? b with
      | none => rfl
      | some z => exact absurd h (A.alive b (by rw [q]; exact nofun))
theorem T_code {F : Fx} {f : Value} {args args' : List Value} {Q : Value → St → Prop} {X : Value → List Value → St → Prop} (ha : args'.map er = args)
    (h : Calls prog w F.toFc f args st.H (fun v H' => Q v ⟨st.vars, H'⟩) (fun c a H' => X c a ⟨st.vars, H'⟩)) : T prog w F (call f args') Q X st := by
  intro s R
  refine wpAny_call (codeAny_mono (h s args' ha R.1) fun r s' z => ?_)
  refine CPost.elim z (fun v H' e a b c => ?_) (fun H' ea cls args e b c d x => ?_) <;> subst e
  · refine ⟨⟨st.vars, H'⟩, ⟨a, R.2.back b (by simp) (by simp) (by simp)⟩, ?_, c⟩
    exact (After.refl _ _ _ s).wider b (by simp) fun b hb => .inl hb
  · exact ⟨⟨st.vars, H'⟩, ea, cls, args, some .none, rfl, b, fun L _ => .inl rfl, ⟨c, R.2.back d (by simp) (by simp) (by simp)⟩, (After.refl _ _ _ s).wider d (by simp) fun b hb => .inl hb, x⟩
structure FdOk (base : Heap) (f : Addr) (fd : FuncData) (body : List Stmt) : Prop where
  at_ : ∃ o, base.get? f = some o ∧ o.data = .func fd
  co : fd.scope.isCoroutine = false
  gen : fd.scope.isGenerator = false
  body : fd.body = .stmts body
  code : base.CodeRec fd.code fd.qualname
  clos : fd.closure = []
  kind : fd.scope.kind = .function
  nodup : ((cellsFrom 0 fd.scope.names []).map (·.1)).Nodup
noncomputable abbrev fenv (f : Addr) (fd : FuncData) (L : Addr) : Env :=
  { scope := fd.scope, locals := L, globals := fd.globals, cells := cellsFrom (L + 1) fd.scope.names [], qual := fd.qualname ++ ".<locals>.", func := some f, code := fd.code, frame := some L, builtins := fd.builtins }
noncomputable abbrev ffx (F : Fc) (f : Addr) (fd : FuncData) (L : Addr) : Fx :=
  { A := F.A.deeper (fenv f fd L), base := F.base, stk := fenv f fd L :: F.stk, os := F.os, env := fenv f fd L, own := L :: (fenv f fd L).cells.map (·.2) }
theorem ffx_runs {F : Fc} {n : Nat} (O : F.Ok n) (f : Addr) (fd : FuncData) (L : Addr) : Runs (ffx F f fd L) F.stk L := ⟨rfl, by show F.A.frames.map _ = _; rw [O.fr]; rfl, rfl⟩
theorem ffx_ok {F : Fc} {n : Nat} (O : F.Ok (n + 1)) (f : Addr) (fd : FuncData) (L : Addr) : (ffx F f fd L).toFc.Ok n :=
  ⟨by show F.A.frames.map _ = _; rw [O.fr]; rfl, by show F.A.depth + 1 + n < 900; have := O.depth; omega, by show F.A.units + 3 + 10 * n < 5000; have := O.units; omega, O.lim, O.hh⟩
theorem bindL_at {kindOf : Str → Option NameKind} {x : Str} (hk : kindOf x = some .local) : ∀ (binds : List (Str × Value)) (m : Str → Option Value), (binds.map (·.1)).Nodup → ∀ v, binds.lookup x = some v → bindL kindOf binds m x = some v := by
  intro binds
  induction binds with
  | nil => intro m _ v e; cases e
  | cons p r ih =>
    obtain ⟨n, u⟩ := p
    intro m hn v e
    have hn' : (r.map (·.1)).Nodup ∧ n ∉ r.map (·.1) := by
      have := hn; rw [List.map_cons, List.nodup_cons] at this; exact ⟨this.2, this.1⟩
    by_cases q : x = n
    · subst q
      simp only [List.lookup, beq_self_eq_true] at e; cases e
      unfold bindL
      rw [if_pos hk]
      have : ∀ (l : List (Str × Value)) (m' : Str → Option Value), x ∉ l.map (·.1) → m' x = some u → bindL kindOf l m' x = some u := by
        intro l
        induction l with
        | nil => intro m' _ h; exact h
        | cons p l ih =>
          intro m' hx h
          obtain ⟨y, z⟩ := p
          unfold bindL
          rw [List.map_cons, List.mem_cons, not_or] at hx
          refine ih _ hx.2 ?_
          split
          · show (if x = y then _ else _) = _
            rw [if_neg hx.1]; exact h
          · exact h
      exact this r _ hn'.2 (by show (if x = x then _ else _) = _; rw [if_pos rfl])
    · have : (x == n) = false := by simpa using q
      simp only [List.lookup, this] at e
      unfold bindL
      exact ih _ hn'.1 v e
theorem bindC_at {kindOf : Str → Option NameKind} {x : Str} (hk : kindOf x = some .cell) : ∀ (binds : List (Str × Value)) (m : Str → Option Value), (binds.map (·.1)).Nodup → ∀ v, binds.lookup x = some v → bindC kindOf binds m x = some v := by
  intro binds
  induction binds with
  | nil => intro m _ v e; cases e
  | cons p r ih =>
    obtain ⟨n, u⟩ := p
    intro m hn v e
    have hn' : (r.map (·.1)).Nodup ∧ n ∉ r.map (·.1) := by
      have := hn; rw [List.map_cons, List.nodup_cons] at this; exact ⟨this.2, this.1⟩
    by_cases q : x = n
    · subst q
      simp only [List.lookup, beq_self_eq_true] at e; cases e
      unfold bindC
      rw [if_neg (by rw [hk]; decide)]
      have : ∀ (l : List (Str × Value)) (m' : Str → Option Value), x ∉ l.map (·.1) → m' x = some u → bindC kindOf l m' x = some u := by
        intro l
        induction l with
        | nil => intro m' _ h; exact h
        | cons p l ih =>
          intro m' hx h
          obtain ⟨y, z⟩ := p
          unfold bindC
          rw [List.map_cons, List.mem_cons, not_or] at hx
          refine ih _ hx.2 ?_
          split
          · exact h
          · show (if x = y then _ else _) = _
            rw [if_neg hx.1]; exact h
      exact this r _ hn'.2 (by show (if x = x then _ else _) = _; rw [if_pos rfl])
    · have : (x == n) = false := by simpa using q
      simp only [List.lookup, this] at e
      unfold bindC
      exact ih _ hn'.1 v e
theorem lookup_er {binds : List (Str × Value)} {x : Str} {v : Value} (h : (binds.map fun p => (p.1, er p.2)).lookup x = some v) : ∃ u, binds.lookup x = some u ∧ er u = v := by
  induction binds with
  | nil => cases h
  | cons p r ih =>
    obtain ⟨y, u⟩ := p
    by_cases q : x = y
    · subst q
      simp only [List.map_cons, List.lookup, beq_self_eq_true] at h ⊢
      cases h; exact ⟨u, rfl, rfl⟩
    · have : (x == y) = false := by simpa using q
      simp only [List.map_cons, List.lookup, this] at h ⊢
      exact ih h
theorem lookup_mem {α : Type} {l : List (Str × α)} {x : Str} {c : α} (h : l.lookup x = some c) : (x, c) ∈ l := by
  induction l with
  | nil => cases h
  | cons p r ih =>
    obtain ⟨y, u⟩ := p
    by_cases q : x = y
    · subst q
      simp only [List.lookup, beq_self_eq_true] at h
      cases h; exact List.mem_cons_self
    · have : (x == y) = false := by simpa using q
      simp only [List.lookup, this] at h
      exact List.mem_cons_of_mem _ (ih h)
theorem HRel.pop {F : Fc} {env : Env} {A : Around} (R : HRel prog w { A := A, base := F.base, stk := env :: F.stk, os := F.os } H s) : HRel prog w F H s :=
  ⟨R.stays, R.cells, R.notBase, R.frames.2.2, fun e he L hL => R.frCls e (List.mem_cons_of_mem _ he) L hL, R.gens, R.os⟩
noncomputable def Binds (prog : Program) (w : World) (F : Fc) (fd : FuncData) (args : List Value) (H : AHeap) (B : List (Str × Value) → AHeap → Prop) : Prop :=
  ∀ s args', args'.map er = args → HRel prog w F H s → ∀ (E : Value → Shared → Prop), wpAny (model prog w) F.A.in1 (bindArgs fd ⟨args', []⟩)
    (fun binds s₁ => ∃ H₁, HRel prog w F H₁ s₁ ∧ After (frAddrs F.stk) [] H s H₁ s₁ ∧ B (binds.map fun p => (p.1, er p.2)) H₁) E s
theorem Binds.pure {F : Fc} {fd : FuncData} {args : List Value} {names : List Str} {B : List (Str × Value) → AHeap → Prop} (hb : ∀ args', args'.map er = args → bindArgs fd ⟨args', []⟩ = Pure.pure (names.zip args'))
    (h : B (names.zip args) H) : Binds prog w F fd args H B := by
  intro s args' ha R E
  rw [hb args' ha]
  refine wpAny_pure ⟨H, R, .refl _ _ _ _, ?_⟩
  subst ha
  rw [List.zip_map_right] at h
  exact h
noncomputable def kindOk (sc : Scope) (binds : List (Str × Value)) : Prop := ∀ x ∈ binds, sc.names.lookup x.1 = some .local ∨ sc.names.lookup x.1 = some .cell
theorem cellsFrom_some' {x : Str} : ∀ (names : List (Str × NameKind)) (n : Nat) (acc : List (Str × Addr)), names.lookup x = some .cell → ((cellsFrom n names acc).lookup x).isSome = true := fun names n acc h => cell_of names n acc (.inl h)
theorem Calls.def {F : Fc} {n : Nat} {f : Addr} {fd : FuncData} {body : List Stmt} {args : List Value} {Q : Value → AHeap → Prop} {X : Value → List Value → AHeap → Prop} {B : List (Str × Value) → AHeap → Prop}
    (D : FdOk F.base f fd body) (O : F.Ok (n + 1)) (hb : Binds prog w F fd args H B)
    (h : ∀ L vs H₁, B vs H₁ → (vs.map (·.1)).Nodup ∧ kindOk fd.scope vs ∧
      T prog w (ffx F f fd L) (execs body (fenv f fd L)) (fun fl st' => Q (match fl with | .ret v => v | _ => .none) st'.H) (fun c a st' => X c a st'.H) ⟨vs, H₁⟩) :
    Calls prog w F (.ref f) args H Q X := by
  intro s args' ha R
  obtain ⟨o, ho, hd⟩ := D.at_
  refine codeAny_call_function (by have := O.depth; show F.A.depth < 1000; omega) (R.stays _ _ ho) hd D.co D.gen D.body (D.code.keeps R.stays) (wpAny_mono (hb s args' ha R _) (fun binds s₁ ⟨H₁, R₁, A₁, hB⟩ => ?_) fun _ _ z => z)
  rw [D.clos]
  have hh := fun L => h L _ H₁ hB
  have hkind : ∀ m, ∀ x ∈ binds, fd.scope.names.lookup x.1 = some .local ∨ (fd.scope.names.lookup x.1 = some .cell ∧ ((cellsFrom m fd.scope.names []).lookup x.1).isSome = true) := fun m x hx => by
    rcases (hh 0).2.1 (x.1, er x.2) (List.mem_map.mpr ⟨x, hx, rfl⟩) with q | q
    · exact .inl q
    · exact .inr ⟨q, cellsFrom_some' _ _ _ q⟩
  refine wpAny_newFunctionEnv_cells D.kind (hkind _) fun env he s₂ x => ?_
  have he' : env = fenv f fd s₁.heap.objs.size := he
  subst he'
  clear he
  generalize hL : s₁.heap.objs.size = L at *
  have hL1 : s₁.heap.get? L = none := Heap.get?_none_of_le (Nat.le_of_eq hL)
  have hk₂ := x.toInCall.keep
  obtain ⟨h₂, tk₂, hs₂⟩ := x.toInCall.same
  subst hs₂
  refine ⟨(O.lim.keeps R₁.stays).keeps hk₂, codeAny_func ?_⟩
  have hcl : ∀ y c, (fenv f fd L).cells.lookup y = some c → s₁.heap.get? c = none ∧ c ≠ L := fun y c e => by
    have := x.above y c (lookup_mem e)
    refine ⟨Heap.get?_none_of_le ?_, fun q => ?_⟩
    · have : L < c := this
      rw [hL]; exact Nat.le_of_lt this
    · have : L < c := this
      rw [q] at this; exact Nat.lt_irrefl _ this
  have hbase : ∀ c, s₁.heap.get? c = none → F.base.get? c = none := fun c e => by
    cases q : F.base.get? c with
    | none => rfl
    | some ob => rw [R₁.stays _ _ q] at e; cases e
  have R₂ : HRel prog w F H₁ { s₁ with heap := h₂, toks := tk₂ } := R₁.grow hk₂ rfl rfl
  have A₂ : After (frAddrs F.stk) [] H s H₁ { s₁ with heap := h₂, toks := tk₂ } := A₁.trans (.grow _ _ hk₂)
  have hns := x.toInCall.ns
  have hnd : (binds.map (·.1)).Nodup := by have := (hh 0).1; rw [List.map_map] at this; exact this
  refine ex3and3 (id hns) fun oL esL epL hoL hdL rL => ?_
  have RF : HRel prog w (ffx F f fd L).toFc H₁ { s₁ with heap := h₂, toks := tk₂ } :=
    ⟨R₂.stays, R₂.cells, R₂.notBase, ⟨by show fd.scope.kind ≠ .module; rw [D.kind]; decide, ⟨L, oL, rfl, hbase L hL1, hoL, fun vs q => by rw [hdL] at q; cases q⟩, R₂.frames⟩, fun e he L' hL' => by
      rcases List.mem_cons.mp he with rfl | he
      · have : L = L' := Option.some.inj hL'
        subst this
        exact ⟨R₁.none_of hL1, exi3 oL esL epL ⟨hoL, hdL⟩⟩
      · exact R₂.frCls e he L' hL', R₂.gens, R₂.os⟩
  have VF : VRel (ffx F f fd L) ⟨binds.map fun p => (p.1, er p.2), H₁⟩ { s₁ with heap := h₂, toks := tk₂ } := by
    refine ⟨⟨_, hns, fun y v e k => ?_⟩, fun y v e k => ?_, R₁.none_of hL1, hbase L hL1, fun y c e => ?_, fun y z c e1 e2 => ?_, fun a ha => ?_⟩
    · obtain ⟨u, hu, rfl⟩ := lookup_er e
      exact ⟨u, bindL_at k binds _ hnd u hu, rfl⟩
    · obtain ⟨u, hu, rfl⟩ := lookup_er e
      obtain ⟨c, hc⟩ := Option.isSome_iff_exists.mp (cellsFrom_some' fd.scope.names (L + 1) [] k)
      exact exi2 c u ⟨hc, bindC_at k binds _ hnd u hu ▸ x.cell y c hc, rfl⟩
    · obtain ⟨q1, q2⟩ := hcl y c e
      exact ⟨R₁.none_of q1, q2, hbase c q1, _, x.cell y c e⟩
    · exact name_of_addr x.apart (lookup_mem e1) (lookup_mem e2)
    · rcases List.mem_cons.mp ha with rfl | ha
      · exact ⟨R₁.none_of hL1, oL, hoL, fun vs q => by rw [hdL] at q; cases q⟩
      · obtain ⟨⟨y, c⟩, hm, rfl⟩ := List.mem_map.mp ha
        have hlk : (fenv f fd L).cells.lookup y = some c := lookup_of_mem_nodup (cellsFrom_names fd.scope.names 0 (L + 1) [] [] rfl ▸ D.nodup) hm
        obtain ⟨q1, q2⟩ := hcl y c hlk
        obtain ⟨oc, hoc, hdc⟩ := x.cell y c hlk
        exact ⟨R₁.none_of q1, oc, hoc, fun vs q => by rw [hdc] at q; cases q⟩
  have freshs : ∀ c, s₁.heap.get? c = none → s.heap.get? c = none := fun c e => by
    cases q : s.heap.get? c with
    | none => rfl
    | some ob => exact absurd e (A₁.alive c (by rw [q]; exact nofun))
  have hown : ∀ b ∈ (ffx F f fd L).own, s.heap.get? b = none := fun b hb => by
    rcases List.mem_cons.mp hb with rfl | hb
    · exact freshs _ hL1
    · obtain ⟨⟨y, c⟩, hm, rfl⟩ := List.mem_map.mp hb
      exact freshs _ (hcl y c (lookup_of_mem_nodup (cellsFrom_names fd.scope.names 0 (L + 1) [] [] rfl ▸ D.nodup) hm)).1
  have hfr : ∀ b ∈ frAddrs (ffx F f fd L).stk, b ∈ frAddrs F.stk ∨ s.heap.get? b = none := fun b hb => by
    have : b = L ∨ b ∈ frAddrs F.stk := List.mem_cons.mp hb
    rcases this with rfl | hb
    · exact .inr (freshs _ hL1)
    · exact .inl hb
  refine wpAny_mono ((hh L).2.2 { s₁ with heap := h₂, toks := tk₂ } ⟨RF, VF⟩) (fun fl s₃ ⟨st₃, R₃, A₃, q⟩ => ?_) fun e s₃ x => ?_
  · refine ⟨st₃.H, HRel.pop (A := (ffx F f fd L).A) R₃.1, A₂.wider A₃ hown hfr, ?_⟩
    cases fl <;> exact q
  · refine ex5and6 x fun st₃ ea cls as fl y5_ hx hfl R₃ A₃ q => ?_; try clear x; obtain rfl := y5_
    refine leaves (ffx_runs O f fd L) R₃ hx (hfl L rfl) A₃.alive fun s₄ W x₄ => ?_
    have A₄ := A₃.flew W
    refine ⟨st₃.H, ea, cls, as, rfl, ?_, HRel.pop (A := (ffx F f fd L).A) W.rel.1, A₂.wider A₄ hown hfr, q⟩
    exact x₄.older A₂.alive
end
end Mine
end
section
set_option maxRecDepth 100000
set_option Elab.async false
set_option linter.unusedVariables false
namespace Mine
open PySem PySem.W PySem.Calls PyProof.Rows Builtin Builtin.ObjectAttr Builtin.Getset_descriptor
theorem isStr_iff {k : Value} {x y : Str} {t : Tok} (h : k = .str x t) : k.isStr y = true ↔ y = x := by
  subst h
  show (x == y) = true ↔ _
  rw [beq_iff_eq]; exact eq_comm
theorem NsE.refKey {es : List DictEntry} : ∀ {l : List (Str × Value)}, NsE es l → es.any (·.refKey) = false := by
  induction es with
  | nil => intro l h; rfl
  | cons e r ih => intro l h; cases l with
   | nil => exact False.elim h
   | cons p q =>
    obtain ⟨⟨t, h1⟩, _, h3⟩ := h
    rw [List.any_cons, ih h3, Bool.or_false]
    show e.refKey = false
    unfold DictEntry.refKey; rw [h1]
theorem NsE.get {es : List DictEntry} : ∀ {l : List (Str × Value)}, NsE es l → ∀ name, match l.lookup name with
    | some v => ∃ u, getL name es = some (some u) ∧ er u = v
    | none => getL name es = some none := by
  induction es with
  | nil => intro l h name; cases l with
    | nil => rfl
    | cons _ _ => exact False.elim h
  | cons e r ih => intro l h name; cases l with
   | nil => exact False.elim h
   | cons p q =>
    obtain ⟨x, v⟩ := p
    obtain ⟨⟨t, h1⟩, h2, h3⟩ := h
    have ih := ih h3 name
    by_cases hx : name = x
    · subst hx
      simp only [List.lookup, beq_self_eq_true]
      refine ⟨e.val, ?_, h2⟩
      unfold getL
      rw [List.find?_cons_of_pos (p := fun x : DictEntry => x.key.isStr name) ((isStr_iff h1).mpr rfl)]
    · have hb : (name == x) = false := by simpa using hx
      simp only [List.lookup, hb]
      have hf : e.key.isStr name = false := by
        cases z : e.key.isStr name with
        | false => rfl
        | true => exact absurd ((isStr_iff h1).mp z) hx
      have hk : e.refKey = false := by unfold DictEntry.refKey; rw [h1]
      have e1 : getL name (e :: r) = getL name r := by
        unfold getL
        rw [List.find?_cons_of_neg (p := fun x : DictEntry => x.key.isStr name) (by rw [hf]; decide), List.any_cons, hk, Bool.false_or]
      rw [e1]; exact ih
theorem NsE.put (name : Str) (hsh : Int) (tk : Tok) (v : Value) {es : List DictEntry} : ∀ {l : List (Str × Value)}, NsE es l → NsE (putL name hsh (.str name tk) v es) (setV l name (er v)) := by
  induction es with
  | nil => intro l h; cases l with
    | nil => exact ⟨⟨tk, rfl⟩, rfl, trivial⟩
    | cons _ _ => exact False.elim h
  | cons e r ih => intro l h; cases l with
   | nil => exact False.elim h
   | cons p q =>
    obtain ⟨x, u⟩ := p
    obtain ⟨⟨t, h1⟩, h2, h3⟩ := h
    unfold putL setV
    by_cases hx : name = x
    · subst hx
      rw [if_pos ((isStr_iff h1).mpr rfl), if_pos rfl]
      exact ⟨⟨t, h1⟩, rfl, h3⟩
    · rw [if_neg (fun z => hx ((isStr_iff h1).mp z)), if_neg (fun z => hx (Eq.symm z))]
      exact ⟨⟨t, h1⟩, h2, ih h3⟩
theorem NsE.length : ∀ {es : List DictEntry} {l : List (Str × Value)}, NsE es l → es.length = l.length
  | [], [], _ => rfl
  | e :: r, p :: q, ⟨_, _, h3⟩ => by rw [List.length_cons, List.length_cons, NsE.length h3]
theorem handed_er {v : Value} : handedIn (er v) = handedIn v := by cases v <;> rfl
section
variable {prog : Program} {w : World} {F : Fx} {st : St} {s s' s₀ : Shared} {H₀ : AHeap} {X : Value → List Value → St → Prop} {K : Frag} {x C d : Addr} {name : Str} {v : Value} {Q : Value → St → Prop}
theorem KinS (KX : K.In F.base) (R : HRel prog w F.toFc st.H s) : K.In s.heap := KX.keeps R.stays
theorem inst_at (R : HRel prog w F.toFc st.H s) {es : List (Str × Value)} (hx : st.H x = some (.inst C d)) (hd : st.H d = some (.ns es)) :
    ∃ des n, InstAt s.heap x (instObj C d) C (some (dictOf des n)) ∧ NsE des es ∧ s.heap.get? d = some (dictOf des n) := by
  obtain ⟨o, ho, hr⟩ := R.cells _ _ hx
  refine ex1and2 (R.cells _ _ hd) fun od hod y2_ => ?_; obtain ⟨des, n, rfl, hn⟩ := y2_
  have hr : o = instObj C d := hr
  subst hr
  exact exi2 des n ⟨⟨ho, rfl, rfl, hod⟩, hn, hod⟩
theorem slots_at (R : HRel prog w F.toFc st.H s) {es : List (Str × Value)} {vs : List (Option Value)} (hx : st.H x = some (.slots C d vs)) (hd : st.H d = some (.ns es)) :
    ∃ ox des n, InstAt s.heap x ox C (some (dictOf des n)) ∧ NsE des es ∧ ox.slots.toList.map (Option.map er) = vs ∧ ox.data = .plain ∧ ox.dict = some d := by
  refine ex1and5 (R.cells _ _ hx) fun o ho h1 h2 h3 h4 => ?_
  refine ex1and2 (R.cells _ _ hd) fun od hod y2_ => ?_; obtain ⟨des, n, rfl, hn⟩ := y2_
  exact exi3 o des n ⟨⟨ho, h1, by unfold notCls; rw [h3], by rw [h2]; exact hod⟩, hn, h4, h3, h2⟩
theorem T_getA {es : List (Str × Value)} {attr : Option Value} {expr : Bool} (KX : K.In F.base) (hx : st.H x = some (.inst C d)) (hd : st.H d = some (.ns es)) (hl : es.lookup name = some v) (hv : handedIn v = true)
    (hg : plainGet K C name = true) (hh : hasDictIn K C = true) (ha : findIn K (.ref C) name = some attr) (hn : noGet K attr = true) (h : Q v st) : T prog w F (getAttr (.ref x) name expr) Q X st := by
  intro s R
  refine ex2and3 (inst_at R.1 hx hd) fun des n I hns _ => ?_
  have hz := hns.get name
  rw [hl] at hz
  obtain ⟨u, hu, rfl⟩ := hz
  exact get_value (KinS KX R.1) I (plainGet_of hg).1 (findObj_own hh ha hn (by rw [lookIn_dict]; exact hu)) (by rw [← handed_er]; exact hv) ⟨st, R.toks, .grow _ _ fun _ _ e => e, h⟩
theorem T_getS {es : List (Str × Value)} {vs : List (Option Value)} {p i : Nat} {expr : Bool} (KX : K.In F.base) (hx : st.H x = some (.slots C d vs)) (hd : st.H d = some (.ns es)) (hl : vs[i]? = some (some v)) (hv : handedIn v = true)
    (hg : plainGet K C name = true) (hc : isClsIn K C = true) (ha : findIn K (.ref C) name = some (some (.ref p))) (hn : specialIn K (.ref p) "__get__" = some (some (.builtin "member_descriptor.__get__"))) (ht : takesIn K (.ref p) = some true)
    (hp : slotIn K p C = some i) (h : Q v st) : T prog w F (getAttr (.ref x) name expr) Q X st := by
  intro s R
  refine ex3and4 (slots_at R.1 hx hd) fun ox des n I hns hsl _ => ?_
  have KS := KinS KX R.1
  rw [← hsl, List.getElem?_map] at hl
  obtain ⟨u, hu, hue⟩ := Option.map_eq_some_iff.mp hl
  obtain ⟨u', rfl, rfl⟩ := Option.map_eq_some_iff.mp hue
  refine get_bind KS I (plainGet_of hg).1 (findObj_data hc ha hn ht) (plainGet_of hg).2 (wpAny_call (slot_get (s := { s with toks := s.toks + 1 }) KS I hp ?_ (handed_on (by rw [← handed_er]; exact hv) ⟨st, R.toks, .grow _ _ fun _ _ e => e, h⟩)))
  rw [← Array.getElem?_toList, hu]; rfl
theorem setV_length (es : List (Str × Value)) (name : Str) (v : Value) : (setV es name v).length ≤ es.length + 1 := by
  induction es with
  | nil => exact Nat.le_refl _
  | cons p r ih =>
    unfold setV
    split
    · simp
    · rw [List.length_cons, List.length_cons]; omega
theorem osa_ns {R : Result → Shared → Prop} {A : Around} {ox : Obj} {des : List DictEntry} {n : Nat} {es : List (Str × Value)} {tk : Tok} (KS : K.In s.heap) (I : InstAt s.heap x ox C (some (dictOf des n))) (hox : ox.dict = some d) (hns : NsE des es) (D : s.heap.get? d = some (dictOf des n)) (hz : es.length < 1000)
    (hp : plainOver K C = true) (ht : takerIn K C name = some none) (hh : hasDictIn K C = true)
    (h : ∀ hsh, R (.ok (.ret .none)) { s with heap := s.heap.update d (Obj.putName name hsh (.str name s.toks) v), toks := s.toks + 1 }) :
    codeAny (model prog w) A (.call (.builtin "object.__setattr__") ⟨[.ref x, .str name tk, v], []⟩) R s := by
  refine osa_open KS I hp ht fun b => ?_
  obtain ⟨cd, hc, hd'⟩ := any_some hh
  have put := putName_dict name (PyData.keyHash w.params name) (.str name s.toks) v des n
  have D' := Heap.get?_update_self (Obj.putName name (PyData.keyHash w.params name) (.str name s.toks) v) D (by rw [put]; rfl)
  rw [put] at D'
  obtain ⟨hx, hcl, hn, -⟩ := I
  obtain ⟨oc, odi, oda, osl⟩ := ox
  dsimp only at hcl hox
  subst hcl hox
  refine wpAny_bind (wpAny_pure (wpAny_bind (wpAny_bind (wpAny_loadPart hx (wpAny_bind ((looks_clsIn KS hc).here ?_))))))
  rw [hd']
  refine wpAny_pure (a := some d) (wpAny_bind (wpAny_pure (wpAny_bind ?_)))
  unfold nsSet
  refine wpAny_bind (wpAny_bind (wpAny_askSetting (wpAny_pure (wpAny_bind (wpAny_mkText (wpAny_bind (wpAny_loadPart D ?_)))))))
  dsimp only
  have c : aRefKeyMayBeTheName name des.toArray = false := by
    rw [aRefKeyMayBeTheName_at, ← Array.any_toList, ← Array.any_toList]
    show (!_ && des.any _) = false
    rw [hns.refKey, Bool.and_false]
  rw [c]
  refine wpAny_updatePart D ?_
  refine wpAny_bind (wpAny_lookBehind D' (pastItsLine_dict ?_) ?_)
  · have e := (NsE.put name (PyData.keyHash w.params name) s.toks v hns).length
    have hb := setV_length es name (er v)
    rw [List.size_toArray, e, sizeLine_eq]; omega
  · exact wpAny_pure (h _)
theorem T_setA {es : List (Str × Value)} {v' : Value} {Q : Unit → St → Prop} (KX : K.In F.base) (hx : st.H x = some (.inst C d)) (hd : st.H d = some (.ns es)) (he : er v' = v) (hz : es.length < 1000)
    (hs : findIn K (.ref C) "__setattr__" = some (some (.builtin "object.__setattr__"))) (hp : plainOver K C = true) (ht : takerIn K C name = some none) (hh : hasDictIn K C = true)
    (h : Q () ⟨st.vars, upd st.H d (.ns (setV es name v))⟩) : T prog w F (setAttr (.ref x) name v') Q X st := by
  intro s R
  refine ex2and3 (inst_at R.1 hx hd) fun des n I hns D => ?_
  have KS := KinS KX R.1
  refine set_plain KS I hs (osa_ns (s := { s with toks := s.toks + 1 }) KS I rfl hns D hz hp ht hh fun hsh => ?_)
  have put := putName_dict name hsh (.str name (s.toks + 1)) v' des n
  have D' := Heap.get?_update_self (Obj.putName name hsh (.str name (s.toks + 1)) v') D (by rw [put]; rfl)
  rw [put] at D'
  have nd : st.H d ≠ none := by rw [hd]; exact nofun
  have hk : ∀ b ob, b ≠ d → s.heap.get? b = some ob → (s.heap.update d (Obj.putName name hsh (.str name (s.toks + 1)) v')).get? b = some ob := fun b ob hb e => by
    rw [Heap.get?_update_other _ _ (Ne.symm hb)]; exact e
  refine ⟨_, ?_, ?_, h⟩
  · refine Rel.set R nd hk rfl rfl D' ?_
    exact ⟨_, _, rfl, he ▸ NsE.put name _ _ v' hns⟩
  · exact After.set _ _ nd hk D'
noncomputable def setSlot (vs : List (Option Value)) (i : Nat) (v : Value) : List (Option Value) := (vs ++ List.replicate (i + 1 - vs.length) none).set i (some v)
theorem slot_set' {ox : Obj} {od : Option Obj} {v : Value} {p i : Nat} {R : Result → Shared → Prop} {A : Around} (X : K.In s.heap) (I : InstAt s.heap x ox C od)
    (hp : slotIn K p C = some i) (hi : i < 1000)
    (h : R (.ok (.ret .none)) { s with heap := s.heap.update x fun o => { o with slots := (o.slots ++ Array.replicate (i + 1 - o.slots.size) none).setIfInBounds i (some v) } }) :
    codeAny (model prog w) A (.call (.builtin "member_descriptor.__set__") ⟨[.ref p, .ref x, v], []⟩) R s := by
  refine ex8and5 (slot_of X hp) fun n tn owner behind tb d sl cd ho hc hm hb y12_ => ?_; obtain rfl := y12_
  obtain ⟨hh, g, dr, t, os⟩ := s
  have L0 := I.type (M := model prog w)
  have L1 := looks_mroIn (M := model prog w) X hm
  have L2 : Looks (model prog w) hh (Slots.slotNamesOf (.ref C)) cd.slotNames := (looks_clsIn X hc).andThen .now
  have hx := I.at_
  dsimp only at ho hx L0 L1
  have f0 := looks_field (M := model prog w) ho 0 (v := .str n tn) rfl
  have f1 := looks_field (M := model prog w) ho 1 (v := owner) rfl
  have f3 := looks_field (M := model prog w) ho 3 (v := .builtin "proto.slot#set") rfl
  have f4 := looks_field (M := model prog w) ho 4 (v := .int behind tb) rfl
  refine codeAny_call_builtin KF.slot_mset.plain KF.entry_mset (KF.slot_mset.check _ _ _ _ _ _ _ _ ⟨_, ho, rfl⟩ (KF.args_mset _ _ _) ?_)
  unfold Builtin.«member_descriptor.__set__» descrSet descrStoreThrough descrCheckInstance descrNameAndClass isInstance
  have f5 : Looks (model prog w) hh (descrItself (.ref p)) [.ref p] := ((Looks.ld (part := none) ho).andThen .now).andThen (Looks.of_pure (by kernel_rfl))
  repeat lk
  refine ⟨Code.quiet_builtin _ (by decide +kernel), codeAny_builtin KF.entry_slotset ?_⟩
  unfold Builtin.«proto.slot#set» Slots.target
  repeat lk
  rw [if_neg hb]
  refine wpAny_pure (wpAny_bind ?_)
  unfold setSlotAt
  dsimp only
  rw [if_neg (by rw [sizeLine_eq]; omega)]
  exact wpAny_updatePart hx (wpAny_pure h)
theorem T_setS {es : List (Str × Value)} {vs : List (Option Value)} {p i : Nat} {v' : Value} {Q : Unit → St → Prop} (KX : K.In F.base) (hx : st.H x = some (.slots C d vs)) (hd : st.H d = some (.ns es)) (he : er v' = v)
    (hs : findIn K (.ref C) "__setattr__" = some (some (.builtin "object.__setattr__"))) (hp : plainOver K C = true) (ht : takerIn K C name = some (some (.ref p))) (hT : typeIn K (.ref p) = some (.type "member_descriptor")) (hi : slotIn K p C = some i) (hz : i < 1000)
    (h : Q () ⟨st.vars, upd st.H x (.slots C d (setSlot vs i v))⟩) : T prog w F (setAttr (.ref x) name v') Q X st := by
  intro s R
  refine ex3and5 (slots_at R.1 hx hd) fun ox des n I hns hsl hpl hdt => ?_
  have KS := KinS KX R.1
  refine set_plain KS I hs (osa_descr (s := { s with toks := s.toks + 1 }) KF.slot_mset KS I hp ht hT (slot_set' (s := { s with toks := s.toks + 1 }) KS I hi hz ?_))
  have nx : st.H x ≠ none := by rw [hx]; exact nofun
  have D' := Heap.get?_update_self (fun o : Obj => { o with slots := (o.slots ++ Array.replicate (i + 1 - o.slots.size) none).setIfInBounds i (some v') }) I.at_ (by show Obj.isFreed _ = false; obtain ⟨c, dd, dt, sl⟩ := ox; subst hpl; rfl)
  have hk : ∀ b ob, b ≠ x → s.heap.get? b = some ob → (s.heap.update x fun o => { o with slots := (o.slots ++ Array.replicate (i + 1 - o.slots.size) none).setIfInBounds i (some v') }).get? b = some ob := fun b ob hb e => by
    rw [Heap.get?_update_other _ _ (Ne.symm hb)]; exact e
  refine ⟨_, ?_, ?_, h⟩
  · refine Rel.set R nx hk rfl rfl D' ⟨I.cls, hdt, hpl, ?_⟩
    unfold setSlot
    simp only [Array.toList_setIfInBounds, Array.toList_append, Array.toList_replicate, List.map_set, List.map_append, List.map_replicate]
    rw [hsl, ← hsl, List.length_map, Array.length_toList]
    simp [he]
  · exact After.set _ _ nx hk D'
theorem T_method {es : List (Str × Value)} {f : Addr} {pl : Sem Bool} {Q : Value × List Value → St → Prop} (KX : K.In F.base) (hx : st.H x = some (.inst C d)) (hd : st.H d = some (.ns es)) (hl : es.lookup name = none)
    (hg : plainGet K C name = true) (hf : findIn K (.ref C) name = some (some (.ref f))) (ht : isFn K (.ref f) = true) (h : Q (.ref f, [.ref x]) st) : T prog w F (getMethod (.ref x) name pl) Q X st := by
  intro s R
  refine ex2and3 (inst_at R.1 hx hd) fun des n I hns _ => ?_
  have hz := hns.get name
  rw [hl] at hz
  exact method_fn (KinS KX R.1) I (plainGet_of hg).1 (plainGet_of hg).2 hf (beq_iff_eq.mp ht) (by have hz : getL name des = some none := hz; show Option.map _ (lookIn name (dictOf des n)) = _; rw [lookIn_dict, hz]; rfl) ⟨st, R, .refl _ _ _ _, h⟩
theorem T_bound {es : List (Str × Value)} {f : Addr} {expr : Bool} (KX : K.In F.base) (hx : st.H x = some (.inst C d)) (hd : st.H d = some (.ns es)) (hl : es.lookup name = none)
    (hg : plainGet K C name = true) (hh : hasDictIn K C = true) (ha : findIn K (.ref C) name = some (some (.ref f))) (hf : isFn K (.ref f) = true)
    (hgf : specialIn K (.ref f) "__get__" = some (some (.builtin "function.__get__"))) (ht : takesIn K (.ref f) = some false) (hc : copiedNames.contains name = false)
    (h : ∀ a, st.H a = none → Q (.ref a) ⟨st.vars, upd st.H a (.meth (.ref f) (.ref x))⟩) : T prog w F (getAttr (.ref x) name expr) Q X st := by
  intro s R
  refine ex2and3 (inst_at R.1 hx hd) fun des n I hns _ => ?_
  have hz := hns.get name
  rw [hl] at hz
  have KS := KinS KX R.1
  have hnull : s.heap.get? s.heap.objs.size = none := Heap.get?_none_of_le (Nat.le_refl _)
  refine get_bind KS I (plainGet_of hg).1 (found_fn hh ha hgf ht hc (by rw [lookIn_dict]; exact hz)) (plainGet_of hg).2
    (wpAny_call (fn_get (s := { s with toks := s.toks + 1 }) KS (beq_iff_eq.mp hf) (handed_on rfl ⟨_, ?_, ?_, h s.heap.objs.size R.1.fresh⟩)))
  · exact R.new (s' := { s with heap := s.heap.push (methodObj (.ref f) (.ref x)), toks := s.toks + 1 }) (fun b o e => Heap.get?_push_of_some _ e) rfl rfl hnull (Heap.get?_push_size _ rfl) rfl
  · exact .new (s' := { s with heap := s.heap.push (methodObj (.ref f) (.ref x)), toks := s.toks + 1 }) _ _ (fun b o e => Heap.get?_push_of_some _ e) hnull
end
end Mine
end
section
set_option maxRecDepth 100000
set_option Elab.async false
set_option linter.unusedVariables false
namespace Mine
open PySem PySem.W PySem.Calls PyProof.Rows
section
variable {prog : Program} {w : World} {F : Fx} {st : St} {s s' s₀ : Shared} {H₀ : AHeap} {X : Value → List Value → St → Prop} {K : Frag} {Q : Value → St → Prop} {pos : Pos}
theorem T_sp0 {Q : List Value → St → Prop} (h : Q [] st) : T prog w F (spliced []) Q X st := fun s R => spliced_nil ⟨st, R, .refl _ _ _ _, h⟩
theorem T_sp1 {t : Sem Value} {rest : List (Bool × Sem Value)} {Q : List Value → St → Prop}
    (h : T prog w F t (fun v st₁ => T prog w F (spliced rest) (fun vs => Q (v :: vs)) X st₁) X st) : T prog w F (spliced ((false, t) :: rest)) Q X st := fun s R =>
  spliced_cons (h.then R (.refl _ _ _ _) fun v s₁ st₁ R₁ A₁ h₁ => h₁.then R₁ A₁ fun vs s₂ st₂ R₂ A₂ q => ⟨st₂, R₂, A₂, q⟩)
noncomputable def Spread (st : St) (v : Value) (xs : List Value) : Prop := ∃ a, v = .ref a ∧ (st.H a = some (.list xs) ∨ st.H a = some (.tup xs)) ∧ xs.length ≤ 1000000
theorem starOf {v v' : Value} {xs : List Value} {Q : List Value → Shared → Prop} {E : Value → Shared → Prop} (R : Rel prog w F st s) (h : Spread st v xs) (he : er v' = v)
    (k : ∀ vs h', vs.map er = xs → (∀ b o, s.heap.get? b = some o → h'.get? b = some o) → Q vs { s with heap := h' }) : StarO (model prog w) F.A E v' Q s := by
  obtain ⟨a, rfl, hl, hn⟩ := h
  have hv := er_ref he
  subst hv
  have both : ∀ (T : String) (o : Obj) (its : Array Value) (n : Nat), (T = "list" ∨ T = "tuple") → s.heap.get? a = some o → o.cls = .type T → o.data = .seq its n → its.toList.map er = xs → StarO (model prog w) F.A E (.ref a) Q s := by
    intro T o its n hT ho hc hd hx
    have hsz : its.size ≤ sizeLine := by
      have : its.size = xs.length := by rw [← hx, List.length_map, Array.length_toList]
      rw [sizeLine_eq]; omega
    have z : wpAny (model prog w) F.A (collect (.ref a)) Q E s := wpAny_collect_seq a hT ho hc hd (fun h' hk => k _ h' hx hk) hsz
    have hT' : s.TypeIs (.ref a) T := ⟨o, ho, hc⟩
    unfold StarO notIterableAtAll
    rcases hT with rfl | rfl
    · exact wpAny_bind (wpAny_specialOf hT' PySem.F.slot_list_iter.lookup (wpAny_pure ⟨rfl, z⟩))
    · exact wpAny_bind (wpAny_specialOf hT' PySem.F.slot_tuple_iter.lookup (wpAny_pure ⟨rfl, z⟩))
  rcases hl with hl | hl
  · refine ex1and5 (R.1.cells _ _ hl) fun o ho hc _ _ y5_ => ?_; obtain ⟨its, n, hd, hx⟩ := y5_
    exact both "list" o its n (.inl rfl) ho hc hd hx
  · refine ex1and5 (R.1.cells _ _ hl) fun o ho hc _ _ y5_ => ?_; obtain ⟨its, n, hd, hx⟩ := y5_
    exact both "tuple" o its n (.inr rfl) ho hc hd hx
noncomputable abbrev starTree (t : Sem Value) (pos : Pos) : Sem Value := do let v ← t; standAt pos; pure v
theorem T_list {elts : List Expr} {trees : List (Bool × Sem Value)} (ht : backTo pos (starEach elts F.env) = trees)
    (h : T prog w F (spliced trees) (fun vs st₁ => vs.length ≤ 1000000 ∧ ∀ a, st₁.H a = none → Q (.ref a) ⟨st₁.vars, upd st₁.H a (.list vs)⟩) X st) : T prog w F (eval (.List elts pos) F.env) Q X st := by
  subst ht
  intro s R
  refine wpAny_List_spliced (h.then R (.refl _ _ _ _) fun vs s₁ st₁ R₁ A₁ ⟨hn, q⟩ => ?_)
  have hnull : s₁.heap.get? s₁.heap.objs.size = none := Heap.get?_none_of_le (Nat.le_refl _)
  refine ⟨by
    have : (Er.e vs : List Value).length = vs.length := List.length_map _
    rw [sizeLine_eq]; omega, _, R₁.new (s' := { s₁ with heap := s₁.heap.push { cls := .type "list", data := .seq vs.toArray } }) (fun b o e => Heap.get?_push_of_some _ e) rfl rfl hnull (Heap.get?_push_size _ rfl) (o := .list (vs.map er)) ⟨rfl, rfl, rfl, vs.toArray, 0, rfl, rfl⟩,
    A₁.trans (.new (s' := { s₁ with heap := s₁.heap.push { cls := .type "list", data := .seq vs.toArray } }) _ _ (fun b o e => Heap.get?_push_of_some _ e) hnull), q s₁.heap.objs.size R₁.1.fresh⟩
theorem T_tuple {elts : List Expr} {k : Nat} {trees : List (Bool × Sem Value)} (ht : backTo pos (starEach elts F.env) = trees)
    (h : T prog w F (spliced trees) (fun vs st₁ => vs.length ≤ 1000000 ∧ ∀ a, st₁.H a = none → Q (.ref a) ⟨st₁.vars, upd st₁.H a (.tup vs)⟩) X st) : T prog w F (eval (.Tuple elts k pos) F.env) Q X st := by
  subst ht
  intro s R
  refine wpAny_Tuple_spliced (h.then R (.refl _ _ _ _) fun vs s₁ st₁ R₁ A₁ ⟨hn, q⟩ => ?_)
  have hnull : s₁.heap.get? s₁.heap.objs.size = none := Heap.get?_none_of_le (Nat.le_refl _)
  refine ⟨by
    have : (Er.e vs : List Value).length = vs.length := List.length_map _
    rw [sizeLine_eq]; omega, _, R₁.new (s' := { s₁ with heap := s₁.heap.push { cls := .type "tuple", data := .seq vs.toArray } }) (fun b o e => Heap.get?_push_of_some _ e) rfl rfl hnull (Heap.get?_push_size _ rfl) (o := .tup (vs.map er)) ⟨rfl, rfl, rfl, vs.toArray, 0, rfl, rfl⟩,
    A₁.trans (.new (s' := { s₁ with heap := s₁.heap.push { cls := .type "tuple", data := .seq vs.toArray } }) _ _ (fun b o e => Heap.get?_push_of_some _ e) hnull), q s₁.heap.objs.size R₁.1.fresh⟩
noncomputable def Keeps (prog : Program) (w : World) (F : Fx) (f : Value) (st : St) : Prop := ∀ s, HRel prog w F.toFc st.H s → ∃ k, (k = Keeper.frame ∨ k = Keeper.machine ∨ k = Keeper.boundFrame) ∧ Looks (model prog w) s.heap (keeperOf f) k
theorem Keeps.k {f : Value} (KX : K.In F.base) (hk : keepIn K f = true) : Keeps prog w F f st := fun s R => keeps_K hk _ (KX.keeps R.stays)
theorem Keeps.builtin {id : String} : Keeps prog w F (.builtin id) st := fun s R => ⟨.machine, .inr (.inl rfl), .now⟩
theorem Keeps.type {id : String} : Keeps prog w F (.type id) st := fun s R => ⟨.machine, .inr (.inl rfl), .now⟩
theorem Keeps.meth {a f : Addr} {self : Value} (KX : K.In F.base) (ha : st.H a = some (.meth (.ref f) self)) (hf : fnIn K f = true) : Keeps prog w F (.ref a) st := fun s R => by
  obtain ⟨o, ho, hr⟩ := R.cells _ _ ha
  have hr : o = methodObj (.ref f) self := hr
  subst hr
  exact keeps_M hf _ ⟨ho, KX.keeps R.stays⟩
theorem Keeps.bm {a : Addr} {cls : String} {fn self : Value} (ha : st.H a = some (.bm cls fn self)) (hc : cls = "builtin_function_or_method" ∨ cls = "method-wrapper") : Keeps prog w F (.ref a) st := fun s R => by
  refine ex1and3 (R.cells _ _ ha) fun o ho hr y3_ => ?_; obtain ⟨s', hd, _⟩ := y3_
  refine ⟨.machine, .inr (.inl rfl), ?_⟩
  obtain ⟨c, d, dt, sl⟩ := o
  have hr : c = .type cls := hr
  have hd : dt = _ := hd
  subst hr hd
  refine (Looks.ld (part := none) ho).andThen ?_
  rcases hc with rfl | rfl <;> exact .now
noncomputable abbrev KeptBy (prog : Program) (w : World) (f : Value) (hp : Heap) : Prop := ∃ k, (k = Keeper.frame ∨ k = Keeper.machine ∨ k = Keeper.boundFrame) ∧ Looks (model prog w) hp (keeperOf f) k
theorem T_call0 {f : Value} {first : List Value} (hk : Keeps prog w F f st) (h : T prog w F (call f first) Q X st) : T prog w F (callWith pos f first [] []) Q X st := by
  intro s R
  refine callWith_of (P := KeptBy prog w f) rfl (fun _ x => x) (evalArgs_nil3 ⟨hk s R.1, ?_⟩)
  rw [List.append_nil]
  exact h s R
theorem T_callP {f : Value} {first : List Value} {t : Sem Value} {r : List (Bool × Sem Value)} (hplain : r.any (·.1) = false)
    (h : T prog w F (spliced ((false, t) :: r)) (fun vs st₁ => Keeps prog w F f st₁ ∧ ∀ vs', vs'.map er = vs → T prog w F (call f (first ++ vs')) Q X st₁) X st) : T prog w F (callWith pos f first ((false, t) :: r) []) Q X st := by
  intro s R
  refine callWith_of (P := KeptBy prog w f) (by show ((false || r.any (·.1)) || false) = false; rw [hplain]; rfl) (fun _ x => x) (evalArgs_plain ?_)
  exact h.then R (.refl _ _ _ _) fun vs s₁ st₁ R₁ A₁ ⟨hk, h₁⟩ => ⟨hk s₁ R₁.1, (h₁ vs rfl).then R₁ A₁ fun v s₂ st₂ R₂ A₂ q => ⟨st₂, R₂, A₂, q⟩⟩
theorem T_callL {f : Value} {first : List Value} {t : Sem Value} {p : Pos}
    (h : T prog w F t (fun v st₁ => ∃ xs, Spread st₁ v xs ∧ Keeps prog w F f st₁ ∧ ∀ vs', vs'.map er = xs → T prog w F (call f (first ++ vs')) Q X st₁) X st) : T prog w F (callWith pos f first [(true, starTree t p)] []) Q X st := by
  intro s R
  refine call_star (P := KeptBy prog w f) rfl (fun _ x => x) (star_one ?_)
  refine h.then R (.refl _ _ _ _) fun v s₁ st₁ R₁ A₁ ⟨xs, hs, hk, h₁⟩ => starOf R₁ hs rfl fun vs h' hx hkeep => ?_
  have R2 := R₁.grow (s' := { s₁ with heap := h' }) hkeep rfl rfl
  exact ⟨hk _ R2.1, (h₁ vs hx).then R2 (A₁.trans (.grow _ _ hkeep)) fun v s₂ st₂ R₂ A₂ q => ⟨st₂, R₂, A₂, q⟩⟩
theorem T_callName {id : Str} {p : Pos} {args : List Expr} {trees : List (Bool × Sem Value)} (ht : backTo pos (starEach args F.env) = trees)
    (h : T prog w F (eval (.Name id p) F.env) (fun f st₁ => ∀ f', er f' = f → T prog w F (callWith pos f' [] trees []) Q X st₁) X st) : T prog w F (eval (.Call (.Name id p) args [] pos) F.env) Q X st := by
  subst ht
  exact fun s R => wpAny_Call_NameR (h.then R (.refl _ _ _ _) fun f s₁ st₁ R₁ A₁ h₁ => (h₁ f rfl).then R₁ A₁ fun v s₂ st₂ R₂ A₂ q => ⟨st₂, R₂, A₂, q⟩)
theorem T_callMeth {o : Expr} {name : Str} {apos : Pos} {args : List Expr} {pl : Sem Bool} {trees : List (Bool × Sem Value)} (ht : backTo pos (starEach args F.env) = trees)
    (he : eval (.Call (.Attribute o name apos) args [] pos) F.env = (do
      let ov ← eval o F.env
      standAt apos.atName
      let (f, first) ← holding [ov] (getMethod ov name pl)
      callWith pos f first (backTo pos (starEach args F.env)) []))
    (h : T prog w F (eval o F.env) (fun ov st₁ => ∀ ov', er ov' = ov → T prog w F (getMethod ov' name pl) (fun fx st₂ => ∀ f' first', er f' = fx.1 → first'.map er = fx.2 → T prog w F (callWith pos f' first' trees []) Q X st₂) X st₁) X st) :
    T prog w F (eval (.Call (.Attribute o name apos) args [] pos) F.env) Q X st := by
  subst ht
  exact fun s R => MethodCall_ (h.then R (.refl _ _ _ _) fun ov s₁ st₁ R₁ A₁ h₁ => (h₁ ov rfl).then R₁ A₁ fun fx s₂ st₂ R₂ A₂ h₂ =>
    (h₂ fx.1 fx.2 rfl rfl).then R₂ A₂ fun v s₃ st₃ R₃ A₃ q => ⟨st₃, R₃, A₃, q⟩) he
theorem T_callMethS {o : Expr} {name : Str} {apos : Pos} {args : List Expr} {trees : List (Bool × Sem Value)} (ht : backTo pos (starEach args F.env) = trees)
    (he : eval (.Call (.Attribute o name apos) args [] pos) F.env = (do
      let ov ← eval o F.env
      standAt apos.atName
      let (f, first) ← holding [ov] (do pure (← getAttr ov name true, []))
      callWith pos f first (backTo pos (starEach args F.env)) []))
    (h : T prog w F (eval o F.env) (fun ov st₁ => ∀ ov', er ov' = ov → T prog w F (getAttr ov' name true) (fun f st₂ => ∀ f', er f' = f → T prog w F (callWith pos f' [] trees []) Q X st₂) X st₁) X st) :
    T prog w F (eval (.Call (.Attribute o name apos) args [] pos) F.env) Q X st := by
  subst ht
  intro s R
  rw [he]
  refine wpAny_bind (h.then R (.refl _ _ _ _) fun ov s₁ st₁ R₁ A₁ h₁ => wpAny_bind (wpAny_standAt (wpAny_bind (wpAny_holding (wpAny_bind ((h₁ ov rfl).then R₁ A₁ fun f s₂ st₂ R₂ A₂ h₂ => wpAny_pure ?_))))))
  exact (h₂ f rfl).then R₂ A₂ fun v s₃ st₃ R₃ A₃ q => ⟨st₃, R₃, A₃, q⟩
theorem T_callAny {func : Expr} {args : List Expr} {trees : List (Bool × Sem Value)} (ht : backTo pos (starEach args F.env) = trees)
    (he : eval (.Call func args [] pos) F.env = (do callWith pos (← eval func F.env) [] (backTo pos (starEach args F.env)) []))
    (h : T prog w F (eval func F.env) (fun f st₁ => ∀ f', er f' = f → T prog w F (callWith pos f' [] trees []) Q X st₁) X st) : T prog w F (eval (.Call func args [] pos) F.env) Q X st := by
  subst ht
  intro s R
  rw [he]
  exact wpAny_bind (h.then R (.refl _ _ _ _) fun f s₁ st₁ R₁ A₁ h₁ => (h₁ f rfl).then R₁ A₁ fun v s₂ st₂ R₂ A₂ q => ⟨st₂, R₂, A₂, q⟩)
theorem T_attr {value : Expr} {attr : Str} (he : eval (.Attribute value attr pos) F.env = (do
      let o ← eval value F.env
      standAt pos.atName
      let r ← holding [o] (getAttr o attr true)
      letTemporaryGo value o r
      pure r))
    (h : T prog w F (eval value F.env) (fun ov st₁ => ∀ ov', er ov' = ov → T prog w F (getAttr ov' attr true) Q X st₁) X st) : T prog w F (eval (.Attribute value attr pos) F.env) Q X st := fun s R =>
  Attribute_any_ (h.then R (.refl _ _ _ _) fun ov s₁ st₁ R₁ A₁ h₁ => (h₁ ov rfl).then R₁ A₁ fun v s₂ st₂ R₂ A₂ q => ⟨st₂, R₂, A₂, q⟩) he
noncomputable def Sub (st : St) (v : Value) : Prop := ∃ a, v = .ref a ∧ ((∃ xs, st.H a = some (.list xs)) ∨ (∃ xs, st.H a = some (.tup xs)) ∨ ∃ es n, st.H a = some (.dict es n))
theorem subscripted_ops (slice : Expr) (o i : Value) : ∃ ops, subscripted slice false o i = operate ops (getItem o i) := by
  cases slice
  case Slice a b c p => cases c <;> exact ⟨_, rfl⟩
  all_goals exact ⟨_, rfl⟩
theorem tail_any {value slice : Expr} {o i : Value} {T id : String} {A : Around} {E : Value → Shared → Prop} {Q : Value → Shared → Prop} (hT : s.TypeIs o T)
    (hl : typeLookup (.type T) "__getitem__" = pure (some (.builtin id))) (h : wpAny (model prog w) A (getItem o i) Q E s) : wpAny (model prog w) A (subscriptTail value slice o i) Q E s := by
  obtain ⟨ops, hs⟩ := subscripted_ops slice o i
  unfold subscriptTail
  refine wpAny_bind ?_
  rw [getitemInPython_of_ne hT.not_modules]
  refine wpAny_bind (wpAny_specialOf hT hl ?_)
  have fin : wpAny (model prog w) A (subscripted slice false o i) (fun r s₃ => wpAny (model prog w) A (letTemporaryGo value o r >>= fun _ => pure r) Q E s₃) E s := by
    rw [hs]
    exact wpAny_operating (wpAny_mono h (fun r s₃ h₃ => wpAny_bind (wpAny_letTemporaryGo (wpAny_pure h₃))) fun _ _ x => x)
  first
    | exact wpAny_pure (wpAny_bind fin)
    | exact wpAny_bind (wpAny_pure (wpAny_bind fin))
    | exact wpAny_bind fin
theorem tail_sub {value slice : Expr} {o i : Value} {E : Value → Shared → Prop} {Q : Value → Shared → Prop} (R : HRel prog w F.toFc st.H s) (ho : Sub st o)
    (h : wpAny (model prog w) F.A (getItem o i) Q E s) : wpAny (model prog w) F.A (subscriptTail value slice o i) Q E s := by
  obtain ⟨a, rfl, ⟨xs, ha⟩ | ⟨xs, ha⟩ | ⟨es, n, ha⟩⟩ := ho
  · obtain ⟨ob, hob, hc, _⟩ := R.cells _ _ ha
    exact tail_any (T := "list") ⟨ob, hob, hc⟩ list_getitem_lookup h
  · obtain ⟨ob, hob, hc, _⟩ := R.cells _ _ ha
    exact tail_any (T := "tuple") ⟨ob, hob, hc⟩ PySem.F.slot_tuple_getitem.lookup h
  · obtain ⟨ob, hob, hx, _⟩ := R.cells _ _ ha
    exact tail_any (T := "dict") ⟨ob, hob, hx.1⟩ PySem.F.slot_dict_getitem.lookup h
theorem T_sub {value slice : Expr}
    (h : T prog w F (eval value F.env) (fun ov st₁ => T prog w F (eval slice F.env) (fun iv st₂ => Sub st₂ ov ∧ ∀ ov' iv', er ov' = ov → er iv' = iv → T prog w F (getItem ov' iv') Q X st₂) X st₁) X st) :
    T prog w F (eval (.Subscript value slice pos) F.env) Q X st := fun s R =>
  Subscript_ (h.then R (.refl _ _ _ _) fun ov s₁ st₁ R₁ A₁ h₁ => h₁.then R₁ A₁ fun iv s₂ st₂ R₂ A₂ ⟨hs, h₂⟩ => by
    have hov : Er.e ov = ov := by obtain ⟨a, ha, _⟩ := hs; rw [er_ref ha]; rfl
    rw [hov] at hs
    exact tail_sub R₂.1 hs ((h₂ ov iv rfl rfl).then R₂ A₂ fun v s₃ st₃ R₃ A₃ q => ⟨st₃, R₃, A₃, q⟩))
noncomputable def IsInt : Value → Option Int → Prop
  | .none, none => True
  | .int i _, some j => i = j
  | _, _ => False
theorem isPart_of {v : Value} {i : Option Int} (h : IsInt (er v) i) : IsPart v i := by
  cases v <;> cases i <;> first | exact h.elim | skip
  · exact .none
  · have h : _ = _ := h
    subst h; exact .int _ _
noncomputable def pickL (xs : List Value) (lo hi st : Option Int) : List Value := (sliceRange (sliceBounds lo hi st xs.length).1 (sliceBounds lo hi st xs.length).2.1 (sliceBounds lo hi st xs.length).2.2).filterMap (xs[·]?)
theorem pickL_er (items : Array Value) (lo hi st : Option Int) : (slicePick items lo hi st).toList.map er = pickL (items.toList.map er) lo hi st := by
  unfold slicePick pickL
  simp only [List.length_map, Array.length_toList]
  rw [List.map_filterMap]
  congr 1
  funext i
  rw [List.getElem?_map, Array.getElem?_toList]
noncomputable def Lst (H : AHeap) (a : Addr) (xs : List Value) : Prop := H a = some (.list xs) ∨ ∃ p, H a = some (.pin p) ∧ ∃ items n, p.cls = .type "list" ∧ p.data = .seq items n ∧ items.toList.map er = xs
theorem lst_at {a : Addr} {xs : List Value} (R : HRel prog w F.toFc st.H s) (h : Lst st.H a xs) : ∃ items, s.heap.IsList a items ∧ items.toList.map er = xs := by
  rcases h with h | ⟨p, h, hp⟩
  · exact list_at R h
  · exact pin_at R h hp
theorem T_slice {value : Expr} {lo hi stp : Option Expr} {p : Pos}
    (h : T prog w F (eval value F.env) (fun ov st₁ => T prog w F (evalPart lo F.env) (fun lv st₂ => T prog w F (evalPart hi F.env) (fun hv st₃ => T prog w F (evalPart stp F.env) (fun sv st₄ =>
      ∃ a xs l u k, ov = .ref a ∧ Lst st₄.H a xs ∧ xs.length ≤ 1000000 ∧ IsInt lv l ∧ IsInt hv u ∧ IsInt sv k ∧ k ≠ some 0 ∧ ∀ b, st₄.H b = none → Q (.ref b) ⟨st₄.vars, upd st₄.H b (.list (pickL xs l u k))⟩) X st₃) X st₂) X st₁) X st) :
    T prog w F (eval (.Subscript value (.Slice lo hi stp p) pos) F.env) Q X st := by
  intro s R
  refine Subscript_ (h.then R (.refl _ _ _ _) fun ov s₁ st₁ R₁ A₁ h₁ => wpAny_Slice (h₁.then R₁ A₁ fun lv s₂ st₂ R₂ A₂ h₂ => h₂.then R₂ A₂ fun hv s₃ st₃ R₃ A₃ h₃ => h₃.then R₃ A₃ fun sv s₄ st₄ R₄ A₄ h₄ => ?_))
  refine ex5and8 h₄ fun a xs l u k hov ha hn hl hu hk h0 q => ?_; try clear h₄
  have hov := er_ref hov
  subst hov
  have grow : ∀ b o, s₄.heap.get? b = some o → (s₄.heap.push { cls := .type "slice", data := .fields #[lv, hv, sv] }).get? b = some o := fun b o e => Heap.get?_push_of_some _ e
  have R₅ : Rel prog w F st₄ { s₄ with heap := s₄.heap.push { cls := .type "slice", data := .fields #[lv, hv, sv] } } := R₄.grow grow rfl rfl
  obtain ⟨items, hi, he⟩ := lst_at R₅.1 ha
  have hty : ({ s₄ with heap := s₄.heap.push { cls := .type "slice", data := .fields #[lv, hv, sv] } } : Shared).TypeIs (.ref a) "list" := by obtain ⟨o, ho, hc, _⟩ := hi; exact ⟨o, ho, hc⟩
  have hnull := Heap.get?_none_of_le (h := s₄.heap.push { cls := .type "slice", data := .fields #[lv, hv, sv] }) (Nat.le_refl _)
  have up : ∀ b o, (s₄.heap.push { cls := .type "slice", data := .fields #[lv, hv, sv] }).get? b = some o → ((s₄.heap.push { cls := .type "slice", data := .fields #[lv, hv, sv] }).push { cls := .type "list", data := .seq (slicePick items l u k) }).get? b = some o := fun b o e => Heap.get?_push_of_some _ e
  refine tail_any (T := "list") hty PySem.F.slot_list_getitem.lookup (wpAny_getItem_list_slice hi (Heap.IsSliceOf.new ..) (isPart_of hl) (isPart_of hu) (isPart_of hk) h0 ⟨⟨st₄.vars, upd st₄.H _ (.list (pickL xs l u k))⟩, R₅.new (s' := { s₄ with heap := (s₄.heap.push { cls := .type "slice", data := .fields #[lv, hv, sv] }).push { cls := .type "list", data := .seq (slicePick items l u k) } }) up rfl rfl hnull (Heap.get?_push_size _ rfl) ⟨rfl, rfl, rfl, _, _, rfl, by rw [pickL_er, he]⟩, ?_, q _ R₅.1.fresh⟩ (by
    have : items.size = xs.length := by rw [← he, List.length_map, Array.length_toList]
    rw [sizeLine_eq]; omega))
  exact (A₄.trans (.grow (s' := { s₄ with heap := s₄.heap.push { cls := .type "slice", data := .fields #[lv, hv, sv] } }) _ _ grow)).trans (.new (s' := { s₄ with heap := (s₄.heap.push { cls := .type "slice", data := .fields #[lv, hv, sv] }).push { cls := .type "list", data := .seq (slicePick items l u k) } }) _ _ up hnull)
theorem T_partN (h : Q .none st) : T prog w F (evalPart none F.env) Q X st := fun s R => evalPart_none_step ⟨st, R, .refl _ _ _ _, h⟩
theorem T_partS {e : Expr} (h : T prog w F (eval e F.env) Q X st) : T prog w F (evalPart (some e) F.env) Q X st := fun s R => evalPart_some_step (h s R)
end
end Mine
end
section
set_option maxRecDepth 100000
set_option Elab.async false
set_option linter.unusedVariables false
namespace Mine
open PySem PySem.W PySem.Calls PyProof.Rows
noncomputable abbrev vI (i : Int) : Value := .int i 0
noncomputable abbrev vS (x : Str) : Value := .str x 0
noncomputable abbrev nums (ns : List Int) : List Value := ns.map vI
section
variable {prog : Program} {w : World} {F : Fx} {st : St} {s s' s₀ : Shared} {H₀ : AHeap} {X : Value → List Value → St → Prop} {K : Frag} {Q : Value → St → Prop} {pos : Pos} {a' b' : Value} {a b : Int}
theorem T_addI (ha : er a' = vI a) (hb : er b' = vI b) (h : Q (vI (a + b)) st) : T prog w F (binaryOp .Add a' b') Q X st := fun s R => by
  obtain ⟨t, rfl⟩ := er_int ha
  obtain ⟨u, rfl⟩ := er_int hb
  exact PySem.P.add_int ⟨st, R.toks, .grow _ _ fun _ _ e => e, h⟩
theorem T_subI (ha : er a' = vI a) (hb : er b' = vI b) (h : Q (vI (a - b)) st) : T prog w F (binaryOp .Sub a' b') Q X st := fun s R => by
  obtain ⟨t, rfl⟩ := er_int ha
  obtain ⟨u, rfl⟩ := er_int hb
  exact PySem.P.sub_int ⟨st, R.toks, .grow _ _ fun _ _ e => e, h⟩
theorem T_mulI (ha : er a' = vI a) (hb : er b' = vI b) (hm : IntMulOk a b) (h : Q (vI (a * b)) st) : T prog w F (binaryOp .Mult a' b') Q X st := fun s R => by
  obtain ⟨t, rfl⟩ := er_int ha
  obtain ⟨u, rfl⟩ := er_int hb
  exact PySem.P.mul_int ⟨st, R.toks, .grow _ _ fun _ _ e => e, h⟩ hm
theorem T_divI (ha : er a' = vI a) (hb : er b' = vI b) (h0 : b ≠ 0) (hs : b.natAbs < 1073741824) (h : Q (vI (a.fdiv b)) st) : T prog w F (binaryOp .FloorDiv a' b') Q X st := fun s R => by
  obtain ⟨t, rfl⟩ := er_int ha
  obtain ⟨u, rfl⟩ := er_int hb
  exact PyProof.Rows.floordiv_int h0 ⟨st, R.toks, .grow _ _ fun _ _ e => e, h⟩ (.inl (PyProof.noPylong_small hs))
theorem T_modI (ha : er a' = vI a) (hb : er b' = vI b) (h0 : b ≠ 0) (h : Q (vI (a.fmod b)) st) : T prog w F (binaryOp .Mod a' b') Q X st := fun s R => by
  obtain ⟨t, rfl⟩ := er_int ha
  obtain ⟨u, rfl⟩ := er_int hb
  exact PyProof.Rows.mod_int' h0 ⟨st, R.toks, .grow _ _ fun _ _ e => e, h⟩
theorem T_powI (ha : er a' = vI a) (hb : er b' = vI b) (h0 : 0 ≤ b) (hsz : (Builtin.Int.intBits a : Int) * b ≤ 2 ^ 27) (h : Q (vI (a ^ b.toNat)) st) : T prog w F (binaryOp .Pow a' b') Q X st := fun s R => by
  obtain ⟨t, rfl⟩ := er_int ha
  obtain ⟨u, rfl⟩ := er_int hb
  exact PyProof.Rows.pow_int h0 hsz ⟨st, R.toks, .grow _ _ fun _ _ e => e, h⟩
theorem T_negI (ha : er a' = vI a) (h : Q (vI (-a)) st) : T prog w F (unaryOp .USub a') Q X st := fun s R => by
  obtain ⟨t, rfl⟩ := er_int ha
  exact PySem.P.neg_int ⟨st, R.toks, .grow _ _ fun _ _ e => e, h⟩
theorem T_iaddI (ha : er a' = vI a) (hb : er b' = vI b) (h : Q (vI (a + b)) st) : T prog w F (inplaceOp .Add a' b') Q X st := fun s R => by
  obtain ⟨t, rfl⟩ := er_int ha
  obtain ⟨u, rfl⟩ := er_int hb
  exact PySem.P.iadd_int ⟨st, R.toks, .grow _ _ fun _ _ e => e, h⟩
theorem T_isubI (ha : er a' = vI a) (hb : er b' = vI b) (h : Q (vI (a - b)) st) : T prog w F (inplaceOp .Sub a' b') Q X st := fun s R => by
  obtain ⟨t, rfl⟩ := er_int ha
  obtain ⟨u, rfl⟩ := er_int hb
  exact PySem.P.isub_int ⟨st, R.toks, .grow _ _ fun _ _ e => e, h⟩
theorem T_eqI (ha : er a' = vI a) (hb : er b' = vI b) (h : Q (.bool (a == b)) st) : T prog w F (compareOp .Eq a' b') Q X st := fun s R => by
  obtain ⟨t, rfl⟩ := er_int ha
  obtain ⟨u, rfl⟩ := er_int hb
  exact PySem.P.eq_int ⟨st, R, .refl _ _ _ _, h⟩
theorem T_neI (ha : er a' = vI a) (hb : er b' = vI b) (h : Q (.bool (a != b)) st) : T prog w F (compareOp .NotEq a' b') Q X st := fun s R => by
  obtain ⟨t, rfl⟩ := er_int ha
  obtain ⟨u, rfl⟩ := er_int hb
  exact PySem.P.ne_int ⟨st, R, .refl _ _ _ _, h⟩
theorem T_isNone {v : Value} (ha : er a' = v) (hb : er b' = .none) (h : Q (.bool (v == .none)) st) : T prog w F (compareOp .Is a' b') Q X st := fun s R => by
  rw [er_none hb]
  refine is_none ⟨st, R, .refl _ _ _ _, ?_⟩
  subst ha
  have : (a' == Value.none) = (er a' == Value.none) := by cases a' <;> rfl
  show Q (.bool (a' == .none)) st
  rw [this]; exact h
theorem T_isntNone {v : Value} (ha : er a' = v) (hb : er b' = .none) (h : Q (.bool (!(v == .none))) st) : T prog w F (compareOp .IsNot a' b') Q X st := fun s R => by
  rw [er_none hb]
  refine isNot_none ⟨st, R, .refl _ _ _ _, ?_⟩
  subst ha
  have : (a' == Value.none) = (er a' == Value.none) := by cases a' <;> rfl
  show Q (.bool (!(a' == .none))) st
  rw [this]; exact h
theorem T_truthB {c : Bool} {Q : Bool → St → Prop} (ha : er a' = .bool c) (h : Q c st) : T prog w F (truthy a') Q X st := fun s R => by
  rw [er_bool ha]
  exact wpAny_truthy_bool ⟨st, R, .refl _ _ _ _, h⟩
theorem T_truthL {l : Addr} {xs : List Value} {Q : Bool → St → Prop} (ha : er a' = .ref l) (hl : st.H l = some (.list xs)) (hn : xs.length ≤ 1000000) (h : Q (!xs.isEmpty) st) : T prog w F (truthy a') Q X st := fun s R => by
  rw [er_ref ha]
  obtain ⟨items, hi, he⟩ := list_at R.1 hl
  have hs : items.size = xs.length := by rw [← he, List.length_map, Array.length_toList]
  refine wpAny_truthy_list hi (by omega) ⟨st, R.toks, .grow _ _ fun _ _ e => e, ?_⟩
  show Q (!items.isEmpty) st
  have : items.isEmpty = xs.isEmpty := by
    rw [← he]
    cases q : items.toList with
    | nil => rw [Array.isEmpty_iff.mpr (Array.toList_eq_nil_iff.mp q)]; rfl
    | cons x r =>
      rw [Array.isEmpty_eq_false_iff.mpr (fun z => by rw [z] at q; cases q)]; rfl
  rw [this]; exact h
theorem T_truthN {Q : Bool → St → Prop} (ha : er a' = .none) (h : Q false st) : T prog w F (truthy a') Q X st := fun s R => by
  rw [er_none ha]
  exact truthy_none ⟨st, R, .refl _ _ _ _, h⟩
theorem T_itemLast {l : Addr} {xs : List Value} {x : Value} (ha : er a' = .ref l) (hb : er b' = vI (-1)) (hl : st.H l = some (.list (xs ++ [x]))) (hn : xs.length < 1000000) (h : Q x st) : T prog w F (getItem a' b') Q X st := fun s R => by
  rw [er_ref ha]
  obtain ⟨t, rfl⟩ := er_int hb
  obtain ⟨items, hi, he⟩ := list_at R.1 hl
  have hs : items.size = xs.length + 1 := by
    have : (items.toList.map er).length = (xs ++ [x]).length := by rw [he]
    simpa using this
  have hx : (items.toList.map er)[xs.length]? = some x := by rw [he]; simp
  rw [List.getElem?_map] at hx
  obtain ⟨x', hx', rfl⟩ := Option.map_eq_some_iff.mp hx
  exact wpAny_getItem_list_neg hi (by omega) (by omega) (by omega) (by
    have : ((-1 : Int) + items.size).toNat = xs.length := by omega
    rw [this]; simpa using hx') ⟨st, R, .refl _ _ _ _, h⟩
end
end Mine
end
section
set_option maxRecDepth 100000
set_option Elab.async false
set_option linter.unusedVariables false
namespace Mine
open PySem PySem.W PySem.Calls PyProof.Rows PySem.SeqAt
mutual
noncomputable def Rd (H : AHeap) : PyData → Value → Prop
  | .none, v => v = .none
  | .bool b, v => v = .bool b
  | .int i, v => v = vI i
  | .str x, v => v = vS x
  | .list ds, v => ∃ a xs, v = .ref a ∧ H a = some (.list xs) ∧ RdAll H ds xs
  | .tuple ds, v => ∃ a xs, v = .ref a ∧ H a = some (.tup xs) ∧ RdAll H ds xs
  | .dict _, _ => False
noncomputable def RdAll (H : AHeap) : List PyData → List Value → Prop
  | [], [] => True
  | d :: ds, v :: vs => Rd H d v ∧ RdAll H ds vs
  | _, _ => False
end
section
variable {prog : Program} {w : World} {F : Fx} {st : St} {s s' s₀ : Shared} {H₀ H : AHeap} {X : Value → List Value → St → Prop} {K : Frag} {Q : Value → St → Prop} {pos : Pos} {a' b' : Value}
mutual
theorem Rd.reads (R : HRel prog w F.toFc H s) : ∀ {d : PyData} {v : Value}, Rd H d (er v) → ∃ as, Reads s.heap v d as
  | .none, v, h => by rw [er_none h]; exact ⟨_, .none⟩
  | .bool b, v, h => by rw [er_bool h]; exact ⟨_, .bool b⟩
  | .int i, v, h => by obtain ⟨t, rfl⟩ := er_int h; exact ⟨_, .int i t⟩
  | .str x, v, h => by obtain ⟨t, rfl⟩ := er_str h; exact ⟨_, .str x t⟩
  | .list ds, v, h => by
    refine ex2and3 h fun a xs hv ha hd => ?_; try clear h
    rw [er_ref hv]
    refine ex1and5 (R.cells _ _ ha) fun o ho hc _ _ y5_ => ?_; obtain ⟨items, n, hdt, he⟩ := y5_
    obtain ⟨as, ha⟩ := RdAll.reads R (ds := ds) (vs := items.toList) (he ▸ hd)
    exact ⟨_, .list ho hc hdt ha⟩
  | .tuple ds, v, h => by
    refine ex2and3 h fun a xs hv ha hd => ?_; try clear h
    rw [er_ref hv]
    refine ex1and5 (R.cells _ _ ha) fun o ho hc _ _ y5_ => ?_; obtain ⟨items, n, hdt, he⟩ := y5_
    obtain ⟨as, ha⟩ := RdAll.reads R (ds := ds) (vs := items.toList) (he ▸ hd)
    exact ⟨_, .tuple ho hc hdt ha⟩
  | .dict _, v, h => h.elim
theorem RdAll.reads (R : HRel prog w F.toFc H s) : ∀ {ds : List PyData} {vs : List Value}, RdAll H ds (vs.map er) → ∃ as, ReadsAll s.heap vs ds as
  | [], [], _ => ⟨_, .nil⟩
  | d :: ds, v :: vs, h => by
    have h : Rd H d (er v) ∧ RdAll H ds (vs.map er) := h
    obtain ⟨as, ha⟩ := Rd.reads R h.1
    obtain ⟨bs, hb⟩ := RdAll.reads R h.2
    exact ⟨_, .cons ha hb⟩
  | [], _ :: _, h => h.elim
  | _ :: _, [], h => h.elim
end
theorem RdAll.nums (H : AHeap) : ∀ ns : List Int, RdAll H (ns.map .int) (nums ns)
  | [] => trivial
  | _ :: r => ⟨rfl, RdAll.nums H r⟩
theorem eqvAll_nums : ∀ ns ms : List Int, PyData.eqvAll (ns.map .int) (ms.map .int) = (ns == ms)
  | [], [] => rfl
  | [], _ :: _ => rfl
  | _ :: _, [] => rfl
  | a :: r, b :: q => by
    show (PyData.eqv (.int a) (.int b) && PyData.eqvAll (r.map .int) (q.map .int)) = _
    rw [eqvAll_nums r q]; rfl
theorem lay_nums : ∀ ns : List Int, PyData.canLayAll0 (ns.map .int) = true
  | [] => rfl
  | _ :: r => lay_nums r
theorem depth_nums : ∀ ns : List Int, PyData.depthAll (ns.map .int) = 0
  | [] => rfl
  | _ :: r => by show max 0 (PyData.depthAll (r.map .int)) = 0; rw [depth_nums r]; rfl
theorem T_eqD {da db : PyData} (ha : Rd st.H da (er a')) (hb : Rd st.H db (er b')) (ca : da.canLay0 = true) (cb : db.canLay0 = true) (hu : F.A.units + min da.depth db.depth < cLine) (h : Q (.bool (PyData.eqv da db)) st) : T prog w F (compareOp .Eq a' b') Q X st := fun s R => by
  obtain ⟨as, ra⟩ := Rd.reads R.1 ha
  obtain ⟨bs, rb⟩ := Rd.reads R.1 hb
  exact compareEq_reads ra rb ca cb hu ⟨st, R, .refl _ _ _ _, h⟩
theorem T_neD {da db : PyData} (ha : Rd st.H da (er a')) (hb : Rd st.H db (er b')) (ca : da.canLay0 = true) (cb : db.canLay0 = true) (hu : F.A.units + min da.depth db.depth < cLine) (h : Q (.bool (!PyData.eqv da db)) st) : T prog w F (compareOp .NotEq a' b') Q X st := fun s R => by
  obtain ⟨as, ra⟩ := Rd.reads R.1 ha
  obtain ⟨bs, rb⟩ := Rd.reads R.1 hb
  exact compareNe_reads ra rb ca cb hu ⟨st, R, .refl _ _ _ _, h⟩
theorem T_inD {d : PyData} {ds : List PyData} (ha : Rd st.H d (er a')) (hb : Rd st.H (.list ds) (er b')) (ca : d.canLay0 = true) (cb : PyData.canLayAll0 ds = true) (hu : F.A.units + 1 + min (PyData.depthAll ds) d.depth < cLine) (h : Q (.bool (ds.any fun y => PyData.eqv y d)) st) : T prog w F (compareOp .In a' b') Q X st := fun s R => by
  obtain ⟨as, ra⟩ := Rd.reads R.1 ha
  obtain ⟨bs, rb⟩ := Rd.reads R.1 hb
  exact in_list_reads rb ra cb ca hu ⟨st, R, .refl _ _ _ _, h⟩
theorem T_notInD {d : PyData} {ds : List PyData} (ha : Rd st.H d (er a')) (hb : Rd st.H (.list ds) (er b')) (ca : d.canLay0 = true) (cb : PyData.canLayAll0 ds = true) (hu : F.A.units + 1 + min (PyData.depthAll ds) d.depth < cLine) (h : Q (.bool (!ds.any fun y => PyData.eqv y d)) st) : T prog w F (compareOp .NotIn a' b') Q X st := fun s R => by
  obtain ⟨as, ra⟩ := Rd.reads R.1 ha
  obtain ⟨bs, rb⟩ := Rd.reads R.1 hb
  exact notIn_list_reads rb ra cb ca hu ⟨st, R, .refl _ _ _ _, h⟩
theorem any_nums (i : Int) (ns : List Int) : ((ns.map PyData.int).any fun y => PyData.eqv y (.int i)) = decide (i ∈ ns) := by
  rw [List.any_map]
  induction ns with
  | nil => rfl
  | cons a r ih =>
    rw [List.any_cons, ih]
    show ((a == i) || _) = _
    by_cases e : a = i
    · subst e; simp
    · have : (a == i) = false := by simpa using e
      rw [this]; simp [Ne.symm e]
theorem T_inI {i : Int} {ns : List Int} {l : Addr} (ha : er a' = vI i) (hb : er b' = .ref l) (hl : st.H l = some (.list (nums ns))) (hu : F.A.units < 9000) (h : Q (.bool (decide (i ∈ ns))) st) : T prog w F (compareOp .In a' b') Q X st :=
  T_inD (d := .int i) (ds := ns.map .int) ha ⟨l, _, hb, hl, RdAll.nums _ ns⟩ rfl (lay_nums ns) (by rw [depth_nums]; show _ + 1 + min 0 0 < 9900; omega) (by rw [any_nums]; exact h)
theorem T_notInI {i : Int} {ns : List Int} {l : Addr} (ha : er a' = vI i) (hb : er b' = .ref l) (hl : st.H l = some (.list (nums ns))) (hu : F.A.units < 9000) (h : Q (.bool (!decide (i ∈ ns))) st) : T prog w F (compareOp .NotIn a' b') Q X st :=
  T_notInD (d := .int i) (ds := ns.map .int) ha ⟨l, _, hb, hl, RdAll.nums _ ns⟩ rfl (lay_nums ns) (by rw [depth_nums]; show _ + 1 + min 0 0 < 9900; omega) (by rw [any_nums]; exact h)
theorem plain_at {l : Addr} {xs : List Value} (R : HRel prog w F.toFc H s) (hl : H l = some (.list xs)) : ∃ items n, s.heap.get? l = some { cls := .type "list", dict := none, data := .seq items n, slots := #[] } ∧ items.toList.map er = xs := by
  refine ex1and5 (R.cells _ _ hl) fun o ho hc hd hs y5_ => ?_; obtain ⟨items, n, hdt, he⟩ := y5_
  obtain ⟨c, d, dt, sl⟩ := o
  cases hc; cases hd; cases hs; cases hdt
  exact exi2 items n ⟨ho, he⟩
theorem list_put {l : Addr} {xs ys : List Value} {h' : Heap} {tk : Nat} (R : Rel prog w F st s) (hl : st.H l = some (.list xs)) {items : Array Value} {n : Nat} (e : h'.get? l = some { cls := .type "list", dict := none, data := .seq items n, slots := #[] }) (he : items.toList.map er = ys) (hs : Heap.SameBut l s.heap h') :
    Rel prog w F ⟨st.vars, upd st.H l (.list ys)⟩ { s with heap := h', toks := tk } ∧ After (frAddrs F.stk) F.own st.H s (upd st.H l (.list ys)) { s with heap := h', toks := tk } := by
  have nl : st.H l ≠ none := by rw [hl]; exact nofun
  have hk : ∀ b ob, b ≠ l → s.heap.get? b = some ob → h'.get? b = some ob := fun b ob hb e => (hs.2 b hb).trans e
  exact ⟨R.set (s' := { s with heap := h', toks := tk }) nl hk rfl rfl e ⟨rfl, rfl, rfl, items, n, rfl, he⟩, After.set (s' := { s with heap := h', toks := tk }) _ _ nl hk e⟩
theorem len_of {items : Array Value} {xs : List Value} (he : items.toList.map er = xs) : items.size = xs.length := by rw [← he, List.length_map, Array.length_toList]
theorem T_append {l : Addr} {xs : List Value} {x x' : Value} (hl : st.H l = some (.list xs)) (hx : er x' = x) (hn : xs.length ≤ 1000000) (h : Q .none ⟨st.vars, upd st.H l (.list (xs ++ [x]))⟩) : T prog w F (call (.builtin "list.append") [.ref l, x']) Q X st := fun s R => by
  obtain ⟨items, n, ho, he⟩ := plain_at R.1 hl
  refine wpAny_list_append_plain ⟨n, ho⟩ (fun h' ⟨n', hl'⟩ hs => ?_) (by have := len_of he; rw [sizeLine_eq]; omega)
  obtain ⟨R', A'⟩ := list_put (tk := s.toks) R hl hl' (ys := xs ++ [x]) (by rw [Array.toList_push, List.map_append, he, ← hx]; rfl) hs
  exact ⟨_, R', A', h⟩
theorem update_at {h : Heap} {l : Addr} {items : Array Value} {n : Nat} (ho : h.get? l = some { cls := .type "list", dict := none, data := .seq items n, slots := #[] }) (f : Array Value → Array Value) :
    ∃ n', (h.update l (Obj.mapSeq f)).get? l = some { cls := .type "list", dict := none, data := .seq (f items) n', slots := #[] } := ⟨_, Heap.get?_update_self _ ho rfl⟩
theorem T_clear {l : Addr} {xs : List Value} (hl : st.H l = some (.list xs)) (hn : xs.length ≤ 1000000) (h : Q .none ⟨st.vars, upd st.H l (.list [])⟩) : T prog w F (call (.builtin "list.clear") [.ref l]) Q X st := fun s R => by
  obtain ⟨items, n, ho, he⟩ := plain_at R.1 hl
  refine call_meets PySem.F.slot_list_clear ⟨_, ho, rfl⟩ PySem.F.entry_list_clear (PySem.F.args_list_clear_1 _) (AutoSeq1.list_clear_list_0 l items n (by have := len_of he; rw [sizeLine_eq]; omega)) ⟨ho, ?_⟩
  obtain ⟨n', e⟩ := update_at ho fun _ => #[]
  obtain ⟨R', A'⟩ := list_put (tk := s.toks) R hl e (ys := []) rfl (Heap.SameBut.update ..)
  exact ⟨_, R', A', h⟩
theorem T_extend {l b : Addr} {xs ys : List Value} (hl : st.H l = some (.list xs)) (hb : st.H b = some (.list ys) ∨ st.H b = some (.tup ys)) (hne : l ≠ b) (hn : xs.length + ys.length ≤ 1000000) (h : Q .none ⟨st.vars, upd st.H l (.list (xs ++ ys))⟩) : T prog w F (call (.builtin "list.extend") [.ref l, .ref b]) Q X st := fun s R => by
  obtain ⟨items, n, ho, he⟩ := plain_at R.1 hl
  have hs1 := len_of he
  have door : ∀ it2 : Array Value, it2.size = ys.length → ¬(!items.isEmpty && Builtin.List.listTooLong (items.size + it2.size)) = true := fun it2 e => extend_door (by rw [sizeLine_eq]; omega)
  have fin : ∀ it2 : Array Value, it2.toList.map er = ys → ∃ st', Rel prog w F st' { s with heap := s.heap.update l (Obj.mapSeq fun x => x ++ it2), toks := s.toks } ∧ After (frAddrs F.stk) F.own st.H s st'.H { s with heap := s.heap.update l (Obj.mapSeq fun x => x ++ it2), toks := s.toks } ∧ Q .none st' := fun it2 he2 => by
    obtain ⟨n', e⟩ := update_at ho fun x => x ++ it2
    obtain ⟨R', A'⟩ := list_put (tk := s.toks) R hl e (ys := xs ++ ys) (by rw [Array.toList_append, List.map_append, he, he2]) (Heap.SameBut.update ..)
    exact ⟨_, R', A', h⟩
  rcases hb with hb | hb
  · obtain ⟨it2, n2, ho2, he2⟩ := plain_at R.1 hb
    have hs2 := len_of he2
    exact call_meets PySem.F.slot_list_extend ⟨_, ho, rfl⟩ PySem.F.entry_list_extend (PySem.F.args_list_extend_2 _ _) (AutoSeq1.list_extend_list_list_0 l items n b it2 n2 (door it2 hs2) (by rw [sizeLine_eq]; omega) (by rw [sizeLine_eq]; omega)) ⟨ho, ho2, fin it2 he2⟩
  · refine ex1and5 (R.1.cells _ _ hb) fun o ho2 hc hd hsl y5_ => ?_; obtain ⟨it2, n2, hdt, he2⟩ := y5_
    obtain ⟨c, d, dt, sl⟩ := o
    cases hc; cases hd; cases hsl; cases hdt
    have hs2 := len_of he2
    exact call_meets PySem.F.slot_list_extend ⟨_, ho, rfl⟩ PySem.F.entry_list_extend (PySem.F.args_list_extend_2 _ _) (AutoSeq1.list_extend_list_tuple_0 l items n b it2 n2 (door it2 hs2) (by rw [sizeLine_eq]; omega) (by rw [sizeLine_eq]; omega)) ⟨ho, ho2, fin it2 he2⟩
theorem T_pop {l : Addr} {xs : List Value} {x : Value} (hl : st.H l = some (.list (xs ++ [x]))) (hn : xs.length ≤ 100000) (h : Q x ⟨st.vars, upd st.H l (.list xs)⟩) : T prog w F (callWith pos (.builtin "list.pop") [.ref l] [] []) Q X st := fun s R => by
  obtain ⟨items, n, ho, he⟩ := plain_at R.1 hl
  have hs1 : items.size = xs.length + 1 := by rw [len_of he]; simp
  have hx : (items.toList.map er)[xs.length]? = some x := by rw [he]; simp
  rw [List.getElem?_map] at hx
  obtain ⟨x', hx', rfl⟩ := Option.map_eq_some_iff.mp hx
  refine P.pop_list (y := x') ho (by rw [hs1]; simpa using hx') ?_ (by rw [sizeLine_eq]; omega)
  obtain ⟨n', e⟩ := update_at ho fun xs => xs.eraseIdxIfInBounds (items.size - 1)
  obtain ⟨R', A'⟩ := list_put (tk := s.toks) R hl e (ys := xs) (by
    have : items.size - 1 = xs.length := by omega
    rw [this]
    have e2 : (items.eraseIdxIfInBounds xs.length).toList = items.toList.eraseIdx xs.length := by simp
    rw [e2, List.eraseIdx_eq_take_drop_succ, List.map_append, List.map_take, List.map_drop, he]
    simp) (Heap.SameBut.update ..)
  exact ⟨_, R', A', h⟩
theorem T_addL {l b : Addr} {xs ys : List Value} (ha : er a' = .ref l) (hb' : er b' = .ref b) (hl : st.H l = some (.list xs)) (hb : st.H b = some (.list ys)) (hn : xs.length + ys.length ≤ 1000000) (h : ∀ c, st.H c = none → Q (.ref c) ⟨st.vars, upd st.H c (.list (xs ++ ys))⟩) : T prog w F (binaryOp .Add a' b') Q X st := fun s R => by
  rw [er_ref ha, er_ref hb']
  obtain ⟨items, n, ho, he⟩ := plain_at R.1 hl
  obtain ⟨it2, n2, ho2, he2⟩ := plain_at R.1 hb
  have hs1 := len_of he
  have hs2 := len_of he2
  refine PySem.concat_meets ⟨_, ho, rfl⟩ ⟨_, ho2, rfl⟩ noFill_list_add seq_list_add PySem.F.slot_list_add PySem.F.entry_list_add (PySem.F.args_list_add_2 _ _) (AutoSeq1.list___add___list_list_0 l items n b it2 n2 (by rw [sizeLine_eq]; omega)) ⟨ho, ho2, ?_⟩
  have hnull : s.heap.get? s.heap.objs.size = none := Heap.get?_none_of_le (Nat.le_refl _)
  refine ⟨_, R.new (s' := { s with heap := s.heap.push { cls := .type "list", data := .seq (items ++ it2) }, toks := s.toks }) (fun b o e => Heap.get?_push_of_some _ e) rfl rfl hnull (Heap.get?_push_size _ rfl) (o := .list (xs ++ ys)) ⟨rfl, rfl, rfl, items ++ it2, 0, rfl, by rw [Array.toList_append, List.map_append, he, he2]⟩, ?_, h s.heap.objs.size R.1.fresh⟩
  exact .new (s' := { s with heap := s.heap.push { cls := .type "list", data := .seq (items ++ it2) }, toks := s.toks }) _ _ (fun b o e => Heap.get?_push_of_some _ e) hnull
theorem seq_list_iadd : seqSlot? (.type "list") (dunderI "add") = pure (some (.builtin "list.__iadd__")) := PySem.seqSlot_of PySem.F.slot_list_iadd.lookup (by decide +kernel)
theorem noFill_list_iadd : fillsInplaceSlot (.type "list") "add" true = pure false := by
  unfold fillsInplaceSlot
  show (typeLookup (.type "list") (dunderI "add") >>= fun fi => pure (fi.isSome && !isSeqSlot fi)) = pure false
  rw [PySem.F.slot_list_iadd.lookup, pure_bind]
  have : isSeqSlot (some (.builtin "list.__iadd__")) = true := by decide +kernel
  rw [this]; rfl
theorem T_iaddL {l b : Addr} {xs ys : List Value} (ha : er a' = .ref l) (hb' : er b' = .ref b) (hl : st.H l = some (.list xs)) (hb : st.H b = some (.list ys)) (hne : l ≠ b) (hn : xs.length + ys.length ≤ 1000000) (h : Q (.ref l) ⟨st.vars, upd st.H l (.list (xs ++ ys))⟩) : T prog w F (inplaceOp .Add a' b') Q X st := fun s R => by
  rw [er_ref ha, er_ref hb']
  obtain ⟨items, n, ho, he⟩ := plain_at R.1 hl
  obtain ⟨it2, n2, ho2, he2⟩ := plain_at R.1 hb
  have hs1 := len_of he
  have hs2 := len_of he2
  have Ta : s.TypeIs (.ref l) "list" := ⟨_, ho, rfl⟩
  have Tb : s.TypeIs (.ref b) "list" := ⟨_, ho2, rfl⟩
  unfold inplaceOp
  refine wpAny_holding ?_
  refine wpAny_bind (wpAny_typeOf Ta (wpAny_bind (wpAny_of_eq noFill_list_iadd ?_)))
  show wpAny _ _ (if false = true then _ else _) _ _ s
  rw [if_neg Bool.false_ne_true]
  refine wpAny_bind (PySem.wpAny_binaryOp1_none (nm := "add") Ta Tb noFill_list_add ?_)
  refine wpAny_bind (wpAny_of_eq seq_list_iadd ?_)
  refine wpAny_bind (wpAny_rule ?_)
  refine call_meets PySem.F.slot_list_iadd Ta PySem.F.entry_list_iadd (PySem.F.args_list_iadd_2 _ _) (AutoSeq1.list___iadd___list_list_0 l items n b it2 n2 (extend_door (by rw [sizeLine_eq]; omega)) (by rw [sizeLine_eq]; omega) (by rw [sizeLine_eq]; omega)) ⟨ho, ho2, ?_⟩
  obtain ⟨n', e⟩ := update_at ho fun x => x ++ it2
  obtain ⟨R', A'⟩ := list_put (tk := s.toks) R hl e (ys := xs ++ ys) (by rw [Array.toList_append, List.map_append, he, he2]) (Heap.SameBut.update ..)
  exact ⟨_, R', A', h⟩
end
end Mine
end
section
set_option maxRecDepth 100000
set_option Elab.async false
set_option linter.unusedVariables false
namespace Mine
open PySem PySem.W PySem.Calls PyProof.Rows PySem.SeqAt
structure KeyBy (prog : Program) (w : World) (κ : Type) [DecidableEq κ] where
  knd : KeyKind prog w κ
  val : κ → Value
  is : ∀ k v, er v = val k → knd.is k v = true
  scan : ∀ k v, er v = val k → v.scannable = true
  rep : ∀ des kvs, KeysOf knd des → Pairs knd des.toList kvs → (kvs.map (·.1)).Nodup → KDict prog w des (kvs.map fun p => (val p.1, er p.2))
  un : ∀ des kvs, KDict prog w des (kvs.map fun p => (val p.1, p.2)) → ∃ kvs', KeysOf knd des ∧ Pairs knd des.toList kvs' ∧ (kvs'.map (·.1)).Nodup ∧ kvs'.map (fun p => (p.1, er p.2)) = kvs
  aset : List κ → AO
  srep : ∀ ks o S, o.SetObjOf knd S ks.length → (∀ k, S k = decide (k ∈ ks)) → RepO prog w (aset ks) o
  sun : ∀ ks o, RepO prog w (aset ks) o → ∃ S, o.SetObjOf knd S ks.length ∧ ∀ k, S k = decide (k ∈ ks)
  hand : ∀ k, handedIn (val k) = true
  same : ∀ k, er (val k) = val k
theorem noKeys {prog : Program} {w : World} {κ κ' : Type} [DecidableEq κ] [DecidableEq κ'] {knd : KeyKind prog w κ} {knd' : KeyKind prog w κ'} {des : Array DictEntry} (hp : Pairs knd des.toList []) : KeysOf knd' des ∧ Pairs knd' des.toList [] := by
  have : des.toList = [] := by generalize des.toList = l at hp; cases hp; rfl
  rw [this]
  have e : des = #[] := Array.toList_eq_nil_iff.mp this
  subst e
  exact ⟨fun e he => by simp at he, .nil⟩
noncomputable def KI (prog : Program) (w : World) : KeyBy prog w Int where
  knd := intKind prog w
  val := vI
  is k v h := by obtain ⟨t, rfl⟩ := er_int h; exact intKind_is _ _ _ _
  scan k v h := by obtain ⟨t, rfl⟩ := er_int h; rfl
  rep des kvs a b c := .inl ⟨kvs, a, b, c, rfl⟩
  un des kvs h := by
    rcases h with ⟨l, a, b, c, e⟩ | ⟨l, a, b, c, e⟩
    · refine ⟨l, a, b, c, ?_⟩
      clear a b c
      induction kvs generalizing l with
      | nil => cases l with | nil => rfl | cons _ _ => cases e
      | cons p r ih =>
        cases l with
        | nil => cases e
        | cons q l =>
          rw [List.map_cons, List.map_cons] at e
          injection e with e1 e2
          injection e1 with e3 e4
          injection e3 with e5
          rw [List.map_cons, ih l e2, ← e4, ← e5]
    · cases kvs with
      | nil =>
        cases l with
        | nil => obtain ⟨x, y⟩ := noKeys (knd' := intKind prog w) b; exact ⟨[], x, y, List.nodup_nil, rfl⟩
        | cons _ _ => cases e
      | cons p r =>
        cases l with
        | nil => cases e
        | cons q l =>
          rw [List.map_cons, List.map_cons] at e
          injection e with e1 e2
          injection e1 with e3 e4
          cases e3
  aset := .iset
  srep ks o S h1 h2 := ⟨S, h1, h2⟩
  sun ks o h := h
  hand _ := rfl
  same _ := rfl
section
variable {prog : Program} {w : World} {F : Fx} {st : St} {s s' s₀ : Shared} {H₀ H : AHeap} {X : Value → List Value → St → Prop} {K : Frag} {Q : Value → St → Prop} {pos : Pos} {a' b' : Value}
variable {κ : Type} [DecidableEq κ] (B : KeyBy prog w κ) {d : Addr} {n : Nat} {kvs : List (κ × Value)} {k : κ} {key : Value}
noncomputable abbrev kns {prog : Program} {w : World} (B : KeyBy prog w Int) (l : List Int) : List Value := l.map B.val
noncomputable abbrev dE (B : KeyBy prog w κ) (kvs : List (κ × Value)) : List (Value × Value) := kvs.map fun p => (B.val p.1, p.2)
theorem dict_by (R : HRel prog w F.toFc H s) (hd : H d = some (.dict (dE B kvs) n)) : ∃ kvs', s.heap.DictAt B.knd d kvs' n ∧ kvs'.map (fun p => (p.1, er p.2)) = kvs := by
  refine ex1and3 (R.cells _ _ hd) fun o ho hx y3_ => ?_; obtain ⟨des, hdt, hk⟩ := y3_
  refine ex1and4 (B.un des kvs hk) fun kvs' a b c e => ?_
  exact ⟨kvs', ⟨o, des, ho, hx, hdt, a, b, c⟩, e⟩
theorem valueAt_er (kvs' : List (κ × Value)) (k : κ) : (valueAt kvs' k).map er = valueAt (kvs'.map fun p => (p.1, er p.2)) k := by
  unfold valueAt
  induction kvs' with
  | nil => rfl
  | cons p r ih =>
    rw [List.map_cons, List.find?_cons, List.find?_cons]
    by_cases e : p.1 = k
    · simp [e]
    · simp only [e, decide_false]; exact ih
theorem stored_er (kvs' : List (κ × Value)) (k : κ) (v : Value) : (stored kvs' k v).map (fun p => (p.1, er p.2)) = stored (kvs'.map fun p => (p.1, er p.2)) k (er v) := by
  unfold stored
  rw [List.any_map]
  have : ((fun kv : κ × Value => decide (kv.1 = k)) ∘ fun p : κ × Value => (p.1, er p.2)) = fun kv => decide (kv.1 = k) := rfl
  rw [this]
  split
  · rw [List.map_map, List.map_map]
    refine List.map_congr_left fun p _ => ?_
    show (if p.1 = k then (p.1, v) else p).map id er = if p.1 = k then (p.1, er v) else (p.1, er p.2)
    split <;> rfl
  · rw [List.map_append]; rfl
theorem without_er (kvs' : List (κ × Value)) (k : κ) : (without kvs' k).map (fun p => (p.1, er p.2)) = without (kvs'.map fun p => (p.1, er p.2)) k := by
  unfold without
  rw [List.filter_map]; rfl
theorem dict_put {h' : Heap} {tk : Nat} {es : List (Value × Value)} {kvs' : List (κ × Value)} (R : Rel prog w F st s) (hd : st.H d = some (.dict es n)) (hm : h'.DictOf B.knd d kvs') (hs : Heap.SameBut d s.heap h') :
    ∃ n', Rel prog w F ⟨st.vars, upd st.H d (.dict (dE B (kvs'.map fun p => (p.1, er p.2))) n')⟩ { s with heap := h', toks := tk } ∧ After (frAddrs F.stk) F.own st.H s (upd st.H d (.dict (dE B (kvs'.map fun p => (p.1, er p.2))) n')) { s with heap := h', toks := tk } := by
  refine ex3and6 hm fun o des ep ho hx hdt h1 h2 h3 => ?_; try clear hm
  have nl : st.H d ≠ none := by rw [hd]; exact nofun
  have hk : ∀ b ob, b ≠ d → s.heap.get? b = some ob → h'.get? b = some ob := fun b ob hb e => (hs.2 b hb).trans e
  refine ⟨ep, R.set (s' := { s with heap := h', toks := tk }) nl hk rfl rfl ho ⟨hx, des, hdt, ?_⟩, After.set (s' := { s with heap := h', toks := tk }) _ _ nl hk ho⟩
  have := B.rep des kvs' h1 h2 h3
  unfold dE
  rw [List.map_map]
  exact this
theorem T_setD {v' v : Value} {Q : Unit → St → Prop} (ha : er a' = .ref d) (hk : er key = B.val k) (hv : er v' = v) (hd : st.H d = some (.dict (dE B kvs) n)) (hn : kvs.length ≤ 1000000)
    (h : ∀ n', Q () ⟨st.vars, upd st.H d (.dict (dE B (stored kvs k v)) n')⟩) : T prog w F (setItem a' key v') Q X st := fun s R => by
  rw [er_ref ha]
  obtain ⟨kvs', hD, he⟩ := dict_by B R.1 hd
  have hl : kvs'.length = kvs.length := by rw [← he, List.length_map]
  refine wpAny_setItem_pairs (B.is k key hk) hD.dictOf (fun h' hm hs => ?_) (by rw [sizeLine_eq]; omega)
  obtain ⟨n', R', A'⟩ := dict_put B (tk := s.toks + 1) R hd hm hs
  rw [stored_er, he, hv] at R' A'
  exact ⟨_, R', A', h n'⟩
theorem T_getD {v : Value} (ha : er a' = .ref d) (hk : er key = B.val k) (hd : st.H d = some (.dict (dE B kvs) n)) (hv : valueAt kvs k = some v) (h : Q v st) : T prog w F (getItem a' key) Q X st := fun s R => by
  rw [er_ref ha]
  obtain ⟨kvs', hD, he⟩ := dict_by B R.1 hd
  rw [← he, ← valueAt_er] at hv
  obtain ⟨v', hv', rfl⟩ := Option.map_eq_some_iff.mp hv
  exact wpAny_getItem_of (B.is k key hk) hD.dictOf.mapOf hv' ⟨st, R.toks, .grow _ _ fun _ _ e => e, h⟩
theorem T_dget (N : NoSys F.toFc) (hk : er key = B.val k) (hd : st.H d = some (.dict (dE B kvs) n)) (h : Q ((valueAt kvs k).getD .none) st) : T prog w F (call (.builtin "dict.get") [.ref d, key]) Q X st := fun s R => by
  obtain ⟨kvs', hD, he⟩ := dict_by B R.1 hd
  refine call_meetsIn PySem.F.slot_dict_get hD.dictOf.typeIs PySem.F.entry_dict_get (PySem.F.args_dict_get_2 _ _) (meets_dict_get B.knd d (B.is k key hk) (notSys R.1 N (by rw [hd]; exact nofun))) ⟨_, hD.dictOf.mapOf, st, R.toks, .grow _ _ fun _ _ e => e, ?_⟩
  have : er ((valueAt kvs' k).getD .none) = (valueAt kvs k).getD .none := by
    rw [← he, ← valueAt_er]
    cases valueAt kvs' k <;> rfl
  show Q (er _) st
  rw [this]; exact h
theorem T_inDict (N : NoSys F.toFc) (hk : er key = B.val k) (ha : er a' = .ref d) (hd : st.H d = some (.dict (dE B kvs) n)) (h : Q (.bool (valueAt kvs k).isSome) st) : T prog w F (compareOp .In key a') Q X st := fun s R => by
  rw [er_ref ha]
  obtain ⟨kvs', hD, he⟩ := dict_by B R.1 hd
  refine wpAny_in_of (B.is k key hk) (notSys R.1 N (by rw [hd]; exact nofun)) hD.dictOf.mapOf ⟨st, R.toks, .grow _ _ fun _ _ e => e, ?_⟩
  rw [← he, ← valueAt_er, Option.isSome_map] at h; exact h
theorem T_delD {Q : Unit → St → Prop} (ha : er a' = .ref d) (hk : er key = B.val k) (hd : st.H d = some (.dict (dE B kvs) n)) (hv : (valueAt kvs k).isSome = true) (hn : kvs.length ≤ 1000000)
    (h : ∀ n', Q () ⟨st.vars, upd st.H d (.dict (dE B (without kvs k)) n')⟩) : T prog w F (delItem a' key) Q X st := fun s R => by
  rw [er_ref ha]
  obtain ⟨kvs', hD, he⟩ := dict_by B R.1 hd
  have hl : kvs'.length = kvs.length := by rw [← he, List.length_map]
  rw [← he, ← valueAt_er, Option.isSome_map] at hv
  refine wpAny_delItem_slot hD.dictOf.typeIs (by decide) PySem.F.slot_dict_delitem (call_meetsIn PySem.F.slot_dict_delitem hD.dictOf.typeIs PySem.F.entry_dict_delitem (PySem.F.args_dict_delitem_2 _ _) (meets_dict_delitem_pairs B.knd d (B.is k key hk)) ⟨kvs', hD.dictOf, by rw [sizeLine_eq]; omega, hv, fun h' hm hs => ?_⟩)
  obtain ⟨n', R', A'⟩ := dict_put B (tk := s.toks + 1) R hd hm hs
  rw [without_er, he] at R' A'
  exact ⟨_, R', A', h n'⟩
theorem T_values (N : NoSys F.toFc) (hd : st.H d = some (.dict (dE B kvs) n)) (h : ∀ a, st.H a = none → Q (.ref a) ⟨st.vars, upd st.H a (.vals d)⟩) : T prog w F (call (.builtin "dict.values") [.ref d]) Q X st := fun s R => by
  obtain ⟨kvs', hD, he⟩ := dict_by B R.1 hd
  have hnull : s.heap.get? s.heap.objs.size = none := Heap.get?_none_of_le (Nat.le_refl _)
  refine call_meetsIn PySem.F.slot_dict_values hD.dictOf.typeIs PySem.F.entry_dict_values (PySem.F.args_dict_values_1 _) (meets_dict_values B.knd d (notSys R.1 N (by rw [hd]; exact nofun))) ⟨⟨_, hD.dictOf⟩, ?_⟩
  exact ⟨_, R.new (s' := { s with heap := s.heap.push { cls := .type "dict_values", data := .fields #[.ref d] } }) (fun b o e => Heap.get?_push_of_some _ e) rfl rfl hnull (Heap.get?_push_size _ rfl) (o := .vals d) ⟨rfl, rfl⟩,
    .new (s' := { s with heap := s.heap.push { cls := .type "dict_values", data := .fields #[.ref d] } }) _ _ (fun b o e => Heap.get?_push_of_some _ e) hnull, h _ R.1.fresh⟩
theorem T_dict0 (h : ∀ a, st.H a = none → Q (.ref a) ⟨st.vars, upd st.H a (.dict [] 0)⟩) : T prog w F (eval (.Dict [] [] pos) F.env) Q X st := fun s R => by
  have hnull : s.heap.get? s.heap.objs.size = none := Heap.get?_none_of_le (Nat.le_refl _)
  exact wpAny_Dict_empty ⟨_, R.new (s' := { s with heap := s.heap.push { cls := .type "dict", data := .dict #[] } }) (fun b o e => Heap.get?_push_of_some _ e) rfl rfl hnull (Heap.get?_push_size _ rfl) (o := .dict [] 0) ⟨⟨rfl, rfl, rfl⟩, #[], rfl, .inl ⟨[], fun e he => by simp at he, .nil, List.nodup_nil, rfl⟩⟩,
    .new (s' := { s with heap := s.heap.push { cls := .type "dict", data := .dict #[] } }) _ _ (fun b o e => Heap.get?_push_of_some _ e) hnull, h _ R.1.fresh⟩
theorem set_by {ks : List κ} (R : HRel prog w F.toFc H s) (hd : H d = some (B.aset ks)) (hn : ks.length ≤ 1000) : ∃ S, s.heap.SetOf B.knd d S ks.length ∧ ∀ k, S k = decide (k ∈ ks) := by
  obtain ⟨o, ho, hr⟩ := R.cells _ _ hd
  obtain ⟨S, h1, h2⟩ := B.sun ks o hr
  refine ex0and2 h1 fun hex y1_ => ?_; try clear h1; obtain ⟨es, ep, t, q1, q2, q3, q4, q5⟩ := y1_
  exact ⟨S, ⟨o, es, ep, t, ho, hex, q1, q2, q3, by rw [q4]; exact Nat.lt_of_le_of_lt hn (by decide), q5, q4⟩, h2⟩
theorem T_inSet {ks : List κ} (hk : er key = B.val k) (ha : er a' = .ref d) (hd : st.H d = some (B.aset ks)) (hn : ks.length ≤ 1000) (h : Q (.bool (decide (k ∈ ks))) st) : T prog w F (compareOp .In key a') Q X st := fun s R => by
  rw [er_ref ha]
  obtain ⟨S, hS, e⟩ := set_by B R.1 hd hn
  exact wpAny_inSet_of (B.is k key hk) (B.scan k key hk) hS ⟨st, R.toks, .grow _ _ fun _ _ e => e, by rw [e]; exact h⟩
theorem T_setAdd {ks : List κ} (hk : er key = B.val k) (hd : st.H d = some (B.aset ks)) (hnew : k ∉ ks) (hn : ks.length ≤ 1000) (h : Q .none ⟨st.vars, upd st.H d (B.aset (ks ++ [k]))⟩) : T prog w F (call (.builtin "set.add") [.ref d, key]) Q X st := fun s R => by
  obtain ⟨S, hS, e⟩ := set_by B R.1 hd hn
  refine call_set_add (B.is k key hk) (B.scan k key hk) hS (Nat.lt_of_le_of_lt (Nat.succ_le_succ hn) (by decide)) fun h' hs hS' => ?_
  have hf : S k = false := by rw [e]; simpa using hnew
  refine ex4and8 hS' fun o es ep t ho hex q1 q2 q3 q4 q5 q6 => ?_; try clear hS'
  have nl : st.H d ≠ none := by rw [hd]; exact nofun
  have hkp : ∀ b ob, b ≠ d → s.heap.get? b = some ob → h'.get? b = some ob := fun b ob hb e => (hs.2 b hb).trans e
  refine ⟨_, R.set (s' := { s with heap := h', toks := s.toks + 1 }) nl hkp rfl rfl ho (B.srep (ks ++ [k]) o _ ⟨hex, es, ep, t, q1, q2, q3, ?_, q5⟩ fun k' => ?_), After.set (s' := { s with heap := h', toks := s.toks + 1 }) _ _ nl hkp ho, h⟩
  · rw [q6, hf]; simp
  · rw [e]
    simp only [List.mem_append, List.mem_singleton, Bool.decide_or]
theorem setObjOf_fresh' (led : Bool) : Obj.SetObjOf B.knd { cls := .type "set", dict := none, data := .set #[] 0 (.fresh 0 0 led) } (fun _ => false) 0 :=
  ⟨⟨rfl, rfl, rfl⟩, #[], 0, _, rfl, fun e he => by simp at he, fun k => by simp, rfl, by rfl⟩
theorem T_setNew (h : ∀ a, st.H a = none → Q (.ref a) ⟨st.vars, upd st.H a (B.aset [])⟩) : T prog w F (call (.type "set") []) Q X st := fun s R => by
  have hnull : s.heap.get? s.heap.objs.size = none := Heap.get?_none_of_le (Nat.le_refl _)
  refine call_set_0 fun led => ?_
  exact ⟨_, R.new (s' := { s with heap := s.heap.push { cls := .type "set", dict := none, data := .set #[] 0 (.fresh 0 0 led) } }) (fun b o e => Heap.get?_push_of_some _ e) rfl rfl hnull (Heap.get?_push_size _ rfl) (B.srep [] _ (fun _ => false) (setObjOf_fresh' B led) fun k => by simp),
    .new (s' := { s with heap := s.heap.push { cls := .type "set", dict := none, data := .set #[] 0 (.fresh 0 0 led) } }) _ _ (fun b o e => Heap.get?_push_of_some _ e) hnull, h _ R.1.fresh⟩
end
end Mine
end
section
set_option maxRecDepth 100000
set_option Elab.async false
set_option linter.unusedVariables false
namespace Mine
open PySem PySem.W PySem.Calls PyProof.Rows PySem.SeqAt
section
variable {prog : Program} {w : World} {F : Fx} {st : St} {s s' s₀ : Shared} {H₀ H : AHeap} {X : Value → List Value → St → Prop} {K : Frag} {Q : Value → St → Prop} {pos : Pos} {a' b' : Value}
theorem intsAre_of : ∀ {vs : List Value} {ns : List Int}, vs.map er = nums ns → IntsAre vs ns
  | [], [], _ => .nil
  | v :: vs, n :: ns, h => by
    rw [List.map_cons, nums, List.map_cons] at h
    injection h with h1 h2
    obtain ⟨t, rfl⟩ := er_int h1
    exact .cons n t (intsAre_of h2)
  | [], _ :: _, h => nomatch h
  | _ :: _, [], h => nomatch h
theorem of_intsAre : ∀ {vs : List Value} {ns : List Int}, IntsAre vs ns → vs.map er = nums ns := by
  intro vs ns h
  induction h with
  | nil => rfl
  | cons n t _ ih => rw [List.map_cons, ih]; rfl
theorem ints_at {l : Addr} {ns : List Int} (R : HRel prog w F.toFc H s) (hl : H l = some (.list (nums ns))) : ∃ vs : List Value, s.heap.IsList l vs.toArray ∧ IntsAre vs ns := by
  refine ex1and5 (R.cells _ _ hl) fun o ho hc _ _ y5_ => ?_; obtain ⟨items, n, hd, he⟩ := y5_
  exact ⟨items.toList, ⟨o, ho, hc, n, by rw [hd]⟩, intsAre_of he⟩
theorem Rel.hup (R : Rel prog w F st s) {h' : Heap} {tk : Nat} (hk : ∀ b o, s.heap.get? b = some o → h'.get? b = some o) : Rel prog w F st { s with heap := h', toks := tk } ∧ After (frAddrs F.stk) F.own st.H s st.H { s with heap := h', toks := tk } :=
  ⟨R.grow hk rfl rfl, .grow _ _ hk⟩
theorem T_len {l : Addr} {xs : List Value} (hl : st.H l = some (.list xs)) (hn : xs.length ≤ 1000000) (h : Q (vI xs.length) st) : T prog w F (call (.builtin "len") [.ref l]) Q X st := fun s R => by
  obtain ⟨items, hi, he⟩ := list_at R.1 hl
  have hs := len_of he
  refine PySem.Calls.call_len_list hi (by omega) ⟨st, R.toks, .grow _ _ fun _ _ e => e, ?_⟩
  show Q (.int items.size 0) st
  rw [hs]; exact h
theorem T_lenT {l : Addr} {xs : List Value} (hl : st.H l = some (.tup xs)) (hn : xs.length ≤ 1000000) (h : Q (vI xs.length) st) : T prog w F (call (.builtin "len") [.ref l]) Q X st := fun s R => by
  obtain ⟨items, hi, he⟩ := tup_at R.1 hl
  have hs := len_of he
  refine PyProof.Rows.len_tuple hi (by omega) ⟨st, R.toks, .grow _ _ fun _ _ e => e, ?_⟩
  show Q (.int items.size 0) st
  rw [hs]; exact h
theorem T_range {n : Int} (ha : er a' = vI n) (h : ∀ a, st.H a = none → Q (.ref a) ⟨st.vars, upd st.H a (.rng 0 n)⟩) : T prog w F (call (.type "range") [a']) Q X st := fun s R => by
  obtain ⟨t, rfl⟩ := er_int ha
  have hnull : s.heap.get? s.heap.objs.size = none := Heap.get?_none_of_le (Nat.le_refl _)
  refine call_range_1 ⟨_, R.new (s' := { s with heap := s.heap.push { cls := .type "range", data := .fields #[.int 0 s.toks, .int n t, .int 1 (s.toks + 1)] }, toks := s.toks + 1 + 1 }) (fun b o e => Heap.get?_push_of_some _ e) rfl rfl hnull (Heap.get?_push_size _ rfl) (o := .rng 0 n) ⟨_, _, _, rfl⟩, ?_, h _ R.1.fresh⟩
  exact .new (s' := { s with heap := s.heap.push { cls := .type "range", data := .fields #[.int 0 s.toks, .int n t, .int 1 (s.toks + 1)] }, toks := s.toks + 1 + 1 }) _ _ (fun b o e => Heap.get?_push_of_some _ e) hnull
theorem T_sum {l : Addr} {ns : List Int} (hh : F.A.handled = none) (hl : st.H l = some (.list (nums ns))) (h : Q (vI ns.sum) st) : T prog w F (call (.builtin "sum") [.ref l]) Q X st := fun s R => by
  obtain ⟨vs, hv, hi⟩ := ints_at R.1 hl
  obtain ⟨xs, e⟩ := hi.allInts.items
  have hns : ns = xs.toList.map (·.1) := by rw [← hi.numsOf, ← nums_intItems, ← e]
  rw [e] at hv
  refine sum_intListG hh hv fun h' tk t' hk => ?_
  obtain ⟨R', A'⟩ := R.hup (tk := tk) hk
  refine ⟨st, R', A', ?_⟩
  show Q (.int _ 0) st
  rw [preSum_eq, List.take_of_length_le (by simp), ← hns]; exact h
theorem T_min2 {a b : Int} (hh : F.A.handled = none) (ha : er a' = vI a) (hb : er b' = vI b) (h : Q (vI (if b < a then b else a)) st) : T prog w F (call (.builtin "min") [a', b']) Q X st := fun s R => by
  obtain ⟨t, rfl⟩ := er_int ha
  obtain ⟨u, rfl⟩ := er_int hb
  refine min_two_ints hh fun h' tk hk => ?_
  obtain ⟨R', A'⟩ := R.hup (tk := tk) hk
  refine ⟨st, R', A', ?_⟩
  have : Er.e (if b < a then Value.int b u else .int a t) = vI (if b < a then b else a) := by split <;> rfl
  rw [this]; exact h
theorem T_max {l : Addr} {ns : List Int} (hh : F.A.handled = none) (hl : st.H l = some (.list (nums ns))) (hne : 0 < ns.length) (h : ∀ M, M ∈ ns → (∀ a, a ∈ ns → a ≤ M) → Q (vI M) st) : T prog w F (call (.builtin "max") [.ref l]) Q X st := fun s R => by
  obtain ⟨vs, hv, hi⟩ := ints_at R.1 hl
  obtain ⟨xs, e⟩ := hi.allInts.items
  have hns : ns = xs.toList.map (·.1) := by rw [← hi.numsOf, ← nums_intItems, ← e]
  have hsz : 0 < xs.size := by
    have h3 := hne; rw [hns, List.length_map, Array.length_toList] at h3; exact h3
  rw [e] at hv
  refine max_intList hh hv hsz fun v h' tk hv hk => ?_
  obtain ⟨t, rfl⟩ := intItems_at hv
  obtain ⟨h1, h2⟩ := argBest_gt (numAt xs) (xs.size - 1)
  obtain ⟨R', A'⟩ := R.hup (tk := tk) hk
  refine ⟨st, R', A', h _ ?_ fun a ha => ?_⟩
  · rw [hns, numAt_eq]; exact getD_mem (by rw [List.length_map, Array.length_toList]; omega)
  · rw [hns] at ha
    obtain ⟨j, hj, rfl⟩ := mem_getD ha
    rw [List.length_map, Array.length_toList] at hj
    rw [← numAt_eq]; exact h2 j (by omega)
theorem T_sorted {l : Addr} {ns : List Int} (hl : st.H l = some (.list (nums ns)) ∨ st.H l = some (.tup (nums ns))) (h64 : ns.length < 64) (h : ∀ a ns', st.H a = none → ns'.Perm ns → ns'.Pairwise (· ≤ ·) → Q (.ref a) ⟨st.vars, upd st.H a (.list (nums ns'))⟩) : T prog w F (call (.builtin "sorted") [.ref l]) Q X st := fun s R => by
  have both : ∀ (T : String) (o : Obj) (its : Array Value) (n : Nat), (T = "list" ∨ T = "tuple") → s.heap.get? l = some o → o.cls = .type T → o.data = .seq its n → its.toList.map er = nums ns →
      wpAny (model prog w) F.A (call (.builtin "sorted") [.ref l]) (fun v s' => ∃ st', Rel prog w F st' s' ∧ After (frAddrs F.stk) F.own st.H s st'.H s' ∧ Q (Er.e v) st') (XPost prog w F X st.H s) s := by
    intro T o its n hT ho hc hd hx
    have hsz : its.toList.length = ns.length := by
      have : (its.toList.map er).length = (nums ns).length := by rw [hx]
      simpa using this
    have hI := intsAre_of hx
    refine Calls.call_function_entry kind_sorted plain_sorted entry_sorted (args_sorted1 _) ?_
    unfold Builtin.«sorted»
    refine wpAny_bind (m := checkCount "sorted" 1 1 _) (wpAny_pure ?_)
    refine wpAny_bind (wpAny_collect_seq l hT ho hc hd (fun h' hk => ?_) (by rw [sizeLine_eq]; rw [Array.length_toList] at hsz; omega))
    refine wpAny_bind (wpAny_newList ?_ (by rw [sizeLine_eq]; omega))
    have hnull : h'.get? h'.objs.size = none := Heap.get?_none_of_le (Nat.le_refl _)
    have hnull0 : s.heap.get? h'.objs.size = none := by
      cases q : s.heap.get? h'.objs.size with
      | none => rfl
      | some z => rw [hk _ _ q] at hnull; cases hnull
    have hoL : (h'.push (seqObj "list" its.toList.toArray 0)).get? h'.objs.size = some (seqObj "list" its.toList.toArray 0) := Heap.get?_push_size _ rfl
    show wpAny _ _ _ _ _ { s with heap := h'.push (seqObj "list" its.toList.toArray 0) }
    refine wpAny_bind (wpAny_holding (wpAny_call_entry slot_list_sort ⟨_, hoL, rfl⟩ entry_list_sort (list_sort_tree hoL hI (by omega) fun out ns' a1 a2 a3 => ⟨_, rfl, ?_⟩) (args_list_sort _)))
    refine wpAny_pure ⟨_, rfl, ?_⟩
    obtain ⟨e, he⟩ := sortedHeap_at (vs := its.toList) (out := out) hoL
    have up : ∀ b o, s.heap.get? b = some o → (sortedHeap (h'.push (seqObj "list" its.toList.toArray 0)) h'.objs.size its.toList out).get? b = some o := fun b o eb => by
      have hb := hk b o eb
      have hlt := Heap.lt_size hb
      rw [sortedHeap_old (Nat.ne_of_lt hlt) (by rw [Heap.size_push]; exact Nat.lt_succ_of_lt hlt)]
      exact Heap.get?_push_of_some _ hb
    exact ⟨_, R.new (s' := { s with heap := sortedHeap (h'.push (seqObj "list" its.toList.toArray 0)) h'.objs.size its.toList out }) up rfl rfl hnull0 he (o := .list (nums ns')) ⟨rfl, rfl, rfl, out, e, rfl, of_intsAre a1⟩,
      .new (s' := { s with heap := sortedHeap (h'.push (seqObj "list" its.toList.toArray 0)) h'.objs.size its.toList out }) _ _ up hnull0, h _ ns' (R.1.none_of hnull0) a2 a3⟩
  rcases hl with hl | hl
  · refine ex1and5 (R.1.cells _ _ hl) fun o ho hc _ _ y5_ => ?_; obtain ⟨its, n, hd, hx⟩ := y5_
    exact both "list" o its n (.inl rfl) ho hc hd hx
  · refine ex1and5 (R.1.cells _ _ hl) fun o ho hc _ _ y5_ => ?_; obtain ⟨its, n, hd, hx⟩ := y5_
    exact both "tuple" o its n (.inr rfl) ho hc hd hx
theorem T_tupleOf {l : Addr} {xs : List Value} (hl : st.H l = some (.list xs)) (hn : xs.length ≤ 1000000) (h : ∀ a, st.H a = none → Q (.ref a) ⟨st.vars, upd st.H a (.tup xs)⟩) : T prog w F (call (.type "tuple") [.ref l]) Q X st := fun s R => by
  obtain ⟨items, hi, he⟩ := list_at R.1 hl
  refine call_tuple_list hi (fun h' hk => ?_) (by have := len_of he; rw [sizeLine_eq]; omega)
  have hnull : h'.get? h'.objs.size = none := Heap.get?_none_of_le (Nat.le_refl _)
  have hnull0 : s.heap.get? h'.objs.size = none := by
    cases q : s.heap.get? h'.objs.size with
    | none => rfl
    | some z => rw [hk _ _ q] at hnull; cases hnull
  have up : ∀ b o, s.heap.get? b = some o → (h'.push { cls := .type "tuple", data := .seq items }).get? b = some o := fun b o e => Heap.get?_push_of_some _ (hk _ _ e)
  exact ⟨_, R.new (s' := { s with heap := h'.push { cls := .type "tuple", data := .seq items } }) up rfl rfl hnull0 (Heap.get?_push_size _ rfl) (o := .tup xs) ⟨rfl, rfl, rfl, items, 0, rfl, he⟩,
    .new (s' := { s with heap := h'.push { cls := .type "tuple", data := .seq items } }) _ _ up hnull0, h _ (R.1.none_of hnull0)⟩
theorem T_index {l : Addr} {ns : List Int} {k : Int} (hl : st.H l = some (.list (nums ns))) (hb : er b' = vI k) (hk : k ∈ ns) (hn : ns.length ≤ 1000000) (h : Q (vI (ns.idxOf k : Nat)) st) : T prog w F (call (.builtin "list.index") [.ref l, b']) Q X st := fun s R => by
  obtain ⟨t, rfl⟩ := er_int hb
  refine ex1and5 (R.1.cells _ _ hl) fun o ho hc hd hs y5_ => ?_; obtain ⟨items, n, hdt, he⟩ := y5_
  obtain ⟨c, d, dt, sl⟩ := o
  cases hc; cases hd; cases hs; cases hdt
  have hI := intsAre_of he
  have hsz : items.toList.length = ns.length := by
    have : (items.toList.map er).length = (nums ns).length := by rw [he]
    simpa using this
  have hj : ns.idxOf k < ns.length := List.idxOf_lt_length_iff.mpr hk
  have hj' : ns.idxOf k < items.size := by rw [Array.length_toList] at hsz; omega
  let e : Value → Bool := fun v => match v with | .int i _ => i == k | _ => false
  have hget : ∀ m (hm : m < items.size), ∃ u, items[m] = .int (ns[m]'(by rw [Array.length_toList] at hsz; omega)) u := fun m hm => by
    have h1 : ns[m]? = some (ns[m]'(by rw [Array.length_toList] at hsz; omega)) := List.getElem?_eq_getElem _
    obtain ⟨u, hu⟩ := hI.get m _ h1
    exact ⟨u, by simpa [hm] using hu⟩
  refine call_meets PySem.F.slot_list_index ⟨_, ho, rfl⟩ PySem.F.entry_list_index (PySem.F.args_list_index_2 _ _) (list_indexAt l items n none #[] (.int k t) e (ns.idxOf k) hj' (by omega) ?_ ?_) ⟨ho, fun y hy => ?_, ⟨st, R.toks, .grow _ _ fun _ _ e => e, h⟩⟩
  · obtain ⟨u, hu⟩ := hget _ hj'
    rw [hu]
    show (ns[ns.idxOf k] == k) = true
    rw [List.getElem_idxOf]; exact beq_self_eq_true k
  · intro m hm hlt
    obtain ⟨u, hu⟩ := hget _ hm
    rw [hu]
    show (ns[m] == k) = false
    have := List.not_of_lt_findIdx (p := (· == k)) (xs := ns) hlt
    simpa using this
  · obtain ⟨m, hm, rfl⟩ := Array.mem_iff_getElem.mp hy
    obtain ⟨u, hu⟩ := hget _ hm
    rw [hu]
    exact EqAt.int_int _ _ _ _
theorem T_isTuple {l : Addr} {xs : List Value} (hl : st.H l = some (.tup xs)) (h : Q (.bool true) st) : T prog w F (call (.builtin "isinstance") [.ref l, .type "tuple"]) Q X st := fun s R => by
  obtain ⟨o, ho, hc, _⟩ := R.1.cells _ _ hl
  refine PyProof.Rows.call_isinstance_yes (Tx := "tuple") ⟨o, ho, hc⟩ (by kernel_rfl) (by rw [isSubtype_type]; kernel_rfl) ⟨st, R, .refl _ _ _ _, h⟩
end
end Mine
end
section
set_option maxRecDepth 100000
set_option Elab.async false
set_option linter.unusedVariables false
namespace Mine
open PySem PySem.W PySem.Calls PyProof.Rows PySem.SeqAt Builtin Builtin.ObjectAttr
section
variable {prog : Program} {w : World} {M : Model} {A : Around} {E : Value → Shared → Prop} {s : Shared}
theorem slot_wdget : Slot "wrapper_descriptor" "__get__" "wrapper_descriptor.__get__" :=
  .of (owner := "wrapper_descriptor") (n := "__get__") (by rw [typeLookup_type, builtinLookup_eq_fast]; kernel_rfl) (by decide +kernel) (by decide +kernel) (by decide +kernel)
    (by first | exact .inl (by decide +kernel) | exact .inr (by decide +kernel)) (by rw [isSubtype_type]; kernel_rfl)
theorem entry_wdget : entryFor table "wrapper_descriptor.__get__" = some Builtin.«wrapper_descriptor.__get__» := entryFor_of_tree (by kernel_rfl)
theorem args_wdget (a b c : Value) : argsOk "wrapper_descriptor.__get__" ⟨[a, b, c], []⟩ := by unfold argsOk; kernel_rfl
theorem type_lc : typeOf (.builtin "list.__contains__") = pure (.type "wrapper_descriptor") := by show builtinType _ = _; rw [builtinType_eq_fast]; kernel_rfl
theorem type_ln : typeOf (.builtin "list_iterator.__next__") = pure (.type "wrapper_descriptor") := by show builtinType _ = _; rw [builtinType_eq_fast]; kernel_rfl
theorem sub_li : isSubtype (.type "list_iterator") (.type "list_iterator") = pure true := by rw [isSubtype_type]; kernel_rfl
theorem inst_named {l : Addr} {o : Obj} {T U : String} {Q : Bool → Shared → Prop} (ho : s.heap.get? l = some o) (hc : o.cls = .type T) (hs : isSubtype (.type T) (.type T) = pure true) (hU : U = T) (h : Q true s) : wpAny M A (isInstance (.ref l) (.type U)) Q E s := by
  subst hU
  unfold isInstance
  refine wpAny_bind (wpAny_typeOf (T := U) ⟨o, ho, hc⟩ ?_)
  rw [hs]; exact wpAny_pure h
theorem run_wdget {l : Addr} {o : Obj} {T : String} {id : String} {P : Fin → Shared → Prop} (ho : s.heap.get? l = some o) (hc : o.cls = .type T) (hs : isSubtype (.type T) (.type T) = pure true)
    (hid : (id = "list.__contains__" ∧ T = "list") ∨ (id = "list_iterator.__next__" ∧ T = "list_iterator"))
    (h : P (.done (.ret (.ref s.heap.objs.size))) { s with heap := s.heap.push { cls := .type "method-wrapper", data := .fields #[.builtin id, .ref l] } }) :
    wpAny M A (Builtin.«wrapper_descriptor.__get__» ⟨[.builtin id, .ref l, .type T], []⟩) P E s := by
  unfold Builtin.«wrapper_descriptor.__get__»
  rcases hid with ⟨rfl, rfl⟩ | ⟨rfl, rfl⟩
  · refine wpAny_bind (wpAny_of_eq (a := (.builtin "list.__contains__", some (.ref l), some (.type "list"))) (by first | rfl | kernel_rfl) ?_)
    dsimp only
    refine wpAny_bind ?_
    refine wpAny_bind (wpAny_pure ?_)
    refine wpAny_bind (inst_named ho hc hs (by kernel_rfl) ?_)
    refine wpAny_pure ?_
    exact wpAny_bind (wpAny_newObj_type (wpAny_pure h))
  · refine wpAny_bind (wpAny_of_eq (a := (.builtin "list_iterator.__next__", some (.ref l), some (.type "list_iterator"))) (by first | rfl | kernel_rfl) ?_)
    dsimp only
    refine wpAny_bind ?_
    refine wpAny_bind (wpAny_pure ?_)
    refine wpAny_bind (inst_named ho hc hs (by kernel_rfl) ?_)
    refine wpAny_pure ?_
    exact wpAny_bind (wpAny_newObj_type (wpAny_pure h))
theorem looks_wd {h : Heap} {id : String} (ht : typeOf (.builtin id) = pure (.type "wrapper_descriptor")) : Looks M h (getOf (some (.builtin id))) (some (.builtin "wrapper_descriptor.__get__")) ∧ Looks M h (takesStores (.builtin id)) false := by
  have L0 : Looks M h (typeOf (.builtin id)) (.type "wrapper_descriptor") := Looks.of_pure ht
  have e1 : findIn [] (.type "wrapper_descriptor") "__get__" = some (some (.builtin "wrapper_descriptor.__get__")) := by decide +kernel
  have e2 : findIn [] (.type "wrapper_descriptor") "__set__" = some none := by decide +kernel
  have e3 : findIn [] (.type "wrapper_descriptor") "__delete__" = some none := by decide +kernel
  have X : Frag.In [] h := fun a o e => by cases e
  refine ⟨L0.andThen (looks_findIn X e1), ?_⟩
  have s2 : Looks M h (specialOf (.builtin id) "__set__") none := L0.andThen (looks_findIn X e2)
  have s3 : Looks M h (specialOf (.builtin id) "__delete__") none := L0.andThen (looks_findIn X e3)
  unfold takesStores
  refine s2.andThen ?_
  rw [if_neg (by decide)]
  exact s3.andThen .now
theorem run_oga {l : Addr} {o : Obj} {T id : String} {name : Str} {u : Tok} {P : Fin → Shared → Prop} (ho : s.heap.get? l = some o) (hc : o.cls = .type T) (hd : o.dict = none) (hncls : notCls o = true) (hs : isSubtype (.type T) (.type T) = pure true)
    (hid : (id = "list.__contains__" ∧ T = "list") ∨ (id = "list_iterator.__next__" ∧ T = "list_iterator")) (ht : typeOf (.builtin id) = pure (.type "wrapper_descriptor")) (hl : typeLookup (.type T) name = pure (some (.builtin id)))
    (hcp : copiedNames.contains name = false) (hnd : typeHasDict (.type T) = false)
    (h : P (.done (.ret (.ref s.heap.objs.size))) { s with heap := s.heap.push { cls := .type "method-wrapper", data := .fields #[.builtin id, .ref l] } }) :
    wpAny (model prog w) A (Builtin.«object.__getattribute__» ⟨[.ref l, .str name u], []⟩) P E s := by
  obtain ⟨Lg, Lt⟩ := looks_wd (M := model prog w) (h := s.heap) ht
  obtain ⟨c, dct, dt, sl⟩ := o
  dsimp only at hc hd
  subst hc hd
  unfold Builtin.«object.__getattribute__»
  refine wpAny_bind (wpAny_of_eq (a := (.ref l, [.str name u])) (by first | rfl | kernel_rfl) ?_)
  dsimp only
  refine wpAny_bind (wpAny_pure ?_)
  refine wpAny_bind (wpAny_typeOf (T := T) ⟨_, ho, rfl⟩ ?_)
  refine wpAny_bind ?_
  unfold find
  refine wpAny_bind (wpAny_of_eq hl ?_)
  refine wpAny_bind (Lg.here ?_)
  refine wpAny_bind ?_
  unfold dataDescriptor?
  refine wpAny_bind (Lt.here ?_)
  refine wpAny_pure ?_
  dsimp only
  unfold ownThenClass
  refine wpAny_bind ?_
  unfold inOwnDict Builtin.ObjectAttr.ownDict
  dsimp only
  refine wpAny_bind ?_
  refine wpAny_bind (wpAny_loadPart ho ?_)
  have nx : ∀ {R : Option Addr → Shared → Prop}, R none s → wpAny (model prog w) A (instanceDict l false) R E s := fun hr => by
    unfold instanceDict
    refine wpAny_bind (wpAny_loadPart ho ?_)
    exact wpAny_pure hr
  have rest : ∀ {R : Option Addr → Shared → Prop}, R none s → wpAny (model prog w) A (match dt with | .cls c => pure (some c.ns) | _ => instanceDict l false) R E s := fun hr => by
    cases dt <;> first | exact nx hr | cases hncls
  refine rest ?_
  refine wpAny_pure ?_
  dsimp only
  unfold copiedAttributeGuard
  dsimp only
  have hcp' : (["__module__", "__name__", "__qualname__", "__doc__", "__annotations__"] : List Str).contains name = false := hcp
  rw [hcp']
  refine wpAny_bind ?_
  refine wpAny_pure ?_
  unfold byTheClass
  refine wpAny_bind (wpAny_rule (wpAny_pure ?_))
  dsimp only
  unfold bindTo
  dsimp only
  refine wpAny_bind (wpAny_holding (wpAny_call_entry slot_wdget ht entry_wdget (run_wdget ho rfl hs hid ?_) (args_wdget _ _ _)))
  exact ⟨_, rfl, wpAny_pure h⟩
theorem getAttr_bm {l : Addr} {o : Obj} {T id ga : String} {name : Str} {Q : Value → Shared → Prop} (ho : s.heap.get? l = some o) (hc : o.cls = .type T) (hd : o.dict = none) (hncls : notCls o = true) (hs : isSubtype (.type T) (.type T) = pure true)
    (hid : (id = "list.__contains__" ∧ T = "list") ∨ (id = "list_iterator.__next__" ∧ T = "list_iterator")) (ht : typeOf (.builtin id) = pure (.type "wrapper_descriptor")) (hl : typeLookup (.type T) name = pure (some (.builtin id)))
    (hcp : copiedNames.contains name = false) (hnd : typeHasDict (.type T) = false) (sg : Slot T "__getattribute__" ga) (eg : entryFor table ga = some Builtin.«object.__getattribute__») (ag : ∀ a b, argsOk ga ⟨[a, b], []⟩)
    (h : Q (.ref s.heap.objs.size) { s with heap := s.heap.push { cls := .type "method-wrapper", data := .fields #[.builtin id, .ref l] }, toks := s.toks + 1 }) :
    wpAny (model prog w) A (getAttr (.ref l) name true) Q E s := by
  unfold getAttr getAttrBy
  refine wpAny_bind (wpAny_mkText ?_)
  refine wpAny_holding ?_
  have hT : Shared.TypeIs { s with toks := s.toks + 1 } (.ref l) T := ⟨o, ho, hc⟩
  refine wpAny_bind (wpAny_typeOf hT ?_)
  refine wpAny_bind (wpAny_of_eq sg.lookup ?_)
  dsimp only
  rw [if_neg (by show ¬ ((false && _) = true); rw [Bool.false_and]; decide)]
  unfold getAttrByItsOwn
  refine wpAny_bind (wpAny_pure ?_)
  refine wpAny_bind (wpAny_attempt (wpAny_holding ?_))
  unfold callGetattribute
  rw [if_neg (by show ¬ ((true && false) = true); decide)]
  unfold boundAndCalled
  rw [sg.bind]
  refine wpAny_bind (wpAny_pure ?_)
  refine wpAny_call_entry sg hT eg (run_oga ho hc hd hncls hs hid ht hl hcp hnd ⟨_, rfl, ?_⟩) (ag _ _)
  exact wpAny_pure h
end
end Mine
end
section
set_option maxRecDepth 100000
set_option Elab.async false
set_option linter.unusedVariables false
namespace Mine
open PySem PySem.W PySem.Calls PyProof.Rows PySem.SeqAt Builtin Builtin.ObjectAttr
noncomputable def del (H : AHeap) (a : Addr) : AHeap := fun b => if b = a then none else H b
theorem del_sub {H : AHeap} {a : Addr} : ∀ b o, del H a b = some o → H b = some o := fun b o e => by
  unfold del at e
  split at e
  · cases e
  · exact e
theorem del_self {H : AHeap} {a : Addr} : del H a a = none := by unfold del; rw [if_pos rfl]
section
variable {prog : Program} {w : World} {F : Fx} {st : St} {s s' s₀ : Shared} {H₀ H : AHeap} {X : Value → List Value → St → Prop} {K : Frag} {Q : Value → St → Prop} {pos : Pos} {a' b' : Value}
theorem Rel.lose (R : Rel prog w F st s) {it : Addr} {o o' : Obj} {h' : Heap} (hi : st.H it ≠ none) (ho : s.heap.get? it = some o) (hf : ∃ vs, o.data = .fields vs) (hs : Heap.SameBut it s.heap h') (ho' : h'.get? it = some o') {tk : Nat} :
    Rel prog w F ⟨st.vars, del st.H it⟩ { s with heap := h', toks := tk } ∧ After (frAddrs F.stk) F.own st.H s (del st.H it) { s with heap := h', toks := tk } := by
  have R1 := R.forget (st' := ⟨st.vars, del st.H it⟩) (fun _ _ e => e) del_sub
  refine ⟨R1.hid (s' := { s with heap := h', toks := tk }) ho del_self (R.1.notBase _ hi) (fun b ob hb e => (hs.2 b hb).trans e) rfl rfl hf, ?_⟩
  refine ⟨fun b ob e hn _ => ?_, fun b e => ?_, fun b e => .inl fun z => e ?_⟩
  · have : b ≠ it := fun q => hi (q ▸ hn)
    exact .refl ((hs.2 b this).trans e)
  · show h'.get? b ≠ none
    by_cases q : b = it
    · subst q; rw [ho']; exact nofun
    · rw [hs.2 b q]; exact e
  · cases q : del st.H it b with
    | none => rfl
    | some o => rw [del_sub _ _ q] at z; cases z
structure NewE (h h' : Heap) (e : Addr) (cls : Value) (args : List Value) : Prop where
  keeps : ∀ b o, h.get? b = some o → h'.get? b = some o
  new : h.get? e = none
  there : ∃ oe vs t ot n, h'.get? e = some oe ∧ oe.cls = cls ∧ oe.data = .fields vs ∧ vs[0]? = some (.ref t) ∧ vs[1]? = some .none ∧ h.get? t = none ∧ h'.get? t = some ot ∧ ot.cls = .type "tuple" ∧ ot.data = .seq args.toArray n
theorem NewE.of {h h' : Heap} {e : Addr} {cls : Value} {args : List Value} (M : Heap.MadeExcOf h h' e cls args) : NewE h h' e cls args :=
  ⟨M.keeps, M.new, let ⟨t, h1, h2, h3⟩ := M.there; ⟨_, _, t, _, 0, h1, rfl, rfl, rfl, rfl, h2, h3, rfl, rfl⟩⟩
theorem xpost_new {h' : Heap} {e : Addr} {cls : Value} {args' args : List Value} {tk : Nat} (R : Rel prog w F st s) (M : NewE s.heap h' e cls args') (ha : args'.map er = args) (x : X cls args st) :
    XPost prog w F X st.H s (.ref e) { s with heap := h', toks := tk } := by
  refine ex5and9 M.there fun oe vs t ot n h1 h2 h3 h4 h5 h6 h7 h8 h9 => ?_
  have R' := R.grow (s' := { s with heap := h', toks := tk }) M.keeps rfl rfl
  have hb : F.base.get? e = none := by
    cases q : F.base.get? e with
    | none => rfl
    | some o => have := R.1.stays _ _ q; rw [M.new] at this; cases this
  have hbt : F.base.get? t = none := by
    cases q : F.base.get? t with
    | none => rfl
    | some o => have := R.1.stays _ _ q; simp_all
  exact ⟨st, e, cls, args, none, rfl, ⟨oe, vs, t, args'.toArray, h1, h2, h3, h4, ⟨ot, h7, h8, n, h9⟩, ha, R.1.none_of M.new, ⟨M.new, hb⟩, ⟨R.1.none_of h6, h6, hbt⟩, .inl ⟨h5, rfl⟩⟩, fun _ _ => trivial, R', .grow _ _ M.keeps, x⟩
section
variable {A : Around} {E : Value → Shared → Prop}
theorem raise_stop {α : Type} {Q : α → Shared → Prop} (hh : A.handled = none) (h : ∀ h' e, NewE s.heap h' e (.type "StopIteration") [] → E (.ref e) { s with heap := h' }) :
    wpAny (model prog w) A (newExc (.type "StopIteration") [] >>= fun e => (raiseNew e : Sem α)) Q E s := by
  refine wpAny_bind ?_
  simp only [newExc, newTuple]
  refine wpAny_bind (wpAny_newObj_type ?_ (by size_fits))
  refine wpAny_bind (m := firstArgMember _ _) (wpAny_of_eq (a := Value.none) (by first | rfl | (simp only [firstArgMember]; rfl)) ?_)
  refine wpAny_newObj_type ?_ (by size_fits)
  simp only [raiseNew]
  refine wpAny_bind (wpAny_handled ?_)
  rw [hh]
  refine wpAny_bind (wpAny_pure (wpAny_throw (h _ _ ⟨fun b o e => Heap.get?_push_of_some _ (Heap.get?_push_of_some _ e), ?_, ?_⟩)))
  · exact Heap.get?_none_of_le (by simp)
  · refine exi5 _ _ s.heap.objs.size _ 0 ⟨Heap.get?_push_size _ rfl, rfl, rfl, rfl, rfl, Heap.get?_none_of_le (Nat.le_refl _), Heap.get?_push_of_some _ (Heap.get?_push_size _ rfl), rfl, rfl⟩
structure ItAt (h : Heap) (it : Addr) (o : Obj) (l : Addr) (i : Nat) (T : String) (items : Array Value) : Prop where
  at_ : h.get? it = some o
  cls : o.cls = .type (T ++ "_iterator")
  data : o.data = .fields #[.ref l, .int i 0]
  src : ∃ ol n, h.get? l = some ol ∧ ol.data = .seq items n
theorem next_body {it l : Addr} {o : Obj} {i : Nat} {T : String} {items : Array Value} {P : Fin → Shared → Prop} (hh : A.handled = none) (I : ItAt s.heap it o l i T items) {B : Builtin}
    (hB : (B = Builtin.«list_iterator.__next__») ∨ (B = Builtin.«tuple_iterator.__next__»))
    (hsome : ∀ x h', items[i]? = some x → h'.get? it = some { o with data := .fields #[.ref l, .int (i + 1 : Nat) 0] } → Heap.SameBut it s.heap h' → P (.done (.ret x)) { s with heap := h' })
    (hnone : ∀ o' h1 h' e, items[i]? = none → h1.get? it = some o' → Heap.SameBut it s.heap h1 → NewE h1 h' e (.type "StopIteration") [] → E (.ref e) { s with heap := h' }) :
    wpAny (model prog w) A (B ⟨[.ref it], []⟩) P E s := by
  obtain ⟨ho, hc, hd, ol, n, hol, hdl⟩ := I
  obtain ⟨oc, od, odt, osl⟩ := o
  dsimp only at hd
  subst hd
  have hd : (⟨oc, od, .fields #[.ref l, .int i 0], osl⟩ : Obj).data = .fields #[.ref l, .int i 0] := rfl
  have up : (s.heap.update it (Obj.mapFields (·.setIfInBounds 1 (rawInt (i + 1))))).get? it = some ⟨oc, od, .fields #[.ref l, .int (i + 1 : Nat) 0], osl⟩ := by
    rw [Heap.get?_update_self _ ho (Obj.isFreed_of_fields (Obj.data_mapFields hd _))]
    simp [Obj.mapFields, rawInt]
  rcases hB with rfl | rfl
  · refine wpAny_bind (m := field (.ref it) 0) (wpAny_field ho hd (x := .ref l) rfl ?_)
    show wpAny _ _ (if (Value.ref l == Value.none) = true then _ else _) _ _ s
    rw [if_neg (show ¬ ((Value.ref l == Value.none) = true) from Bool.false_ne_true)]
    show wpAny _ _ (field (.ref it) 1 >>= _) _ _ s
    refine wpAny_bind (wpAny_field ho hd (x := .int i 0) rfl ?_)
    show wpAny _ _ (seqItems? (.ref l) >>= _) _ _ s
    refine wpAny_bind (wpAny_seqItems hol hdl ?_)
    simp only [Int.toNat_natCast]
    cases hx : items[i]? with
    | some x =>
      refine wpAny_bind (wpAny_setField ho hd (by simp) (wpAny_pure (hsome x _ hx up (Heap.SameBut.update ..))))
    | none =>
      refine wpAny_bind (wpAny_rule (wpAny_bind (wpAny_setField ho hd (by simp) ?_)))
      exact raise_stop (s := { s with heap := _ }) hh fun h' e N => hnone _ _ h' e hx (Heap.get?_update_self _ ho (Obj.isFreed_of_fields (Obj.data_mapFields hd _))) (Heap.SameBut.update ..) N
  · refine wpAny_bind (m := field (.ref it) 0) (wpAny_field ho hd (x := .ref l) rfl ?_)
    show wpAny _ _ (if (Value.ref l == Value.none) = true then _ else _) _ _ s
    rw [if_neg (show ¬ ((Value.ref l == Value.none) = true) from Bool.false_ne_true)]
    show wpAny _ _ (field (.ref it) 1 >>= _) _ _ s
    refine wpAny_bind (wpAny_field ho hd (x := .int i 0) rfl ?_)
    show wpAny _ _ (seqItems? (.ref l) >>= _) _ _ s
    refine wpAny_bind (wpAny_seqItems hol hdl ?_)
    simp only [Int.toNat_natCast]
    cases hx : items[i]? with
    | some x =>
      refine wpAny_bind (wpAny_setField ho hd (by simp) (wpAny_pure (hsome x _ hx up (Heap.SameBut.update ..))))
    | none =>
      refine wpAny_bind (wpAny_rule (wpAny_bind (wpAny_setField ho hd (by simp) ?_)))
      exact raise_stop (s := { s with heap := _ }) hh fun h' e N => hnone _ _ h' e hx (Heap.get?_update_self _ ho (Obj.isFreed_of_fields (Obj.data_mapFields hd _))) (Heap.SameBut.update ..) N
end
end
end Mine
end
section
set_option maxRecDepth 100000
set_option Elab.async false
set_option linter.unusedVariables false
namespace Mine
open PySem PySem.W PySem.Calls PyProof.Rows PySem.SeqAt Builtin Builtin.ObjectAttr
section
variable {prog : Program} {w : World} {F : Fx} {st : St} {s s' s₀ : Shared} {H₀ H : AHeap} {X : Value → List Value → St → Prop} {K : Frag} {Q : Value → St → Prop} {pos : Pos} {a' b' : Value}
noncomputable abbrev listIter (l : Addr) (i : Nat) : Obj := { cls := .type "list_iterator", dict := none, data := .fields #[.ref l, .int i 0], slots := #[] }
noncomputable abbrev tupIter (l : Addr) (i : Nat) : Obj := { cls := .type "tuple_iterator", dict := none, data := .fields #[.ref l, .int i 0], slots := #[] }
noncomputable def ItIs (H : AHeap) (it l : Addr) (i : Nat) (xs : List Value) : Prop := (H it = some (.iter l i) ∧ H l = some (.list xs)) ∨ (H it = some (.titer l i) ∧ H l = some (.tup xs))
noncomputable def itT (H : AHeap) (it : Addr) : Bool := match H it with
  | some (.titer _ _) => true
  | _ => false
noncomputable def itUp (H : AHeap) (it l : Addr) (i : Nat) : AHeap := upd H it (bif itT H it then .titer l i else .iter l i)
theorem itUp_l {H : AHeap} {it a l : Addr} {b i : Nat} (h : H it = some (.iter a b)) : itUp H it l i = upd H it (.iter l i) := by
  have e : itT H it = false := by unfold itT; rw [h]
  unfold itUp; rw [e]; rfl
theorem itUp_t {H : AHeap} {it a l : Addr} {b i : Nat} (h : H it = some (.titer a b)) : itUp H it l i = upd H it (.titer l i) := by
  have e : itT H it = true := by unfold itT; rw [h]
  unfold itUp; rw [e]; rfl
theorem step_it {it l : Addr} {i : Nat} {xs : List Value} {A : Around} {P : Fin → Shared → Prop} {E : Value → Shared → Prop} (hh : A.handled = none) (R : Rel prog w F st s) (I : ItIs st.H it l i xs)
    (hsome : ∀ x h', xs[i]? = some (er x) → Rel prog w F ⟨st.vars, itUp st.H it l (i + 1)⟩ { s with heap := h' } → After (frAddrs F.stk) F.own st.H s (itUp st.H it l (i + 1)) { s with heap := h' } → P (.done (.ret x)) { s with heap := h' })
    (hnone : ∀ h' e, xs[i]? = none → XPost prog w F (fun c a st' => c = .type "StopIteration" ∧ a = [] ∧ st' = ⟨st.vars, del st.H it⟩) st.H s (.ref e) { s with heap := h' } → E (.ref e) { s with heap := h' }) :
    ∃ T B, s.TypeIs (.ref it) T ∧ ((T = "list_iterator" ∧ B = Builtin.«list_iterator.__next__») ∨ (T = "tuple_iterator" ∧ B = Builtin.«tuple_iterator.__next__»)) ∧ wpAny (model prog w) A (B ⟨[.ref it], []⟩) P E s := by
  have fin0 : ∀ {o : Obj}, st.H it ≠ none → s.heap.get? it = some o → (∃ vs, o.data = .fields vs) → ∀ o' h1 h' e, xs[i]? = none → h1.get? it = some o' → Heap.SameBut it s.heap h1 → NewE h1 h' e (.type "StopIteration") [] → E (.ref e) { s with heap := h' } := by
    intro o hne ho hf o' h1 h' e hx e1 hs N
    obtain ⟨R1, A1⟩ := R.lose (tk := s.toks) hne ho hf hs e1
    exact hnone h' e hx ((xpost_new (s := { s with heap := h1 }) (tk := s.toks) R1 N rfl ⟨rfl, rfl, rfl⟩).older A1)
  rcases I with ⟨h1, h2⟩ | ⟨h1, h2⟩
  · obtain ⟨o, ho, rfl⟩ := R.1.cells _ _ h1
    obtain ⟨items, ⟨ol, hol, hcl, n, hdl⟩, he⟩ := list_at R.1 h2
    have hne : st.H it ≠ none := by rw [h1]; exact nofun
    have e0 : xs[i]? = items[i]?.map er := by rw [← he, List.getElem?_map, Array.getElem?_toList]
    refine exi2 ("list_iterator") _ ⟨⟨_, ho, rfl⟩, .inl ⟨rfl, rfl⟩, next_body hh (T := "list") ⟨ho, rfl, rfl, ol, n, hol, hdl⟩ (.inl rfl) (fun x h' hx e4 hs => ?_) fun o' h1' h' e hx => fin0 hne ho ⟨_, rfl⟩ o' h1' h' e (by rw [e0, hx]; rfl)⟩
    have hk : ∀ b ob, b ≠ it → s.heap.get? b = some ob → h'.get? b = some ob := fun b ob hb e => (hs.2 b hb).trans e
    have hu : itUp st.H it l (i + 1) = upd st.H it (.iter l (i + 1)) := itUp_l h1
    rw [hu] at hsome
    exact hsome x h' (by rw [e0, hx]; rfl) (R.set (s' := { s with heap := h' }) hne hk rfl rfl e4 rfl) (After.set (s' := { s with heap := h' }) _ _ hne hk e4)
  · obtain ⟨o, ho, rfl⟩ := R.1.cells _ _ h1
    obtain ⟨items, ⟨ol, hol, hcl, n, hdl⟩, he⟩ := tup_at R.1 h2
    have hne : st.H it ≠ none := by rw [h1]; exact nofun
    have e0 : xs[i]? = items[i]?.map er := by rw [← he, List.getElem?_map, Array.getElem?_toList]
    refine exi2 ("tuple_iterator") _ ⟨⟨_, ho, rfl⟩, .inr ⟨rfl, rfl⟩, next_body hh (T := "tuple") ⟨ho, rfl, rfl, ol, n, hol, hdl⟩ (.inr rfl) (fun x h' hx e4 hs => ?_) fun o' h1' h' e hx => fin0 hne ho ⟨_, rfl⟩ o' h1' h' e (by rw [e0, hx]; rfl)⟩
    have hk : ∀ b ob, b ≠ it → s.heap.get? b = some ob → h'.get? b = some ob := fun b ob hb e => (hs.2 b hb).trans e
    have hu : itUp st.H it l (i + 1) = upd st.H it (.titer l (i + 1)) := itUp_t h1
    rw [hu] at hsome
    exact hsome x h' (by rw [e0, hx]; rfl) (R.set (s' := { s with heap := h' }) hne hk rfl rfl e4 rfl) (After.set (s' := { s with heap := h' }) _ _ hne hk e4)
theorem T_next {it l : Addr} {i : Nat} {xs : List Value} (hh : F.A.handled = none) (I : ItIs st.H it l i xs)
    (hsome : ∀ x, xs[i]? = some x → Q x ⟨st.vars, itUp st.H it l (i + 1)⟩) (hnone : xs[i]? = none → X (.type "StopIteration") [] ⟨st.vars, del st.H it⟩) : T prog w F (call (.builtin "next") [.ref it]) Q X st := fun s R => by
  refine call_function_entry (by decide +kernel) (by decide +kernel) bi_next (ok_next _) ?_
  unfold Builtin.«next»
  refine wpAny_bind (m := someArgs "next" 1 2 _) (wpAny_of_eq (a := [Value.ref it]) (by first | rfl | kernel_rfl) ?_)
  obtain ⟨T, B, hT, hTB, hB⟩ := step_it (A := F.A.in1.in1) (P := fun fin s' => ∃ v, fin = .done (.ret v) ∧ ∃ st', Rel prog w F st' s' ∧ After (frAddrs F.stk) F.own st.H s st'.H s' ∧ Q (Er.e v) st') (E := XPost prog w F X st.H s) hh R I
    (fun x h' hx R' A' => ⟨x, rfl, _, R', A', hsome _ hx⟩)
    (fun h' e hx z => by refine ex5and8 z fun st' ea cls args fl q1 q2 q3 q4 q5 q6 q7 q8 => ?_; try clear z; exact ⟨st', ea, cls, args, fl, q1, q2, q3, q4, q5, by subst q6 q7 q8; exact hnone hx⟩)
  rcases hTB with ⟨rfl, rfl⟩ | ⟨rfl, rfl⟩
  · refine wpAny_bind (wpAny_specialOf hT slot_listiter_next.lookup ?_)
    dsimp only [Option.isNone]
    refine wpAny_bind (wpAny_callSpecial?_slot (name := Str.ofString "__next__") hT slot_listiter_next (wpAny_call_entry slot_listiter_next hT entry_listiter_next ?_ (args_listiter_next _)))
    exact wpAny_mono hB (fun fin s' ⟨v, e, q⟩ => ⟨v, e, wpAny_pure ⟨v, rfl, q⟩⟩) fun _ _ x => x
  · refine wpAny_bind (wpAny_specialOf hT PySem.F.slot_tuple_iterator_next.lookup ?_)
    dsimp only [Option.isNone]
    refine wpAny_bind (wpAny_callSpecial?_slot (name := Str.ofString "__next__") hT PySem.F.slot_tuple_iterator_next (wpAny_call_entry PySem.F.slot_tuple_iterator_next hT PySem.F.entry_tuple_iterator_next ?_ (PySem.F.args_tuple_iterator_next_1 _)))
    exact wpAny_mono hB (fun fin s' ⟨v, e, q⟩ => ⟨v, e, wpAny_pure ⟨v, rfl, q⟩⟩) fun _ _ x => x
theorem T_iterL {l : Addr} {xs : List Value} (N : NoSys F.toFc) (hl : st.H l = some (.list xs)) (h : ∀ a, st.H a = none → Q (.ref a) ⟨st.vars, upd st.H a (.iter l 0)⟩) : T prog w F (call (.builtin "iter") [.ref l]) Q X st := fun s R => by
  obtain ⟨items, hi, he⟩ := list_at R.1 hl
  refine call_function_entry (by decide +kernel) (by decide +kernel) bi_iter (ok_iter _) ?_
  unfold Builtin.«iter»
  refine wpAny_bind (m := someArgs "iter" 1 2 _) (wpAny_of_eq (a := [Value.ref l]) (by first | rfl | kernel_rfl) ?_)
  show wpAny _ _ (pyIter (.ref l) >>= _) _ _ _
  have hnull : s.heap.get? s.heap.objs.size = none := Heap.get?_none_of_le (Nat.le_refl _)
  refine wpAny_bind (wpAny_pyIter_list hi (wpAny_pure ⟨_, rfl, _, R.new (s' := { s with heap := s.heap.push (listIter l 0) }) (fun b o e => Heap.get?_push_of_some _ e) rfl rfl hnull (Heap.get?_push_size _ rfl) (o := .iter l 0) rfl, ?_, h _ R.1.fresh⟩))
  exact .new (s' := { s with heap := s.heap.push (listIter l 0) }) _ _ (fun b o e => Heap.get?_push_of_some _ e) hnull
theorem T_iterT {l : Addr} {xs : List Value} (N : NoSys F.toFc) (hl : st.H l = some (.tup xs)) (h : ∀ a, st.H a = none → Q (.ref a) ⟨st.vars, upd st.H a (.titer l 0)⟩) : T prog w F (call (.builtin "iter") [.ref l]) Q X st := fun s R => by
  obtain ⟨items, hi, he⟩ := tup_at R.1 hl
  refine call_function_entry (by decide +kernel) (by decide +kernel) bi_iter (ok_iter _) ?_
  unfold Builtin.«iter»
  refine wpAny_bind (m := someArgs "iter" 1 2 _) (wpAny_of_eq (a := [Value.ref l]) (by first | rfl | kernel_rfl) ?_)
  show wpAny _ _ (pyIter (.ref l) >>= _) _ _ _
  have hnull : s.heap.get? s.heap.objs.size = none := Heap.get?_none_of_le (Nat.le_refl _)
  refine wpAny_bind (wpAny_pyIter_tuple hi (wpAny_pure ⟨_, rfl, _, R.new (s' := { s with heap := s.heap.push (tupIter l 0) }) (fun b o e => Heap.get?_push_of_some _ e) rfl rfl hnull (Heap.get?_push_size _ rfl) (o := .titer l 0) rfl, ?_, h _ R.1.fresh⟩))
  exact .new (s' := { s with heap := s.heap.push (tupIter l 0) }) _ _ (fun b o e => Heap.get?_push_of_some _ e) hnull
theorem slot_liga : Slot "list_iterator" "__getattribute__" "object.__getattribute__" :=
  .of (owner := "object") (n := "__getattribute__") (by rw [typeLookup_type, builtinLookup_eq_fast]; kernel_rfl) (by decide +kernel) (by decide +kernel) (by decide +kernel)
    (by first | exact .inl (by decide +kernel) | exact .inr (by decide +kernel)) (by rw [isSubtype_type]; kernel_rfl)
theorem entry_liga : entryFor table "object.__getattribute__" = some Builtin.«object.__getattribute__» := entryFor_of_tree (by kernel_rfl)
theorem args_liga (a b : Value) : argsOk "object.__getattribute__" ⟨[a, b], []⟩ := by unfold argsOk; kernel_rfl
theorem sub_ll : isSubtype (.type "list") (.type "list") = pure true := by rw [isSubtype_type]; kernel_rfl
theorem bm_new {l : Addr} {id : String} {h : ∀ a, st.H a = none → Q (.ref a) ⟨st.vars, upd st.H a (.bm "method-wrapper" (.builtin id) (.ref l))⟩} (R : Rel prog w F st s) :
    ∃ st', Rel prog w F st' { s with heap := s.heap.push { cls := .type "method-wrapper", data := .fields #[.builtin id, .ref l] }, toks := s.toks + 1 } ∧ After (frAddrs F.stk) F.own st.H s st'.H { s with heap := s.heap.push { cls := .type "method-wrapper", data := .fields #[.builtin id, .ref l] }, toks := s.toks + 1 } ∧ Q (.ref s.heap.objs.size) st' := by
  have hnull : s.heap.get? s.heap.objs.size = none := Heap.get?_none_of_le (Nat.le_refl _)
  exact ⟨_, R.new (s' := { s with heap := s.heap.push { cls := .type "method-wrapper", data := .fields #[.builtin id, .ref l] }, toks := s.toks + 1 }) (fun b o e => Heap.get?_push_of_some _ e) rfl rfl hnull (Heap.get?_push_size _ rfl) (o := .bm "method-wrapper" (.builtin id) (.ref l)) ⟨rfl, _, rfl, rfl⟩,
    .new (s' := { s with heap := s.heap.push { cls := .type "method-wrapper", data := .fields #[.builtin id, .ref l] }, toks := s.toks + 1 }) _ _ (fun b o e => Heap.get?_push_of_some _ e) hnull, h _ R.1.fresh⟩
theorem T_getIn {l : Addr} {xs : List Value} (hl : st.H l = some (.list xs)) (h : ∀ a, st.H a = none → Q (.ref a) ⟨st.vars, upd st.H a (.bm "method-wrapper" (.builtin "list.__contains__") (.ref l))⟩) : T prog w F (getAttr (.ref l) "__contains__" true) Q X st := fun s R => by
  obtain ⟨items, n, ho, he⟩ := plain_at R.1 hl
  exact getAttr_bm ho rfl rfl rfl sub_ll (.inl ⟨rfl, rfl⟩) type_lc PySem.F.slot_list_contains.lookup (by decide +kernel) (by decide +kernel) PySem.F.slot_list_getattribute am_entry_list_getattribute PySem.F.args_list_getattribute_2 (bm_new (h := h) R)
theorem T_getNext {it l : Addr} {i : Nat} (hi : st.H it = some (.iter l i)) (h : ∀ a, st.H a = none → Q (.ref a) ⟨st.vars, upd st.H a (.bm "method-wrapper" (.builtin "list_iterator.__next__") (.ref it))⟩) : T prog w F (getAttr (.ref it) "__next__" true) Q X st := fun s R => by
  obtain ⟨o, ho, rfl⟩ := R.1.cells _ _ hi
  exact getAttr_bm ho rfl rfl rfl sub_li (.inr ⟨rfl, rfl⟩) type_ln slot_listiter_next.lookup (by decide +kernel) (by decide +kernel) slot_liga entry_liga args_liga (bm_new (h := h) R)
end
end Mine
end
section
set_option maxRecDepth 100000
set_option Elab.async false
set_option linter.unusedVariables false
namespace Mine
open PySem PySem.W PySem.Calls PyProof.Rows PySem.SeqAt Builtin Builtin.ObjectAttr
section
variable {prog : Program} {w : World} {F : Fx} {st : St} {s s' s₀ : Shared} {H₀ H : AHeap} {X : Value → List Value → St → Prop} {K : Frag} {Q : Value → St → Prop} {pos : Pos} {a' b' : Value}
theorem check_lc (l : Addr) (x : Value) : checkBoundCall "list.__contains__" ⟨[.ref l, x], []⟩ = pure () := by first | kernel_rfl | rfl
theorem check_ln (l : Addr) : checkBoundCall "list_iterator.__next__" ⟨[.ref l], []⟩ = pure () := by first | kernel_rfl | rfl
theorem call_wrapper {A : Around} {E : Value → Shared → Prop} {b : Addr} {ob : Obj} {id : String} {self : Value} {args : List Value} {B : Builtin} {Q : Value → Shared → Prop} (ho : s.heap.get? b = some ob) (hc : ob.cls = .type "method-wrapper") (hd : ob.data = .fields #[.builtin id, self])
    (ck : checkBoundCall id ⟨self :: args, []⟩ = pure ()) (hp : plainId id = true) (hb : entryFor table id = some B)
    (h : wpAny (model prog w) A.in1 (B ⟨self :: args, []⟩) (fun fin s' => match fin with | .done f => wants Q E (.ok f) s' | .again c' => c'.quiet = true ∧ codeAny (model prog w) A c' (wants Q E) s') (fun e s' => wants Q E (.error e) s') s) :
    wpAny (model prog w) A (call (.ref b) args) Q E s := by
  obtain ⟨oc, od, odt, osl⟩ := ob
  dsimp only at hc hd
  subst hc hd
  refine wpAny_call (codeAny_of_tree ?_)
  show wpAny _ A.in1 (callAny (.ref b) ⟨args, []⟩) _ _ s
  simp only [callAny]
  refine wpAny_bind (wpAny_load ho ?_)
  simp only [show (Value.type "method-wrapper" == Value.type "method" || Value.type "method-wrapper" == Value.type "builtin_function_or_method" || Value.type "method-wrapper" == Value.type "method-wrapper") = true by decide, if_true]
  refine wp_if (by decide) ?_
  refine wpAny_bind (wpAny_of_eq (a := ()) ck ?_)
  refine wpAny_bind (wpAny_pure (wpAny_pure ?_))
  refine ⟨plainId_quiet hp _, codeAny_builtin hb ?_⟩
  rw [Around.under_plainId hp]
  exact h
theorem T_callIn {b l : Addr} {x' : Value} {d : PyData} {ds : List PyData} (hb : st.H b = some (.bm "method-wrapper" (.builtin "list.__contains__") (.ref l))) (hx : Rd st.H d (er x')) (hl : Rd st.H (.list ds) (.ref l)) (ca : d.canLay0 = true) (cb : PyData.canLayAll0 ds = true)
    (hu : F.A.units + 1 + min (PyData.depthAll ds) d.depth < cLine) (h : Q (.bool (ds.any fun y => PyData.eqv y d)) st) : T prog w F (call (.ref b) [x']) Q X st := fun s R => by
  refine ex1and3 (R.1.cells _ _ hb) fun ob hob hc y3_ => ?_; obtain ⟨s', hd, hs⟩ := y3_
  have hs := er_ref hs
  subst hs
  obtain ⟨bs, rx⟩ := Rd.reads R.1 hx
  refine ex2and3 hl fun l' xs e hlx hrd => ?_; try clear hl
  cases e
  obtain ⟨items, n, ho, he⟩ := plain_at R.1 hlx
  obtain ⟨as, rs⟩ := RdAll.reads R.1 (ds := ds) (vs := items.toList) (by rw [he]; exact hrd)
  refine call_wrapper hob hc hd (check_lc _ _) PySem.F.slot_list_contains.plain PySem.F.entry_list_contains ?_
  refine list_containsAt l items n none #[] x' _ prog w F.A _ s ⟨ho, items_eqAt rs rx cb ca hu, ?_⟩
  rw [any_by_data rs cb]
  exact ⟨st, R, .refl _ _ _ _, h⟩
theorem T_callNext {b it l : Addr} {i : Nat} {xs : List Value} (hh : F.A.handled = none) (hb : st.H b = some (.bm "method-wrapper" (.builtin "list_iterator.__next__") (.ref it))) (hi : st.H it = some (.iter l i)) (hl : st.H l = some (.list xs))
    (hsome : ∀ x, xs[i]? = some x → Q x ⟨st.vars, upd st.H it (.iter l (i + 1))⟩) (hnone : xs[i]? = none → X (.type "StopIteration") [] ⟨st.vars, del st.H it⟩) : T prog w F (call (.ref b) []) Q X st := fun s R => by
  refine ex1and3 (R.1.cells _ _ hb) fun ob hob hc y3_ => ?_; obtain ⟨s', hd, hs⟩ := y3_
  have hs := er_ref hs
  subst hs
  refine call_wrapper hob hc hd (check_ln _) slot_listiter_next.plain entry_listiter_next ?_
  have hu : itUp st.H it l (i + 1) = upd st.H it (.iter l (i + 1)) := itUp_l hi
  obtain ⟨T, B, hT, hTB, hB⟩ := step_it (A := F.A.in1) (P := fun fin s' => match fin with | .done f => wants (fun v s' => ∃ st', Rel prog w F st' s' ∧ After (frAddrs F.stk) F.own st.H s st'.H s' ∧ Q (Er.e v) st') (XPost prog w F X st.H s) (.ok f) s' | .again c' => c'.quiet = true ∧ codeAny (model prog w) F.A c' (wants (fun v s' => ∃ st', Rel prog w F st' s' ∧ After (frAddrs F.stk) F.own st.H s st'.H s' ∧ Q (Er.e v) st') (XPost prog w F X st.H s)) s')
    (E := fun e s' => wants (fun v s' => ∃ st', Rel prog w F st' s' ∧ After (frAddrs F.stk) F.own st.H s st'.H s' ∧ Q (Er.e v) st') (XPost prog w F X st.H s) (.error e) s') hh R (.inl ⟨hi, hl⟩)
    (fun x h' hx R' A' => ⟨_, R', A', hu ▸ hsome _ hx⟩)
    (fun h' e hx hz => ex5and8 hz fun st' ea cls args fl q1 q2 q3 q4 q5 q6 q7 q8 => ⟨st', ea, cls, args, fl, q1, q2, q3, q4, q5, by subst q6 q7 q8; exact hnone hx⟩)
  rcases hTB with ⟨rfl, rfl⟩ | ⟨rfl, rfl⟩
  · exact hB
  · obtain ⟨o, ho, rfl⟩ := R.1.cells _ _ hi
    obtain ⟨o2, ho2, hc2⟩ := hT
    rw [ho] at ho2
    cases ho2
    exact absurd (show Value.type "list_iterator" = Value.type "tuple_iterator" from hc2) (by decide)
end
end Mine
end
section
set_option maxRecDepth 100000
set_option Elab.async false
set_option linter.unusedVariables false
namespace Mine
open PySem PySem.W PySem.Calls PyProof.Rows PySem.SeqAt
structure OwnExc (C : Addr) (bmB : List Value) (newId : String) (h : Heap) : Prop where
  obj : ∃ bm N nm q bs hdct sn sub ab col dd k0 k1 k2 k3 k5 mN, h.get? C = some (excClassObj nm q C N bs bm hdct sn sub ab col dd k0 k1 k2 k3 k5 newId) ∧ h.Ns N mN ∧ mN "__init__" = none ∧ OwnTail h bmB bm
theorem OwnTail.keeps' {h h' : Heap} {bmB tl : List Value} (T : OwnTail h bmB tl) (k : ∀ b o, h.get? b = some o → h'.get? b = some o) : OwnTail h' bmB tl := by
  induction T with
  | base => exact .base
  | own a b c _ ih => exact .own (k _ _ a) (b.keeps k) c ih
noncomputable abbrev marked (F : Fx) (ea : Addr) : Fx := { F with A := F.A.mark (some (.ref ea)) }
section
variable {prog : Program} {w : World} {F : Fx} {st : St} {s s' s₀ : Shared} {H₀ H : AHeap} {X : Value → List Value → St → Prop} {K : Frag} {pos : Pos}
theorem T_raiseOwn {C : Addr} {B newId initId : String} {bmB : List Value} (FB : ExcBaseFacts B newId initId bmB) (O : OwnExc C bmB newId F.base) {x : Str} {np cpos : Pos} {args : List Expr} {t : Sem Value} {trees : List (Bool × Sem Value)} {Q : Flow → St → Prop} (hh : F.A.handled = none)
    (ht : backTo cpos (starEach args F.env) = (false, t) :: trees) (hplain : trees.any (·.1) = false)
    (h : T prog w F (eval (.Name x np) F.env) (fun f st₁ => f = .ref C ∧ T prog w F (spliced ((false, t) :: trees)) (fun vs st₂ => vs.length ≤ 1000 ∧ X (.ref C) vs st₂) X st₁) X st) :
    T prog w F (exec (.Raise (some (.Call (.Name x np) args [] cpos)) none pos) F.env) Q X st := fun s R => by
  refine ex17and4 O.obj fun bm N nm q bs hdct sn sub ab col dd k0 k1 k2 k3 k5 mN hC hN hi OT => ?_
  refine wpAny_Raise_call_subT FB (nm := nm) (q := q) (N := N) (bs := bs) (hdct := hdct) (sn := sn) (sub := sub) (ab := ab) (col := col) (dd := dd) (k0 := k0) (k1 := k1) (k2 := k2) (k3 := k3) (k5 := k5) (OT.hasType FB.hasBase) hh (by rw [ht]; show (false || trees.any (·.1)) = false; rw [hplain]; rfl) hi (h.then R (.refl _ _ _ _) fun f s₁ st₁ R₁ A₁ ⟨hf, h₁⟩ => ⟨er_ref hf, ?_⟩)
  rw [ht]
  refine Calls.evalArgs_plain (h₁.then R₁ A₁ fun vs s₂ st₂ R₂ A₂ ⟨hl, q⟩ => ⟨rfl, ?_, R₂.1.stays _ _ hC, hN.keeps R₂.1.stays, OwnTail.keeps' OT R₂.1.stays, fun h' e M => ?_⟩)
  · have hl' : (List.map er vs).length ≤ 1000 := hl
    rw [List.length_map] at hl'
    show vs.length ≤ sizeLine
    rw [sizeLine_eq]; omega
  · exact XPost.older (xpost_new (s := s₂) (tk := s₂.toks) R₂ (.of M) rfl q) A₂
noncomputable def Caught (prog : Program) (w : World) (F : Fx) (hs : List ExceptHandler) (cls : Value) (args : List Value) (Q : Flow → St → Prop) (X : Value → List Value → St → Prop) (st : St) : Prop :=
  ∀ s ea H₀ s₀, Rel prog w F st s → ExcAt F.base s₀.heap st.H s.heap ea cls args (some .none) → (∃ st₀, Rel prog w F st₀ s₀) → After (frAddrs F.stk) F.own H₀ s₀ st.H s →
    wpAny (model prog w) F.A (handleBy (.ref ea) F.env hs) (fun f s' => ∃ st', Rel prog w F st' s' ∧ After (frAddrs F.stk) F.own H₀ s₀ st'.H s' ∧ Q (Er.e f) st') (XPost prog w F X H₀ s₀) s
theorem T_try {body orelse : List Stmt} {h₀ : ExceptHandler} {hs : List ExceptHandler} {Q : Flow → St → Prop} {outer : List Env} {L : Addr} (U : Runs F outer L)
    (h : T prog w F (execs body F.env) (fun f st₁ => match f with | .next => T prog w F (execs orelse F.env) Q X st₁ | f => Q f st₁) (fun cls args st₁ => Caught prog w F (h₀ :: hs) cls args Q X st₁) st) :
    T prog w F (exec (.Try body (h₀ :: hs) orelse [] pos) F.env) Q X st := fun s R => by
  refine wpAny_Try_except (wpAny_mono (h s R) (fun f s₁ ⟨st₁, R₁, A₁, q⟩ => ?_) fun e s₁ x => ?_)
  · cases f with
    | next => exact T.then q R₁ A₁ fun f s₂ st₂ R₂ A₂ q => ⟨st₂, R₂, A₂, q⟩
    | brk => exact ⟨st₁, R₁, A₁, q⟩
    | cont => exact ⟨st₁, R₁, A₁, q⟩
    | ret v => exact ⟨st₁, R₁, A₁, q⟩
  · refine ex5and6 x fun st₁ ea cls args fl y5_ x1 x2 R₁ A₁ q => ?_; try clear x; obtain rfl := y5_
    refine note U R₁ x1 (x2 L U.frame) A₁.alive fun s₂ W x₂ => ?_
    have A₂ := A₁.flew W
    refine flight W.rel x₂ A₂.alive fun s₃ W₃ x₃ => ?_
    exact q s₃ ea st.H s W₃.rel x₃ ⟨st, R⟩ (A₂.flew W₃)
theorem Rel.marked (R : Rel prog w F st s) (ea : Addr) : Rel prog w (marked F ea) st s := ⟨⟨R.1.stays, R.1.cells, R.1.notBase, R.1.frames, R.1.frCls, R.1.gens, R.1.os⟩, ⟨R.2.loc, R.2.cel, R.2.locH, R.2.locB, R.2.celO, R.2.inj, R.2.ownA⟩⟩
theorem Rel.unmarked {ea : Addr} (R : Rel prog w (Mine.marked F ea) st s) : Rel prog w F st s := ⟨⟨R.1.stays, R.1.cells, R.1.notBase, R.1.frames, R.1.frCls, R.1.gens, R.1.os⟩, ⟨R.2.loc, R.2.cel, R.2.locH, R.2.locB, R.2.celO, R.2.inj, R.2.ownA⟩⟩
theorem land {ea : Addr} {cls : Value} {args : List Value} {Q : Unit → Shared → Prop} {E : Value → Shared → Prop} (R : Rel prog w F st s) (x : ExcAt F.base s₀.heap st.H s.heap ea cls args (some .none)) (al : ∀ b, s₀.heap.get? b ≠ none → s.heap.get? b ≠ none)
    (h : ∀ s', Flew prog w F st s₀.heap s s' → Q () s') : wpAny (model prog w) (F.A.mark (some (.ref ea))) (setFlight (.ref ea) none) Q E s :=
  flight (F := marked F ea) (R.marked ea) x al fun s' W _ => h s' ⟨W.rel.unmarked, W.keep⟩
noncomputable def Evals (prog : Program) (w : World) (F : Fx) (t : Expr) (c : Value) (st : St) : Prop := ∀ A s (Q : Value → Shared → Prop) (E : Value → Shared → Prop), Rel prog w F st s → Q c s → wpAny (model prog w) A (eval t F.env) Q E s
theorem Evals.nameB {x : Str} {p : Pos} {v : Value} {mg mb : Str → Option Value} (G : Glb F.toFc mg mb) (hg : F.env.globals = mainGlobals) (hb : F.env.builtins = builtinsNs) (hn : mg x = none) (hv : mb x = some v) (hk : F.env.kindOf x = some .globalImplicit) (hf : F.env.scope.kind = .function)
    (hd : (x == ("__debug__" : Str)) = false) : Evals prog w F (.Name x p) v st := fun A s Q E R h =>
  Name_function_global hf hk (loadGlobal_builtin (hg ▸ G.g.keeps R.1.stays) hn (hb ▸ G.b.keeps R.1.stays) hv h) hd
theorem suite_end {ea : Addr} {cls : Value} {args : List Value} {suite : List Stmt} {Q : Flow → St → Prop} {E : Value → Shared → Prop} (x : ExcAt F.base s₀.heap st.H s.heap ea cls args (some .none)) (R : Rel prog w F st s) (A : After (frAddrs F.stk) F.own H₀ s₀ st.H s)
    (h : T prog w (marked F ea) (execs suite F.env) Q NoX st) :
    wpAny (model prog w) (F.A.mark (some (.ref ea))) (setFlight (.ref ea) none) (fun _ s₂ => wpAny (model prog w) (F.A.mark (some (.ref ea))) (execs suite F.env) (fun f s' => ∃ st', Rel prog w F st' s' ∧ After (frAddrs F.stk) F.own H₀ s₀ st'.H s' ∧ Q (Er.e f) st') E s₂) E s := by
  refine land R x A.alive fun s₂ W => ?_
  exact h.thenN (F := marked F ea) (W.rel.marked ea) (A.flew W) fun f s₃ st₃ R₃ A₃ q => ⟨st₃, R₃.unmarked, A₃, q⟩
theorem Caught.builtin {Xc Tc : String} {args : List Value} {t : Expr} {b₀ : Stmt} {suite : List Stmt} {hpos : Pos} {rest : List ExceptHandler} {Q : Flow → St → Prop}
    (hexc : isSubtype (.type Tc) (.type "BaseException") = pure true) (hnt : isSubtype (.type ((Manifest.find? Tc).elim "type" fun x => x.metatype)) (.type "tuple") = pure false)
    (hsub : isSubtype (.type Xc) (.type Tc) = pure true) (ht : Evals prog w F t (.type Tc) st)
    (h : ∀ ea, T prog w (marked F ea) (execs (b₀ :: suite) F.env) Q NoX st) :
    Caught prog w F (.ExceptHandler (some t) none (b₀ :: suite) hpos :: rest) (.type Xc) args Q X st := by
  intro s ea H₀ s₀ R x hR₀ A
  refine wpAny_handleBy_builtin hexc hnt hsub (b := true) (ht _ _ _ _ R ⟨rfl, ?_, suite_end x R A (h ea)⟩)
  refine ex4and3 x fun oe vs ta items h1 h2 _ => ?_; try clear x
  exact ⟨oe, h1, h2⟩
end
end Mine
end
section
set_option maxRecDepth 100000
set_option Elab.async false
set_option linter.unusedVariables false
namespace Mine
open PySem PySem.W PySem.Calls PyProof.Rows PySem.SeqAt
section
variable {prog : Program} {w : World} {F : Fx} {st : St} {s s' s₀ : Shared} {H₀ H : AHeap} {X : Value → List Value → St → Prop} {K : Frag} {Q : Value → St → Prop} {pos : Pos} {a' b' : Value}
theorem T_joined1 {v : Expr} (h : T prog w F (eval v F.env) Q X st) : T prog w F (eval (.JoinedStr [v] pos) F.env) Q X st := fun s R => JoinedStr_one (h s R)
end
end Mine
end
section
set_option maxRecDepth 100000
set_option Elab.async false
set_option linter.unusedVariables false
namespace Mine
open PySem PySem.W PySem.Calls PyProof.Rows PySem.SeqAt
section
variable {prog : Program} {w : World} {s s' s₀ : Shared} {H₀ H H' : AHeap} {st : St} {K : Frag}
theorem HRel.re {F : Fc} {A : Around} (R : HRel prog w F H s) : HRel prog w { F with A := A } H s := ⟨R.stays, R.cells, R.notBase, R.frames, R.frCls, R.gens, R.os⟩
theorem HRel.un {F : Fc} {A : Around} (R : HRel prog w { F with A := A } H s) : HRel prog w F H s := ⟨R.stays, R.cells, R.notBase, R.frames, R.frCls, R.gens, R.os⟩
theorem creation_ok {F : Fc} {n : Nat} {C : Addr} {vals : List Value} (O : F.Ok (n + 1)) : ({ F with A := F.A.under (.builtin "type.__call__" ⟨.ref C :: vals, []⟩) } : Fc).Ok n := by
  obtain ⟨o1, o2, o3, o4, o5⟩ := O
  refine ⟨?_, ?_, ?_, o4, o5⟩
  · show pushEnvs [] F.A.frames = some F.stk
    rw [o1]; rfl
  · show F.A.depth + 1 + n < 900
    omega
  · have e : (F.A.under (.builtin "type.__call__" ⟨.ref C :: vals, []⟩)).units = F.A.units + (Code.builtin "type.__call__" ⟨.ref C :: vals, []⟩).cUnits := rfl
    have e2 : (Code.builtin "type.__call__" ⟨.ref C :: vals, []⟩).cUnits ≤ 3 := by
      have : (Code.builtin "type.__call__" ⟨.ref C :: vals, []⟩).cUnits = 1 := rfl
      omega
    show (F.A.under _).units + 10 * n < 5000
    omega
theorem Calls.make {F : Fc} {n : Nat} {C fI : Addr} {args : List Value} {Q : Value → AHeap → Prop} {X : Value → List Value → AHeap → Prop} (KX : K.In F.base) (O : F.Ok (n + 1)) (hm : makesIn K C = true)
    (hi : findIn K (.ref C) "__init__" = some (some (.ref fI))) (hf : isFn K (.ref fI) = true) (slotted : Bool)
    (h : ∀ A', ({ F with A := A' } : Fc).Ok n → ∀ x d, H x = none → H d = none → x ≠ d →
      Calls prog w { F with A := A' } (.ref fI) (.ref x :: args) (upd (upd H d (.ns [])) x (if slotted then .slots C d [] else .inst C d)) (fun v H' => v = .none ∧ Q (.ref x) H') X) :
    Calls prog w F (.ref C) args H Q X := by
  intro s args' ha R
  have KS : K.In s.heap := KX.keeps R.stays
  obtain ⟨hp, g, d, t, os⟩ := s
  refine make_core (makes_of KS hm) (looks_findIn KS hi) (fun self => bind_fn KS self (beq_iff_eq.mp hf)) (.inl rfl) ?_
  have n1 : hp.get? hp.objs.size = none := Heap.get?_none_of_le (Nat.le_refl _)
  have n2 : hp.get? (hp.objs.size + 1) = none := Heap.get?_none_of_le (Nat.le_succ _)
  have n3 : (hp.push emptyDict).get? (hp.objs.size + 1) = none := Heap.get?_none_of_le (by rw [Heap.size_push]; exact Nat.le_refl _)
  have e3 : (hp.push emptyDict).objs.size = hp.objs.size + 1 := Heap.size_push ..
  have k1 : ∀ b o, hp.get? b = some o → (hp.push emptyDict).get? b = some o := fun b o e => Heap.get?_push_of_some _ e
  have k2 : ∀ b o, (hp.push emptyDict).get? b = some o → ((hp.push emptyDict).push (instObj C hp.objs.size)).get? b = some o := fun b o e => Heap.get?_push_of_some _ e
  have R1 : HRel prog w F (upd H hp.objs.size (.ns [])) ⟨hp.push emptyDict, g, d, t, os⟩ := R.new (s' := ⟨hp.push emptyDict, g, d, t, os⟩) k1 rfl rfl n1 (Heap.get?_push_size _ rfl) ⟨[], 0, rfl, trivial⟩
  have e4 : ((hp.push emptyDict).push (instObj C hp.objs.size)).get? (hp.objs.size + 1) = some (instObj C hp.objs.size) := by rw [← e3]; exact Heap.get?_push_size _ rfl
  have R2 : HRel prog w F (upd (upd H hp.objs.size (.ns [])) (hp.objs.size + 1) (if slotted then .slots C hp.objs.size [] else .inst C hp.objs.size)) ⟨(hp.push emptyDict).push (instObj C hp.objs.size), g, d, t, os⟩ :=
    R1.new (s' := ⟨(hp.push emptyDict).push (instObj C hp.objs.size), g, d, t, os⟩) k2 rfl rfl n3 e4 (by cases slotted <;> first | exact rfl | exact ⟨rfl, rfl, rfl, rfl⟩)
  have A1 : After (frAddrs F.stk) [] H ⟨hp, g, d, t, os⟩ (upd (upd H hp.objs.size (.ns [])) (hp.objs.size + 1) (if slotted then .slots C hp.objs.size [] else .inst C hp.objs.size)) ⟨(hp.push emptyDict).push (instObj C hp.objs.size), g, d, t, os⟩ :=
    (After.new (s' := ⟨hp.push emptyDict, g, d, t, os⟩) _ _ k1 n1).trans (.new (s' := ⟨(hp.push emptyDict).push (instObj C hp.objs.size), g, d, t, os⟩) _ _ k2 n3)
  have z := h _ (creation_ok (C := C) (vals := args') O) (hp.objs.size + 1) hp.objs.size (R.none_of n2) (R.none_of n1) (Nat.succ_ne_self _) ⟨(hp.push emptyDict).push (instObj C hp.objs.size), g, d, t, os⟩ (.ref (hp.objs.size + 1) :: args') (by rw [List.map_cons, ha]; rfl) (R2.re)
  refine codeAny_mono z fun r s' q => ?_
  refine CPost.elim q (fun v H' e a b c => ?_) (fun H' ea cls as e x a b y => ?_) <;> subst e
  · have hv := er_none c.1
    exact ⟨hv, H', a.un, A1.trans b, c.2⟩
  · exact ⟨H', ea, cls, as, rfl, x.older A1.alive, a.un, A1.trans b, y⟩
theorem Binds.of {F : Fc} {fd : FuncData} {args : List Value} {B : List (Str × Value) → AHeap → Prop} (bf : List Value → List (Str × Value)) (hb : ∀ args' h, args'.map er = args → F.base.StaysIn h → ∀ s, s.heap = h → BindsTo s fd ⟨args', []⟩ (bf args')) (h : ∀ args', args'.map er = args → B ((bf args').map fun p => (p.1, er p.2)) H) : Binds prog w F fd args H B := by
  intro s args' ha R E
  exact hb args' s.heap ha R.stays s rfl _ _ _ _ ⟨H, R, .refl _ _ _ _, h args' ha⟩
end
end Mine
end
section
set_option maxRecDepth 100000
set_option Elab.async false
set_option linter.unusedVariables false
set_option maxHeartbeats 4000000
namespace Mine
open PySem PySem.W PySem.Calls PyProof.Rows PySem.SeqAt
structure Wld (K : Frag) (F : Fc) (mg mb : Str → Option Value) : Prop where
  kx : K.In F.base
  g : F.base.Ns mainGlobals mg
  b : F.base.Ns builtinsNs mb
  bi : ∀ x : Str, x ≠ "__name__" → mb x = bootBuiltins x
  ns : NoSys F
section
variable {prog : Program} {w : World} {F : Fx} {st : St} {X : Value → List Value → St → Prop} {K : Frag} {Q : Value → St → Prop} {pos : Pos} {mg mb : Str → Option Value}
theorem T_gl {x : Str} {v : Value} (W : Wld K F.toFc mg mb) (e : nsIn K mainGlobals x = some (some v)) (hg : F.env.globals = mainGlobals) (hk : F.env.kindOf x = some .globalImplicit) (hf : F.env.scope.kind = .function) (hd : (x == ("__debug__" : Str)) = false) (h : Q (er v) st) :
    T prog w F (eval (.Name x pos) F.env) Q X st := T_nameG (mb := mb) ⟨W.g, W.b⟩ hg (mg_of W.kx W.g e) hk hf hd h
theorem T_bi {x : Str} {v : Value} (W : Wld K F.toFc mg mb) (e : nsIn K mainGlobals x = some none) (hv : bootBuiltins x = some v) (hn : x ≠ "__name__") (hg : F.env.globals = mainGlobals) (hb : F.env.builtins = builtinsNs) (hk : F.env.kindOf x = some .globalImplicit) (hf : F.env.scope.kind = .function) (hd : (x == ("__debug__" : Str)) = false) (h : Q (er v) st) :
    T prog w F (eval (.Name x pos) F.env) Q X st := T_nameB ⟨W.g, W.b⟩ hg hb (mg_none_of W.kx W.g e) ((W.bi x hn).trans hv) hk hf hd h
end
section
variable {prog : Program} {w : World}
theorem one_of {l : List Value} {a : Value} (h : l.map er = [a]) : ∃ x, l = [x] ∧ er x = a := by
  rcases l with _ | ⟨x, l⟩
  · cases h
  · injection h with h1 h; cases List.map_eq_nil_iff.mp h; exact ⟨x, rfl, h1⟩
theorem two_of {l : List Value} {a b : Value} (h : l.map er = [a, b]) : ∃ x y, l = [x, y] ∧ er x = a ∧ er y = b := by
  rcases l with _ | ⟨x, l⟩
  · cases h
  · injection h with h1 h; obtain ⟨y, rfl, h2⟩ := one_of h; exact ⟨x, y, rfl, h1, h2⟩
theorem three_of {l : List Value} {a b c : Value} (h : l.map er = [a, b, c]) : ∃ x y z, l = [x, y, z] ∧ er x = a ∧ er y = b ∧ er z = c := by
  rcases l with _ | ⟨x, l⟩
  · cases h
  · injection h with h1 h; refine ex2and3 (two_of h) fun y z y2_ h2 h3 => ?_; obtain rfl := y2_; exact ⟨x, y, z, rfl, h1, h2, h3⟩
theorem none_of {l : List Value} (h : l.map er = []) : l = [] := by
  cases l with
  | nil => rfl
  | cons _ _ => cases h
theorem zip_keys : ∀ (names : List Str) (args : List Value), (names.zip args).map (·.1) = names.take args.length
  | [], _ => by simp
  | _ :: _, [] => rfl
  | n :: ns, a :: as => by rw [List.zip_cons_cons, List.map_cons, zip_keys ns as]; rfl
theorem Calls.fn {F : Fc} {n : Nat} {f : Addr} {fd : FuncData} {body : List Stmt} {args : List Value} {names : List Str} {H : AHeap} {Q : Value → AHeap → Prop} {X : Value → List Value → AHeap → Prop} (D : FdOk F.base f fd body) (O : F.Ok (n + 1))
    (hb : ∀ args', args'.map er = args → bindArgs fd ⟨args', []⟩ = Pure.pure (names.zip args')) (hn : names.Nodup) (hk : (names.all fun x => fd.scope.names.lookup x == some .local || fd.scope.names.lookup x == some .cell) = true)
    (h : ∀ L, T prog w (ffx F f fd L) (execs body (fenv f fd L)) (fun fl st' => Q (match fl with | .ret v => v | _ => .none) st'.H) (fun c a st' => X c a st'.H) ⟨names.zip args, H⟩) : Calls prog w F (.ref f) args H Q X :=
  Calls.def (B := fun vs H₁ => vs = names.zip args ∧ H₁ = H) D O (.pure hb ⟨rfl, rfl⟩) fun L vs H₁ ⟨e1, e2⟩ => by
    subst e1 e2
    refine ⟨by rw [zip_keys]; exact hn.sublist (List.take_sublist _ _), fun x hx => ?_, h L⟩
    have hm : x.1 ∈ names := by
      have : x.1 ∈ (names.zip args).map (·.1) := List.mem_map_of_mem hx
      rw [zip_keys] at this
      exact List.mem_of_mem_take this
    have := List.all_eq_true.mp hk _ hm
    simpa using this
end
theorem itUp_itUp {H : AHeap} {it l : Addr} {i j : Nat} (h : H it ≠ none) : itUp (itUp H it l i) it l j = itUp H it l j := by
  have e : itT (itUp H it l i) it = itT H it := by
    unfold itUp
    generalize itT H it = b
    cases b <;> simp [itT, upd]
  have q : itUp (itUp H it l i) it l j = upd (itUp H it l i) it (bif itT (itUp H it l i) it then .titer l j else .iter l j) := rfl
  rw [q, e]
  funext c
  unfold itUp upd
  split <;> rfl
theorem ItIs.up {H : AHeap} {it l : Addr} {i j : Nat} {xs : List Value} (h : ItIs H it l i xs) (hne : l ≠ it) : ItIs (itUp H it l j) it l j xs := by
  rcases h with ⟨h1, h2⟩ | ⟨h1, h2⟩
  · left; rw [itUp_l h1]; unfold upd; exact ⟨if_pos rfl, (if_neg hne).trans h2⟩
  · right; rw [itUp_t h1]; unfold upd; exact ⟨if_pos rfl, (if_neg hne).trans h2⟩
theorem itUp_other {H : AHeap} {it l a : Addr} {i : Nat} (h : a ≠ it) : itUp H it l i a = H a := by
  unfold itUp upd; exact if_neg h
end Mine
end
section
set_option maxRecDepth 100000
set_option Elab.async false
set_option linter.unusedVariables false
namespace Mine
open PySem PySem.W PySem.Calls PyProof.Rows PySem.SeqAt
section
variable {prog : Program} {w : World} {F : Fx} {st : St} {X : Value → List Value → St → Prop} {K : Frag} {pos : Pos} {mg mb : Str → Option Value} {a' b' : Value}
theorem both_if {b : Bool} {P R : Prop} (h : (b = true → P) ∧ (b = false → R)) : if b = true then P else R := by
  cases b
  · rw [if_neg (by decide)]; exact h.2 rfl
  · rw [if_pos rfl]; exact h.1 rfl
theorem T_if2 {test : Expr} {body orelse : List Stmt} {Q : Flow → St → Prop}
    (h : T prog w F (isTrue test F.env (eval test F.env)) (fun b st' => (b = true → T prog w F (execs body F.env) Q X st') ∧ (b = false → T prog w F (execs orelse F.env) Q X st')) X st) :
    T prog w F (exec (.If test body orelse pos) F.env) Q X st := T_if (h.post fun _ _ q => both_if q)
theorem T_or2 {x : Expr} {r : List Expr} {Q : Bool → St → Prop} (h : T prog w F (isTrue x F.env (eval x F.env)) (fun b st' => (b = true → Q true st') ∧ (b = false → T prog w F (allTrue .Or r F.env) Q X st')) X st) : T prog w F (allTrue .Or (x :: r) F.env) Q X st := T_or1 (h.post fun _ _ q => both_if q)
theorem T_and2 {x : Expr} {r : List Expr} {Q : Bool → St → Prop} (h : T prog w F (isTrue x F.env (eval x F.env)) (fun b st' => (b = true → T prog w F (allTrue .And r F.env) Q X st') ∧ (b = false → Q false st')) X st) : T prog w F (allTrue .And (x :: r) F.env) Q X st := T_and1 (h.post fun _ _ q => both_if q)
theorem T_while2 {test : Expr} {body orelse : List Stmt} {Q : Flow → St → Prop} {outer : List Env} {L : Addr} (U : Runs F outer L) (I : Nat → St → Prop) (n : Nat) (h0 : I n st)
    (hstep : ∀ n st', I n st' → T prog w F (isTrue test F.env (eval test F.env)) (fun b st₂ => (b = true → T prog w F (execs body F.env) (fun f st₃ => match f with
        | .next => ∃ m, m < n ∧ I m st₃ | .cont => ∃ m, m < n ∧ I m st₃ | .brk => Q .next st₃ | .ret v => Q (.ret v) st₃) X st₂) ∧ (b = false → T prog w F (execs orelse F.env) Q X st₂)) X st') :
    T prog w F (exec (.While test body orelse pos) F.env) Q X st := T_while U I n h0 fun n st' hI => (hstep n st' hI).post fun _ _ q => both_if q
theorem T_isRT {a : Addr} {t : String} {Q : Value → St → Prop} (ha : er a' = .ref a) (hb : er b' = .type t) (h : Q (.bool false) st) : T prog w F (compareOp .Is a' b') Q X st := fun s R => by
  rw [er_ref ha, er_type hb]
  exact wpAny_is_plain rfl ⟨st, R, .refl _ _ _ _, h⟩
theorem Wld.ffx {F : Fc} (W : Wld K F mg mb) {f : Addr} {fd : FuncData} {L : Addr} : Wld K (Mine.ffx F f fd L).toFc mg mb := ⟨W.kx, W.g, W.b, W.bi, W.ns⟩
theorem Wld.re {F : Fc} (W : Wld K F mg mb) {A : Around} : Wld K { F with A := A } mg mb := ⟨W.kx, W.g, W.b, W.bi, W.ns⟩
end
noncomputable def Has (vs : List (Str × Value)) : List (Str × Value) → Prop
  | [] => True
  | p :: r => vs.lookup p.1 = some p.2 ∧ Has vs r
theorem Has.at {vs : List (Str × Value)} : ∀ {l : List (Str × Value)}, Has vs l → ∀ x v, l.lookup x = some v → vs.lookup x = some v := by
  intro l
  induction l with
  | nil => intro _ x v e; cases e
  | cons p r ih =>
    obtain ⟨y, u⟩ := p
    rintro ⟨h1, h2⟩ x v e
    by_cases q : x = y
    · subst q; simp only [List.lookup, beq_self_eq_true] at e; cases e; exact h1
    · have : (x == y) = false := by simpa using q
      simp only [List.lookup, this] at e
      exact ih h2 x v e
theorem T.keepVars {prog : Program} {w : World} {F : Fx} {α : Type} [Er α] {t : Sem α} {Q : α → St → Prop} {X : Value → List Value → St → Prop} {st : St} (l : List (Str × Value)) (hv : Has st.vars l) (h : T prog w F t Q X ⟨l, st.H⟩) : T prog w F t Q X st :=
  T.dropVars hv.at h
theorem itUp_self {H : AHeap} {it l : Addr} {i : Nat} {xs : List Value} (h : ItIs H it l i xs) : itUp H it l i = H := by
  have self : ∀ {o : AO}, H it = some o → upd H it o = H := fun {o} ho => by
    funext c
    unfold upd
    split
    · rename_i e; subst e; exact ho.symm
    · rfl
  rcases h with ⟨h1, _⟩ | ⟨h1, _⟩
  · rw [itUp_l h1]; exact self h1
  · rw [itUp_t h1]; exact self h1
end Mine
end
section
set_option maxRecDepth 100000
set_option Elab.async false
set_option linter.unusedVariables false
namespace Mine
open PySem PySem.W PySem.Calls PyProof.Rows PySem.SeqAt
section
variable {prog : Program} {w : World} {s s' s₀ : Shared} {H₀ H H' : AHeap} {st : St} {K : Frag} {E : Value → Shared → Prop}
theorem Fc.Ok.in1 {F : Fc} {n : Nat} (O : F.Ok (n + 1)) : ({ F with A := F.A.in1.in1 } : Fc).Ok n :=
  ⟨O.fr, by have := O.depth; show F.A.depth + n < 900; omega, by have := O.units; show F.A.units + 1 + 1 + 10 * n < 5000; omega, O.lim, O.hh⟩
structure OwnAt (F : Fc) (H : AHeap) (x C d : Addr) : Prop where
  at_ : ∃ vs, H x = some (.slots C d vs)
  ns : H d = some (.ns [])
theorem OwnAt.inst {F : Fc} {x C d : Addr} (I : OwnAt F H x C d) (R : HRel prog w F H s) : ∃ ox od, InstAt s.heap x ox C (some od) := by
  obtain ⟨vs, hx⟩ := I.at_
  refine ex1and5 (R.cells _ _ hx) fun o ho h1 h2 h3 h4 => ?_
  refine ex1and2 (R.cells _ _ I.ns) fun od hod y2_ => ?_; obtain ⟨des, n, rfl, hn⟩ := y2_
  exact exi2 o _ ⟨ho, h1, by unfold notCls; rw [h3], by rw [h2]; exact hod⟩
theorem call_spec {F : Fc} {A : Around} {f : Value} {args args' : List Value} {QN : Value → AHeap → Prop} {XN : Value → List Value → AHeap → Prop} {P : Value → Shared → Prop} (h : Calls prog w { F with A := A } f args H QN XN) (R : HRel prog w F H s) (ha : args'.map er = args)
    (k1 : ∀ v s' H', HRel prog w F H' s' → After (frAddrs F.stk) [] H s H' s' → QN (er v) H' → P v s')
    (k2 : ∀ e s' H' c a, HRel prog w F H' s' → After (frAddrs F.stk) [] H s H' s' → XN c a H' → (∃ o, s'.heap.get? e = some o ∧ o.cls = c) → E (.ref e) s') : wpAny (model prog w) A (call f args') P E s :=
  wpAny_call (codeAny_mono (h s args' ha R.re) fun r s' z => by
    refine CPost.elim z (fun v H' e a b c => ?_) (fun H' ea cls as e x a b q => ?_) <;> subst e
    · exact k1 v s' H' a.un b c
    · refine ex4and3 x fun oe vs ta items h1 h2 _ => ?_; try clear x
      exact k2 ea s' H' cls as a.un b q ⟨oe, h1, h2⟩)
theorem own_next {F : Fc} {A : Around} {x C d f : Addr} {QN : Value → AHeap → Prop} {XN : Value → List Value → AHeap → Prop} {P : Option Value → Shared → Prop} (KX : K.In F.base) (I : OwnAt F H x C d) (hs : findIn K (.ref C) "__next__" = some (some (.ref f))) (hf : isFn K (.ref f) = true)
    (h : Calls prog w { F with A := A } (.ref f) [.ref x] H QN XN) (R : HRel prog w F H s) (hX : ∀ c a H', XN c a H' → c = .type "StopIteration")
    (k1 : ∀ v s' H', HRel prog w F H' s' → After (frAddrs F.stk) [] H s H' s' → QN (er v) H' → P (some v) s') (k2 : ∀ s' H' c a, HRel prog w F H' s' → After (frAddrs F.stk) [] H s H' s' → XN c a H' → P none s') :
    wpAny (model prog w) A (pyNext (.ref x)) P E s := by
  obtain ⟨ox, od, IA⟩ := I.inst R
  unfold pyNext
  refine wpAny_bind (wpAny_attempt (special_fn (name := "__next__") (args := []) (KX.keeps R.stays) IA hs (beq_iff_eq.mp hf) (call_spec h R rfl (fun v s' H' R' A' q => ?_) fun e s' H' c a R' A' q ⟨o, ho, hc⟩ => ?_)))
  · exact wpAny_pure (k1 v s' H' R' A' q)
  · have := hX c a H' q
    subst this
    refine wpAny_bind (wpAny_isInstance (T := "StopIteration") (b := true) ⟨o, ho, hc⟩ isSubtype_stop ?_)
    exact wpAny_pure (k2 s' H' _ a R' A' q)
theorem own_iter {F : Fc} {A : Around} {x C d f : Addr} {g : Value} {P : Value → Shared → Prop} (KX : K.In F.base) (I : OwnAt F H x C d) (hs : findIn K (.ref C) "__iter__" = some (some (.ref f))) (hf : isFn K (.ref f) = true) (hn : findIn K (.ref C) "__next__" = some (some g))
    (h : Calls prog w { F with A := A } (.ref f) [.ref x] H (fun v H' => v = .ref x ∧ H' = H) (fun _ _ _ => False)) (R : HRel prog w F H s)
    (k : ∀ s', HRel prog w F H s' → After (frAddrs F.stk) [] H s H s' → P (.ref x) s') : wpAny (model prog w) A (pyIter (.ref x)) P E s := by
  obtain ⟨ox, od, IA⟩ := I.inst R
  have X := KX.keeps R.stays
  have fin : wpAny (model prog w) A (call (.ref f) [.ref x] >>= fun v => pure (some v)) (fun r s' => r = some (.ref x) ∧ HRel prog w F H s' ∧ After (frAddrs F.stk) [] H s H s') E s :=
    wpAny_bind (call_spec h R rfl (fun v s' H' R' A' ⟨q1, q2⟩ => wpAny_pure (by subst q2; exact ⟨by rw [er_ref q1], R', A'⟩)) fun _ _ _ _ _ _ _ q => q.elim)
  have one : ∀ refuse : Sem Value, wpAny (model prog w) A (callSpecialIfBoundUnlessNone? (.ref x) "__iter__" refuse) (fun r s' => r = some (.ref x) ∧ HRel prog w F H s' ∧ After (frAddrs F.stk) [] H s H s') E s := by
    intro refuse
    simp only [callSpecialIfBoundUnlessNone?, bindSpecialIfBound?]
    refine wpAny_holding (wpAny_bind (wpAny_bind (wpAny_bind (IA.type.here ((looks_findIn X hs).here ?_)))))
    refine wpAny_bind (wpAny_askSetting (wpAny_ite ?_))
    have fin2 : wpAny (model prog w) A (if (Value.ref f == Value.none) = true then (refuse >>= fun v => pure (some v)) else (call (.ref f) [.ref x] >>= fun v => pure (some v))) (fun r s' => r = some (.ref x) ∧ HRel prog w F H s' ∧ After (frAddrs F.stk) [] H s H s') E s := by
      rw [if_neg (show ¬ ((Value.ref f == Value.none) = true) from Bool.false_ne_true)]
      exact fin
    split
    · exact wpAny_bind ((bind_fn X _ (beq_iff_eq.mp hf)).here (wpAny_pure (by exact fin2)))
    · exact wpAny_tryCatch (wpAny_bind ((bind_fn X _ (beq_iff_eq.mp hf)).here (wpAny_pure (by exact fin2))))
  unfold pyIter
  refine wpAny_bind (wpAny_bind (IA.type.here ((looks_findIn X hs).here ?_)))
  show wpAny (model prog w) A (callSpecialIfBoundUnlessNone? (.ref x) "__iter__" _ >>= _) P E s
  refine wpAny_bind (wpAny_mono (one _) (fun r s' hr => ?_) fun _ _ z => z)
  obtain ⟨rfl, R', A'⟩ := hr
  obtain ⟨ox', od', IA'⟩ := I.inst R'
  exact wpAny_bind (wpAny_bind (IA'.type.here ((looks_findIn (KX.keeps R'.stays) hn).here (wpAny_pure (k s' R' A')))))
theorem own_loop {F : Fc} {A : Around} {x C d f S : Addr} {R₀ : Result → Shared → Prop} (KX : K.In F.base) (hs : findIn K (.ref C) "__next__" = some (some (.ref f))) (hf : isFn K (.ref f) = true)
    (Inv : Nat → List Value → AHeap → Prop) (Fin : List Value → AHeap → Prop) (hI : ∀ n acc H, Inv n acc H → OwnAt F H x C d ∧ acc.length + n ≤ 100000)
    (step : ∀ n acc H, Inv n acc H → Calls prog w { F with A := A.in1 } (.ref f) [.ref x] H (fun v H' => ∃ m, m < n ∧ Inv m (acc ++ [v]) H') (fun c a H' => c = .type "StopIteration" ∧ Fin acc H'))
    (hSf : S ∉ frAddrs F.stk) (hSb : F.base.get? S = none) (hR : ∀ s' H' acc items c, HRel prog w F H' s' → After (frAddrs F.stk) [S] H₀ s₀ H' s' → s'.heap.get? S = some { cls := .type "list", dict := none, data := .seq items c, slots := #[] } → items.toList.map er = acc → H' S = none → Fin acc H' → R₀ (.ok (.ret .none)) s') :
    ∀ n acc H s items c, Inv n acc H → HRel prog w F H s → After (frAddrs F.stk) [S] H₀ s₀ H s → s.heap.get? S = some { cls := .type "list", dict := none, data := .seq items c, slots := #[] } → items.toList.map er = acc → H S = none →
      codeAny (model prog w) A (.builtin "list.extend.loop" ⟨[.ref S, .ref x, .none], []⟩) R₀ s := by
  intro n
  induction n using Nat.strongRecOn with
  | ind n ih =>
    intro acc H s items c hInv R AA hS hacc hSH
    obtain ⟨hOwn, hlen⟩ := hI n acc H hInv
    refine codeAny_builtin PySem.F.entry_extend_loop ?_
    rw [Around.under_plainId PySem.F.plain_extend_loop _]
    show wpAny _ A.in1 (pyNext (.ref x) >>= _) _ _ s
    have still : ∀ {s' H'}, After (frAddrs F.stk) [] H s H' s' → s'.heap.get? S = some { cls := .type "list", dict := none, data := .seq items c, slots := #[] } ∧ H' S = none := fun {s' H'} A' => by
      obtain ⟨sl, e1, c1⟩ := A'.keep S _ hS hSH (by simp)
      refine ⟨by rw [e1, c1 hSf], ?_⟩
      cases q : H' S with
      | none => rfl
      | some z =>
        rcases A'.dom S (by rw [q]; exact nofun) with h | h
        · exact absurd hSH h
        · rw [hS] at h; cases h
    have wide : ∀ {s' H'}, After (frAddrs F.stk) [] H s H' s' → After (frAddrs F.stk) [S] H s H' s' := fun A' => ⟨fun b o e h1 _ => A'.keep b o e h1 (by simp), A'.alive, A'.dom⟩
    refine wpAny_bind (own_next KX hOwn hs hf (step n acc H hInv) R (fun _ _ _ q => q.1) (fun v s' H' R' A' ⟨m, hm, hI'⟩ => ?_) fun s' H' cc a R' A' q => ?_)
    · obtain ⟨hS', hSH'⟩ := still A'
      have hsz : items.size = acc.length := len_of hacc
      show wpAny _ A.in1 (updateSeq S (·.push v) >>= _) _ _ _
      refine wpAny_bind ?_
      refine wpAny_updateSeq hS' rfl (wpAny_pure ⟨plainId_quiet PySem.F.plain_extend_loop _, ?_⟩) (by rw [sizeLine_eq]; omega) (by show (items.push v).size ≤ _; rw [Array.size_push, sizeLine_eq]; omega)
      have hup := Heap.get?_update_self (Obj.mapSeq (·.push v)) hS' rfl
      have oth : ∀ b, b ≠ S → (s'.heap.update S (Obj.mapSeq (·.push v))).get? b = s'.heap.get? b := fun b hb => Heap.get?_update_other _ _ (Ne.symm hb)
      refine ih m hm (acc ++ [er v]) H' { s' with heap := s'.heap.update S (Obj.mapSeq (·.push v)) } (items.push v) _ hI' ?_ ?_ hup (by rw [Array.toList_push, List.map_append, hacc]; rfl) hSH'
      · exact R'.priv (s' := { s' with heap := s'.heap.update S (Obj.mapSeq (·.push v)) }) hSH' hSb oth rfl rfl hup (fun vs q => by cases q) fun ⟨o, es, k, q1, q2⟩ => by rw [hS'] at q1; cases q1; cases q2
      · exact (AA.trans (wide A')).trans (After.priv (s' := { s' with heap := s'.heap.update S (Obj.mapSeq (·.push v)) }) List.mem_cons_self oth hup)
    · obtain ⟨hS', hSH'⟩ := still A'
      exact wpAny_pure (hR s' H' acc items c R' (AA.trans (wide A')) hS' hacc hSH' q.2)
end
end Mine
end
section
set_option maxRecDepth 100000
set_option Elab.async false
set_option linter.unusedVariables false
namespace Mine
open PySem PySem.W PySem.Calls PyProof.Rows PySem.SeqAt
section
variable {prog : Program} {w : World} {F : Fx} {st : St} {X : Value → List Value → St → Prop} {K : Frag} {Q : Value → St → Prop}
theorem T_listOwn {n : Nat} {x C d f g : Addr} (O : F.toFc.Ok (n + 1)) (KX : K.In F.base) (I : OwnAt F.toFc st.H x C d) (hs : findIn K (.ref C) "__next__" = some (some (.ref f))) (hf : isFn K (.ref f) = true)
    (hi : findIn K (.ref C) "__iter__" = some (some (.ref g))) (hg : isFn K (.ref g) = true) (hl : findIn K (.ref C) "__len__" = some none) (hh : findIn K (.ref C) "__length_hint__" = some none)
    (hiter : ∀ A, ({ F.toFc with A := A } : Fc).Ok n → Calls prog w { F.toFc with A := A } (.ref g) [.ref x] st.H (fun v H' => v = .ref x ∧ H' = st.H) (fun _ _ _ => False))
    (Inv : Nat → List Value → AHeap → Prop) (Fin : List Value → AHeap → Prop) (hI : ∀ n acc H, Inv n acc H → OwnAt F.toFc H x C d ∧ acc.length + n ≤ 100000)
    (step : ∀ A, ({ F.toFc with A := A } : Fc).Ok n → ∀ m acc H, Inv m acc H → Calls prog w { F.toFc with A := A } (.ref f) [.ref x] H (fun v H' => ∃ m', m' < m ∧ Inv m' (acc ++ [v]) H') (fun c a H' => c = .type "StopIteration" ∧ Fin acc H'))
    {m : Nat} (h0 : Inv m [] st.H) (h : ∀ acc H' a, Fin acc H' → H' a = none → st.H a = none → Q (.ref a) ⟨st.vars, upd H' a (.list acc)⟩) : T prog w F (call (.type "list") [.ref x]) Q X st := by
  intro s R
  have OA := O.in1
  refine callType_codes (Q₁ := fun obj s₁ => obj = .ref s.heap.objs.size ∧ s₁ = { s with heap := s.heap.push { cls := .type "list", data := .seq #[] } }) PySem.F.called_list (PySem.F.typeCall_list_1 _) PySem.F.entry_list_init
    (code_list_new _ ⟨rfl, rfl⟩) fun obj s₁ h₁ => ?_
  obtain ⟨rfl, rfl⟩ := h₁
  have hS : (s.heap.push { cls := .type "list", data := .seq #[] }).get? s.heap.objs.size = some { cls := .type "list", data := .seq #[] } := Heap.get?_push_size _ rfl
  have hnull : s.heap.get? s.heap.objs.size = none := Heap.get?_none_of_le (Nat.le_refl _)
  have hSH : st.H s.heap.objs.size = none := R.1.fresh
  refine ex0and5 (R.apart hnull) fun hSb hSf hSL hSc hSo => ?_
  generalize hSe : s.heap.objs.size = S at *
  refine ⟨⟨_, hS, rfl⟩, PySem.F.args_list_init_2 _ _, ?_⟩
  show wpAny _ F.A.in1.in1 (do let old ← Builtin.List.listItems (.ref S); Builtin.List.listUpdate (.ref S) (fun _ => #[]); letGo old.toList.reverse; Builtin.List.listExtendWith (.ref S) (.ref x) .none) _ _ _
  refine wpAny_bind ?_
  unfold Builtin.List.listItems
  refine wpAny_bind (wpAny_seqItems hS rfl (wpAny_pure ?_))
  show wpAny _ F.A.in1.in1 (updateSeq S (fun _ => #[]) >>= fun _ => letGo (#[] : Array Value).toList.reverse >>= fun _ => Builtin.List.listExtendWith (.ref S) (.ref x) .none) _ _ _
  refine wpAny_bind (wpAny_updateSeq hS rfl ?_)
  have hS₂ := Heap.get?_update_self (Obj.mapSeq (fun _ => (#[] : Array Value))) hS rfl
  refine wpAny_bind (wpAny_letGo ?_)
  have k1 : ∀ b o, s.heap.get? b = some o → (s.heap.push { cls := .type "list", data := .seq #[] }).get? b = some o := fun b o e => Heap.get?_push_of_some _ e
  have k2 : ∀ b, b ≠ S → ((s.heap.push { cls := .type "list", data := .seq #[] }).update S (Obj.mapSeq (fun _ => (#[] : Array Value)))).get? b = (s.heap.push { cls := .type "list", data := .seq #[] }).get? b := fun b hb => Heap.get?_update_other _ _ (Ne.symm hb)
  have R1 : HRel prog w F.toFc st.H { s with heap := (s.heap.push { cls := .type "list", data := .seq #[] }).update S (Obj.mapSeq (fun _ => (#[] : Array Value))) } :=
    (R.1.grow (s' := { s with heap := s.heap.push { cls := .type "list", data := .seq #[] } }) k1 rfl rfl).priv (s' := { s with heap := (s.heap.push { cls := .type "list", data := .seq #[] }).update S (Obj.mapSeq (fun _ => (#[] : Array Value))) }) hSH hSb k2 rfl rfl hS₂ (fun vs q => by cases q) fun ⟨o, es, k, q1, q2⟩ => by
      have q1 : (s.heap.push { cls := .type "list", data := .seq #[] }).get? S = some o := q1
      rw [hS] at q1; cases q1; cases q2
  have hxS : x ≠ S := fun q => by obtain ⟨vs, hx⟩ := I.at_; rw [q, hSH] at hx; cases hx
  obtain ⟨ox, od, IA⟩ := I.inst R1
  unfold Builtin.List.listExtendWith
  refine wpAny_bind (IA.type.here ?_)
  have h1 : Builtin.List.listSameRef (.ref S) (.ref x) = false := by simp [Builtin.List.listSameRef, Ne.symm hxS]
  have h2 : (Value.ref C == Value.type "list") = false := by rfl
  have h3 : (Value.ref C == Value.type "tuple") = false := by rfl
  simp only [h1, h2, h3, Bool.or_false, Bool.false_eq_true, if_false]
  refine wpAny_bind (own_iter KX I hi hg hs (hiter _ OA) R1 fun s₂ R2 A2 => ?_)
  refine wpAny_bind (wpAny_holding ?_)
  obtain ⟨ox2, od2, IA2⟩ := I.inst R2
  have X2 := KX.keeps R2.stays
  unfold Builtin.List.listLengthHint
  refine wpAny_bind (wpAny_bind (IA2.type.here ((looks_findIn X2 hl).here ?_)))
  show wpAny _ F.A.in1.in1 (specialOf (Value.ref x) (Str.ofString "__length_hint__") >>= _) _ _ _
  refine wpAny_bind (wpAny_bind (IA2.type.here ((looks_findIn X2 hh).here ?_)))
  refine wpAny_pure ?_
  show wpAny _ F.A.in1.in1 (rule "list.extend.makes-room" >>= fun _ => Builtin.List.listTouch (.ref S) >>= fun _ =>
    again (.builtin "list.extend.loop" ⟨[.ref S, .ref x, .none], []⟩)) _ _ _
  refine wpAny_bind (wpAny_rule ?_)
  have hS2 : s₂.heap.get? S = some (Obj.mapSeq (fun _ => (#[] : Array Value)) { cls := .type "list", data := .seq #[] }) := by
    obtain ⟨sl, e1, c1⟩ := A2.keep S _ hS₂ hSH (by simp)
    rw [e1, c1 hSf]
  refine wpAny_bind ?_
  show wpAny _ F.A.in1.in1 (updateSeq S (·.push .none) >>= fun _ => updateSeq S (·.pop)) _ _ _
  refine wpAny_bind (wpAny_updateSeq hS2 rfl ?_)
  have hS₃ := Heap.get?_update_self (Obj.mapSeq (·.push Value.none)) hS2 rfl
  refine wpAny_updateSeq hS₃ rfl ?_
  have hS₄ := Heap.get?_update_self (Obj.mapSeq (·.pop)) hS₃ rfl
  have oth : ∀ b, b ≠ S → ((s₂.heap.update S (Obj.mapSeq (·.push Value.none))).update S (Obj.mapSeq (·.pop))).get? b = s₂.heap.get? b := fun b hb => (Heap.get?_update_other _ _ (Ne.symm hb)).trans (Heap.get?_update_other _ _ (Ne.symm hb))
  have R3 : HRel prog w F.toFc st.H { s₂ with heap := (s₂.heap.update S (Obj.mapSeq (·.push Value.none))).update S (Obj.mapSeq (·.pop)) } :=
    R2.priv (s' := { s₂ with heap := (s₂.heap.update S (Obj.mapSeq (·.push Value.none))).update S (Obj.mapSeq (·.pop)) }) hSH hSb oth rfl rfl hS₄ (fun vs q => by cases q) fun ⟨o, es, k, q1, q2⟩ => by rw [hS2] at q1; cases q1; cases q2
  have A1 : After (frAddrs F.stk) [S] st.H s st.H { s with heap := (s.heap.push { cls := .type "list", data := .seq #[] }).update S (Obj.mapSeq (fun _ => (#[] : Array Value))) } :=
    (After.grow (s' := { s with heap := s.heap.push { cls := .type "list", data := .seq #[] } }) _ _ k1).trans (.priv (s' := { s with heap := (s.heap.push { cls := .type "list", data := .seq #[] }).update S (Obj.mapSeq (fun _ => (#[] : Array Value))) }) List.mem_cons_self k2 hS₂)
  have A2' : After (frAddrs F.stk) [S] st.H { s with heap := (s.heap.push { cls := .type "list", data := .seq #[] }).update S (Obj.mapSeq (fun _ => (#[] : Array Value))) } st.H s₂ := ⟨fun b o e h1 _ => A2.keep b o e h1 (by simp), A2.alive, A2.dom⟩
  have A3 : After (frAddrs F.stk) [S] st.H s st.H { s₂ with heap := (s₂.heap.update S (Obj.mapSeq (·.push Value.none))).update S (Obj.mapSeq (·.pop)) } :=
    (A1.trans A2').trans (.priv (s' := { s₂ with heap := (s₂.heap.update S (Obj.mapSeq (·.push Value.none))).update S (Obj.mapSeq (·.pop)) }) List.mem_cons_self oth hS₄)
  refine wpAny_pure ⟨plainId_quiet PySem.F.plain_extend_loop _, own_loop (A := F.A.in1) KX hs hf Inv Fin hI (step _ OA) hSf hSb ?_ m [] st.H _ #[] _ h0 R3 A3 hS₄ rfl hSH⟩
  intro s' H' acc items c R' A' hS' hacc hSH' hfin
  refine ⟨rfl, ?_⟩
  have hcl : ∀ b ob, s.heap.get? b = some ob → b ≠ S := fun b ob e q => by rw [q, hnull] at e; cases e
  obtain ⟨mL, ⟨oL, esL, epL, hoL, rL⟩, _⟩ := R.2.loc
  have V' : VRel F ⟨st.vars, H'⟩ s' := R.2.back A' (fun hm => hSL (List.mem_singleton.mp hm)) (fun y c e hm => hSc y c e (List.mem_singleton.mp hm)) (fun a ha hm => hSo (List.mem_singleton.mp hm ▸ ha))
  have RL := R.claim (st := ⟨st.vars, H'⟩) ⟨R', V'⟩ (ao := .list acc) hnull hS' ⟨rfl, rfl, rfl, items, c, rfl, hacc⟩
  have AL : After (frAddrs F.stk) F.own st.H s (upd H' S (.list acc)) s' := ((After.refl (frAddrs F.stk) F.own st.H s).inner A' (fun b hb => by obtain rfl := List.mem_singleton.mp hb; exact hnull)).claim hnull
  exact ⟨_, RL, AL, h acc H' S hfin hSH' hSH⟩
end
end Mine
end
section
set_option maxRecDepth 100000
set_option Elab.async false
set_option linter.unusedVariables false
namespace Mine
open PySem PySem.W PySem.Calls PyProof.Rows PySem.SeqAt
noncomputable abbrev noH : AHeap := fun _ => none
theorem Rd.flat {H : AHeap} : ∀ {d : PyData} {v : Value}, Rd noH d v → Rd H d v
  | .none, v, h => h
  | .bool b, v, h => h
  | .int i, v, h => h
  | .str x, v, h => h
  | .list ds, v, ⟨a, xs, _, h, _⟩ => nomatch h
  | .tuple ds, v, ⟨a, xs, _, h, _⟩ => nomatch h
  | .dict _, v, h => h
theorem RdAll.flat {H : AHeap} : ∀ {ds : List PyData} {vs : List Value}, RdAll noH ds vs → RdAll H ds vs
  | [], [], _ => trivial
  | d :: ds, v :: vs, ⟨h1, h2⟩ => ⟨Rd.flat h1, RdAll.flat h2⟩
  | [], _ :: _, h => h.elim
  | _ :: _, [], h => h.elim
theorem Rd.flatDepth : ∀ {d : PyData} {v : Value}, Rd noH d v → d.depth = 0
  | .none, v, h => rfl
  | .bool b, v, h => rfl
  | .int i, v, h => rfl
  | .str x, v, h => rfl
  | .list ds, v, ⟨a, xs, _, h, _⟩ => nomatch h
  | .tuple ds, v, ⟨a, xs, _, h, _⟩ => nomatch h
  | .dict _, v, h => h.elim
theorem RdAll.flatDepth : ∀ {ds : List PyData} {vs : List Value}, RdAll noH ds vs → PyData.depthAll ds = 0
  | [], [], _ => rfl
  | d :: ds, v :: vs, ⟨h1, h2⟩ => by show max d.depth (PyData.depthAll ds) = 0; rw [Rd.flatDepth h1, RdAll.flatDepth h2]; rfl
  | [], _ :: _, h => h.elim
  | _ :: _, [], h => h.elim
theorem RdAll.get {H : AHeap} : ∀ {ds : List PyData} {vs : List Value}, RdAll H ds vs → ∀ {j : Nat} {v : Value}, vs[j]? = some v → ∃ d, ds[j]? = some d ∧ Rd H d v
  | d :: ds, v :: vs, ⟨h1, h2⟩, 0, u, e => by cases e; exact ⟨d, rfl, h1⟩
  | d :: ds, v :: vs, ⟨h1, h2⟩, j + 1, u, e => by exact RdAll.get h2 (j := j) e
  | [], [], _, _, _, e => by simp at e
  | [], _ :: _, h, _, _, _ => h.elim
  | _ :: _, [], h, _, _, _ => h.elim
theorem RdAll.len {H : AHeap} : ∀ {ds : List PyData} {vs : List Value}, RdAll H ds vs → ds.length = vs.length
  | [], [], _ => rfl
  | d :: ds, v :: vs, ⟨h1, h2⟩ => by rw [List.length_cons, List.length_cons, RdAll.len h2]
  | [], _ :: _, h => h.elim
  | _ :: _, [], h => h.elim
theorem lay_get : ∀ {ds : List PyData}, PyData.canLayAll0 ds = true → ∀ {j : Nat} {d : PyData}, ds[j]? = some d → d.canLay0 = true
  | d :: ds, h, 0, u, e => by
    cases e
    have : (d.canLay0 && PyData.canLayAll0 ds) = true := h
    exact (Bool.and_eq_true _ _ ▸ this).1
  | d :: ds, h, j + 1, u, e => by
    have : (d.canLay0 && PyData.canLayAll0 ds) = true := h
    exact lay_get (Bool.and_eq_true _ _ ▸ this).2 (j := j) e
  | [], _, _, _, e => by simp at e
noncomputable def keepB (ds : List PyData) (d : PyData) : Bool := !(ds.any fun y => PyData.eqv y d)
noncomputable def filt (xs : List Value) (dxs ds : List PyData) : List Value := ((xs.zip dxs).filter fun p => keepB ds p.2).map (·.1)
theorem zip_take (xs : List Value) (ds : List PyData) (j : Nat) : (xs.take j).zip (ds.take j) = (xs.zip ds).take j := by
  show List.zipWith Prod.mk _ _ = (List.zipWith Prod.mk _ _).take j
  exact (List.take_zipWith ..).symm
theorem zip_snoc {xs : List Value} {ds : List PyData} {j : Nat} {v : Value} {d : PyData} (hv : xs[j]? = some v) (hd : ds[j]? = some d) : (xs.take (j + 1)).zip (ds.take (j + 1)) = (xs.take j).zip (ds.take j) ++ [(v, d)] := by
  rw [zip_take, zip_take, List.take_add_one]
  congr 1
  have : (xs.zip ds)[j]? = some (v, d) := List.getElem?_zip_eq_some.mpr ⟨hv, hd⟩
  rw [this]; rfl
theorem filt_keep {xs : List Value} {dxs ds : List PyData} {j : Nat} {v : Value} {d : PyData} (hv : xs[j]? = some v) (hd : dxs[j]? = some d) (hk : keepB ds d = true) : filt (xs.take (j + 1)) (dxs.take (j + 1)) ds = filt (xs.take j) (dxs.take j) ds ++ [v] := by
  unfold filt
  have e := zip_snoc hv hd
  rw [e, List.filter_append, List.map_append]
  simp [hk]
theorem filt_skip {xs : List Value} {dxs ds : List PyData} {i : Nat} (hl : dxs.length = xs.length) : ∀ {j : Nat}, i ≤ j → j ≤ xs.length → (∀ m, i ≤ m → m < j → ∀ d, dxs[m]? = some d → keepB ds d = false) → filt (xs.take j) (dxs.take j) ds = filt (xs.take i) (dxs.take i) ds := by
  intro j
  induction j with
  | zero => intro h1 _ _; have : i = 0 := by omega
            subst this; rfl
  | succ j ih =>
    intro h1 h2 h3
    by_cases e : i = j + 1
    · subst e; rfl
    · rw [← ih (by omega) (by omega) fun m a b => h3 m a (by omega)]
      obtain ⟨v, hv⟩ : ∃ v, xs[j]? = some v := ⟨xs[j]'(by omega), List.getElem?_eq_getElem _⟩
      obtain ⟨d, hd⟩ : ∃ d, dxs[j]? = some d := ⟨dxs[j]'(by omega), List.getElem?_eq_getElem _⟩
      have hk := h3 j (by omega) (by omega) d hd
      unfold filt
      have e := zip_snoc hv hd
      rw [e, List.filter_append, List.map_append]
      simp [hk]
theorem filt_nums (ns ms : List Int) : filt (nums ns) (ns.map .int) (ms.map .int) = nums (ns.filter fun n => !decide (n ∈ ms)) := by
  unfold filt
  induction ns with
  | nil => rfl
  | cons n r ih =>
    have hk : keepB (ms.map .int) (.int n) = !decide (n ∈ ms) := by unfold keepB; rw [any_nums]
    rw [nums, List.map_cons, List.map_cons, List.zip_cons_cons, List.filter_cons, List.filter_cons, hk]
    split
    · rw [List.map_cons, nums, List.map_cons]; congr 1
    · exact ih
end Mine
end
section
set_option maxRecDepth 100000
set_option Elab.async false
set_option linter.unusedVariables false
set_option maxHeartbeats 4000000
namespace Mine
open PySem PySem.W PySem.Calls PyProof.Rows PySem.SeqAt
theorem upd_at {H : AHeap} {a : Addr} {o : AO} : upd H a o a = some o := by unfold upd; rw [if_pos rfl]
theorem upd_ne {H : AHeap} {a b : Addr} {o : AO} (h : b ≠ a) : upd H a o b = H b := by unfold upd; rw [if_neg h]
theorem upd_none {H : AHeap} {a c : Addr} {o : AO} (h : upd H a o c = none) : H c = none ∧ c ≠ a := by
  unfold upd at h
  split at h
  · cases h
  · exact ⟨h, by assumption⟩
section
variable {prog : Program} {w : World} {s s' : Shared} {H H' : AHeap}
theorem Binds.star {F : Fc} {fd : FuncData} {lead rest : List Value} {names : List Str} {nm : Str} {B : List (Str × Value) → AHeap → Prop} (hn : rest.length ≤ 1000000)
    (hb : ∀ l r, l.map er = lead → bindArgs fd ⟨l ++ r, []⟩ = (newTuple r >>= fun t => Pure.pure (names.zip l ++ [(nm, t)])))
    (h : ∀ a, H a = none → B (names.zip lead ++ [(nm, .ref a)]) (upd H a (.tup rest))) : Binds prog w F fd (lead ++ rest) H B := by
  intro s args' ha R E
  refine ex2and3 (List.map_eq_append_iff.mp ha) fun l r y2_ hl hr => ?_; obtain rfl := y2_
  rw [hb l r hl]
  have hnull : s.heap.get? s.heap.objs.size = none := Heap.get?_none_of_le (Nat.le_refl _)
  have hlen : r.length = rest.length := by rw [← hr, List.length_map]
  refine wpAny_bind (wpAny_newTuple ?_ ?_)
  · refine wpAny_pure ⟨_, R.new (s' := { s with heap := s.heap.push { cls := .type "tuple", data := .seq r.toArray } }) (fun b o e => Heap.get?_push_of_some _ e) rfl rfl hnull (Heap.get?_push_size _ rfl) (o := .tup rest) ⟨rfl, rfl, rfl, r.toArray, 0, rfl, hr⟩,
      .new (s' := { s with heap := s.heap.push { cls := .type "tuple", data := .seq r.toArray } }) _ _ (fun b o e => Heap.get?_push_of_some _ e) hnull, ?_⟩
    have e : (names.zip l ++ [(nm, Value.ref s.heap.objs.size)]).map (fun p => (p.1, er p.2)) = names.zip lead ++ [(nm, .ref s.heap.objs.size)] := by
      rw [List.map_append, ← hl, List.zip_map_right]; rfl
    rw [e]
    exact h _ R.fresh
  · rw [sizeLine_eq]; omega
theorem Calls.star {F : Fc} {n : Nat} {f : Addr} {fd : FuncData} {body : List Stmt} {lead rest : List Value} {names : List Str} {nm : Str} {Q : Value → AHeap → Prop} {X : Value → List Value → AHeap → Prop} (D : FdOk F.base f fd body) (O : F.Ok (n + 1)) (hr : rest.length ≤ 1000000)
    (hb : ∀ l r, l.map er = lead → bindArgs fd ⟨l ++ r, []⟩ = (newTuple r >>= fun t => Pure.pure (names.zip l ++ [(nm, t)]))) (hn : (names ++ [nm]).Nodup) (hk : ((names ++ [nm]).all fun x => fd.scope.names.lookup x == some .local || fd.scope.names.lookup x == some .cell) = true)
    (h : ∀ L a, H a = none → T prog w (ffx F f fd L) (execs body (fenv f fd L)) (fun fl st' => Q (match fl with | .ret v => v | _ => .none) st'.H) (fun c a st' => X c a st'.H) ⟨names.zip lead ++ [(nm, .ref a)], upd H a (.tup rest)⟩) : Calls prog w F (.ref f) (lead ++ rest) H Q X :=
  Calls.def (B := fun vs H₁ => ∃ a, H a = none ∧ vs = names.zip lead ++ [(nm, .ref a)] ∧ H₁ = upd H a (.tup rest)) D O (.star hr hb fun a ha => ⟨a, ha, rfl, rfl⟩) fun L vs H₁ ⟨a, ha, e1, e2⟩ => by
    subst e1 e2
    have ek : (names.zip lead ++ [(nm, Value.ref a)]).map (·.1) = names.take lead.length ++ [nm] := by rw [List.map_append, zip_keys]; rfl
    refine ⟨?_, fun x hx => ?_, h L a ha⟩
    · rw [ek]; exact hn.sublist ((List.take_sublist _ _).append (List.Sublist.refl _))
    · have hm : x.1 ∈ names ++ [nm] := by
        have : x.1 ∈ (names.zip lead ++ [(nm, Value.ref a)]).map (·.1) := List.mem_map_of_mem hx
        rw [ek] at this
        exact ((List.take_sublist _ _).append (List.Sublist.refl _)).subset this
      have := List.all_eq_true.mp hk _ hm
      simpa using this
theorem Calls.fnD {F : Fc} {n : Nat} {f : Addr} {fd : FuncData} {body : List Stmt} {args dv : List Value} {names : List Str} {Q : Value → AHeap → Prop} {X : Value → List Value → AHeap → Prop} {K : Frag} (KX : K.In F.base) (D : FdOk F.base f fd body) (O : F.Ok (n + 1))
    (hb : ∀ args', args'.map er = args → ∀ S, peek K S (bindArgs fd ⟨args', []⟩) = some (names.zip (args' ++ dv))) (hn : names.Nodup) (hk : (names.all fun x => fd.scope.names.lookup x == some .local || fd.scope.names.lookup x == some .cell) = true)
    (h : ∀ L, T prog w (ffx F f fd L) (execs body (fenv f fd L)) (fun fl st' => Q (match fl with | .ret v => v | _ => .none) st'.H) (fun c a st' => X c a st'.H) ⟨names.zip (args ++ dv.map er), H⟩) : Calls prog w F (.ref f) args H Q X :=
  Calls.def (B := fun vs H₁ => vs = names.zip (args ++ dv.map er) ∧ H₁ = H) D O (.of (fun args' => names.zip (args' ++ dv)) (fun args' hp ha hs s e => fun M _ _ _ q => (Looks.of_peek (M := M) (e ▸ KX.keeps hs) (hb args' ha _)).here q) fun args' ha => ⟨by
      rw [← ha, ← List.map_append, List.zip_map_right]; rfl, rfl⟩) fun L vs H₁ ⟨e1, e2⟩ => by
    subst e1 e2
    refine ⟨by rw [zip_keys]; exact hn.sublist (List.take_sublist _ _), fun x hx => ?_, h L⟩
    have hm : x.1 ∈ names := by
      have : x.1 ∈ (names.zip (args ++ dv.map er)).map (·.1) := List.mem_map_of_mem hx
      rw [zip_keys] at this
      exact List.mem_of_mem_take this
    have := List.all_eq_true.mp hk _ hm
    simpa using this
end
end Mine
end
section
set_option maxRecDepth 100000
set_option Elab.async false
set_option linter.unusedVariables false
set_option maxHeartbeats 4000000
namespace Mine
open PySem PySem.W PySem.Calls PyProof.Rows PySem.SeqAt
structure PN where
  key : Int
  np : Int
  succ : List Int
deriving DecidableEq
structure PS where
  nds : List PN
  ready : Option (List Int)
  out : Int
  fin : Int
deriving DecidableEq
structure Nd where
  key : Int
  np : Int
  succ : List Int
  a : Addr
  d : Addr
  sa : Addr
structure Srt where
  self : Addr
  d : Addr
  dn : Addr
  nds : List Nd
  ready : Option (Addr × List Int)
  out : Int
  fin : Int
noncomputable def Nd.p (x : Nd) : PN := ⟨x.key, x.np, x.succ⟩
noncomputable def Srt.p (S : Srt) : PS := ⟨S.nds.map Nd.p, S.ready.map (·.2), S.out, S.fin⟩
noncomputable def Nd.At {prog : Program} {w : World} (B : KeyBy prog w Int) (cN : Addr) (H : AHeap) (x : Nd) : Prop := H x.a = some (.slots cN x.d [some (B.val x.key), some (vI x.np), some (.ref x.sa)]) ∧ H x.d = some (.ns []) ∧ H x.sa = some (.list (kns B x.succ))
noncomputable def Srt.rv (S : Srt) : Value := match S.ready with
  | none => .none
  | some (r, _) => .ref r
noncomputable def Srt.ns (S : Srt) : List (Str × Value) := [(("_node2info" : Str), .ref S.dn), (("_ready_nodes" : Str), S.rv), (("_npassedout" : Str), vI S.out), (("_nfinished" : Str), vI S.fin)]
noncomputable def Srt.es (S : Srt) : List (Int × Value) := S.nds.map fun x => (x.key, .ref x.a)
noncomputable def Srt.foot (S : Srt) : List Addr := S.d :: S.dn :: (S.nds.flatMap (fun x => [x.a, x.sa]) ++ match S.ready with
  | none => []
  | some (r, _) => [r])
structure Srt.At {prog : Program} {w : World} (B : KeyBy prog w Int) (cN cT : Addr) (H : AHeap) (S : Srt) : Prop where
  self : H S.self = some (.inst cT S.d)
  ns : H S.d = some (.ns S.ns)
  dn : ∃ n, H S.dn = some (.dict (dE B S.es) n)
  nds : ∀ x ∈ S.nds, x.At B cN H
  rd : ∀ r ns, S.ready = some (r, ns) → H r = some (.list (kns B ns))
  rs : ∀ r ns, S.ready = some (r, ns) → ∀ x ∈ S.nds, x.sa ≠ r
  ap : S.nds.Pairwise fun x y => x.key ≠ y.key ∧ x.a ≠ y.a ∧ x.sa ≠ y.sa
structure Grow (H H' : AHeap) (S S' : Srt) : Prop where
  self : S'.self = S.self
  keep : ∀ a o, H a = some o → a ∉ S.foot → H' a = some o
  foot : ∀ a ∈ S'.foot, a ∈ S.foot ∨ H a = none
  live : ∀ a, H a ≠ none → H' a ≠ none
  ds : ∀ x ∈ S'.nds, (∃ y ∈ S.nds, x.d = y.d) ∨ H x.d = none
theorem Grow.refl (H : AHeap) (S : Srt) : Grow H H S S := ⟨rfl, fun _ _ h _ => h, fun _ h => .inl h, fun _ h => h, fun x hx => .inl ⟨x, hx, rfl⟩⟩
noncomputable def Srt.setNp (S : Srt) (k v : Int) : Srt := { S with nds := S.nds.map fun x => if x.key = k then { x with np := v } else x }
noncomputable def Srt.push (S : Srt) (k s : Int) : Srt := { S with nds := S.nds.map fun x => if x.key = k then { x with succ := x.succ ++ [s] } else x }
section
variable {prog : Program} {w : World} {B : KeyBy prog w Int} {cN cT : Addr} {H : AHeap} {S : Srt}
theorem Srt.At.uniq (A : S.At B cN cT H) {x y : Nd} (hx : x ∈ S.nds) (hy : y ∈ S.nds) (h : x.key = y.key ∨ x.a = y.a ∨ x.sa = y.sa) : x = y := by
  have ap := A.ap
  generalize S.nds = l at ap hx hy
  induction l with
  | nil => cases hx
  | cons z l ih =>
    obtain ⟨h1, h2⟩ := List.pairwise_cons.mp ap
    rcases List.mem_cons.mp hx with rfl | hx'
    · rcases List.mem_cons.mp hy with rfl | hy'
      · rfl
      · obtain ⟨q1, q2, q3⟩ := h1 y hy'
        rcases h with h | h | h
        · exact absurd h q1
        · exact absurd h q2
        · exact absurd h q3
    · rcases List.mem_cons.mp hy with rfl | hy'
      · obtain ⟨q1, q2, q3⟩ := h1 x hx'
        rcases h with h | h | h
        · exact absurd h.symm q1
        · exact absurd h.symm q2
        · exact absurd h.symm q3
      · exact ih h2 hx' hy'
theorem Srt.val_at {S : Srt} {x : Nd} (hu : ∀ y ∈ S.nds, y.key = x.key → y = x) (hx : x ∈ S.nds) : valueAt S.es x.key = some (.ref x.a) := by
  unfold valueAt Srt.es
  generalize S.nds = l at hx hu
  induction l with
  | nil => cases hx
  | cons z l ih =>
    rw [List.map_cons, List.find?_cons]
    by_cases q : z.key = x.key
    · have := hu z List.mem_cons_self q; subst this; simp
    · have : decide ((z.key, Value.ref z.a).1 = x.key) = false := by simpa using q
      rw [this]
      rcases List.mem_cons.mp hx with rfl | hx'
      · exact absurd rfl q
      · exact ih hx' fun y hy => hu y (List.mem_cons_of_mem _ hy)
theorem Srt.val_none {S : Srt} {k : Int} (h : ∀ y ∈ S.nds, y.key ≠ k) : valueAt S.es k = none := by
  unfold valueAt Srt.es
  rw [Option.map_eq_none_iff, List.find?_eq_none]
  intro p hp
  obtain ⟨y, hy, rfl⟩ := List.mem_map.mp hp
  simpa using h y hy
theorem Srt.At.val (A : S.At B cN cT H) {x : Nd} (hx : x ∈ S.nds) : valueAt S.es x.key = some (.ref x.a) := Srt.val_at (fun y hy e => A.uniq hy hx (.inl e)) hx
theorem Srt.stored_new {S : Srt} {k : Int} {v : Value} (h : ∀ y ∈ S.nds, y.key ≠ k) : stored S.es k v = S.es ++ [(k, v)] := by
  unfold stored
  rw [if_neg]
  rw [Bool.not_eq_true, List.any_eq_false]
  intro p hp
  obtain ⟨y, hy, rfl⟩ := List.mem_map.mp hp
  simpa using h y hy
theorem mem_foot {S : Srt} {a : Addr} : a ∈ S.foot ↔ a = S.d ∨ a = S.dn ∨ (∃ x ∈ S.nds, a = x.a ∨ a = x.sa) ∨ ∃ ns, S.ready = some (a, ns) := by
  unfold Srt.foot
  rw [List.mem_cons, List.mem_cons, List.mem_append, List.mem_flatMap]
  refine or_congr Iff.rfl (or_congr Iff.rfl (or_congr ?_ ?_))
  · simp
  · cases h : S.ready with
    | none => simp
    | some p => obtain ⟨r, ns⟩ := p; simp [eq_comm]
theorem Srt.At.setNp (A : S.At B cN cT H) {x : Nd} (hx : x ∈ S.nds) (v : Int) : (S.setNp x.key v).At B cN cT (upd H x.a (.slots cN x.d [some (B.val x.key), some (vI v), some (.ref x.sa)])) ∧ Grow H (upd H x.a (.slots cN x.d [some (B.val x.key), some (vI v), some (.ref x.sa)])) S (S.setNp x.key v) := by
  have hxa := (A.nds x hx).1
  have ne : ∀ {b o}, H b = some o → (∀ d vs, o ≠ .slots cN d vs) → upd H x.a (.slots cN x.d [some (B.val x.key), some (vI v), some (.ref x.sa)]) b = some o := fun {b o} e n => by
    rw [upd_ne (fun q => by subst q; rw [hxa] at e; cases e; exact n _ _ rfl)]; exact e
  have es : (S.setNp x.key v).es = S.es := by
    show (List.map _ (List.map _ _)) = _
    rw [List.map_map]
    refine List.map_congr_left fun y hy => ?_
    simp only [Function.comp]
    split <;> rfl
  refine ⟨⟨ne A.self (by rintro _ _ ⟨⟩), ne A.ns (by rintro _ _ ⟨⟩), ?_, ?_, fun r ns e => ne (A.rd r ns e) (by rintro _ _ ⟨⟩), ?_, ?_⟩, ⟨rfl, ?_, ?_, ?_, ?_⟩⟩
  · obtain ⟨n, e⟩ := A.dn
    exact ⟨n, by rw [es]; exact ne e (by rintro _ _ ⟨⟩)⟩
  · intro y' hy'
    obtain ⟨y, hy, rfl⟩ := List.mem_map.mp hy'
    obtain ⟨h1, h2, h3⟩ := A.nds y hy
    by_cases q : y.key = x.key
    · obtain rfl := A.uniq hy hx (.inl q)
      rw [if_pos rfl]
      exact ⟨upd_at, ne h2 (by rintro _ _ ⟨⟩), ne h3 (by rintro _ _ ⟨⟩)⟩
    · rw [if_neg q]
      refine ⟨?_, ne h2 (by rintro _ _ ⟨⟩), ne h3 (by rintro _ _ ⟨⟩)⟩
      rw [upd_ne (fun e => q (by rw [A.uniq hy hx (.inr (.inl e))]))]; exact h1
  · intro r ns e y' hy'
    obtain ⟨y, hy, rfl⟩ := List.mem_map.mp hy'
    have := A.rs r ns e y hy
    split <;> exact this
  · refine List.pairwise_map.mpr (A.ap.imp fun {y z} h => ?_)
    split <;> split <;> exact h
  · intro b o e n
    rw [upd_ne (fun q => n (mem_foot.mpr (.inr (.inr (.inl ⟨x, hx, .inl q⟩)))))]; exact e
  · intro b m
    refine .inl ?_
    rcases mem_foot.mp m with q | q | ⟨y', hy', q⟩ | q
    · exact mem_foot.mpr (.inl q)
    · exact mem_foot.mpr (.inr (.inl q))
    · obtain ⟨y, hy, rfl⟩ := List.mem_map.mp hy'
      refine mem_foot.mpr (.inr (.inr (.inl ⟨y, hy, ?_⟩)))
      split at q <;> exact q
    · exact mem_foot.mpr (.inr (.inr (.inr q)))
  · intro b e
    by_cases q : b = x.a
    · rw [q, upd_at]; exact nofun
    · rw [upd_ne q]; exact e
  · intro y' hy'
    obtain ⟨y, hy, rfl⟩ := List.mem_map.mp hy'
    refine .inl ⟨y, hy, ?_⟩
    split <;> rfl
end
end Mine
end
section
set_option maxRecDepth 100000
set_option Elab.async false
set_option linter.unusedVariables false
set_option maxHeartbeats 4000000
namespace Mine
open PySem PySem.W PySem.Calls PyProof.Rows PySem.SeqAt
section
variable {prog : Program} {w : World} {B : KeyBy prog w Int} {cN cT : Addr} {H : AHeap} {S : Srt}
theorem Srt.At.push (A : S.At B cN cT H) {x : Nd} (hx : x ∈ S.nds) (v : Int) : (S.push x.key v).At B cN cT (upd H x.sa (.list (kns B (x.succ ++ [v])))) ∧ Grow H (upd H x.sa (.list (kns B (x.succ ++ [v])))) S (S.push x.key v) := by
  have hxa := (A.nds x hx).2.2
  have ne : ∀ {b o}, H b = some o → (∀ vs, o ≠ .list vs) → upd H x.sa (.list (kns B (x.succ ++ [v]))) b = some o := fun {b o} e n => by
    rw [upd_ne (fun q => by subst q; rw [hxa] at e; cases e; exact n _ rfl)]; exact e
  have es : (S.push x.key v).es = S.es := by
    show (List.map _ (List.map _ _)) = _
    rw [List.map_map]
    refine List.map_congr_left fun y hy => ?_
    simp only [Function.comp]
    split <;> rfl
  refine ⟨⟨ne A.self (by rintro _ ⟨⟩), ne A.ns (by rintro _ ⟨⟩), ?_, ?_, fun r ns e => ?_, ?_, ?_⟩, ⟨rfl, ?_, ?_, ?_, ?_⟩⟩
  · obtain ⟨n, e⟩ := A.dn
    exact ⟨n, by rw [es]; exact ne e (by rintro _ ⟨⟩)⟩
  · intro y' hy'
    obtain ⟨y, hy, rfl⟩ := List.mem_map.mp hy'
    obtain ⟨h1, h2, h3⟩ := A.nds y hy
    by_cases q : y.key = x.key
    · obtain rfl := A.uniq hy hx (.inl q)
      rw [if_pos rfl]
      exact ⟨ne h1 (by rintro _ ⟨⟩), ne h2 (by rintro _ ⟨⟩), upd_at⟩
    · rw [if_neg q]
      refine ⟨ne h1 (by rintro _ ⟨⟩), ne h2 (by rintro _ ⟨⟩), ?_⟩
      rw [upd_ne (fun e => q (by rw [A.uniq hy hx (.inr (.inr e))]))]; exact h3
  · rw [upd_ne (Ne.symm (A.rs r ns e x hx))]; exact A.rd r ns e
  · intro r ns e y' hy'
    obtain ⟨y, hy, rfl⟩ := List.mem_map.mp hy'
    have := A.rs r ns e y hy
    split <;> exact this
  · refine List.pairwise_map.mpr (A.ap.imp fun {y z} h => ?_)
    split <;> split <;> exact h
  · intro b o e n
    rw [upd_ne (fun q => n (mem_foot.mpr (.inr (.inr (.inl ⟨x, hx, .inr q⟩)))))]; exact e
  · intro b m
    refine .inl ?_
    rcases mem_foot.mp m with q | q | ⟨y', hy', q⟩ | q
    · exact mem_foot.mpr (.inl q)
    · exact mem_foot.mpr (.inr (.inl q))
    · obtain ⟨y, hy, rfl⟩ := List.mem_map.mp hy'
      refine mem_foot.mpr (.inr (.inr (.inl ⟨y, hy, ?_⟩)))
      split at q <;> exact q
    · exact mem_foot.mpr (.inr (.inr (.inr q)))
  · intro b e
    by_cases q : b = x.sa
    · rw [q, upd_at]; exact nofun
    · rw [upd_ne q]; exact e
  · intro y' hy'
    obtain ⟨y, hy, rfl⟩ := List.mem_map.mp hy'
    refine .inl ⟨y, hy, ?_⟩
    split <;> rfl
theorem Srt.At.setReady (A : S.At B cN cT H) {r : Addr} {ns : List Int} (hr : S.ready = some (r, ns)) (ms : List Int) : ({ S with ready := some (r, ms) } : Srt).At B cN cT (upd H r (.list (kns B ms))) ∧ Grow H (upd H r (.list (kns B ms))) S { S with ready := some (r, ms) } := by
  have hra := A.rd r ns hr
  have ne : ∀ {b o}, H b = some o → (∀ vs, o ≠ .list vs) → upd H r (.list (kns B ms)) b = some o := fun {b o} e n => by
    rw [upd_ne (fun q => by subst q; rw [hra] at e; cases e; exact n _ rfl)]; exact e
  have hns : ({ S with ready := some (r, ms) } : Srt).ns = S.ns := by unfold Srt.ns Srt.rv; rw [hr]
  refine ⟨⟨ne A.self (by rintro _ ⟨⟩), ?_, ?_, ?_, fun r' ns' e => ?_, ?_, A.ap⟩, ⟨rfl, ?_, ?_, ?_, fun x hx => .inl ⟨x, hx, rfl⟩⟩⟩
  · rw [hns]; exact ne A.ns (by rintro _ ⟨⟩)
  · obtain ⟨n, e⟩ := A.dn
    exact ⟨n, ne e (by rintro _ ⟨⟩)⟩
  · intro y hy
    obtain ⟨h1, h2, h3⟩ := A.nds y hy
    refine ⟨ne h1 (by rintro _ ⟨⟩), ne h2 (by rintro _ ⟨⟩), ?_⟩
    rw [upd_ne (A.rs r ns hr y hy)]; exact h3
  · cases e; exact upd_at
  · intro r' ns' e y hy
    cases e; exact A.rs r ns hr y hy
  · intro b o e n
    rw [upd_ne (fun q => n (mem_foot.mpr (.inr (.inr (.inr ⟨ns, by rw [q]; exact hr⟩)))))]; exact e
  · intro b m
    refine .inl ?_
    rcases mem_foot.mp m with q | q | q | ⟨ns', q⟩
    · exact mem_foot.mpr (.inl q)
    · exact mem_foot.mpr (.inr (.inl q))
    · exact mem_foot.mpr (.inr (.inr (.inl q)))
    · cases q; exact mem_foot.mpr (.inr (.inr (.inr ⟨ns, hr⟩)))
  · intro b e
    by_cases q : b = r
    · rw [q, upd_at]; exact nofun
    · rw [upd_ne q]; exact e
theorem Srt.At.setNs (A : S.At B cN cT H) (rd' : Option (Addr × List Int)) (out fin : Int) (h : ∀ r ns, rd' = some (r, ns) → H r = some (.list (kns B ns)) ∧ ∀ x ∈ S.nds, x.sa ≠ r) :
    ({ S with ready := rd', out := out, fin := fin } : Srt).At B cN cT (upd H S.d (.ns ({ S with ready := rd', out := out, fin := fin } : Srt).ns)) := by
  have hra := A.ns
  have ne : ∀ {b o}, H b = some o → (∀ vs, o ≠ .ns vs) → upd H S.d (.ns ({ S with ready := rd', out := out, fin := fin } : Srt).ns) b = some o := fun {b o} e n => by
    rw [upd_ne (fun q => by subst q; rw [hra] at e; cases e; exact n _ rfl)]; exact e
  refine ⟨ne A.self (by rintro _ ⟨⟩), upd_at, ?_, ?_, fun r' ns' e => ne (h r' ns' e).1 (by rintro _ ⟨⟩), fun r' ns' e => (h r' ns' e).2, A.ap⟩
  · obtain ⟨n, e⟩ := A.dn
    exact ⟨n, ne e (by rintro _ ⟨⟩)⟩
  · intro y hy
    obtain ⟨h1, h2, h3⟩ := A.nds y hy
    refine ⟨ne h1 (by rintro _ ⟨⟩), ?_, ne h3 (by rintro _ ⟨⟩)⟩
    rw [upd_ne (fun q => ?_)]
    · exact h2
    · rw [q, hra] at h2; cases h2
theorem Srt.At.growNs (A : S.At B cN cT H) (rd' : Option (Addr × List Int)) (out fin : Int) (o : AO) (h : ∀ r ns, rd' = some (r, ns) → r ∈ S.foot) : Grow H (upd H S.d o) S { S with ready := rd', out := out, fin := fin } := by
  refine ⟨rfl, ?_, ?_, ?_, fun x hx => .inl ⟨x, hx, rfl⟩⟩
  · intro b o e n
    rw [upd_ne (fun q => n (mem_foot.mpr (.inl q)))]; exact e
  · intro b m
    refine .inl ?_
    rcases mem_foot.mp m with q | q | q | ⟨ns', q⟩
    · exact mem_foot.mpr (.inl q)
    · exact mem_foot.mpr (.inr (.inl q))
    · exact mem_foot.mpr (.inr (.inr (.inl q)))
    · exact h _ _ q
  · intro b e
    by_cases q : b = S.d
    · rw [q, upd_at]; exact nofun
    · rw [upd_ne q]; exact e
theorem Srt.At.keep {H' : AHeap} (A : S.At B cN cT H) (h : ∀ a o, H a = some o → H' a = some o) : S.At B cN cT H' :=
  ⟨h _ _ A.self, h _ _ A.ns, A.dn.imp fun _ e => h _ _ e, fun x hx => ⟨h _ _ (A.nds x hx).1, h _ _ (A.nds x hx).2.1, h _ _ (A.nds x hx).2.2⟩, fun r ns e => h _ _ (A.rd r ns e), A.rs, A.ap⟩
theorem upd_keeps {a : Addr} {o : AO} (hn : H a = none) : ∀ b ob, H b = some ob → upd H a o b = some ob := fun b ob e => by
  rw [upd_ne (fun q => by rw [q, hn] at e; cases e)]; exact e
theorem Srt.At.away {H' : AHeap} (A : S.At B cN cT H) (h : ∀ a o, H a = some o → a = S.self ∨ a ∈ S.foot ∨ (∃ x ∈ S.nds, a = x.d) → H' a = some o) : S.At B cN cT H' :=
  ⟨h _ _ A.self (.inl rfl), h _ _ A.ns (.inr (.inl (mem_foot.mpr (.inl rfl)))), A.dn.imp fun _ e => h _ _ e (.inr (.inl (mem_foot.mpr (.inr (.inl rfl))))),
    fun x hx => ⟨h _ _ (A.nds x hx).1 (.inr (.inl (mem_foot.mpr (.inr (.inr (.inl ⟨x, hx, .inl rfl⟩)))))), h _ _ (A.nds x hx).2.1 (.inr (.inr ⟨x, hx, rfl⟩)), h _ _ (A.nds x hx).2.2 (.inr (.inl (mem_foot.mpr (.inr (.inr (.inl ⟨x, hx, .inr rfl⟩))))))⟩,
    fun r ns e => h _ _ (A.rd r ns e) (.inr (.inl (mem_foot.mpr (.inr (.inr (.inr ⟨ns, e⟩)))))), A.rs, A.ap⟩
noncomputable def Srt.addNd (S : Srt) (x : Nd) : Srt := { S with nds := S.nds ++ [x] }
theorem Srt.At.addNd {H₁ : AHeap} {x : Nd} {n : Nat} (A : S.At B cN cT H) (hk : ∀ y ∈ S.nds, y.key ≠ x.key) (ha : H x.a = none) (hs : H x.sa = none) (hd : H x.d = none) (hx : x.At B cN H₁) (h : ∀ a o, H a = some o → H₁ a = some o) :
    (S.addNd x).At B cN cT (upd H₁ S.dn (.dict (dE B (stored S.es x.key (.ref x.a))) n)) ∧ Grow H (upd H₁ S.dn (.dict (dE B (stored S.es x.key (.ref x.a))) n)) S (S.addNd x) := by
  have A₁ := A.keep h
  obtain ⟨n₀, hra⟩ := A₁.dn
  have ne : ∀ {b o}, H₁ b = some o → (∀ vs n, o ≠ .dict vs n) → upd H₁ S.dn (.dict (dE B (stored S.es x.key (.ref x.a))) n) b = some o := fun {b o} e n => by
    rw [upd_ne (fun q => by subst q; rw [hra] at e; cases e; exact n _ _ rfl)]; exact e
  refine ⟨⟨ne A₁.self (by rintro _ _ ⟨⟩), ne A₁.ns (by rintro _ _ ⟨⟩), ⟨n, ?_⟩, ?_, fun r ns e => ne (A₁.rd r ns e) (by rintro _ _ ⟨⟩), ?_, ?_⟩, ⟨rfl, ?_, ?_, ?_, ?_⟩⟩
  · rw [Srt.stored_new hk]
    show upd _ S.dn _ S.dn = _
    rw [upd_at]
    unfold Srt.es Srt.addNd
    rw [List.map_append]; rfl
  · intro y hy
    have : y.At B cN H₁ := by
      rcases List.mem_append.mp hy with hy | hy
      · exact A₁.nds y hy
      · rw [List.mem_singleton.mp hy]; exact hx
    exact ⟨ne this.1 (by rintro _ _ ⟨⟩), ne this.2.1 (by rintro _ _ ⟨⟩), ne this.2.2 (by rintro _ _ ⟨⟩)⟩
  · intro r ns e y hy
    rcases List.mem_append.mp hy with hy | hy
    · exact A.rs r ns e y hy
    · rw [List.mem_singleton.mp hy]
      intro q
      have := A.rd r ns e
      rw [← q, hs] at this; cases this
  · refine List.pairwise_append.mpr ⟨A.ap, List.pairwise_singleton _ _, fun y hy z hz => ?_⟩
    rw [List.mem_singleton.mp hz]
    refine ⟨hk y hy, fun q => ?_, fun q => ?_⟩
    · have := (A.nds y hy).1; rw [q, ha] at this; cases this
    · have := (A.nds y hy).2.2; rw [q, hs] at this; cases this
  · intro b o e m
    rw [upd_ne (fun q => m (mem_foot.mpr (.inr (.inl q))))]; exact h b o e
  · intro b m
    rcases mem_foot.mp m with q | q | ⟨y, hy, q⟩ | q
    · exact .inl (mem_foot.mpr (.inl q))
    · exact .inl (mem_foot.mpr (.inr (.inl q)))
    · rcases List.mem_append.mp hy with hy | hy
      · exact .inl (mem_foot.mpr (.inr (.inr (.inl ⟨y, hy, q⟩))))
      · rw [List.mem_singleton.mp hy] at q
        refine .inr ?_
        rcases q with q | q <;> rw [q] <;> assumption
    · exact .inl (mem_foot.mpr (.inr (.inr (.inr q))))
  · intro b e
    by_cases q : b = S.dn
    · rw [q, upd_at]; exact nofun
    · rw [upd_ne q]
      cases z : H b with
      | none => exact absurd z e
      | some o => rw [h b o z]; exact nofun
  · intro y hy
    rcases List.mem_append.mp hy with hy | hy
    · exact .inl ⟨y, hy, rfl⟩
    · rw [List.mem_singleton.mp hy]; exact .inr hd
end
end Mine
end
section
set_option maxRecDepth 100000
set_option Elab.async false
set_option linter.unusedVariables false
set_option maxHeartbeats 4000000
namespace Mine
open PySem PySem.W PySem.Calls PyProof.Rows PySem.SeqAt
section
variable {prog : Program} {w : World} {F : Fx} {st : St} {X : Value → List Value → St → Prop} {Q : Value × List Value → St → Prop} {a : Addr} {name : Str} {id : String} {pl : Sem Bool}
theorem T_methOf {ty : String} {ao : AO} (pa : PlainAttrs ty) (hT : ∀ o, RepO prog w ao o → o.cls = .type ty ∧ o.dict = none) (ha : st.H a = some ao) (slot : Slot ty name id) (hty : typeOf (.builtin id) = pure (.type "method_descriptor"))
    (h : Q (.builtin id, [.ref a]) st) : T prog w F (getMethod (.ref a) name pl) Q X st := by
  intro s R
  obtain ⟨o, ho, hr⟩ := R.1.cells a ao ha
  obtain ⟨hc, hd⟩ := hT o hr
  exact getMethod_builtin ⟨o, ho, hc⟩ pa slot hty (fun b e => by cases e; exact ⟨o, ho, hd⟩) ⟨st, R, .refl _ _ _ _, h⟩
theorem T_methL {xs : List Value} (ha : st.H a = some (.list xs)) (slot : Slot "list" name id) (hty : typeOf (.builtin id) = pure (.type "method_descriptor")) (h : Q (.builtin id, [.ref a]) st) : T prog w F (getMethod (.ref a) name pl) Q X st :=
  T_methOf (ao := .list xs) PySem.F.plainAttrs_list (fun o hr => ⟨hr.1, hr.2.1⟩) ha slot hty h
theorem T_methD {es : List (Value × Value)} {n : Nat} (ha : st.H a = some (.dict es n)) (slot : Slot "dict" name id) (hty : typeOf (.builtin id) = pure (.type "method_descriptor")) (h : Q (.builtin id, [.ref a]) st) : T prog w F (getMethod (.ref a) name pl) Q X st :=
  T_methOf (ao := .dict es n) PySem.F.plainAttrs_dict (fun o hr => ⟨hr.1.1, hr.1.2.1⟩) ha slot hty h
theorem T_methSB (B : KeyBy prog w Int) {ks : List Int} (ha : st.H a = some (B.aset ks)) (hn : ks.length ≤ 1000) (h : Q (.builtin "set.add", [.ref a]) st) : T prog w F (getMethod (.ref a) "add" pl) Q X st := by
  intro s R
  obtain ⟨S, hS, _⟩ := set_by (B := B) R.1 (ks := ks) ha hn
  exact getMethod_set_add (knd := B.knd) hS ⟨st, R, .refl _ _ _ _, h⟩
end
end Mine
end
section
open Mine
open PySem PySem.W PySem.Calls PyProof.Rows PySem.SeqAt
local macro_rules | `(tactic| walk_at "T") => mwAll ["~ T_cons T_nil T_ret T_int T_none T_sp1 T_if2 T_walrus T_tName", "~r T_assignName T_assignAttr T_attr T_callName T_isCmp", "~rrrr T_nameL", "~arrz T_storeL", "~rr T_callMeth"]
section
set_option maxRecDepth 100000
set_option Elab.async false
set_option linter.unusedVariables false
set_option maxHeartbeats 4000000
namespace Mine
open PySem PySem.W PySem.Calls PyProof.Rows PySem.SeqAt
section
variable {prog : Program} {w : World} {mg mb : Str → Option Value}
theorem next_spec {F : Fc} {n : Nat} {self d it l b k : Addr} {i : Nat} {xs : List Value} {dxs ds : List PyData} {H : AHeap} (W : Wld (KF1 w.params) F mg mb) (O : F.Ok (n + 1)) 
    (hs : H self = some (.slots 54 d [some (.ref b), some (.ref it)])) (hd : H d = some (.ns [])) (hb : H b = some (.bm "method-wrapper" (.builtin "list.__contains__") (.ref k))) (hi : ItIs H it l i xs)
    (cx : PyData.canLayAll0 dxs = true) (cd : PyData.canLayAll0 ds = true) (hdep : PyData.depthAll ds ≤ 100)
    (hne : self ≠ it ∧ d ≠ it ∧ b ≠ it ∧ k ≠ it ∧ l ≠ it) (hle : i ≤ xs.length)
    (hH : ∀ j, Rd (itUp H it l j) (.list ds) (.ref k) ∧ RdAll (itUp H it l j) dxs xs) :
    Calls prog w F (.ref 50) [.ref self] H
      (fun v H' => ∃ j, i ≤ j ∧ (∃ dx, dxs[j]? = some dx ∧ keepB ds dx = true) ∧ xs[j]? = some v ∧ (∀ m, i ≤ m → m < j → ∀ dx, dxs[m]? = some dx → keepB ds dx = false) ∧ H' = itUp H it l (j + 1))
      (fun c a H' => c = .type "StopIteration" ∧ a = [] ∧ H' = del H it ∧ ∀ m, i ≤ m → ∀ dx, dxs[m]? = some dx → keepB ds dx = false) := by
  refine Calls.fn (fd := _) (body := _) (names := ["self"]) ⟨⟨_, W.kx _ _ rfl, rfl⟩, rfl, rfl, rfl, codeRec_of W.kx (by rfl), rfl, rfl, by decide +kernel⟩ O (fun args' ha => ?_) (by decide) (by decide +kernel) fun L => ?_
  · obtain ⟨a, rfl, _⟩ := one_of ha; rfl
  · have U := ffx_runs (n := n + 1) O 50
    refine T.absQ' fun Qf hQ => ?_
    refine T.absX fun Xf hX => ?_
    walk_at "T"
    walk_at "T"
    walk_at "T"
    walk_at "T"
    intro ov' ho
    rw [er_ref ho]
    refine T_getS W.kx hs hd (i := 0) (by rfl) (by rfl) (by rfl) (by rfl) (by rfl) (by rfl) (by rfl) (by rfl) ?_
    intro v' hv
    walk_at "T"
    refine T_cons (T_while2 (U _ L) (fun m st' => ∃ j, m = xs.length - j ∧ i ≤ j ∧ j ≤ xs.length ∧ (∀ m, i ≤ m → m < j → ∀ dx, dxs[m]? = some dx → keepB ds dx = false) ∧
      Has st'.vars [("self", .ref self), ("func", .ref b)] ∧ st'.H = itUp H it l j) (xs.length - i) ⟨i, rfl, Nat.le_refl _, hle, fun m h1 h2 => absurd h2 (Nat.not_lt.mpr h1), ⟨by rfl, by rfl, trivial⟩, (itUp_self hi).symm⟩ ?_)
    rintro m ⟨vs, H'⟩ hx0_; refine ex1and6 hx0_ fun j y1_ hij hjl hno lv e => ?_; try clear hx0_; obtain rfl := y1_
    have e : H' = itUp H it l j := e
    subst e
    refine T.keepVars [("self", .ref self), ("func", .ref b)] lv ?_
    refine T_isVal (by rfl) (T_bool ?_)
    intro v' hv'
    refine T_truthB hv' ⟨fun _ => ?_, nofun⟩
    refine T.absQ' fun Qb hB => ?_
    walk_at "T"
    walk_at "T"
    refine T_callName rfl (T_bi W.ffx (by rfl) (by rfl) (by decide) (by rfl) (by rfl) (by rfl) (by rfl) (by rfl) ?_)
    intro f' hf'
    rw [er_builtin hf']
    refine T_callP (by rfl) (T_sp1 ?_)
    walk_at "T"
    walk_at "T"
    intro ov' ho
    rw [er_ref ho]
    have hs' : itUp H it l j self = _ := (itUp_other hne.1).trans hs
    have hd' : itUp H it l j d = _ := (itUp_other hne.2.1).trans hd
    have hb' : itUp H it l j b = _ := (itUp_other hne.2.2.1).trans hb
    refine T_getS W.kx hs' hd' (i := 1) (by rfl) (by rfl) (by rfl) (by rfl) (by rfl) (by rfl) (by rfl) (by rfl) ?_
    refine T_sp0 ⟨.builtin, fun vs' hv => ?_⟩
    obtain ⟨a, rfl, ha⟩ := one_of hv
    rw [er_ref ha]
    refine T_next (ffx_ok O _ _ _).hh (hi.up hne.2.2.2.2) ?_ ?_
    · intro x hx v' hv'
      have hlt : j < xs.length := (List.getElem?_eq_some_iff.mp hx).1
      obtain ⟨hkk, hxx⟩ := hH (j + 1)
      obtain ⟨dx, hdx, hrd⟩ := RdAll.get hxx hx
      have hcd := lay_get cx hdx
      have hup : ∀ {j k}, itUp (itUp H it l j) it l k = itUp H it l k := itUp_itUp (by rcases hi with ⟨h, _⟩ | ⟨h, _⟩ <;> rw [h] <;> exact nofun)
      walk_at "T"
      walk_at "T"
      refine T_if2 (T_isOr (T_or2 (T_isCmp (by rfl) ?_)))
      walk_at "T"
      refine T_none ?_
      intro a' b' ha' hb'
      refine T_isNone ha' hb' ⟨false, rfl, nofun, fun _ => ?_⟩
      refine T_or2 (T_isCmp (by rfl) ?_)
      walk_at "T"
      refine T_bi W.ffx (by rfl) (by rfl) (by decide) (by rfl) (by rfl) (by rfl) (by rfl) (by rfl) ?_
      intro a' b' ha' hb'
      refine T_isRT ha' hb' ⟨false, rfl, nofun, fun _ => ?_⟩
      refine T_or0 ⟨nofun, fun _ => ?_⟩
      refine T_cons (T_if2 (T_isNot (T_isVal (by rfl) (T_callName rfl ?_))))
      walk_at "T"
      intro f' hf'
      rw [er_ref hf']
      refine T_callP (by rfl) (T_sp1 ?_)
      walk_at "T"
      rw [hup]
      have hb'' : itUp H it l (j + 1) b = _ := (itUp_other hne.2.2.1).trans hb
      refine T_sp0 ⟨.bm hb'' (.inr rfl), fun vs' hv => ?_⟩
      obtain ⟨a, rfl, ha⟩ := one_of hv
      refine T_callIn hb'' (ha ▸ hrd) hkk hcd cd ?_ ?_
      · have := O.units
        exact unitsIn this hdep
      intro v' hv'
      refine T_truthB hv' ⟨fun hT => ?_, fun hT => ?_⟩
      · walk_at "T"
        walk_at "T"
        walk_at "T"
        refine hB _ _ ?_
        refine hQ _ _ ?_
        exact ⟨j, hij, ⟨dx, hdx, hT⟩, hx, hno, rfl⟩
      · refine T_nil ?_
        refine T_nil ?_
        refine T_nil ?_
        refine hB _ _ ?_
        refine ⟨xs.length - (j + 1), om4 hlt, j + 1, rfl, Nat.le_succ_of_le hij, hlt, fun m h1 h2 d hd => ?_, ⟨by rfl, by rfl, trivial⟩, rfl⟩
        by_cases e : m = j
        · subst e
          rw [hdx] at hd; cases hd
          exact hT
        · exact hno m h1 (by omega) d hd
    · intro hxn
      have hup : del (itUp H it l j) it = del H it := by
        funext c
        unfold del
        split
        · rfl
        · rename_i hc; exact itUp_other hc
      refine hX _ _ _ ⟨rfl, rfl, hup, fun m h1 d hd => ?_⟩
      have hlen := RdAll.len (hH 0).2
      have q1 : m < dxs.length := (List.getElem?_eq_some_iff.mp hd).1
      have q2 : xs.length ≤ j := List.getElem?_eq_none_iff.mp hxn
      exact hno m h1 (Nat.lt_of_lt_of_le q1 (hlen ▸ q2)) d hd
end
end Mine
end
section
set_option maxRecDepth 100000
set_option Elab.async false
set_option linter.unusedVariables false
set_option maxHeartbeats 4000000
namespace Mine
open PySem PySem.W PySem.Calls PyProof.Rows PySem.SeqAt
section
variable {prog : Program} {w : World} {mg mb : Str → Option Value}
theorem T_iter {F : Fx} {st : St} {X : Value → List Value → St → Prop} {Q : Value → St → Prop} {l : Addr} {xs : List Value} (N : NoSys F.toFc) (hl : st.H l = some (.list xs) ∨ st.H l = some (.tup xs))
    (h : ∀ a o, st.H a = none → ((o = AO.iter l 0 ∧ st.H l = some (.list xs)) ∨ (o = AO.titer l 0 ∧ st.H l = some (.tup xs))) → Q (.ref a) ⟨st.vars, upd st.H a o⟩) : T prog w F (call (.builtin "iter") [.ref l]) Q X st := by
  rcases hl with hl | hl
  · exact T_iterL N hl fun a ha => h a _ ha (.inl ⟨rfl, hl⟩)
  · exact T_iterT N hl fun a ha => h a _ ha (.inr ⟨rfl, hl⟩)
theorem init_spec {F : Fc} {n : Nat} {self d l : Addr} {fv : Value} {xs : List Value} {H : AHeap} (W : Wld (KF1 w.params) F mg mb) (O : F.Ok (n + 1)) (hfv : handedIn fv = true) (hef : er fv = fv)
    (hs : H self = some (.slots 54 d [])) (hd : H d = some (.ns [])) (hl : H l = some (.list xs) ∨ H l = some (.tup xs)) :
    Calls prog w F (.ref 36) [.ref self, fv, .ref l] H
      (fun v H' => v = .none ∧ ∃ it o, H it = none ∧ (o = .iter l 0 ∧ H l = some (.list xs) ∨ o = .titer l 0 ∧ H l = some (.tup xs)) ∧ H' = upd (upd (upd H it o) self (.slots 54 d [none, some (.ref it)])) self (.slots 54 d [some fv, some (.ref it)]))
      (fun _ _ _ => False) := by
  refine Calls.fn (fd := _) (body := _) (names := ["self", "function", "iterable"]) ⟨⟨_, W.kx _ _ rfl, rfl⟩, rfl, rfl, rfl, codeRec_of W.kx (by rfl), rfl, rfl, by decide +kernel⟩ O (fun args' ha => ?_) (by decide) (by decide +kernel) fun L => ?_
  · refine ex3and2 (three_of ha) fun a b c y3_ _ => ?_; obtain rfl := y3_; rfl
  · refine T.absQ' fun Qf hQ => ?_
    walk_at "T"
    walk_at "T"
    walk_at "T"
    refine T_bi W.ffx (by rfl) (by rfl) (by decide) (by rfl) (by rfl) (by rfl) (by rfl) (by rfl) ?_
    intro f' hf'
    rw [er_builtin hf']
    refine T_callP (by rfl) (T_sp1 ?_)
    walk_at "T"
    refine T_sp0 ⟨.builtin, fun vs' hv => ?_⟩
    obtain ⟨a, rfl, ha⟩ := one_of hv
    rw [er_ref ha]
    refine T_iter W.ns hl fun it o hit ho => ?_
    have hit : H it = none := hit
    walk_at "T"
    intro v' ov' hv' hov'
    rw [er_ref hov']
    have hsi : self ≠ it := fun q => by rw [q, hit] at hs; cases hs
    have hdi : d ≠ it := fun q => by rw [q, hit] at hd; cases hd
    have hsd : self ≠ d := fun q => by rw [q, hd] at hs; cases hs
    refine T_setS W.kx ((upd_ne hsi).trans hs) ((upd_ne hdi).trans hd) hv' (by rfl) (by rfl) (by rfl) (by rfl) (by rfl) (by decide) ?_
    walk_at "T"
    walk_at "T"
    walk_at "T"
    walk_at "T"
    intro v' ov' hv' hov'
    rw [er_ref hov']
    refine T_setS W.kx upd_at ((upd_ne (Ne.symm hsd)).trans ((upd_ne hdi).trans hd)) hv' (by rfl) (by rfl) (by rfl) (by rfl) (by rfl) (by decide) ?_
    walk_at "T"
    exact hQ _ _ ⟨rfl, it, o, hit, ho, rfl⟩
end
end Mine
end
section
set_option maxRecDepth 100000
set_option Elab.async false
set_option linter.unusedVariables false
set_option maxHeartbeats 4000000
namespace Mine
open PySem PySem.W PySem.Calls PyProof.Rows PySem.SeqAt
section
variable {prog : Program} {w : World} {mg mb : Str → Option Value}
theorem filt_len (xs : List Value) (dxs ds : List PyData) : (filt xs dxs ds).length ≤ xs.length := by
  unfold filt
  rw [List.length_map]
  refine Nat.le_trans (List.length_filter_le _ _) ?_
  rw [List.length_zip]; omega
theorem del_itUp {H : AHeap} {it l : Addr} {i : Nat} : del (itUp H it l i) it = del H it := by
  funext c
  unfold del
  split
  · rfl
  · rename_i hc; exact itUp_other hc
theorem iter_spec {F : Fc} {n : Nat} {self : Addr} {H : AHeap} (W : Wld (KF1 w.params) F mg mb) (O : F.Ok (n + 1)) :
    Calls prog w F (.ref 43) [.ref self] H (fun v H' => v = .ref self ∧ H' = H) (fun _ _ _ => False) := by
  refine Calls.fn (fd := _) (body := _) (names := ["self"]) ⟨⟨_, W.kx _ _ rfl, rfl⟩, rfl, rfl, rfl, codeRec_of W.kx (by rfl), rfl, rfl, by decide +kernel⟩ O (fun args' ha => ?_) (by decide) (by decide +kernel) fun L => ?_
  · obtain ⟨a, rfl, _⟩ := one_of ha; rfl
  · walk_at "T"
    walk_at "T"
    walk_at "T"
    exact ⟨rfl, rfl⟩
theorem filter_spec {F : Fc} {n : Nat} {l k : Addr} {xs ys : List Value} {dxs dys : List PyData} {H : AHeap} (W : Wld (KF1 w.params) F mg mb) (O : F.Ok (n + 4))
    (hl : H l = some (.list xs) ∨ H l = some (.tup xs)) (hk : H k = some (.list ys)) (hx : RdAll noH dxs xs) (hy : RdAll noH dys ys) (cx : PyData.canLayAll0 dxs = true) (cy : PyData.canLayAll0 dys = true) (hn : xs.length ≤ 50000) :
    Calls prog w F (.ref 65) [.ref l, .ref k] H
      (fun v H' => ∃ a, v = .ref a ∧ H a = none ∧ H' = upd H a (.list (filt xs dxs dys))) (fun _ _ _ => False) := by
  refine Calls.fn (fd := _) (body := _) (names := ["flist", "skip"]) ⟨⟨_, W.kx _ _ rfl, rfl⟩, rfl, rfl, rfl, codeRec_of W.kx (by rfl), rfl, rfl, by decide +kernel⟩ O (fun args' ha => ?_) (by decide) (by decide +kernel) fun L => ?_
  · obtain ⟨a, b, rfl, _⟩ := two_of ha; rfl
  · refine T.drop ?_
    refine T.absQ' fun Qf hQ => ?_
    walk_at "T"
    walk_at "T"
    walk_at "T"
    refine T_bi W.ffx (by rfl) (by rfl) (by decide) (by rfl) (by rfl) (by rfl) (by rfl) (by rfl) ?_
    intro f' hf'
    rw [er_type hf']
    refine T_callP (by rfl) (T_sp1 ?_)
    walk_at "T"
    refine T_gl W.ffx (by rfl) (by rfl) (by rfl) (by rfl) (by rfl) ?_
    intro f' hf'
    rw [er_ref hf']
    refine T_callP (by rfl) (T_sp1 ?_)
    walk_at "T"
    walk_at "T"
    intro ov' ho
    rw [er_ref ho]
    refine T_getIn hk fun b hb => ?_
    have hb : H b = none := hb
    walk_at "T"
    walk_at "T"
    refine T_sp0 ⟨.k W.kx (by rfl), fun vs' hv => ?_⟩
    have hlb : l ≠ b := fun q => by rw [q, hb] at hl; rcases hl with h | h <;> cases h
    have hkb : k ≠ b := fun q => by rw [q, hb] at hk; cases hk
    refine T_code hv (Calls.make W.kx (ffx_ok O _ _ _) (by rfl) (by rfl) (by rfl) true fun A' OA x d hx0 hd0 hxd => ?_)
    obtain ⟨hx1, hxb⟩ := upd_none hx0
    obtain ⟨hd1, hdb⟩ := upd_none hd0
    have hx1 : H x = none := hx1
    have hd1 : H d = none := hd1
    have hlx : l ≠ x := fun q => by rw [q] at hl; rcases hl with h | h <;> (rw [hx1] at h; cases h)
    have hld : l ≠ d := fun q => by rw [q] at hl; rcases hl with h | h <;> (rw [hd1] at h; cases h)
    have hkx : k ≠ x := fun q => by rw [q] at hk; rw [hx1] at hk; cases hk
    have hkd : k ≠ d := fun q => by rw [q] at hk; rw [hd1] at hk; cases hk
    refine (init_spec (xs := xs) W.ffx.re OA (by rfl) (by rfl) upd_at ((upd_ne (Ne.symm hxd)).trans upd_at) ?_).mono ?_ (fun _ _ _ z => z.elim)
    · rcases hl with h | h
      · exact .inl ((upd_ne hlx).trans ((upd_ne hld).trans ((upd_ne hlb).trans h)))
      · exact .inr ((upd_ne hlx).trans ((upd_ne hld).trans ((upd_ne hlb).trans h)))
    rintro v H' hx0_; refine ex0and2 hx0_ fun y0_ y1_ => ?_; try clear hx0_; obtain rfl := y0_; obtain ⟨it, o, hit, ho, rfl⟩ := y1_
    refine ⟨rfl, ?_⟩
    obtain ⟨hit1, hitx⟩ := upd_none hit
    obtain ⟨hit2, hitd⟩ := upd_none hit1
    obtain ⟨hit3, hitb⟩ := upd_none hit2
    have hit3 : H it = none := hit3
    have hlit : l ≠ it := fun q => by rw [q] at hl; rcases hl with h | h <;> (rw [hit3] at h; cases h)
    have hkit : k ≠ it := fun q => by rw [q] at hk; rw [hit3] at hk; cases hk
    change T prog w _ _ _ _ ⟨_, upd (upd (upd (upd (upd (upd H b (.bm "method-wrapper" (.builtin "list.__contains__") (.ref k))) d (.ns [])) x (if true = true then .slots 54 d [] else .inst 54 d)) it o) x (.slots 54 d [none, some (.ref it)])) x (.slots 54 d [some (.ref b), some (.ref it)])⟩
    generalize hHff : upd (upd (upd (upd (upd (upd H b (.bm "method-wrapper" (.builtin "list.__contains__") (.ref k))) d (.ns [])) x (if true = true then .slots 54 d [] else .inst 54 d)) it o) x (.slots 54 d [none, some (.ref it)])) x (.slots 54 d [some (.ref b), some (.ref it)]) = Hff
    have fx : Hff x = some (.slots 54 d [some (.ref b), some (.ref it)]) := by rw [← hHff]; exact upd_at
    have fd : Hff d = some (.ns []) := by rw [← hHff, upd_ne (Ne.symm hxd), upd_ne (Ne.symm hxd), upd_ne (Ne.symm hitd), upd_ne (Ne.symm hxd)]; exact upd_at
    have fb : Hff b = some (.bm "method-wrapper" (.builtin "list.__contains__") (.ref k)) := by rw [← hHff, upd_ne (Ne.symm hxb), upd_ne (Ne.symm hxb), upd_ne (Ne.symm hitb), upd_ne (Ne.symm hxb), upd_ne (Ne.symm hdb)]; exact upd_at
    have fit : Hff it = some o := by rw [← hHff, upd_ne hitx, upd_ne hitx]; exact upd_at
    have fo : ∀ c ob, H c = some ob → Hff c = some ob ∧ c ≠ it := fun c ob hc => by
      have h1 : c ≠ x := fun q => by rw [q, hx1] at hc; cases hc
      have h2 : c ≠ it := fun q => by rw [q, hit3] at hc; cases hc
      have h3 : c ≠ d := fun q => by rw [q, hd1] at hc; cases hc
      have h4 : c ≠ b := fun q => by rw [q, hb] at hc; cases hc
      exact ⟨by rw [← hHff, upd_ne h1, upd_ne h1, upd_ne h2, upd_ne h1, upd_ne h3, upd_ne h4]; exact hc, h2⟩
    have fk : Hff k = some (.list ys) := (fo k _ hk).1
    have II : ItIs Hff it l 0 xs := by
      rcases ho with ⟨rfl, h'⟩ | ⟨rfl, h'⟩
      · rw [upd_ne hlx, upd_ne hld] at h'
        have h' : upd H b _ l = _ := h'
        rw [upd_ne hlb] at h'
        exact .inl ⟨fit, (fo l _ h').1⟩
      · rw [upd_ne hlx, upd_ne hld] at h'
        have h' : upd H b _ l = _ := h'
        rw [upd_ne hlb] at h'
        exact .inr ⟨fit, (fo l _ h').1⟩
    have hne : Hff it ≠ none := by rw [fit]; exact nofun
    have dl := RdAll.len hx
    have hbit : b ≠ it := Ne.symm hitb
    refine T_sp0 ⟨.type, fun vs' hv => ?_⟩
    obtain ⟨a, rfl, ha⟩ := one_of hv
    rw [er_ref ha]
    refine T_listOwn (n := n + 2) (ffx_ok O _ _ _) W.kx ⟨⟨_, fx⟩, fd⟩ (by rfl) (by rfl) (by rfl) (by rfl) (by rfl) (by rfl)
      (fun A OA' => iter_spec (n := n + 1) W.ffx.re OA')
      (fun m acc H'' => ∃ j, m = xs.length - j ∧ j ≤ xs.length ∧ acc = filt (xs.take j) (dxs.take j) dys ∧ H'' = itUp Hff it l j)
      (fun acc H'' => acc = filt xs dxs dys ∧ H'' = del Hff it) ?_ ?_ (m := xs.length) ⟨0, rfl, Nat.zero_le _, rfl, (itUp_self II).symm⟩ ?_
    · rintro m acc H'' hx0_; refine ex1and4 hx0_ fun j y1_ hj y3_ y4_ => ?_; try clear hx0_; obtain rfl := y1_; obtain rfl := y3_; obtain rfl := y4_
      refine ⟨⟨⟨_, (itUp_other (Ne.symm hitx)).trans fx⟩, (itUp_other (Ne.symm hitd)).trans fd⟩, ?_⟩
      have := filt_len (xs.take j) (dxs.take j) dys
      rw [List.length_take] at this
      exact om13 this hn
    · rintro A OA' m acc H'' hx0_; refine ex1and4 hx0_ fun j y1_ hj y3_ y4_ => ?_; try clear hx0_; obtain rfl := y1_; obtain rfl := y3_; obtain rfl := y4_
      refine (next_spec (dxs := dxs) (ds := dys) (n := n + 1) W.ffx.re OA' ((itUp_other (Ne.symm hitx)).trans fx) ((itUp_other (Ne.symm hitd)).trans fd) ((itUp_other hbit).trans fb) (II.up hlit) cx cy (by rw [RdAll.flatDepth hy]; omega) ⟨Ne.symm hitx, Ne.symm hitd, hbit, hkit, hlit⟩ hj (fun j' => ?_)).mono ?_ ?_
      · rw [itUp_itUp hne]
        exact ⟨⟨k, ys, rfl, (itUp_other hkit).trans fk, RdAll.flat hy⟩, RdAll.flat hx⟩
      · rintro v H3 hx0_; refine ex1and5 hx0_ fun j' hjj y2_ hxv hno y5_ => ?_; try clear hx0_; obtain ⟨dx, hdx, hkp⟩ := y2_; obtain rfl := y5_
        have hlt : j' < xs.length := (List.getElem?_eq_some_iff.mp hxv).1
        refine ⟨xs.length - (j' + 1), Nat.sub_lt_sub_left (Nat.lt_of_le_of_lt hjj hlt) (Nat.lt_succ_of_le hjj), j' + 1, rfl, hlt, ?_, itUp_itUp hne⟩
        rw [filt_keep hxv hdx hkp, filt_skip dl hjj (Nat.le_of_lt hlt) hno]
      · rintro c as H3 ⟨rfl, rfl, rfl, hno⟩
        refine ⟨rfl, ?_, del_itUp⟩
        have e := filt_skip (ds := dys) dl hj (Nat.le_refl _) (fun m h1 h2 => hno m h1)
        rw [List.take_length, ← dl, List.take_length] at e
        exact e.symm
    · rintro acc H3 a ⟨rfl, rfl⟩ ha1 ha2
      have ha2 : Hff a = none := ha2
      have haH : H a = none := by
        cases q : H a with
        | none => rfl
        | some ob => rw [(fo a ob q).1] at ha2; cases ha2
      refine hQ _ _ ⟨⟨[], upd H a (.list (filt xs dxs dys))⟩, (fun x v e => by cases e), fun c ob hc => ?_, a, rfl, haH, rfl⟩
      show upd (del Hff it) a _ c = some ob
      have hc : upd H a (.list (filt xs dxs dys)) c = some ob := hc
      by_cases q : c = a
      · subst q; rw [upd_at] at hc ⊢; exact hc
      · rw [upd_ne q] at hc ⊢
        obtain ⟨h1, h2⟩ := fo c ob hc
        unfold del; rw [if_neg h2]; exact h1
end
end Mine
end
section
set_option maxRecDepth 100000
set_option Elab.async false
set_option linter.unusedVariables false
set_option maxHeartbeats 4000000
namespace Mine
open PySem PySem.W PySem.Calls PyProof.Rows PySem.SeqAt
section
variable {prog : Program} {w : World} {B : KeyBy prog w Int} {mg mb : Str → Option Value}
theorem ni_spec {F : Fc} {n : Nat} {x d : Addr} {k : Int} {H : AHeap} (W : Wld (KF1 w.params) F mg mb) (O : F.Ok (n + 1)) (hx : H x = some (.slots 84 d [])) (hd : H d = some (.ns [])) :
    Calls prog w F (.ref 80) [.ref x, B.val k] H
      (fun v H' => v = .none ∧ ∃ sa, H sa = none ∧ Nd.At B 84 H' ⟨k, 0, [], x, d, sa⟩ ∧ ∀ b o, H b = some o → b ≠ x → H' b = some o) (fun _ _ _ => False) := by
  refine Calls.fn (fd := _) (body := _) (names := ["self", "node"]) ⟨⟨_, W.kx _ _ rfl, rfl⟩, rfl, rfl, rfl, codeRec_of W.kx (by rfl), rfl, rfl, by decide +kernel⟩ O (fun args' ha => ?_) (by decide) (by decide +kernel) fun L => ?_
  · obtain ⟨a, b, rfl, _⟩ := two_of ha; rfl
  · have hxd : d ≠ x := fun q => by rw [q, hx] at hd; cases hd
    refine T.absQ' fun Qf hQ => ?_
    walk_at "T"
    walk_at "T"
    walk_at "T"
    walk_at "T"
    intro v' ov' hv' hov'
    rw [er_ref hov']
    refine T_setS W.kx hx hd hv' (by rfl) (by rfl) (by rfl) (by rfl) (by rfl) (by decide) ?_
    walk_at "T"
    walk_at "T"
    walk_at "T"
    walk_at "T"
    intro v' ov' hv' hov'
    rw [er_ref hov']
    refine T_setS W.kx upd_at ((upd_ne hxd).trans hd) hv' (by rfl) (by rfl) (by rfl) (by rfl) (by rfl) (by decide) ?_
    walk_at "T"
    walk_at "T"
    refine T_list rfl (T_sp0 ⟨Nat.zero_le _, fun sa hsa => ?_⟩)
    obtain ⟨hs1, hsx⟩ := upd_none hsa
    obtain ⟨hs2, _⟩ := upd_none hs1
    have hs2 : H sa = none := hs2
    have hds : d ≠ sa := fun q => by rw [q, hs2] at hd; cases hd
    walk_at "T"
    intro v' ov' hv' hov'
    rw [er_ref hov']
    refine T_setS W.kx ((upd_ne (Ne.symm hsx)).trans upd_at) ((upd_ne hds).trans ((upd_ne hxd).trans ((upd_ne hxd).trans hd))) hv' (by rfl) (by rfl) (by rfl) (by rfl) (by rfl) (by decide) ?_
    walk_at "T"
    refine hQ _ _ ⟨rfl, sa, hs2, ⟨upd_at, (upd_ne hxd).trans ((upd_ne hds).trans ((upd_ne hxd).trans ((upd_ne hxd).trans hd))), (upd_ne hsx).trans upd_at⟩, fun b o e nb => ?_⟩
    have hbs : b ≠ sa := fun q => by rw [q, hs2] at e; cases e
    exact (upd_ne nb).trans ((upd_ne hbs).trans ((upd_ne nb).trans ((upd_ne nb).trans e)))
end
end Mine
end
section
set_option maxRecDepth 100000
set_option Elab.async false
set_option linter.unusedVariables false
set_option maxHeartbeats 4000000
namespace Mine
open PySem PySem.W PySem.Calls PyProof.Rows PySem.SeqAt
noncomputable def PS.touch (P : PS) (k : Int) : PS := if P.nds.any (fun x => x.key = k) then P else { P with nds := P.nds ++ [⟨k, 0, []⟩] }
section
variable {prog : Program} {w : World} {B : KeyBy prog w Int} {mg mb : Str → Option Value}
theorem T_getSelf {F : Fx} {st : St} {X : Value → List Value → St → Prop} {Q : Value → St → Prop} {S : Srt} {name : Str} {v : Value} (A : S.At B 84 181 st.H) (KX : (KF1 w.params).In F.base) (hl : S.ns.lookup name = some v) (hv : handedIn v = true)
    (hg : plainGet (KF1 w.params) 181 name = true) (ha : findIn (KF1 w.params) (.ref 181) name = some none) (h : Q v st) : T prog w F (getAttr (.ref S.self) name true) Q X st :=
  T_getA KX A.self A.ns hl hv hg (by rfl) ha (by rfl) h
theorem info_spec {F : Fc} {n : Nat} {S : Srt} {k : Int} {H : AHeap} (W : Wld (KF1 w.params) F mg mb) (O : F.Ok (n + 3)) (A : S.At B 84 181 H) (hn : S.nds.length ≤ 1000) :
    Calls prog w F (.ref 124) [.ref S.self, B.val k] H
      (fun v H' => ∃ S' x, v = .ref x.a ∧ x ∈ S'.nds ∧ x.key = k ∧ S'.At B 84 181 H' ∧ Grow H H' S S' ∧ S'.p = S.p.touch k ∧ S'.ready = S.ready) (fun _ _ _ => False) := by
  refine Calls.fn (fd := _) (body := _) (names := ["self", "node"]) ⟨⟨_, W.kx _ _ rfl, rfl⟩, rfl, rfl, rfl, codeRec_of W.kx (by rfl), rfl, rfl, by decide +kernel⟩ O (fun args' ha => ?_) (by decide) (by decide +kernel) fun L => ?_
  · obtain ⟨a, b, rfl, _⟩ := two_of ha; rfl
  · refine T.absQ' fun Qf hQ => ?_
    walk_at "T"
    walk_at "T"
    walk_at "T"
    walk_at "T"
    walk_at "T"
    walk_at "T"
    walk_at "T"
    intro ov ho
    rw [er_ref ho]
    refine T_getSelf A W.kx (by rfl) (by rfl) (by rfl) (by rfl) ?_
    intro ov ho
    rw [er_ref ho]
    obtain ⟨m, hdn⟩ := A.dn
    refine T_methD hdn PySem.F.slot_dict_get PySem.F.type_dict_get ?_
    intro f' first' hf hfirst
    rw [er_builtin hf]
    obtain ⟨r, rfl, hr⟩ := one_of hfirst
    rw [er_ref hr]
    refine T_callP (by rfl) (T_sp1 ?_)
    walk_at "T"
    refine T_sp0 ⟨.builtin, fun vs' hv => ?_⟩
    obtain ⟨a, rfl, ha⟩ := one_of hv
    refine T_dget (B := B) (k := k) W.ns ha hdn ?_
    intro v' hv'
    walk_at "T"
    walk_at "T"
    walk_at "T"
    intro a' b' ha' hb'
    refine T_isNone ha' hb' ⟨_, rfl, ?_, ?_⟩
    · intro hnone
      have hk : ∀ y ∈ S.nds, y.key ≠ k := fun y hy q => by
        subst q
        rw [A.val hy] at hnone
        have hnone : false = true := hnone
        cases hnone
      walk_at "T"
      refine T_assign2 rfl rfl ?_
      walk_at "T"
      refine T_gl W.ffx (by rfl) (by rfl) (by rfl) (by rfl) (by rfl) ?_
      intro f' hf'
      rw [er_ref hf']
      refine T_callP (by rfl) (T_sp1 ?_)
      walk_at "T"
      refine T_sp0 ⟨.k W.kx (by rfl), fun vs' hv => ?_⟩
      refine T_code hv (Calls.make W.kx (ffx_ok O _ _ _) (by rfl) (by rfl) (by rfl) true fun A' OA x d hx0 hd0 hxd => ?_)
      refine (ni_spec (k := k) W.ffx.re OA upd_at ((upd_ne (Ne.symm hxd)).trans upd_at)).mono ?_ (fun _ _ _ z => z.elim)
      rintro v H' hx0_; refine ex0and2 hx0_ fun y0_ y1_ => ?_; try clear hx0_; obtain rfl := y0_; obtain ⟨sa, hsa, hat, hkeep⟩ := y1_
      refine ⟨rfl, ?_⟩
      intro v' hv'
      have hx1 : H x = none := hx0
      have hd1 : H d = none := hd0
      have hkp : ∀ b o, H b = some o → H' b = some o := fun b o e => hkeep b o (by
        rw [upd_ne (fun q => by rw [q, hx1] at e; cases e), upd_ne (fun q => by rw [q, hd1] at e; cases e)]; exact e) (fun q => by rw [q, hx1] at e; cases e)
      have hsa1 : H sa = none := (upd_none (upd_none hsa).1).1
      have A1 := A.keep hkp
      obtain ⟨m1, hdn1⟩ := A1.dn
      refine T_tSub ?_
      walk_at "T"
      walk_at "T"
      intro ov ho
      rw [er_ref ho]
      refine T_getSelf A1 W.kx (by rfl) (by rfl) (by rfl) (by rfl) ?_
      walk_at "T"
      intro ov' iv' hov hiv
      refine T_setD (B := B) (k := k) hov hiv hv' hdn1 (by unfold Srt.es; rw [List.length_map]; omega) fun m2 => ?_
      walk_at "T"
      walk_at "T"
      walk_at "T"
      walk_at "T"
      walk_at "T"
      walk_at "T"
      obtain ⟨A2, G⟩ := A.addNd (n := m2) (x := ⟨k, 0, [], x, d, sa⟩) hk hx1 hsa1 hd1 hat hkp
      refine hQ _ _ ⟨_, ⟨k, 0, [], x, d, sa⟩, rfl, List.mem_append_right _ List.mem_cons_self, rfl, A2, G, ?_, rfl⟩
      unfold PS.touch
      rw [if_neg]
      · unfold Srt.p Srt.addNd
        rw [List.map_append]; rfl
      · rw [Bool.not_eq_true, List.any_eq_false]
        intro y' hy'
        obtain ⟨y, hy, rfl⟩ := List.mem_map.mp hy'
        exact fun q => hk y hy (of_decide_eq_true q)
    · intro hsome
      walk_at "T"
      walk_at "T"
      walk_at "T"
      walk_at "T"
      by_cases q : ∃ x ∈ S.nds, x.key = k
      · obtain ⟨x, hx, rfl⟩ := q
        refine hQ _ _ ⟨S, x, ?_, hx, rfl, A, .refl _ _, ?_, rfl⟩
        · show (valueAt S.es x.key).getD .none = _
          rw [A.val hx]; rfl
        · unfold PS.touch
          rw [if_pos]
          rw [List.any_eq_true]
          exact ⟨x.p, List.mem_map_of_mem hx, by simp [Nd.p]⟩
      · have hk : ∀ y ∈ S.nds, y.key ≠ k := fun y hy e => q ⟨y, hy, e⟩
        rw [Srt.val_none hk] at hsome
        exact absurd hsome (by decide)
end
end Mine
end
section
set_option maxRecDepth 100000
set_option Elab.async false
set_option linter.unusedVariables false
set_option maxHeartbeats 4000000
namespace Mine
open PySem PySem.W PySem.Calls PyProof.Rows PySem.SeqAt
section
variable {prog : Program} {w : World} {B : KeyBy prog w Int} {mg mb : Str → Option Value}
theorem start_spec {F : Fc} {n : Nat} {self d : Addr} {H : AHeap} (W : Wld (KF1 w.params) F mg mb) (O : F.Ok (n + 1)) (hs : H self = some (.inst 181 d)) (hd : H d = some (.ns [])) :
    Calls prog w F (.ref 117) [.ref self] H
      (fun v H' => v = .none ∧ ∃ dn, H dn = none ∧ Srt.At B 84 181 H' ⟨self, d, dn, [], none, 0, 0⟩ ∧ ∀ b o, H b = some o → b ≠ d → H' b = some o) (fun _ _ _ => False) := by
  refine Calls.fnD (fd := _) (body := _) (names := ["self", "graph"]) (dv := [.none]) W.kx ⟨⟨_, W.kx _ _ rfl, rfl⟩, rfl, rfl, rfl, codeRec_of W.kx (by rfl), rfl, rfl, by decide +kernel⟩ O (fun args' ha S => ?_) (by decide) (by decide +kernel) fun L => ?_
  · obtain ⟨a, rfl, _⟩ := one_of ha; rfl
  · have hsd : self ≠ d := fun q => by rw [q, hd] at hs; cases hs
    refine T.absQ' fun Qf hQ => ?_
    walk_at "T"
    walk_at "T"
    refine T_dict0 fun dn hdn => ?_
    have hdn1 : H dn = none := hdn
    have hsn : self ≠ dn := fun q => by rw [q, hdn1] at hs; cases hs
    have hnd : dn ≠ d := fun q => by rw [q, hd] at hdn1; cases hdn1
    walk_at "T"
    intro v' ov' hv' hov'
    rw [er_ref hov']
    refine T_setA W.kx ((upd_ne hsn).trans hs) ((upd_ne (Ne.symm hnd)).trans hd) hv' (by decide) (by rfl) (by rfl) (by rfl) (by rfl) ?_
    walk_at "T"
    walk_at "T"
    walk_at "T"
    walk_at "T"
    intro v' ov' hv' hov'
    rw [er_ref hov']
    refine T_setA W.kx ((upd_ne hsd).trans ((upd_ne hsn).trans hs)) upd_at hv' (show (1 : Nat) < 1000 by decide) (by rfl) (by rfl) (by rfl) (by rfl) ?_
    walk_at "T"
    walk_at "T"
    walk_at "T"
    walk_at "T"
    intro v' ov' hv' hov'
    rw [er_ref hov']
    refine T_setA W.kx ((upd_ne hsd).trans ((upd_ne hsd).trans ((upd_ne hsn).trans hs))) upd_at hv' (show (2 : Nat) < 1000 by decide) (by rfl) (by rfl) (by rfl) (by rfl) ?_
    walk_at "T"
    walk_at "T"
    walk_at "T"
    walk_at "T"
    intro v' ov' hv' hov'
    rw [er_ref hov']
    refine T_setA W.kx ((upd_ne hsd).trans ((upd_ne hsd).trans ((upd_ne hsd).trans ((upd_ne hsn).trans hs)))) upd_at hv' (show (3 : Nat) < 1000 by decide) (by rfl) (by rfl) (by rfl) (by rfl) ?_
    walk_at "T"
    walk_at "T"
    walk_at "T"
    walk_at "T"
    walk_at "T"
    intro a' b' ha' hb'
    refine T_isntNone ha' hb' ⟨_, rfl, ?_, ?_⟩
    · intro h; exact absurd h (by decide)
    · intro _
      walk_at "T"
      walk_at "T"
      refine hQ _ _ ⟨rfl, dn, hdn1, ⟨?_, ?_, ⟨0, ?_⟩, (fun x hx => by cases hx), (fun r ns e => by cases e), (fun r ns e => by cases e), List.Pairwise.nil⟩, fun b o e nb => ?_⟩
      · exact (upd_ne hsd).trans ((upd_ne hsd).trans ((upd_ne hsd).trans ((upd_ne hsd).trans ((upd_ne hsn).trans hs))))
      · exact upd_at
      · exact (upd_ne hnd).trans ((upd_ne hnd).trans ((upd_ne hnd).trans ((upd_ne hnd).trans upd_at)))
      · exact (upd_ne nb).trans ((upd_ne nb).trans ((upd_ne nb).trans ((upd_ne nb).trans ((upd_ne (fun q => by rw [q, hdn1] at e; cases e)).trans e))))
end
end Mine
end
section
set_option maxRecDepth 100000
set_option Elab.async false
set_option linter.unusedVariables false
set_option maxHeartbeats 4000000
namespace Mine
open PySem PySem.W PySem.Calls PyProof.Rows PySem.SeqAt
section
variable {prog : Program} {w : World} {B : KeyBy prog w Int} {mg mb : Str → Option Value}
theorem sorter_spec {F : Fc} {n : Nat} {H : AHeap} (W : Wld (KF1 w.params) F mg mb) (O : F.Ok (n + 2)) :
    Calls prog w F (.ref 181) [] H
      (fun v H' => ∃ S : Srt, v = .ref S.self ∧ S.At B 84 181 H' ∧ S.p = ⟨[], none, 0, 0⟩ ∧ S.ready = none ∧ H S.self = none ∧ (∀ a ∈ S.foot, H a = none) ∧ ∀ b o, H b = some o → H' b = some o) (fun _ _ _ => False) := by
  refine Calls.make W.kx O (by rfl) (by rfl) (by rfl) false fun A' OA x d hx0 hd0 hxd => ?_
  refine (start_spec (B := B) W.re OA upd_at ((upd_ne (Ne.symm hxd)).trans upd_at)).mono ?_ (fun _ _ _ z => z.elim)
  rintro v H' hx0_; refine ex0and2 hx0_ fun y0_ y1_ => ?_; try clear hx0_; obtain rfl := y0_; obtain ⟨dn, hdn, hat, hkeep⟩ := y1_
  refine ⟨rfl, ⟨x, d, dn, [], none, 0, 0⟩, rfl, hat, rfl, rfl, hx0, fun a ha => ?_, fun b o e => hkeep b o ?_ (fun q => by rw [q, hd0] at e; cases e)⟩
  · rcases mem_foot.mp ha with q | q | ⟨y, hy, _⟩ | ⟨ns, q⟩
    · rw [q]; exact hd0
    · rw [q]; exact (upd_none (upd_none hdn).1).1
    · cases hy
    · cases q
  · rw [upd_ne (fun q => by rw [q, hx0] at e; cases e), upd_ne (fun q => by rw [q, hd0] at e; cases e)]; exact e
end
end Mine
end
section
set_option maxRecDepth 100000
set_option Elab.async false
set_option linter.unusedVariables false
set_option maxHeartbeats 4000000
namespace Mine
open PySem PySem.W PySem.Calls PyProof.Rows PySem.SeqAt
noncomputable def PS.on (P : PS) (k : Int) (f : PN → PN) : PS := { P with nds := P.nds.map fun x => if x.key = k then f x else x }
noncomputable def PS.bump (P : PS) (k n : Int) : PS := P.on k fun x => { x with np := x.np + n }
noncomputable def PS.push (P : PS) (k s : Int) : PS := P.on k fun x => { x with succ := x.succ ++ [s] }
noncomputable def PS.add (P : PS) (k : Int) (ps : List Int) : PS := ps.foldl (fun P p => (P.touch p).push p k) ((P.touch k).bump k ps.length)
theorem Srt.push_p (S : Srt) (k s : Int) : (S.push k s).p = S.p.push k s := by
  unfold Srt.push Srt.p PS.push PS.on
  simp only [List.map_map, PS.mk.injEq, and_true]
  refine List.map_congr_left fun x _ => ?_
  simp only [Function.comp]
  by_cases q : x.key = k
  · rw [if_pos q, if_pos (show x.p.key = k from q)]; rfl
  · rw [if_neg q, if_neg (show ¬ x.p.key = k from q)]
theorem Srt.setNp_p (S : Srt) (k v : Int) : (S.setNp k v).p = S.p.on k fun x => { x with np := v } := by
  unfold Srt.setNp Srt.p PS.on
  simp only [List.map_map, PS.mk.injEq, and_true]
  refine List.map_congr_left fun x _ => ?_
  simp only [Function.comp]
  by_cases q : x.key = k
  · rw [if_pos q, if_pos (show x.p.key = k from q)]; rfl
  · rw [if_neg q, if_neg (show ¬ x.p.key = k from q)]
end Mine
end
end
section
set_option maxRecDepth 100000
set_option Elab.async false
set_option linter.unusedVariables false
set_option maxHeartbeats 4000000
namespace Mine
open PySem PySem.W PySem.Calls PyProof.Rows PySem.SeqAt
inductive As
  | cell (a : Addr) (o : AO)
  | srt (S : Srt)
  | frag (G : AHeap)
noncomputable def As.foot : As → Addr → Prop
  | .cell a _, b => b = a
  | .srt S, b => b = S.self ∨ b ∈ S.foot ∨ ∃ x ∈ S.nds, b = x.d
  | .frag G, b => G b ≠ none
section
variable {prog : Program} {w : World} {B : KeyBy prog w Int} {cN cT : Addr}
noncomputable def As.holds {prog : Program} {w : World} (B : KeyBy prog w Int) (cN cT : Addr) : As → AHeap → Prop
  | .cell a o, H => H a = some o
  | .srt S, H => S.At B cN cT H
  | .frag G, H => ∀ a o, G a = some o → H a = some o
noncomputable abbrev Off (f g : Addr → Prop) : Prop := ∀ a, f a → ¬ g a
structure Own {prog : Program} {w : World} (B : KeyBy prog w Int) (cN cT : Addr) (H : AHeap) (l : List As) : Prop where
  all : ∀ c ∈ l, c.holds B cN cT H
  ap : (l.map As.foot).Pairwise Off
theorem As.live {c : As} {H : AHeap} (h : c.holds B cN cT H) {a : Addr} (f : c.foot a) : H a ≠ none := by
  cases c with
  | cell b o => have f : a = b := f; rw [f, show H b = some o from h]; exact nofun
  | srt S =>
    have A : S.At B cN cT H := h
    rcases f with rfl | q | ⟨x, hx, rfl⟩
    · rw [A.self]; exact nofun
    · rcases mem_foot.mp q with q | q | ⟨y, hy, q⟩ | ⟨ns, q⟩
      · rw [q, A.ns]; exact nofun
      · obtain ⟨n, e⟩ := A.dn; rw [q, e]; exact nofun
      · rcases q with q | q
        · rw [q, (A.nds y hy).1]; exact nofun
        · rw [q, (A.nds y hy).2.2]; exact nofun
      · rw [A.rd _ _ q]; exact nofun
    · rw [(A.nds x hx).2.1]; exact nofun
  | frag G =>
    have h : ∀ a o, G a = some o → H a = some o := h
    cases q : G a with
    | none => exact absurd q f
    | some o => rw [h a o q]; exact nofun
theorem As.move {c : As} {H H' : AHeap} (h : c.holds B cN cT H) (k : ∀ a o, c.foot a → H a = some o → H' a = some o) : c.holds B cN cT H' := by
  cases c with
  | cell b o => exact k b o rfl h
  | srt S => exact Srt.At.away h fun a o e f => k a o f e
  | frag G =>
    have h : ∀ a o, G a = some o → H a = some o := h
    exact fun a o e => k a o (by show G a ≠ none; rw [e]; exact nofun) (h a o e)
variable {H H' : AHeap} {l l' r : List As} {a : Addr} {o o' : AO} {c : As}
noncomputable def New (H : AHeap) (a : Addr) (o : AO) (H' : AHeap) : Prop := H a = none ∧ H' = upd H a o
theorem Own.nil : Own B cN cT H [] := ⟨fun _ h => (nomatch h), List.Pairwise.nil⟩
theorem Own.grow (O : Own B cN cT H l) (k : ∀ a o, H a = some o → H' a = some o) : Own B cN cT H' l := ⟨fun c hc => As.move (O.all c hc) fun a o _ e => k a o e, O.ap⟩
theorem Own.push (O : Own B cN cT H l) (k : ∀ a o, H a = some o → H' a = some o) (hc : c.holds B cN cT H') (hn : ∀ a, c.foot a → H a = none) : Own B cN cT H' (c :: l) := by
  refine ⟨fun d hd => ?_, List.pairwise_cons.mpr ⟨fun f hf a ha hfa => ?_, O.ap⟩⟩
  · rcases List.mem_cons.mp hd with rfl | hd
    · exact hc
    · exact (O.grow k).all d hd
  · obtain ⟨d, hd, rfl⟩ := List.mem_map.mp hf
    exact As.live (O.all d hd) hfa (hn a ha)
theorem Own.new (O : Own B cN cT H l) (n : New H a o H') : Own B cN cT H' (.cell a o :: l) := by
  obtain ⟨hn, rfl⟩ := n
  exact O.push (upd_keeps hn) upd_at (fun b e => by cases e; exact hn)
theorem Own.get (O : Own B cN cT H l) (h : As.cell a o ∈ l) : H a = some o := O.all _ h
theorem Own.srtAt {S : Srt} (O : Own B cN cT H l) (h : As.srt S ∈ l) : S.At B cN cT H := O.all _ h
theorem Own.fragAt {G : AHeap} (O : Own B cN cT H l) (h : As.frag G ∈ l) : ∀ a o, G a = some o → H a = some o := O.all _ h
theorem Own.perm (O : Own B cN cT H l) (p : l.Perm l') : Own B cN cT H l' :=
  ⟨fun c hc => O.all c (p.mem_iff.mpr hc), ((p.map As.foot).pairwise_iff (fun h a ha hb => h a hb ha)).mp O.ap⟩
theorem Own.sub (O : Own B cN cT H l) (s : l'.Sublist l) : Own B cN cT H l' := ⟨fun c hc => O.all c (s.subset hc), O.ap.sublist (s.map As.foot)⟩
theorem Own.tail (O : Own B cN cT H (c :: l)) : Own B cN cT H l := O.sub (List.sublist_cons_self _ _)
inductive Take (c : As) : List As → List As → Prop
  | here {r : List As} : Take c (c :: r) r
  | there {d : As} {l r : List As} : Take c l r → Take c (d :: l) (d :: r)
theorem Take.perm (t : Take c l r) : l.Perm (c :: r) := by
  induction t with
  | here => exact .refl _
  | there _ ih => exact (ih.cons _).trans (.swap _ _ _)
theorem Own.take (O : Own B cN cT H l) (t : Take c l r) : Own B cN cT H (c :: r) := O.perm t.perm
theorem Own.back (O : Own B cN cT H (c :: r)) (t : Take c l r) : Own B cN cT H l := O.perm t.perm.symm
theorem Own.set (O : Own B cN cT H (.cell a o :: l)) (o' : AO) : Own B cN cT (upd H a o') (.cell a o' :: l) := by
  have ap := List.pairwise_cons.mp O.ap
  refine ⟨fun d hd => ?_, O.ap⟩
  rcases List.mem_cons.mp hd with rfl | hd
  · exact upd_at
  · refine As.move (O.all d (List.mem_cons_of_mem _ hd)) fun b ob f e => ?_
    rw [upd_ne fun q => ap.1 _ (List.mem_map_of_mem hd) b q f]; exact e
inductive Put (a : Addr) (o' : AO) : List As → List As → Prop
  | here {o : AO} {r : List As} : Put a o' (.cell a o :: r) (.cell a o' :: r)
  | there {d : As} {l r : List As} : Put a o' l r → Put a o' (d :: l) (d :: r)
theorem Put.takes (p : Put a o' l l') : ∃ o r, Take (.cell a o) l r ∧ Take (.cell a o') l' r := by
  induction p with
  | here => exact ⟨_, _, .here, .here⟩
  | there _ ih => obtain ⟨o, r, t, t'⟩ := ih; exact ⟨o, _, .there t, .there t'⟩
theorem Own.put (O : Own B cN cT H l) (p : Put a o' l l') (e : H' = upd H a o') : Own B cN cT H' l' := by
  obtain ⟨o, r, t, t'⟩ := p.takes
  subst e
  exact ((O.take t).set o').back t'
theorem Own.lay {G : AHeap} (O : Own B cN cT H (.cell a o :: .frag G :: l)) : Own B cN cT H (.frag (upd G a o) :: l) := by
  have ap := List.pairwise_cons.mp O.ap
  have ap2 := List.pairwise_cons.mp ap.2
  have hg : G a = none := by
    cases q : G a with
    | none => rfl
    | some z => exact absurd (show G a ≠ none by rw [q]; exact nofun) (ap.1 _ List.mem_cons_self a rfl)
  refine ⟨fun d hd => ?_, List.pairwise_cons.mpr ⟨fun f hf b hb hfb => ?_, ap2.2⟩⟩
  · rcases List.mem_cons.mp hd with rfl | hd
    · intro b ob e
      by_cases q : b = a
      · subst q; rw [upd_at] at e; cases e; exact O.get List.mem_cons_self
      · rw [upd_ne q] at e; exact O.fragAt (List.mem_cons_of_mem _ List.mem_cons_self) b ob e
    · exact O.all d (List.mem_cons_of_mem _ (List.mem_cons_of_mem _ hd))
  · by_cases q : b = a
    · exact ap.1 f (List.mem_cons_of_mem _ hf) b q hfb
    · exact ap2.1 f hf b (by have hb : upd G a o b ≠ none := hb; rw [upd_ne q] at hb; exact hb) hfb
theorem Own.layNew {G : AHeap} (O : Own B cN cT H (.cell a o :: .frag G :: l)) : G a = none := by
  have ap := List.pairwise_cons.mp O.ap
  cases q : G a with
  | none => rfl
  | some z => exact absurd (show G a ≠ none by rw [q]; exact nofun) (ap.1 _ List.mem_cons_self a rfl)
noncomputable def noF : AHeap := fun _ => none
theorem Own.frag0 (O : Own B cN cT H l) : Own B cN cT H (.frag noF :: l) :=
  O.push (fun _ _ e => e) (fun a o e => by cases e) (fun a h => absurd rfl h)
theorem Own.turn {S S' : Srt} (O : Own B cN cT H (.srt S :: l)) (A : S'.At B cN cT H') (G : Grow H H' S S') : Own B cN cT H' (.srt S' :: l) := by
  have ap := List.pairwise_cons.mp O.ap
  refine ⟨fun d hd => ?_, List.pairwise_cons.mpr ⟨fun f hf b hb hfb => ?_, ap.2⟩⟩
  · rcases List.mem_cons.mp hd with rfl | hd
    · exact A
    · refine As.move (O.all d (List.mem_cons_of_mem _ hd)) fun b ob f e => G.keep b ob e fun m => ?_
      exact ap.1 _ (List.mem_map_of_mem hd) b (.inr (.inl m)) f
  · obtain ⟨d, hd, rfl⟩ := List.mem_map.mp hf
    have live := As.live (O.all d (List.mem_cons_of_mem _ hd)) hfb
    have off := fun z => ap.1 _ (List.mem_map_of_mem hd) b z hfb
    rcases hb with q | q | ⟨x, hx, q⟩
    · exact off (.inl (q.trans G.self))
    · rcases G.foot b q with m | m
      · exact off (.inr (.inl m))
      · exact live m
    · rcases G.ds x hx with ⟨y, hy, e⟩ | m
      · exact off (.inr (.inr ⟨y, hy, q.trans e⟩))
      · exact live (q ▸ m)
end
end Mine
end
section
set_option maxRecDepth 100000
set_option Elab.async false
set_option linter.unusedVariables false
set_option maxHeartbeats 4000000
namespace Mine
open PySem PySem.W PySem.Calls PyProof.Rows PySem.SeqAt
structure Ent (K : Frag) (mg mb : Str → Option Value) (nm : List (Str × NameKind)) (F : Fx) : Prop where
  W : Wld K F.toFc mg mb
  kind : F.env.scope.kind = .function
  names : F.env.scope.names = nm
  gl : F.env.globals = mainGlobals
  bi : F.env.builtins = builtinsNs
  loc : F.env.locals ∈ F.own
  cel : ∀ x, nm.lookup x = some .cell → ∃ c, F.env.cells.lookup x = some c
structure Fun (F : Fx) : Prop where
  U : ∃ outer L, Runs F outer L
  celO : ∀ x c, F.env.cells.lookup x = some c → c ∈ F.own
section
variable {prog : Program} {w : World} {K : Frag} {mg mb : Str → Option Value} {nm : List (Str × NameKind)} {F : Fx} {st : St} {X : Value → List Value → St → Prop} {Q : Value → St → Prop} {pos : Pos} {x : Str} {v : Value}
theorem Ent.local (E : Ent K mg mb nm F) (h : nm.lookup x = some .local) : F.env.kindOf x = some .local := by rw [Env.kindOf, E.names]; exact h
theorem Ent.cell (E : Ent K mg mb nm F) (h : nm.lookup x = some .cell) : F.env.kindOf x = some .cell := by rw [Env.kindOf, E.names]; exact h
theorem Ent.glob (E : Ent K mg mb nm F) (h : nm.lookup x = some .globalImplicit) : F.env.kindOf x = some .globalImplicit := by rw [Env.kindOf, E.names]; exact h
theorem E_name (E : Ent K mg mb nm F) (hk : nm.lookup x = some .local) (hv : st.vars.lookup x = some v) (hd : (x == ("__debug__" : Str)) = false) (h : Q v st) : T prog w F (eval (.Name x pos) F.env) Q X st := T_nameL hv (E.local hk) E.kind hd h
theorem E_nameC (E : Ent K mg mb nm F) (hk : nm.lookup x = some .cell) (hv : st.vars.lookup x = some v) (hd : (x == ("__debug__" : Str)) = false) (h : Q v st) : T prog w F (eval (.Name x pos) F.env) Q X st := T_nameC hv (E.cell hk) E.kind hd h
theorem E_glR {a : Addr} (E : Ent K mg mb nm F) (hk : nm.lookup x = some .globalImplicit) (e : nsIn K mainGlobals x = some (some (.ref a))) (hd : (x == ("__debug__" : Str)) = false) (h : Q (.ref a) st) : T prog w F (eval (.Name x pos) F.env) Q X st := T_gl E.W e E.gl (E.glob hk) E.kind hd h
theorem E_glI {i : Int} {t : Tok} (E : Ent K mg mb nm F) (hk : nm.lookup x = some .globalImplicit) (e : nsIn K mainGlobals x = some (some (.int i t))) (hd : (x == ("__debug__" : Str)) = false) (h : Q (vI i) st) : T prog w F (eval (.Name x pos) F.env) Q X st := T_gl E.W e E.gl (E.glob hk) E.kind hd h
theorem E_biB {id : String} (E : Ent K mg mb nm F) (hk : nm.lookup x = some .globalImplicit) (e : nsIn K mainGlobals x = some none) (hv : bootBuiltins x = some (.builtin id)) (hn : (x == ("__name__" : Str)) = false) (hd : (x == ("__debug__" : Str)) = false) (h : Q (.builtin id) st) : T prog w F (eval (.Name x pos) F.env) Q X st :=
  T_bi E.W e hv (by rintro rfl; cases hn) E.gl E.bi (E.glob hk) E.kind hd h
theorem E_biT {id : String} (E : Ent K mg mb nm F) (hk : nm.lookup x = some .globalImplicit) (e : nsIn K mainGlobals x = some none) (hv : bootBuiltins x = some (.type id)) (hn : (x == ("__name__" : Str)) = false) (hd : (x == ("__debug__" : Str)) = false) (h : Q (.type id) st) : T prog w F (eval (.Name x pos) F.env) Q X st :=
  T_bi E.W e hv (by rintro rfl; cases hn) E.gl E.bi (E.glob hk) E.kind hd h
noncomputable def StoreE (prog : Program) (w : World) (F : Fx) (x : Str) (v : Value) (Q : Unit → St → Prop) (X : Value → List Value → St → Prop) (st : St) : Prop := ∀ v', er v' = v → T prog w F (storeName F.env x v') Q X st
noncomputable def AssignE (prog : Program) (w : World) (F : Fx) (t : Expr) (v : Value) (Q : Unit → St → Prop) (X : Value → List Value → St → Prop) (st : St) : Prop := ∀ v', er v' = v → T prog w F (assign t F.env v') Q X st
noncomputable def AttrE (prog : Program) (w : World) (F : Fx) (o : Value) (name : Str) (Q : Value → St → Prop) (X : Value → List Value → St → Prop) (st : St) : Prop := ∀ o', er o' = o → T prog w F (getAttr o' name true) Q X st
noncomputable def SetAttrE (prog : Program) (w : World) (F : Fx) (o : Value) (name : Str) (v : Value) (Q : Unit → St → Prop) (X : Value → List Value → St → Prop) (st : St) : Prop := ∀ v' o', er v' = v → er o' = o → T prog w F (setAttr o' name v') Q X st
noncomputable def CmpE (prog : Program) (w : World) (F : Fx) (op : CmpOp) (a b : Value) (Q : Value → St → Prop) (X : Value → List Value → St → Prop) (st : St) : Prop := ∀ a' b', er a' = a → er b' = b → T prog w F (compareOp op a' b') Q X st
noncomputable def BinE (prog : Program) (w : World) (F : Fx) (op : Operator) (a b : Value) (Q : Value → St → Prop) (X : Value → List Value → St → Prop) (st : St) : Prop := ∀ a' b', er a' = a → er b' = b → T prog w F (binaryOp op a' b') Q X st
noncomputable def InpE (prog : Program) (w : World) (F : Fx) (op : Operator) (a b : Value) (Q : Value → St → Prop) (X : Value → List Value → St → Prop) (st : St) : Prop := ∀ a' b', er a' = a → er b' = b → T prog w F (inplaceOp op a' b') Q X st
noncomputable def UnE (prog : Program) (w : World) (F : Fx) (op : UnaryOp) (a : Value) (Q : Value → St → Prop) (X : Value → List Value → St → Prop) (st : St) : Prop := ∀ a', er a' = a → T prog w F (unaryOp op a') Q X st
noncomputable def ItemE (prog : Program) (w : World) (F : Fx) (o i : Value) (Q : Value → St → Prop) (X : Value → List Value → St → Prop) (st : St) : Prop := ∀ o' i', er o' = o → er i' = i → T prog w F (getItem o' i') Q X st
noncomputable def SetItemE (prog : Program) (w : World) (F : Fx) (o i v : Value) (Q : Unit → St → Prop) (X : Value → List Value → St → Prop) (st : St) : Prop := ∀ o' i' v', er o' = o → er i' = i → er v' = v → T prog w F (setItem o' i' v') Q X st
noncomputable def DelItemE (prog : Program) (w : World) (F : Fx) (o i : Value) (Q : Unit → St → Prop) (X : Value → List Value → St → Prop) (st : St) : Prop := ∀ o' i', er o' = o → er i' = i → T prog w F (delItem o' i') Q X st
noncomputable def TruthE (prog : Program) (w : World) (F : Fx) (a : Value) (Q : Bool → St → Prop) (X : Value → List Value → St → Prop) (st : St) : Prop := ∀ a', er a' = a → T prog w F (truthy a') Q X st
noncomputable def CallE (prog : Program) (w : World) (F : Fx) (f : Value) (vs : List Value) (Q : Value → St → Prop) (X : Value → List Value → St → Prop) (st : St) : Prop := ∀ vs', vs'.map er = vs → T prog w F (call f vs') Q X st
noncomputable def MethE (prog : Program) (w : World) (F : Fx) (o : Value) (name : Str) (Q : Value → List Value → St → Prop) (X : Value → List Value → St → Prop) (st : St) : Prop := ∀ pl o', er o' = o → T prog w F (getMethod o' name pl) (fun fx st₂ => Q fx.1 fx.2 st₂) X st
noncomputable def KF (prog : Program) (w : World) (F : Fx) (f : Value) (st : St) : Prop := (∀ f', er f' = f → f' = f) ∧ Keeps prog w F f st
theorem KF.k {a : Addr} (E : Ent K mg mb nm F) (hk : keepIn K (.ref a) = true) : KF prog w F (.ref a) st := ⟨fun _ h => er_ref h, .k E.W.kx hk⟩
theorem KF.builtin {id : String} : KF prog w F (.builtin id) st := ⟨fun _ h => er_builtin h, .builtin⟩
theorem KF.type {id : String} : KF prog w F (.type id) st := ⟨fun _ h => er_type h, .type⟩
theorem KF.meth {a f : Addr} {self : Value} (E : Ent K mg mb nm F) (ha : st.H a = some (.meth (.ref f) self)) (hf : fnIn K f = true) : KF prog w F (.ref a) st := ⟨fun _ h => er_ref h, .meth E.W.kx ha hf⟩
theorem KF.bm {a : Addr} {cls : String} {fn self : Value} (ha : st.H a = some (.bm cls fn self)) (hc : cls = "builtin_function_or_method" ∨ cls = "method-wrapper") : KF prog w F (.ref a) st := ⟨fun _ h => er_ref h, .bm ha hc⟩
theorem E_storeL {Q : Unit → St → Prop} (E : Ent K mg mb nm F) (hk : nm.lookup x = some .local) (h : Q () ⟨setV st.vars x v, st.H⟩) : StoreE prog w F x v Q X st := fun v' hv => T_storeL hv (E.local hk) E.kind E.loc h
theorem E_storeC {Q : Unit → St → Prop} (E : Ent K mg mb nm F) (U : Fun F) (hk : nm.lookup x = some .cell) (h : Q () ⟨setV st.vars x v, st.H⟩) : StoreE prog w F x v Q X st :=
  fun v' hv => T_storeC hv (E.cell hk) E.kind (U.celO x) (by obtain ⟨c, hc⟩ := E.cel x hk; rw [hc]; rfl) h
theorem E_tName {p : Pos} {Q : Unit → St → Prop} (h : StoreE prog w F x v Q X st) : AssignE prog w F (.Name x p) v Q X st := fun v' hv => T_tName (h v' hv)
theorem E_tTuple2 {a b : Expr} {va vb : Value} {k : Nat} {p : Pos} {t : Addr} {Q : Unit → St → Prop} (hh : F.A.handled = none) (ht : st.H t = some (.tup [va, vb])) (he : (assignEach [a, b] F.env) = [(false, assign a F.env), (false, assign b F.env)])
    (h : AssignE prog w F a va (fun _ st₁ => AssignE prog w F b vb Q X st₁) X st) : AssignE prog w F (.Tuple [a, b] k p) (.ref t) Q X st := fun v' hv => by
  rw [er_ref hv]
  refine T_tTuple hh ht (by rw [he]; rfl) (by rw [he]; rfl) fun vs hvs => ?_
  refine ex2and3 (two_of hvs) fun x y y2_ hx hy => ?_; obtain rfl := y2_
  rw [he]
  exact T_order ((h x hx).post fun _ _ q => T_order ((q y hy).post fun _ _ q => T_order0 q))
theorem E_tTuple3 {a b c : Expr} {va vb vc : Value} {k : Nat} {p : Pos} {t : Addr} {Q : Unit → St → Prop} (hh : F.A.handled = none) (ht : st.H t = some (.tup [va, vb, vc])) (he : (assignEach [a, b, c] F.env) = [(false, assign a F.env), (false, assign b F.env), (false, assign c F.env)])
    (h : AssignE prog w F a va (fun _ st₁ => AssignE prog w F b vb (fun _ st₂ => AssignE prog w F c vc Q X st₂) X st₁) X st) : AssignE prog w F (.Tuple [a, b, c] k p) (.ref t) Q X st := fun v' hv => by
  rw [er_ref hv]
  refine T_tTuple hh ht (by rw [he]; rfl) (by rw [he]; rfl) fun vs hvs => ?_
  refine ex3and4 (three_of hvs) fun x y z y3_ hx hy hz => ?_; obtain rfl := y3_
  rw [he]
  exact T_order ((h x hx).post fun _ _ q => T_order ((q y hy).post fun _ _ q => T_order ((q z hz).post fun _ _ q => T_order0 q)))
noncomputable def AbsQ {α : Type} (Q Q' : α → St → Prop) : Prop := ∀ a st, Q a st → Q' a st
theorem AbsQ.use {α : Type} {Q Q' : α → St → Prop} {a : α} {st : St} (h : AbsQ Q Q') (q : Q a st) : Q' a st := h a st q
noncomputable def AbsT (prog : Program) (w : World) (F : Fx) {α : Type} [Er α] (t : Sem α) (Q : α → St → Prop) (X : Value → List Value → St → Prop) (st : St) : Prop := ∀ Q', AbsQ Q Q' → T prog w F t Q' X st
theorem AbsT.mk {α : Type} [Er α] {t : Sem α} {Q : α → St → Prop} (h : ∀ Q', AbsQ Q Q' → T prog w F t Q' X st) : AbsT prog w F t Q X st := h
theorem AbsT.out {α : Type} [Er α] {t : Sem α} {Q : α → St → Prop} (h : AbsT prog w F t Q X st) : T prog w F t Q X st := h Q fun _ _ q => q
theorem AbsT.mono {α : Type} [Er α] {t : Sem α} {Q Q2 : α → St → Prop} (h : AbsT prog w F t Q X st) (hq : ∀ a st, Q a st → Q2 a st) : AbsT prog w F t Q2 X st := fun Q' h2 => h Q' fun a st q => h2 a st (hq a st q)
theorem E_consA {a : Stmt} {r : List Stmt} {Q : Flow → St → Prop} (h : ∀ Q', AbsQ (fun f st' => match f with | .next => T prog w F (execs r F.env) Q X st' | f => Q f st') Q' → T prog w F (exec a F.env) Q' X st) : T prog w F (execs (a :: r) F.env) Q X st := T_cons (h _ fun _ _ q => q)
theorem E_cons {a : Stmt} {r : List Stmt} {Q : Flow → St → Prop} (h : T prog w F (exec a F.env) (fun f st' => match f with | .next => T prog w F (execs r F.env) Q X st' | f => Q f st') X st) : T prog w F (execs (a :: r) F.env) Q X st := T_cons h
theorem E_assign {p : Pos} {value : Expr} {Q : Flow → St → Prop} (hs : swapsWith value (some (.Name x p)) pos.line F.env = pure false)
    (h : T prog w F (eval value F.env) (fun v st' => StoreE prog w F x v (fun _ => Q .next) X st') X st) : T prog w F (exec (.Assign [.Name x p] value pos) F.env) Q X st := T_assignName hs (h.post fun _ _ q v' hv => q v' hv)
theorem E_assignSub {o i value : Expr} {p : Pos} {Q : Flow → St → Prop} (hs : swapsWith value (some (.Subscript o i p)) pos.line F.env = pure false)
    (h : T prog w F (eval value F.env) (fun v st₁ => T prog w F (eval o F.env) (fun ov st₂ => T prog w F (eval i F.env) (fun iv st₃ => SetItemE prog w F ov iv v (fun _ => Q .next) X st₃) X st₂) X st₁) X st) :
    T prog w F (exec (.Assign [.Subscript o i p] value pos) F.env) Q X st := T_assignSub hs (h.post fun _ _ q => q.post fun _ _ q => q.post fun _ _ q v' ov' iv' hv ho hi => q ov' iv' v' ho hi hv)
theorem E_assignAttr {o value : Expr} {attr : Str} {p : Pos} {Q : Flow → St → Prop} (hs : swapsWith value (some (.Attribute o attr p)) pos.line F.env = pure false)
    (h : T prog w F (eval value F.env) (fun v st₁ => T prog w F (eval o F.env) (fun ov st₂ => SetAttrE prog w F ov attr v (fun _ => Q .next) X st₂) X st₁) X st) :
    T prog w F (exec (.Assign [.Attribute o attr p] value pos) F.env) Q X st := T_assignAttr hs (h.post fun _ _ q => q.post fun _ _ q => q)
theorem E_augAttr {o value : Expr} {attr : Str} {p : Pos} {op : Operator} {Q : Flow → St → Prop}
    (h : T prog w F (eval o F.env) (fun ov st₁ => AttrE prog w F ov attr (fun old st₂ => T prog w F (eval value F.env) (fun v st₃ => InpE prog w F op old v (fun new st₄ => SetAttrE prog w F ov attr new (fun _ => Q .next) X st₄) X st₃) X st₂) X st₁) X st) :
    T prog w F (exec (.AugAssign (.Attribute o attr p) op value pos) F.env) Q X st :=
  T_augAttr (h.post fun ov _ q ov' ho => (q ov' ho).post fun _ _ q => q.post fun _ _ q old' v' h1 h2 => (q old' v' h1 h2).post fun _ _ q new' hn => q new' ov' hn ho)
theorem E_augNameC {value : Expr} {p : Pos} {op : Operator} {old : Value} {Q : Flow → St → Prop} (E : Ent K mg mb nm F) (hk : nm.lookup x = some .cell) (hv : st.vars.lookup x = some old)
    (h : T prog w F (eval value F.env) (fun v st₃ => InpE prog w F op old v (fun new st₄ => StoreE prog w F x new (fun _ => Q .next) X st₄) X st₃) X st) :
    T prog w F (exec (.AugAssign (.Name x p) op value pos) F.env) Q X st := T_augName (T_loadC hv (E.cell hk) E.kind (h.post fun _ _ q old' v' h1 h2 => (q old' v' h1 h2).post fun _ _ q => q))
theorem E_assign1 {t value : Expr} {Q : Flow → St → Prop} (hs : swapsWithSole [t] value pos.line F.env = pure false) (hw : swappedStores [t] value F.env = pure none) (he : (assignEach [t] F.env).map (·.2) = [assign t F.env])
    (h : T prog w F (eval value F.env) (fun v st₁ => AssignE prog w F t v (fun _ => Q .next) X st₁) X st) :
    T prog w F (exec (.Assign [t] value pos) F.env) Q X st := T_assign1 hs hw he (h.post fun _ _ q => q)
theorem E_exprS {e : Expr} {Q : Flow → St → Prop} (E : Ent K mg mb nm F) (hs : swapsWith e none pos.line F.env = pure false) (h : T prog w F (eval e F.env) (fun _ => Q .next) X st) :
    T prog w F (exec (.Expr e pos) F.env) Q X st := T_exprS (by unfold interactive; rw [E.kind]; rfl) hs h
theorem E_walrus {t value : Expr} (h : T prog w F (eval value F.env) (fun v st₁ => AssignE prog w F t v (fun _ => Q v) X st₁) X st) : T prog w F (eval (.NamedExpr t value pos) F.env) Q X st := T_walrus (h.post fun _ _ q => q)
theorem E_attr {value : Expr} {attr : Str} (he : eval (.Attribute value attr pos) F.env = (do
      let o ← eval value F.env
      standAt pos.atName
      let r ← holding [o] (getAttr o attr true)
      letTemporaryGo value o r
      pure r))
    (h : T prog w F (eval value F.env) (fun ov st₁ => AttrE prog w F ov attr Q X st₁) X st) : T prog w F (eval (.Attribute value attr pos) F.env) Q X st := T_attr he (h.post fun _ _ q => q)
theorem E_sub {value slice : Expr} (h : T prog w F (eval value F.env) (fun ov st₁ => T prog w F (eval slice F.env) (fun iv st₂ => Sub st₂ ov ∧ ItemE prog w F ov iv Q X st₂) X st₁) X st) :
    T prog w F (eval (.Subscript value slice pos) F.env) Q X st := T_sub (h.post fun _ _ q => q.post fun _ _ q => ⟨q.1, q.2⟩)
theorem E_isCmp {l r : Expr} {op : CmpOp} {whole : Sem Value} {Q : Bool → St → Prop} (hm : behindInMarks op r = false)
    (h : T prog w F (eval l F.env) (fun a st₁ => T prog w F (eval r F.env) (fun b st₂ => CmpE prog w F op a b (fun c st₃ => ∃ t, c = .bool t ∧ Q t st₃) X st₂) X st₁) X st) :
    T prog w F (isTrue (.Compare l [op] [r] pos) F.env whole) Q X st := T_isCmp hm (h.post fun _ _ q => q.post fun _ _ q => q)
theorem E_cmp {l r : Expr} {op : CmpOp} (hm : behindInMarks op r = false)
    (h : T prog w F (eval l F.env) (fun a st₁ => T prog w F (eval r F.env) (fun b st₂ => CmpE prog w F op a b Q X st₂) X st₁) X st) :
    T prog w F (eval (.Compare l [op] [r] pos) F.env) Q X st := T_cmp hm (h.post fun _ _ q => q.post fun _ _ q => q)
theorem E_binop {l r : Expr} {op : Operator} (h : T prog w F (eval l F.env) (fun a st₁ => T prog w F (eval r F.env) (fun b st₂ => BinE prog w F op a b Q X st₂) X st₁) X st) :
    T prog w F (eval (.BinOp l op r pos) F.env) Q X st := T_binop (h.post fun _ _ q => q.post fun _ _ q => q)
theorem E_unop {e : Expr} {op : UnaryOp} (h : T prog w F (eval e F.env) (fun a st₁ => UnE prog w F op a Q X st₁) X st) : T prog w F (eval (.UnaryOp op e pos) F.env) Q X st := T_unop (h.post fun _ _ q => q)
theorem E_isVal {e : Expr} {whole : Sem Value} {Q : Bool → St → Prop} (he : isTrue e F.env whole = (do let v ← whole; standAt e.pos; holding [v] (truthy v)))
    (h : T prog w F whole (fun v st' => TruthE prog w F v Q X st') X st) : T prog w F (isTrue e F.env whole) Q X st := T_isVal he (h.post fun _ _ q => q)
theorem E_list0 (h : ∀ a H', New st.H a (.list []) H' → Q (.ref a) ⟨st.vars, H'⟩) : T prog w F (eval (.List [] pos) F.env) Q X st :=
  T_list (trees := []) rfl (T_sp0 ⟨Nat.zero_le _, fun a ha => h a _ ⟨ha, rfl⟩⟩)
theorem E_list1 {e : Expr} (he : starEach [e] F.env = [(false, eval e F.env)]) (h : T prog w F (eval e F.env) (fun v st₁ => ∀ a H', New st₁.H a (.list [v]) H' → Q (.ref a) ⟨st₁.vars, H'⟩) X st) : T prog w F (eval (.List [e] pos) F.env) Q X st :=
  T_list (trees := [(false, eval e F.env)]) (by rw [he]; rfl) (T_sp1 (h.post fun _ _ q => T_sp0 ⟨by simp, fun a ha => q a _ ⟨ha, rfl⟩⟩))
theorem E_list2 {e f : Expr} (he : starEach [e, f] F.env = [(false, eval e F.env), (false, eval f F.env)]) (h : T prog w F (eval e F.env) (fun v st₁ => T prog w F (eval f F.env) (fun u st₂ => ∀ a H', New st₂.H a (.list [v, u]) H' → Q (.ref a) ⟨st₂.vars, H'⟩) X st₁) X st) : T prog w F (eval (.List [e, f] pos) F.env) Q X st :=
  T_list (trees := [(false, eval e F.env), (false, eval f F.env)]) (by rw [he]; rfl) (T_sp1 (h.post fun _ _ q => T_sp1 (q.post fun _ _ q => T_sp0 ⟨by simp, fun a ha => q a _ ⟨ha, rfl⟩⟩)))
theorem E_dict0 (h : ∀ a H', New st.H a (.dict [] 0) H' → Q (.ref a) ⟨st.vars, H'⟩) : T prog w F (eval (.Dict [] [] pos) F.env) Q X st := T_dict0 fun a ha => h a _ ⟨ha, rfl⟩
theorem E_call0 {id : Str} {p : Pos} (h : T prog w F (eval (.Name id p) F.env) (fun f st₁ => KF prog w F f st₁ ∧ CallE prog w F f [] Q X st₁) X st) : T prog w F (eval (.Call (.Name id p) [] [] pos) F.env) Q X st :=
  T_callName (trees := []) rfl (h.post fun _ _ q f' hf => by rw [q.1.1 f' hf]; exact T_call0 q.1.2 (q.2 [] rfl))
theorem E_call1 {id : Str} {p : Pos} {a : Expr} (he : starEach [a] F.env = [(false, eval a F.env)])
    (h : T prog w F (eval (.Name id p) F.env) (fun f st₁ => T prog w F (eval a F.env) (fun v st₂ => KF prog w F f st₂ ∧ CallE prog w F f [v] Q X st₂) X st₁) X st) : T prog w F (eval (.Call (.Name id p) [a] [] pos) F.env) Q X st :=
  T_callName (trees := [(false, eval a F.env)]) (by rw [he]; rfl) (h.post fun f _ q f' hf => T_callP rfl (T_sp1 (q.post fun _ _ q => T_sp0 (by rw [q.1.1 f' hf]; exact ⟨q.1.2, fun vs' hv => q.2 vs' hv⟩))))
theorem E_call2 {id : Str} {p : Pos} {a b : Expr} (he : starEach [a, b] F.env = [(false, eval a F.env), (false, eval b F.env)])
    (h : T prog w F (eval (.Name id p) F.env) (fun f st₁ => T prog w F (eval a F.env) (fun v st₂ => T prog w F (eval b F.env) (fun u st₃ => KF prog w F f st₃ ∧ CallE prog w F f [v, u] Q X st₃) X st₂) X st₁) X st) : T prog w F (eval (.Call (.Name id p) [a, b] [] pos) F.env) Q X st :=
  T_callName (trees := [(false, eval a F.env), (false, eval b F.env)]) (by rw [he]; rfl) (h.post fun f _ q f' hf => T_callP rfl (T_sp1 (q.post fun _ _ q => T_sp1 (q.post fun _ _ q => T_sp0 (by rw [q.1.1 f' hf]; exact ⟨q.1.2, fun vs' hv => q.2 vs' hv⟩)))))
noncomputable abbrev methTree (o : Expr) (name : Str) (apos pos : Pos) (args : List Expr) (env : Env) (pl : Sem Bool) : Sem Value := do
      let ov ← eval o env
      standAt apos.atName
      let (f, first) ← holding [ov] (getMethod ov name pl)
      callWith pos f first (backTo pos (starEach args env)) []
theorem E_meth0 {o : Expr} {name : Str} {apos : Pos} {pl : Sem Bool} (he : eval (.Call (.Attribute o name apos) [] [] pos) F.env = methTree o name apos pos [] F.env pl)
    (h : T prog w F (eval o F.env) (fun ov st₁ => MethE prog w F ov name (fun f first st₂ => KF prog w F f st₂ ∧ CallE prog w F f first Q X st₂) X st₁) X st) : T prog w F (eval (.Call (.Attribute o name apos) [] [] pos) F.env) Q X st :=
  T_callMeth (trees := []) rfl he (h.post fun _ _ q ov' ho => (q pl ov' ho).post fun _ _ q f' first' hf hx => by rw [q.1.1 f' hf]; exact T_call0 q.1.2 (q.2 first' hx))
theorem E_meth1 {o a : Expr} {name : Str} {apos : Pos} {pl : Sem Bool} (hs : starEach [a] F.env = [(false, eval a F.env)]) (he : eval (.Call (.Attribute o name apos) [a] [] pos) F.env = methTree o name apos pos [a] F.env pl)
    (h : T prog w F (eval o F.env) (fun ov st₁ => MethE prog w F ov name (fun f first st₂ => T prog w F (eval a F.env) (fun v st₃ => KF prog w F f st₃ ∧ CallE prog w F f (first ++ [v]) Q X st₃) X st₂) X st₁) X st) : T prog w F (eval (.Call (.Attribute o name apos) [a] [] pos) F.env) Q X st :=
  T_callMeth (trees := [(false, eval a F.env)]) (by rw [hs]; rfl) he (h.post fun _ _ q ov' ho => (q pl ov' ho).post fun _ _ q f' first' hf hx => T_callP rfl (T_sp1 (q.post fun _ _ q => T_sp0 (by
    rw [q.1.1 f' hf]; exact ⟨q.1.2, fun vs' hv => q.2 _ (by rw [List.map_append, hx, hv])⟩))))
theorem E_meth2 {o a b : Expr} {name : Str} {apos : Pos} {pl : Sem Bool} (hs : starEach [a, b] F.env = [(false, eval a F.env), (false, eval b F.env)]) (he : eval (.Call (.Attribute o name apos) [a, b] [] pos) F.env = methTree o name apos pos [a, b] F.env pl)
    (h : T prog w F (eval o F.env) (fun ov st₁ => MethE prog w F ov name (fun f first st₂ => T prog w F (eval a F.env) (fun v st₃ => T prog w F (eval b F.env) (fun u st₄ => KF prog w F f st₄ ∧ CallE prog w F f (first ++ [v, u]) Q X st₄) X st₃) X st₂) X st₁) X st) : T prog w F (eval (.Call (.Attribute o name apos) [a, b] [] pos) F.env) Q X st :=
  T_callMeth (trees := [(false, eval a F.env), (false, eval b F.env)]) (by rw [hs]; rfl) he (h.post fun _ _ q ov' ho => (q pl ov' ho).post fun _ _ q f' first' hf hx => T_callP rfl (T_sp1 (q.post fun _ _ q => T_sp1 (q.post fun _ _ q => T_sp0 (by
    rw [q.1.1 f' hf]; exact ⟨q.1.2, fun vs' hv => q.2 _ (by rw [List.map_append, hx, hv])⟩)))))
theorem E_meth3 {o a b c : Expr} {name : Str} {apos : Pos} {pl : Sem Bool} (hs : starEach [a, b, c] F.env = [(false, eval a F.env), (false, eval b F.env), (false, eval c F.env)]) (he : eval (.Call (.Attribute o name apos) [a, b, c] [] pos) F.env = methTree o name apos pos [a, b, c] F.env pl)
    (h : T prog w F (eval o F.env) (fun ov st₁ => MethE prog w F ov name (fun f first st₂ => T prog w F (eval a F.env) (fun v st₃ => T prog w F (eval b F.env) (fun u st₄ => T prog w F (eval c F.env) (fun t st₅ => KF prog w F f st₅ ∧ CallE prog w F f (first ++ [v, u, t]) Q X st₅) X st₄) X st₃) X st₂) X st₁) X st) : T prog w F (eval (.Call (.Attribute o name apos) [a, b, c] [] pos) F.env) Q X st :=
  T_callMeth (trees := [(false, eval a F.env), (false, eval b F.env), (false, eval c F.env)]) (by rw [hs]; rfl) he (h.post fun _ _ q ov' ho => (q pl ov' ho).post fun _ _ q f' first' hf hx => T_callP rfl (T_sp1 (q.post fun _ _ q => T_sp1 (q.post fun _ _ q => T_sp1 (q.post fun _ _ q => T_sp0 (by
    rw [q.1.1 f' hf]; exact ⟨q.1.2, fun vs' hv => q.2 _ (by rw [List.map_append, hx, hv])⟩))))))
theorem E_callAny0 {func : Expr} (he : eval (.Call func [] [] pos) F.env = (do callWith pos (← eval func F.env) [] (backTo pos (starEach [] F.env)) []))
    (h : T prog w F (eval func F.env) (fun f st₁ => KF prog w F f st₁ ∧ CallE prog w F f [] Q X st₁) X st) : T prog w F (eval (.Call func [] [] pos) F.env) Q X st :=
  T_callAny (trees := []) rfl he (h.post fun _ _ q f' hf => by rw [q.1.1 f' hf]; exact T_call0 q.1.2 (q.2 [] rfl))
end
end Mine
end
section
set_option maxRecDepth 100000
set_option Elab.async false
set_option linter.unusedVariables false
set_option maxHeartbeats 4000000
namespace Mine
open PySem PySem.W PySem.Calls PyProof.Rows PySem.SeqAt
theorem clos_loop {env : Env} : ∀ (names : List (Str × NameKind)) (acc : List (Str × Addr)), (∀ q ∈ acc, env.cells.lookup q.1 = some q.2) → (∀ p ∈ names, p.2 = .free → ∃ c, env.cells.lookup p.1 = some c) →
    ∃ cl, (forIn names acc (fun (x : Str × NameKind) (cs : List (Str × Addr)) => if (x.2 == NameKind.free) = true then (do let c ← cellOf env x.1; pure (ForInStep.yield ((x.1, c) :: cs))) else pure (ForInStep.yield cs)) : Sem (List (Str × Addr))) = pure cl ∧
      (∀ q ∈ cl, env.cells.lookup q.1 = some q.2) ∧ (∀ p ∈ names, p.2 = .free → ∃ q ∈ cl, q.1 = p.1) ∧ ∀ q ∈ acc, q ∈ cl
  | [], acc, h1, _ => ⟨acc, rfl, h1, (fun _ h => (nomatch h)), fun _ h => h⟩
  | (x, k) :: r, acc, h1, h2 => by
    by_cases hk : k = .free
    · subst hk
      obtain ⟨c, hc⟩ := h2 _ List.mem_cons_self rfl
      have hc : env.cells.lookup x = some c := hc
      obtain ⟨cl, e, a1, a2, a3⟩ := clos_loop r ((x, c) :: acc) (fun q hq => by
        rcases List.mem_cons.mp hq with rfl | hq
        · exact hc
        · exact h1 q hq) (fun p hp => h2 p (List.mem_cons_of_mem _ hp))
      refine ⟨cl, ?_, a1, fun p hp hf => ?_, fun q hq => a3 q (List.mem_cons_of_mem _ hq)⟩
      · rw [List.forIn_cons]
        have : cellOf env x = pure c := by unfold cellOf; rw [hc]
        simp only [this]
        exact e
      · rcases List.mem_cons.mp hp with rfl | hp
        · exact ⟨_, a3 _ List.mem_cons_self, rfl⟩
        · exact a2 p hp hf
    · refine ex1and4 (clos_loop r acc h1 (fun p hp => h2 p (List.mem_cons_of_mem _ hp))) fun cl e a1 a2 a3 => ?_
      refine ⟨cl, ?_, a1, fun p hp hf => ?_, a3⟩
      · rw [List.forIn_cons]
        have : (k == NameKind.free) = false := by simpa using hk
        simp only [this]
        exact e
      · rcases List.mem_cons.mp hp with rfl | hp
        · exact absurd hf hk
        · exact a2 p hp hf
theorem clos_ok {env : Env} {scope : Scope} (h : ∀ p ∈ scope.names, p.2 = .free → ∃ c, env.cells.lookup p.1 = some c) :
    ∃ cl, closureFor scope env = pure cl ∧ Clos env cl ∧ (∀ p ∈ scope.names, p.2 = .free → cl.lookup p.1 = env.cells.lookup p.1) := by
  refine ex1and4 (clos_loop scope.names [] (fun _ h => (nomatch h)) h) fun cl e a1 a2 a3 => ?_
  clear a3
  refine ⟨cl, ?_, ?_, fun p hp hf => ?_⟩
  · simp only [closureFor]
    rw [bind_pure]
    exact e
  · clear e a2
    induction cl with
    | nil => trivial
    | cons q r ih => exact ⟨a1 q List.mem_cons_self, ih fun p hp => a1 p (List.mem_cons_of_mem _ hp)⟩
  · obtain ⟨q, hq, e1⟩ := a2 p hp hf
    have : ∃ c, cl.lookup p.1 = some c := by
      clear a1 e a2
      induction cl with
      | nil => cases hq
      | cons z r ih =>
        obtain ⟨z1, z2⟩ := z
        by_cases e2 : p.1 = z1
        · exact ⟨z2, by simp [List.lookup, e2]⟩
        · rcases List.mem_cons.mp hq with rfl | hq
          · exact absurd e1.symm e2
          · obtain ⟨c, hc⟩ := ih hq
            have : (p.1 == z1) = false := by simpa using e2
            exact ⟨c, by simp only [List.lookup, this]; exact hc⟩
    obtain ⟨c, hc⟩ := this
    rw [hc, a1 _ (lookup_mem hc)]
noncomputable def scOk (scope : Scope) (nm : List (Str × NameKind)) (x : Str) : Bool :=
  decide (scope.kind = .function) && scope.names.all (fun y => decide (y.2 ≠ .cell)) && scope.names.all (fun y => !decide (y.2 = .local) || decide (scope.names.lookup y.1 = some .local)) &&
    decide (scope.names.lookup x = some .local) && scope.names.all (fun y => !decide (y.2 = .free) || decide (nm.lookup y.1 = some .cell))
noncomputable def cvOk (scope : Scope) (cv : List (Str × Value)) : Bool := cv.all fun p => decide (scope.names.lookup p.1 = some .free)
noncomputable def relabelN (names nm : List (Str × NameKind)) : List (Str × NameKind) := names.map fun p => if decide (p.2 = .free) && decide (nm.lookup p.1 = some .cell) then (p.1, .cell) else p
section
variable {prog : Program} {w : World} {K : Frag} {mg mb : Str → Option Value} {nm : List (Str × NameKind)} {F : Fx} {st : St} {X : Value → List Value → St → Prop} {Q : Value → St → Prop} {pos : Pos} {x : Str} {v : Value}
theorem relabel_eq (E : Ent K mg mb nm F) {scope : Scope} : (relabel scope F.env).names = relabelN scope.names nm := by
  unfold relabel relabelN
  refine List.map_congr_left fun p _ => ?_
  obtain ⟨n, k⟩ := p
  have h1 : (F.env.scope.kind == ScopeKind.function) = true := by rw [E.kind]; rfl
  have h2 : F.env.kindOf n = nm.lookup n := by rw [Env.kindOf, E.names]
  simp only [h1, h2]
  cases hk : decide (k = .free) <;> cases hn : decide (nm.lookup n = some .cell) <;> simp_all
theorem lookup_relabelN {nm : List (Str × NameKind)} {x : Str} {k : NameKind} : ∀ {names : List (Str × NameKind)}, names.lookup x = some k → (relabelN names nm).lookup x = some (if k = .free ∧ nm.lookup x = some .cell then .cell else k)
  | (y, k') :: r, h => by
    by_cases q : x = y
    · subst q
      simp only [List.lookup, beq_self_eq_true] at h
      cases h
      unfold relabelN
      rw [List.map_cons]
      by_cases c : k = .free ∧ nm.lookup x = some .cell
      · simp [c.1, c.2, List.lookup]
      · rw [if_neg c]
        have : (decide (k = .free) && decide (nm.lookup x = some .cell)) = false := by
          rw [Bool.and_eq_false_iff]
          by_cases d : k = .free
          · right; simpa using fun z => c ⟨d, z⟩
          · left; simpa using d
        simp [this, List.lookup]
    · have b : (x == y) = false := by simpa using q
      simp only [List.lookup, b] at h
      have ih := lookup_relabelN (nm := nm) h
      unfold relabelN at ih ⊢
      rw [List.map_cons]
      split
      · simp only [List.lookup, b]; exact ih
      · simp only [List.lookup, b]; exact ih
theorem cell_of_relabelN {nm : List (Str × NameKind)} {x : Str} : ∀ {names : List (Str × NameKind)}, (∀ y ∈ names, y.2 ≠ .cell) → (relabelN names nm).lookup x = some .cell → (x, NameKind.free) ∈ names
  | [], _, h => by cases h
  | (y, k') :: r, hc, h => by
    unfold relabelN at h
    rw [List.map_cons] at h
    by_cases q : x = y
    · subst q
      split at h
      · rename_i c
        simp only [Bool.and_eq_true, decide_eq_true_eq] at c
        rw [← c.1]; exact List.mem_cons_self
      · simp only [List.lookup, beq_self_eq_true] at h
        cases h
        exact absurd rfl (hc _ List.mem_cons_self)
    · have b : (x == y) = false := by simpa using q
      refine List.mem_cons_of_mem _ (cell_of_relabelN (nm := nm) (fun y hy => hc y (List.mem_cons_of_mem _ hy)) ?_)
      unfold relabelN
      split at h
      · simp only [List.lookup, b] at h; exact h
      · simp only [List.lookup, b] at h; exact h
structure ScOk (scope : Scope) (nm : List (Str × NameKind)) (x : Str) : Prop where
  kind : scope.kind = .function
  cell : ∀ y ∈ scope.names, y.2 ≠ .cell
  names : ∀ y ∈ scope.names, y.2 = .local → scope.names.lookup y.1 = some .local
  x : scope.names.lookup x = some .local
  free : ∀ y ∈ scope.names, y.2 = .free → nm.lookup y.1 = some .cell
theorem scOk_of {scope : Scope} (h : scOk scope nm x = true) : ScOk scope nm x := by
  unfold scOk at h
  simp only [Bool.and_eq_true, decide_eq_true_eq, List.all_eq_true, Bool.or_eq_true, Bool.not_eq_true', decide_eq_false_iff_not] at h
  obtain ⟨⟨⟨⟨h1, h2⟩, h3⟩, h4⟩, h5⟩ := h
  exact ⟨h1, h2, fun y hy e => (h3 y hy).resolve_left fun n => n e, h4, fun y hy e => (h5 y hy).resolve_left fun n => n e⟩
theorem Ent.comp (E : Ent K mg mb nm F) {scope : Scope} {cl : List (Str × Addr)} {C : Addr} (S : ScOk scope nm x) (hl : ∀ p ∈ scope.names, p.2 = .free → cl.lookup p.1 = F.env.cells.lookup p.1) : Ent K mg mb (relabelN scope.names nm) (cfx F scope cl C) where
  W := ⟨E.W.kx, E.W.g, E.W.b, E.W.bi, E.W.ns⟩
  kind := S.kind
  names := relabel_eq E
  gl := E.gl
  bi := E.bi
  loc := List.mem_cons_self
  cel y h := by
    have hm := cell_of_relabelN S.cell h
    obtain ⟨c, hc⟩ := E.cel y (S.free _ hm rfl)
    exact ⟨c, (hl _ hm rfl).trans hc⟩
theorem cap_of (E : Ent K mg mb nm F) {scope : Scope} {cl : List (Str × Addr)} (S : ScOk scope nm x) (hl : ∀ p ∈ scope.names, p.2 = .free → cl.lookup p.1 = F.env.cells.lookup p.1) : ∀ {cv : List (Str × Value)}, cvOk scope cv = true → Has st.vars cv → Cap st.vars F.env scope cl cv
  | [], _, _ => trivial
  | (y, u) :: r, h, ⟨h1, h2⟩ => by
    unfold cvOk at h
    rw [List.all_cons, Bool.and_eq_true, decide_eq_true_eq] at h
    have hy : scope.names.lookup y = some .free := h.1
    have hm : (y, NameKind.free) ∈ scope.names := lookup_mem hy
    refine ⟨⟨h1, E.cell (S.free _ hm rfl), ?_, hl _ hm rfl⟩, cap_of E S hl h.2 h2⟩
    rw [relabel_eq E, lookup_relabelN hy, if_pos ⟨rfl, S.free _ hm rfl⟩]
theorem E_listCore (E : Ent K mg mb nm F) {elt iter : Expr} {px : Pos} {ifs : List Expr} {scope : Scope} (cv : List (Str × Value)) (u : Option (Value → Sem Unit))
    (hsc : scOk scope nm x = true) (hcv : cvOk scope cv = true) (hs : ∀ x, foldedSetIterable iter F.env x = pure x) (hh : F.A.handled = none)
    (h : T prog w F (eval iter F.env) (fun v st₁ => Has st₁.vars cv ∧ ∃ xs k, ∃ I : Nat → List Value → AHeap → Prop, Src st₁ v xs k ∧ xs.length ≤ 1000000 ∧ I 0 [] st₁.H ∧ (∀ i acc H vs, I i acc H → Src ⟨vs, H⟩ v xs k) ∧
      (∀ i acc H, I i acc H → acc.length ≤ i) ∧
      (∀ F', Ent K mg mb (relabelN scope.names nm) F' → F'.toFc = F.toFc → ∀ i x' acc H, xs[i]? = some x' → I i acc H → T prog w F' (tests ifs F'.env) (fun ok st₂ => (ok = true → T prog w F' (eval elt F'.env) (fun y st₃ => Has st₃.vars cv ∧ I (i + 1) (acc ++ [y]) st₃.H) NoX st₂) ∧ (ok = false → Has st₂.vars cv ∧ I (i + 1) acc st₂.H)) NoX ⟨setV cv x x', H⟩) ∧
      (∀ acc H a H', I xs.length acc H → New H a (.list acc) H' → Handed prog w F Q X u a ⟨st₁.vars, H'⟩)) X st) :
    T prog w F (comprehension (.ListComp elt [⟨.Name x px, iter, ifs, 0⟩] scope pos) scope F.env (firstIterPos [⟨.Name x px, iter, ifs, 0⟩] pos) (newList []) false (eval iter F.env) u) Q X st := by
  have S := scOk_of hsc
  obtain ⟨cl, e1, e2, e3⟩ := clos_ok (env := F.env) (scope := scope) fun p hp hf => E.cel p.1 (S.free p hp hf)
  refine T_listCore cv u e1 e2 S.cell S.kind S.names S.x hs hh E.W.ns (h.post fun v st₁ hq => ?_)
  refine ex0and2 hq fun q0 y1_ => ?_; try clear hq; obtain ⟨xs, k, I, q1, q2, q3, q4, q5, q6, q7⟩ := y1_
  refine ⟨cap_of E S e3 hcv q0, exi3 xs k I ⟨q1, q2, q3, q4, q5, fun C i x' acc H hx hI => ?_, fun acc H a hI ha => q7 acc H a _ hI ⟨ha, rfl⟩⟩⟩
  refine (q6 (cfx F scope cl C) (E.comp S e3) rfl i x' acc H hx hI).post fun ok st₂ q => ?_
  cases ok with
  | true =>
    rw [if_pos rfl]
    exact (q.1 rfl).post fun y st₃ q => ⟨q.2, fun z u hz => Has.at q.1 z u hz⟩
  | false => exact ⟨(q.2 rfl).2, fun z u hz => Has.at (q.2 rfl).1 z u hz⟩
theorem E_dictCore (E : Ent K mg mb nm F) {kx vx iter : Expr} {px : Pos} {ifs : List Expr} {scope : Scope} (cv : List (Str × Value)) (u : Option (Value → Sem Unit))
    (hsc : scOk scope nm x = true) (hcv : cvOk scope cv = true) (hs : ∀ x, foldedSetIterable iter F.env x = pure x) (hh : F.A.handled = none)
    (h : T prog w F (eval iter F.env) (fun v st₁ => Has st₁.vars cv ∧ ∃ xs k, ∃ I : Nat → List (Int × Value) → AHeap → Prop, Src st₁ v xs k ∧ xs.length ≤ 1000000 ∧ I 0 [] st₁.H ∧ (∀ i acc H vs, I i acc H → Src ⟨vs, H⟩ v xs k) ∧
      (∀ i acc H, I i acc H → acc.length ≤ i) ∧
      (∀ F', Ent K mg mb (relabelN scope.names nm) F' → F'.toFc = F.toFc → ∀ i x' acc H, xs[i]? = some x' → I i acc H → T prog w F' (tests ifs F'.env) (fun ok st₂ => (ok = true → T prog w F' (eval kx F'.env) (fun kv st₃ => T prog w F' (eval vx F'.env) (fun y st₄ => ∃ q, kv = .int q 0 ∧ (∀ p ∈ acc, p.1 ≠ q) ∧ Has st₄.vars cv ∧ I (i + 1) (acc ++ [(q, y)]) st₄.H) NoX st₃) NoX st₂) ∧ (ok = false → Has st₂.vars cv ∧ I (i + 1) acc st₂.H)) NoX ⟨setV cv x x', H⟩) ∧
      (∀ acc H a n H', I xs.length acc H → New H a (.dict (dE (KI prog w) acc) n) H' → Handed prog w F Q X u a ⟨st₁.vars, H'⟩)) X st) :
    T prog w F (comprehension (.DictComp kx vx [⟨.Name x px, iter, ifs, 0⟩] scope pos) scope F.env (firstIterPos [⟨.Name x px, iter, ifs, 0⟩] pos) newDict false (eval iter F.env) u) Q X st := by
  have S := scOk_of hsc
  obtain ⟨cl, e1, e2, e3⟩ := clos_ok (env := F.env) (scope := scope) fun p hp hf => E.cel p.1 (S.free p hp hf)
  refine T_dictCore cv u e1 e2 S.cell S.kind S.names S.x hs hh E.W.ns (h.post fun v st₁ hq => ?_)
  refine ex0and2 hq fun q0 y1_ => ?_; try clear hq; obtain ⟨xs, k, I, q1, q2, q3, q4, q5, q6, q7⟩ := y1_
  refine ⟨cap_of E S e3 hcv q0, exi3 xs k I ⟨q1, q2, q3, q4, q5, fun C i x' acc H hx hI => ?_, fun acc H a n hI ha => q7 acc H a n _ hI ⟨ha, rfl⟩⟩⟩
  refine (q6 (cfx F scope cl C) (E.comp S e3) rfl i x' acc H hx hI).post fun ok st₂ q => ?_
  cases ok with
  | true =>
    rw [if_pos rfl]
    exact (q.1 rfl).post fun y st₃ q => q.post fun y st₄ ⟨k, q1, q2, q3, q4⟩ => ⟨k, q1, q2, q4, fun z u hz => Has.at q3 z u hz⟩
  | false => exact ⟨(q.2 rfl).2, fun z u hz => Has.at (q.2 rfl).1 z u hz⟩
theorem E_listComp {elt iter : Expr} {px : Pos} {ifs : List Expr} {scope : Scope}
    (h : T prog w F (comprehension (.ListComp elt [⟨.Name x px, iter, ifs, 0⟩] scope pos) scope F.env (firstIterPos [⟨.Name x px, iter, ifs, 0⟩] pos) (newList []) false (eval iter F.env) none) Q X st) :
    T prog w F (eval (.ListComp elt [⟨.Name x px, iter, ifs, 0⟩] scope pos) F.env) Q X st := T_listComp h
theorem swaps_dict (E : Ent K mg mb nm F) {e e' : Expr} {g : List Comprehension} {sc : Scope} {p vp : Pos} {line : Nat} {b : Bool} (hb : (nm.lookup x == some .local && p.line == vp.line && !(sc.names.any fun q => q.1 == x && (q.2 == .local || q.2 == .cell))) = b) :
    swapsWith (.DictComp e e' g sc vp) (some (.Name x p)) line F.env = pure b := by
  have h1 : (F.env.blockKind == ScopeKind.function) = true := by unfold Env.blockKind; rw [E.kind]; rfl
  have h2 : F.env.kindOf x = nm.lookup x := by rw [Env.kindOf, E.names]
  unfold swapsWith
  subst hb
  simp only [h1, h2, Bool.true_and]
  rfl
end
end Mine
end
section
set_option maxRecDepth 100000
set_option Elab.async false
set_option linter.unusedVariables false
set_option maxHeartbeats 4000000
namespace Mine
open PySem PySem.W PySem.Calls PyProof.Rows PySem.SeqAt
section
variable {prog : Program} {w : World} {K : Frag} {mg mb : Str → Option Value} {nm : List (Str × NameKind)} {F : Fx} {st : St} {X : Value → List Value → St → Prop} {Q : Value → St → Prop} {pos : Pos} {x : Str} {v : Value}
noncomputable def isOwn (nm : List (Str × NameKind)) (x : Str) : Bool := nm.lookup x == some .local || nm.lookup x == some .cell
theorem E_store {Q : Unit → St → Prop} (E : Ent K mg mb nm F) (U : Fun F) (hk : isOwn nm x = true) (h : Q () ⟨setV st.vars x v, st.H⟩) : StoreE prog w F x v Q X st := by
  unfold isOwn at hk
  rw [Bool.or_eq_true, beq_iff_eq, beq_iff_eq] at hk
  rcases hk with hk | hk
  · exact E_storeL E hk h
  · exact E_storeC E U hk h
theorem E_for (E : Ent K mg mb nm F) (U : Fun F) (hh : F.A.handled = none) {iter : Expr} {p : Pos} {body orelse : List Stmt} {Q : Flow → St → Prop} (hs : ∀ x, foldedSetIterable iter F.env x = pure x) (hk : isOwn nm x = true)
    (h : T prog w F (eval iter F.env) (fun v st₁ => ∃ xs k, ∃ J : Nat → List (Str × Value) → AHeap → Prop, Src st₁ v xs k ∧ (∃ b, Has st₁.vars b ∧ J 0 b st₁.H) ∧ (∀ i b H vs, J i b H → Src ⟨vs, H⟩ v xs k) ∧
      (∀ i x₀ b H, xs[i]? = some x₀ → J i b H → AbsT prog w F (execs body F.env) (fun f st₃ => match f with
        | .next => ∃ b', Has st₃.vars b' ∧ J (i + 1) b' st₃.H | .cont => ∃ b', Has st₃.vars b' ∧ J (i + 1) b' st₃.H | .brk => Q .next st₃ | .ret v => Q (.ret v) st₃) X ⟨setV b x x₀, H⟩) ∧
      (∀ b H, J xs.length b H → T prog w F (execs orelse F.env) Q X ⟨b, H⟩)) X st) :
    T prog w F (exec (.For (.Name x p) iter body orelse pos) F.env) Q X st := by
  obtain ⟨outer, L, R⟩ := U.U
  refine T_for R hh E.W.ns hs (fun _ => rfl) (h.post fun v st₁ hq => ?_)
  refine ex3and5 hq fun xs k J q1 q2 q3 q4 q5 => ?_; try clear hq
  refine exi3 xs k (fun i st' => ∃ b, Has st'.vars b ∧ J i b st'.H) ⟨q1, q2, fun i st' ⟨b, hb, hJ⟩ => q3 i b st'.H st'.vars hJ, ?_, ?_⟩
  · rintro i x₀ st' x' hx ⟨b, hb, hJ⟩ hx'
    refine T.keepVars b hb (T_tName ?_)
    have hst : StoreE prog w F x x₀ (fun _ st₂ => st₂ = ⟨setV b x x₀, st'.H⟩) X ⟨b, st'.H⟩ := E_store E U hk rfl
    refine (hst x' hx').post fun _ st₂ e => ?_
    subst e
    exact (q4 i x₀ b st'.H hx hJ).out
  · rintro st' ⟨b, hb, hJ⟩
    exact T.keepVars b hb (q5 b st'.H hJ)
theorem E_while (U : Fun F) {test : Expr} {body orelse : List Stmt} {Q : Flow → St → Prop} (J : Nat → List (Str × Value) → AHeap → Prop) (n : Nat) (h0 : ∃ b, Has st.vars b ∧ J n b st.H)
    (hstep : ∀ n b H, J n b H → T prog w F (isTrue test F.env (eval test F.env)) (fun c st₂ => (c = true → AbsT prog w F (execs body F.env) (fun f st₃ => match f with
        | .next => ∃ m b', m < n ∧ Has st₃.vars b' ∧ J m b' st₃.H | .cont => ∃ m b', m < n ∧ Has st₃.vars b' ∧ J m b' st₃.H | .brk => Q .next st₃ | .ret v => Q (.ret v) st₃) X st₂) ∧ (c = false → T prog w F (execs orelse F.env) Q X st₂)) X ⟨b, H⟩) :
    T prog w F (exec (.While test body orelse pos) F.env) Q X st := by
  obtain ⟨outer, L, R⟩ := U.U
  refine T_while2 R (fun n st' => ∃ b, Has st'.vars b ∧ J n b st'.H) n h0 fun n st' ⟨b, hb, hJ⟩ => ?_
  refine T.keepVars b hb ((hstep n b st'.H hJ).post fun c st₂ q => ⟨fun e => (q.1 e).out.post fun f st₃ q => ?_, q.2⟩)
  cases f with
  | next => obtain ⟨m, b', h1, h2⟩ := q; exact ⟨m, h1, b', h2⟩
  | cont => obtain ⟨m, b', h1, h2⟩ := q; exact ⟨m, h1, b', h2⟩
  | brk => exact q
  | ret v => exact q
theorem E_try (U : Fun F) {body orelse : List Stmt} {h₀ : ExceptHandler} {hs : List ExceptHandler} {Q : Flow → St → Prop}
    (h : T prog w F (execs body F.env) (fun f st₁ => match f with | .next => T prog w F (execs orelse F.env) Q X st₁ | f => Q f st₁) (fun cls args st₁ => Caught prog w F (h₀ :: hs) cls args Q X st₁) st) :
    T prog w F (exec (.Try body (h₀ :: hs) orelse [] pos) F.env) Q X st := by
  obtain ⟨outer, L, R⟩ := U.U
  exact T_try R h
theorem Ent.mark (E : Ent K mg mb nm F) (ea : Addr) : Ent K mg mb nm (marked F ea) := ⟨⟨E.W.kx, E.W.g, E.W.b, E.W.bi, E.W.ns⟩, E.kind, E.names, E.gl, E.bi, E.loc, E.cel⟩
theorem A_inst {C d y : Addr} {es : List (Str × Value)} {attr : Option Value} (E : Ent K mg mb nm F) (hx : st.H y = some (.inst C d)) (hd : st.H d = some (.ns es)) (hl : es.lookup x = some v) (hv : handedIn v = true)
    (hg : plainGet K C x = true) (hh : hasDictIn K C = true) (ha : findIn K (.ref C) x = some attr) (hn : noGet K attr = true) (h : Q v st) : AttrE prog w F (.ref y) x Q X st := fun o ho => by
  rw [er_ref ho]; exact T_getA E.W.kx hx hd hl hv hg hh ha hn h
theorem A_slots {C d y : Addr} {es : List (Str × Value)} {vs : List (Option Value)} {p i : Nat} (E : Ent K mg mb nm F) (hx : st.H y = some (.slots C d vs)) (hd : st.H d = some (.ns es)) (hl : vs[i]? = some (some v)) (hv : handedIn v = true)
    (hg : plainGet K C x = true) (hc : isClsIn K C = true) (ha : findIn K (.ref C) x = some (some (.ref p))) (hn : specialIn K (.ref p) "__get__" = some (some (.builtin "member_descriptor.__get__"))) (ht : takesIn K (.ref p) = some true)
    (hp : slotIn K p C = some i) (h : Q v st) : AttrE prog w F (.ref y) x Q X st := fun o ho => by
  rw [er_ref ho]; exact T_getS E.W.kx hx hd hl hv hg hc ha hn ht hp h
theorem A_next {it l : Addr} {i : Nat} (hi : st.H it = some (.iter l i)) (h : ∀ a H', New st.H a (.bm "method-wrapper" (.builtin "list_iterator.__next__") (.ref it)) H' → Q (.ref a) ⟨st.vars, H'⟩) : AttrE prog w F (.ref it) "__next__" Q X st := fun o ho => by
  rw [er_ref ho]; exact T_getNext hi fun a ha => h a _ ⟨ha, rfl⟩
theorem S_inst {C d y : Addr} {es : List (Str × Value)} {Q : Unit → St → Prop} (E : Ent K mg mb nm F) (hx : st.H y = some (.inst C d)) (hd : st.H d = some (.ns es)) (hz : es.length < 1000)
    (hs : findIn K (.ref C) "__setattr__" = some (some (.builtin "object.__setattr__"))) (hp : plainOver K C = true) (ht : takerIn K C x = some none) (hh : hasDictIn K C = true)
    (h : ∀ H', H' = upd st.H d (.ns (setV es x v)) → Q () ⟨st.vars, H'⟩) : SetAttrE prog w F (.ref y) x v Q X st := fun v' o hv ho => by
  rw [er_ref ho]; exact T_setA E.W.kx hx hd hv hz hs hp ht hh (h _ rfl)
theorem S_slots {C d y : Addr} {es : List (Str × Value)} {vs : List (Option Value)} {p i : Nat} {Q : Unit → St → Prop} (E : Ent K mg mb nm F) (hx : st.H y = some (.slots C d vs)) (hd : st.H d = some (.ns es))
    (hs : findIn K (.ref C) "__setattr__" = some (some (.builtin "object.__setattr__"))) (hp : plainOver K C = true) (ht : takerIn K C x = some (some (.ref p))) (hT : typeIn K (.ref p) = some (.type "member_descriptor")) (hi : slotIn K p C = some i) (hz : i < 1000)
    (h : ∀ H', H' = upd st.H y (.slots C d (setSlot vs i v)) → Q () ⟨st.vars, H'⟩) : SetAttrE prog w F (.ref y) x v Q X st := fun v' o hv ho => by
  rw [er_ref ho]; exact T_setS E.W.kx hx hd hv hs hp ht hT hi hz (h _ rfl)
theorem M_own {C d y f : Addr} {es : List (Str × Value)} {Q : Value → List Value → St → Prop} (E : Ent K mg mb nm F) (hx : st.H y = some (.inst C d)) (hd : st.H d = some (.ns es)) (hl : es.lookup x = none)
    (hg : plainGet K C x = true) (hf : findIn K (.ref C) x = some (some (.ref f))) (ht : isFn K (.ref f) = true) (h : Q (.ref f) [.ref y] st) : MethE prog w F (.ref y) x Q X st := fun pl o ho => by
  rw [er_ref ho]; exact T_method E.W.kx hx hd hl hg hf ht h
theorem M_list {a : Addr} {id : String} {xs : List Value} {Q : Value → List Value → St → Prop} (slot : Slot "list" x id) (hty : typeOf (.builtin id) = pure (.type "method_descriptor")) (ha : st.H a = some (.list xs)) (h : Q (.builtin id) [.ref a] st) : MethE prog w F (.ref a) x Q X st := fun pl o ho => by
  rw [er_ref ho]; exact T_methL ha slot hty h
theorem M_dict {a : Addr} {id : String} {es : List (Value × Value)} {n : Nat} {Q : Value → List Value → St → Prop} (slot : Slot "dict" x id) (hty : typeOf (.builtin id) = pure (.type "method_descriptor")) (ha : st.H a = some (.dict es n)) (h : Q (.builtin id) [.ref a] st) : MethE prog w F (.ref a) x Q X st := fun pl o ho => by
  rw [er_ref ho]; exact T_methD ha slot hty h
theorem M_append {a : Addr} {xs : List Value} {Q : Value → List Value → St → Prop} (ha : st.H a = some (.list xs)) (h : Q (.builtin "list.append") [.ref a] st) : MethE prog w F (.ref a) "append" Q X st := M_list PySem.F.slot_list_append PySem.F.type_list_append ha h
theorem M_extend {a : Addr} {xs : List Value} {Q : Value → List Value → St → Prop} (ha : st.H a = some (.list xs)) (h : Q (.builtin "list.extend") [.ref a] st) : MethE prog w F (.ref a) "extend" Q X st := M_list PySem.F.slot_list_extend PySem.F.type_list_extend ha h
theorem M_clear {a : Addr} {xs : List Value} {Q : Value → List Value → St → Prop} (ha : st.H a = some (.list xs)) (h : Q (.builtin "list.clear") [.ref a] st) : MethE prog w F (.ref a) "clear" Q X st := M_list PySem.F.slot_list_clear PySem.F.type_list_clear ha h
theorem M_index {a : Addr} {xs : List Value} {Q : Value → List Value → St → Prop} (ha : st.H a = some (.list xs)) (h : Q (.builtin "list.index") [.ref a] st) : MethE prog w F (.ref a) "index" Q X st := M_list PySem.F.slot_list_index PySem.F.type_list_index ha h
theorem M_dget {a : Addr} {es : List (Value × Value)} {n : Nat} {Q : Value → List Value → St → Prop} (ha : st.H a = some (.dict es n)) (h : Q (.builtin "dict.get") [.ref a] st) : MethE prog w F (.ref a) "get" Q X st := M_dict PySem.F.slot_dict_get PySem.F.type_dict_get ha h
theorem M_values {a : Addr} {es : List (Value × Value)} {n : Nat} {Q : Value → List Value → St → Prop} (ha : st.H a = some (.dict es n)) (h : Q (.builtin "dict.values") [.ref a] st) : MethE prog w F (.ref a) "values" Q X st := M_dict PySem.F.slot_dict_values PySem.F.type_dict_values ha h
theorem C_code {f : Value} {args : List Value} (h : Calls prog w F.toFc f args st.H (fun v H' => Q v ⟨st.vars, H'⟩) (fun c a H' => X c a ⟨st.vars, H'⟩)) : CallE prog w F f args Q X st := fun vs hv => T_code hv h
theorem C_append {l : Addr} {xs : List Value} (hl : st.H l = some (.list xs)) (hn : xs.length ≤ 1000000) (h : ∀ H', H' = upd st.H l (.list (xs ++ [v])) → Q .none ⟨st.vars, H'⟩) : CallE prog w F (.builtin "list.append") [.ref l, v] Q X st := fun vs hv => by
  refine ex2and3 (two_of hv) fun a b y2_ ha hb => ?_; obtain rfl := y2_
  rw [er_ref ha]; exact T_append hl hb hn (h _ rfl)
theorem C_extend {l b : Addr} {xs ys : List Value} (hl : st.H l = some (.list xs)) (hb : st.H b = some (.list ys) ∨ st.H b = some (.tup ys)) (hne : l ≠ b) (hn : xs.length + ys.length ≤ 1000000) (h : ∀ H', H' = upd st.H l (.list (xs ++ ys)) → Q .none ⟨st.vars, H'⟩) : CallE prog w F (.builtin "list.extend") [.ref l, .ref b] Q X st := fun vs hv => by
  refine ex2and3 (two_of hv) fun a b y2_ ha hb => ?_; obtain rfl := y2_
  rw [er_ref ha, er_ref hb]; exact T_extend hl (by assumption) hne hn (h _ rfl)
theorem C_clear {l : Addr} {xs : List Value} (hl : st.H l = some (.list xs)) (hn : xs.length ≤ 1000000) (h : ∀ H', H' = upd st.H l (.list []) → Q .none ⟨st.vars, H'⟩) : CallE prog w F (.builtin "list.clear") [.ref l] Q X st := fun vs hv => by
  obtain ⟨a, rfl, ha⟩ := one_of hv
  rw [er_ref ha]; exact T_clear hl hn (h _ rfl)
theorem C_index {l : Addr} {ns : List Int} {k : Int} (hl : st.H l = some (.list (nums ns))) (hk : k ∈ ns) (hn : ns.length ≤ 1000000) (h : Q (vI (ns.idxOf k : Nat)) st) : CallE prog w F (.builtin "list.index") [.ref l, vI k] Q X st := fun vs hv => by
  refine ex2and3 (two_of hv) fun a b y2_ ha hb => ?_; obtain rfl := y2_
  rw [er_ref ha]; exact T_index hl hb hk hn h
theorem C_dget {κ : Type} [DecidableEq κ] (B : KeyBy prog w κ) {d : Addr} {n : Nat} {kvs : List (κ × Value)} {k : κ} (E : Ent K mg mb nm F) (hd : st.H d = some (.dict (dE B kvs) n)) (h : Q ((valueAt kvs k).getD .none) st) : CallE prog w F (.builtin "dict.get") [.ref d, B.val k] Q X st := fun vs hv => by
  refine ex2and3 (two_of hv) fun a b y2_ ha hb => ?_; obtain rfl := y2_
  rw [er_ref ha]; exact T_dget B E.W.ns hb hd h
theorem C_values {κ : Type} [DecidableEq κ] (B : KeyBy prog w κ) {d : Addr} {n : Nat} {kvs : List (κ × Value)} (E : Ent K mg mb nm F) (hd : st.H d = some (.dict (dE B kvs) n)) (h : ∀ a H', New st.H a (.vals d) H' → Q (.ref a) ⟨st.vars, H'⟩) : CallE prog w F (.builtin "dict.values") [.ref d] Q X st := fun vs hv => by
  obtain ⟨a, rfl, ha⟩ := one_of hv
  rw [er_ref ha]; exact T_values B E.W.ns hd fun a ha => h a _ ⟨ha, rfl⟩
theorem C_len {l : Addr} {xs : List Value} (hl : st.H l = some (.list xs)) (hn : xs.length ≤ 1000000) (h : Q (vI xs.length) st) : CallE prog w F (.builtin "len") [.ref l] Q X st := fun vs hv => by
  obtain ⟨a, rfl, ha⟩ := one_of hv
  rw [er_ref ha]; exact T_len hl hn h
theorem C_lenT {l : Addr} {xs : List Value} (hl : st.H l = some (.tup xs)) (hn : xs.length ≤ 1000000) (h : Q (vI xs.length) st) : CallE prog w F (.builtin "len") [.ref l] Q X st := fun vs hv => by
  obtain ⟨a, rfl, ha⟩ := one_of hv
  rw [er_ref ha]; exact T_lenT hl hn h
theorem C_range {n : Int} (h : ∀ a H', New st.H a (.rng 0 n) H' → Q (.ref a) ⟨st.vars, H'⟩) : CallE prog w F (.type "range") [vI n] Q X st := fun vs hv => by
  obtain ⟨a, rfl, ha⟩ := one_of hv
  exact T_range ha fun a ha => h a _ ⟨ha, rfl⟩
theorem C_sum {l : Addr} {ns : List Int} (hh : F.A.handled = none) (hl : st.H l = some (.list (nums ns))) (h : Q (vI ns.sum) st) : CallE prog w F (.builtin "sum") [.ref l] Q X st := fun vs hv => by
  obtain ⟨a, rfl, ha⟩ := one_of hv
  rw [er_ref ha]; exact T_sum hh hl h
theorem C_min2 {a b : Int} (hh : F.A.handled = none) (h : Q (vI (if b < a then b else a)) st) : CallE prog w F (.builtin "min") [vI a, vI b] Q X st := fun vs hv => by
  refine ex2and3 (two_of hv) fun a b y2_ ha hb => ?_; obtain rfl := y2_
  exact T_min2 hh ha hb h
theorem C_max {l : Addr} {ns : List Int} (hh : F.A.handled = none) (hl : st.H l = some (.list (nums ns))) (hne : 0 < ns.length) (h : ∀ M, M ∈ ns → (∀ a, a ∈ ns → a ≤ M) → Q (vI M) st) : CallE prog w F (.builtin "max") [.ref l] Q X st := fun vs hv => by
  obtain ⟨a, rfl, ha⟩ := one_of hv
  rw [er_ref ha]; exact T_max hh hl hne h
theorem C_sorted {l : Addr} {ns : List Int} (hl : st.H l = some (.list (nums ns)) ∨ st.H l = some (.tup (nums ns))) (h64 : ns.length < 64) (h : ∀ a ns' H', New st.H a (.list (nums ns')) H' → ns'.Perm ns → ns'.Pairwise (· ≤ ·) → Q (.ref a) ⟨st.vars, H'⟩) : CallE prog w F (.builtin "sorted") [.ref l] Q X st := fun vs hv => by
  obtain ⟨a, rfl, ha⟩ := one_of hv
  rw [er_ref ha]; exact T_sorted hl h64 fun a ns' ha h1 h2 => h a ns' _ ⟨ha, rfl⟩ h1 h2
theorem C_tuple {l : Addr} {xs : List Value} (hl : st.H l = some (.list xs)) (hn : xs.length ≤ 1000000) (h : ∀ a H', New st.H a (.tup xs) H' → Q (.ref a) ⟨st.vars, H'⟩) : CallE prog w F (.type "tuple") [.ref l] Q X st := fun vs hv => by
  obtain ⟨a, rfl, ha⟩ := one_of hv
  rw [er_ref ha]; exact T_tupleOf hl hn fun a ha => h a _ ⟨ha, rfl⟩
theorem C_isTuple {l : Addr} {xs : List Value} (hl : st.H l = some (.tup xs)) (h : Q (.bool true) st) : CallE prog w F (.builtin "isinstance") [.ref l, .type "tuple"] Q X st := fun vs hv => by
  refine ex2and3 (two_of hv) fun a b y2_ ha hb => ?_; obtain rfl := y2_
  rw [er_ref ha, er_type hb]; exact T_isTuple hl h
theorem C_iterL {l : Addr} {xs : List Value} (E : Ent K mg mb nm F) (hl : st.H l = some (.list xs)) (h : ∀ a H', New st.H a (.iter l 0) H' → Q (.ref a) ⟨st.vars, H'⟩) : CallE prog w F (.builtin "iter") [.ref l] Q X st := fun vs hv => by
  obtain ⟨a, rfl, ha⟩ := one_of hv
  rw [er_ref ha]; exact T_iterL E.W.ns hl fun a ha => h a _ ⟨ha, rfl⟩
theorem C_nextIt {b it l : Addr} {i : Nat} {xs : List Value} (hh : F.A.handled = none) (hb : st.H b = some (.bm "method-wrapper" (.builtin "list_iterator.__next__") (.ref it))) (hi : st.H it = some (.iter l i)) (hl : st.H l = some (.list xs))
    (hsome : ∀ x, xs[i]? = some x → ∀ H', H' = upd st.H it (.iter l (i + 1)) → Q x ⟨st.vars, H'⟩) (hnone : xs[i]? = none → ∀ H', H' = del st.H it → X (.type "StopIteration") [] ⟨st.vars, H'⟩) : CallE prog w F (.ref b) [] Q X st := fun vs hv => by
  rw [none_of hv]; exact T_callNext hh hb hi hl (fun x hx => hsome x hx _ rfl) (fun hx => hnone hx _ rfl)
theorem E_pop {o : Expr} {apos : Pos} {pl : Sem Bool} (he : eval (.Call (.Attribute o "pop" apos) [] [] pos) F.env = methTree o "pop" apos pos [] F.env pl)
    (h : T prog w F (eval o F.env) (fun ov st₁ => ∃ l xs y, ov = .ref l ∧ st₁.H l = some (.list (xs ++ [y])) ∧ xs.length ≤ 100000 ∧ ∀ H', H' = upd st₁.H l (.list xs) → Q y ⟨st₁.vars, H'⟩) X st) : T prog w F (eval (.Call (.Attribute o "pop" apos) [] [] pos) F.env) Q X st :=
  T_callMeth (trees := []) rfl he (h.post fun ov st₁ hz ov' ho => by
    refine ex3and4 hz fun l xs y e1 e2 e3 q => ?_
    subst e1
    rw [er_ref ho]
    refine T_methL e2 PySem.F.slot_list_pop PySem.F.type_list_pop fun f' first' hf hx => ?_
    obtain ⟨a, rfl, ha⟩ := one_of hx
    rw [er_builtin hf, er_ref ha]
    exact T_pop e2 e3 (q _ rfl))
theorem B_addI {a b : Int} (h : Q (vI (a + b)) st) : BinE prog w F .Add (vI a) (vI b) Q X st := fun _ _ ha hb => T_addI ha hb h
theorem B_subI {a b : Int} (h : Q (vI (a - b)) st) : BinE prog w F .Sub (vI a) (vI b) Q X st := fun _ _ ha hb => T_subI ha hb h
theorem B_mulI {a b : Int} (hm : IntMulOk a b) (h : Q (vI (a * b)) st) : BinE prog w F .Mult (vI a) (vI b) Q X st := fun _ _ ha hb => T_mulI ha hb hm h
theorem B_divI {a b : Int} (h0 : b ≠ 0) (hs : b.natAbs < 1073741824) (h : Q (vI (a.fdiv b)) st) : BinE prog w F .FloorDiv (vI a) (vI b) Q X st := fun _ _ ha hb => T_divI ha hb h0 hs h
theorem B_modI {a b : Int} (h0 : b ≠ 0) (h : Q (vI (a.fmod b)) st) : BinE prog w F .Mod (vI a) (vI b) Q X st := fun _ _ ha hb => T_modI ha hb h0 h
theorem B_powI {a b : Int} (h0 : 0 ≤ b) (hsz : (Builtin.Int.intBits a : Int) * b ≤ 2 ^ 27) (h : Q (vI (a ^ b.toNat)) st) : BinE prog w F .Pow (vI a) (vI b) Q X st := fun _ _ ha hb => T_powI ha hb h0 hsz h
theorem B_addL {l b : Addr} {xs ys : List Value} (hl : st.H l = some (.list xs)) (hb : st.H b = some (.list ys)) (hn : xs.length + ys.length ≤ 1000000) (h : ∀ c H', New st.H c (.list (xs ++ ys)) H' → Q (.ref c) ⟨st.vars, H'⟩) : BinE prog w F .Add (.ref l) (.ref b) Q X st := fun _ _ ha hb' => T_addL ha hb' hl hb hn fun c hc => h c _ ⟨hc, rfl⟩
theorem I_addI {a b : Int} (h : Q (vI (a + b)) st) : InpE prog w F .Add (vI a) (vI b) Q X st := fun _ _ ha hb => T_iaddI ha hb h
theorem I_subI {a b : Int} (h : Q (vI (a - b)) st) : InpE prog w F .Sub (vI a) (vI b) Q X st := fun _ _ ha hb => T_isubI ha hb h
theorem I_addL {l b : Addr} {xs ys : List Value} (hl : st.H l = some (.list xs)) (hb : st.H b = some (.list ys)) (hne : l ≠ b) (hn : xs.length + ys.length ≤ 1000000) (h : ∀ H', H' = upd st.H l (.list (xs ++ ys)) → Q (.ref l) ⟨st.vars, H'⟩) : InpE prog w F .Add (.ref l) (.ref b) Q X st := fun _ _ ha hb' => T_iaddL ha hb' hl hb hne hn (h _ rfl)
theorem N_neg {a : Int} (h : Q (vI (-a)) st) : UnE prog w F .USub (vI a) Q X st := fun _ ha => T_negI ha h
theorem P_eqI {a b : Int} (h : Q (.bool (a == b)) st) : CmpE prog w F .Eq (vI a) (vI b) Q X st := fun _ _ ha hb => T_eqI ha hb h
theorem P_neI {a b : Int} (h : Q (.bool (a != b)) st) : CmpE prog w F .NotEq (vI a) (vI b) Q X st := fun _ _ ha hb => T_neI ha hb h
theorem P_isNone (h : Q (.bool (v == .none)) st) : CmpE prog w F .Is v .none Q X st := fun _ _ ha hb => T_isNone ha hb h
theorem P_isntNone (h : Q (.bool (!(v == .none))) st) : CmpE prog w F .IsNot v .none Q X st := fun _ _ ha hb => T_isntNone ha hb h
theorem P_eqD {da db : PyData} {a b : Value} (ha : Rd st.H da a) (hb : Rd st.H db b) (ca : da.canLay0 = true) (cb : db.canLay0 = true) (hu : F.A.units + min da.depth db.depth < cLine) (h : Q (.bool (PyData.eqv da db)) st) : CmpE prog w F .Eq a b Q X st := fun a' b' e1 e2 => T_eqD (by rw [e1]; exact ha) (by rw [e2]; exact hb) ca cb hu h
theorem P_neD {da db : PyData} {a b : Value} (ha : Rd st.H da a) (hb : Rd st.H db b) (ca : da.canLay0 = true) (cb : db.canLay0 = true) (hu : F.A.units + min da.depth db.depth < cLine) (h : Q (.bool (!PyData.eqv da db)) st) : CmpE prog w F .NotEq a b Q X st := fun a' b' e1 e2 => T_neD (by rw [e1]; exact ha) (by rw [e2]; exact hb) ca cb hu h
theorem P_inI {i : Int} {ns : List Int} {l : Addr} (hl : st.H l = some (.list (nums ns))) (hu : F.A.units < 9000) (h : Q (.bool (decide (i ∈ ns))) st) : CmpE prog w F .In (vI i) (.ref l) Q X st := fun _ _ ha hb => T_inI ha hb hl hu h
theorem P_notInI {i : Int} {ns : List Int} {l : Addr} (hl : st.H l = some (.list (nums ns))) (hu : F.A.units < 9000) (h : Q (.bool (!decide (i ∈ ns))) st) : CmpE prog w F .NotIn (vI i) (.ref l) Q X st := fun _ _ ha hb => T_notInI ha hb hl hu h
theorem X_last {l : Addr} {xs : List Value} {y : Value} (hl : st.H l = some (.list (xs ++ [y]))) (hn : xs.length < 1000000) (h : Q y st) : ItemE prog w F (.ref l) (vI (-1)) Q X st := fun _ _ ha hb => T_itemLast ha hb hl hn h
theorem X_dict {d : Addr} {n : Nat} {kvs : List (Int × Value)} {k : Int} (hd : st.H d = some (.dict (dE (KI prog w) kvs) n)) (hv : valueAt kvs k = some v) (h : Q v st) : ItemE prog w F (.ref d) (vI k) Q X st := fun _ _ ha hb => T_getD (KI prog w) ha hb hd hv h
theorem Y_dict {d : Addr} {n : Nat} {kvs : List (Int × Value)} {k : Int} {Q : Unit → St → Prop} (hd : st.H d = some (.dict (dE (KI prog w) kvs) n)) (hn : kvs.length ≤ 1000000) (h : ∀ n' H', H' = upd st.H d (.dict (dE (KI prog w) (stored kvs k v)) n') → Q () ⟨st.vars, H'⟩) : SetItemE prog w F (.ref d) (vI k) v Q X st := fun _ _ _ ha hb hv => T_setD (KI prog w) ha hb hv hd hn fun n' => h n' _ rfl
theorem PK_inD {B : KeyBy prog w Int} {d : Addr} {n : Nat} {kvs : List (Int × Value)} {k : Int} (E : Ent K mg mb nm F) (hd : st.H d = some (.dict (dE B kvs) n)) (h : Q (.bool (valueAt kvs k).isSome) st) : CmpE prog w F .In (B.val k) (.ref d) Q X st := fun _ _ ha hb => T_inDict B E.W.ns ha hb hd h
theorem PK_inS {B : KeyBy prog w Int} {d : Addr} {ks : List Int} {k : Int} (hd : st.H d = some (B.aset ks)) (hn : ks.length ≤ 1000) (h : Q (.bool (decide (k ∈ ks))) st) : CmpE prog w F .In (B.val k) (.ref d) Q X st := fun _ _ ha hb => T_inSet B ha hb hd hn h
theorem XK_dict {B : KeyBy prog w Int} {d : Addr} {n : Nat} {kvs : List (Int × Value)} {k : Int} (hd : st.H d = some (.dict (dE B kvs) n)) (hv : valueAt kvs k = some v) (h : Q v st) : ItemE prog w F (.ref d) (B.val k) Q X st := fun _ _ ha hb => T_getD B ha hb hd hv h
theorem YK_dict {B : KeyBy prog w Int} {d : Addr} {n : Nat} {kvs : List (Int × Value)} {k : Int} {Q : Unit → St → Prop} (hd : st.H d = some (.dict (dE B kvs) n)) (hn : kvs.length ≤ 1000000) (h : ∀ n' H', H' = upd st.H d (.dict (dE B (stored kvs k v)) n') → Q () ⟨st.vars, H'⟩) : SetItemE prog w F (.ref d) (B.val k) v Q X st := fun _ _ _ ha hb hv => T_setD B ha hb hv hd hn fun n' => h n' _ rfl
theorem ZK_dict {B : KeyBy prog w Int} {d : Addr} {n : Nat} {kvs : List (Int × Value)} {k : Int} {Q : Unit → St → Prop} (hd : st.H d = some (.dict (dE B kvs) n)) (hv : (valueAt kvs k).isSome = true) (hn : kvs.length ≤ 1000000) (h : ∀ n' H', H' = upd st.H d (.dict (dE B (without kvs k)) n') → Q () ⟨st.vars, H'⟩) : DelItemE prog w F (.ref d) (B.val k) Q X st := fun _ _ ha hb => T_delD B ha hb hd hv hn fun n' => h n' _ rfl
theorem CK_sadd {B : KeyBy prog w Int} {d : Addr} {ks : List Int} {k : Int} (hd : st.H d = some (B.aset ks)) (hnew : k ∉ ks) (hn : ks.length ≤ 1000) (h : ∀ H', H' = upd st.H d (B.aset (ks ++ [k])) → Q .none ⟨st.vars, H'⟩) : CallE prog w F (.builtin "set.add") [.ref d, B.val k] Q X st := fun vs hv => by
  refine ex2and3 (two_of hv) fun a b y2_ ha hb => ?_; obtain rfl := y2_
  rw [er_ref ha]; exact T_setAdd B hb hd hnew hn (h _ rfl)
theorem CK_setNew {B : KeyBy prog w Int} (h : ∀ a H', New st.H a (B.aset []) H' → Q (.ref a) ⟨st.vars, H'⟩) : CallE prog w F (.type "set") [] Q X st := fun vs hv => by
  rw [none_of hv]; exact T_setNew B fun a ha => h a _ ⟨ha, rfl⟩
theorem MK_sadd {B : KeyBy prog w Int} {a : Addr} {ks : List Int} {Q : Value → List Value → St → Prop} (ha : st.H a = some (B.aset ks)) (hn : ks.length ≤ 1000) (h : Q (.builtin "set.add") [.ref a] st) : MethE prog w F (.ref a) "add" Q X st := fun pl o ho => by
  rw [er_ref ho]; exact T_methSB B ha hn h
theorem U_bool {c : Bool} {Q : Bool → St → Prop} (h : Q c st) : TruthE prog w F (.bool c) Q X st := fun _ ha => T_truthB ha h
theorem U_list {l : Addr} {xs : List Value} {Q : Bool → St → Prop} (hl : st.H l = some (.list xs)) (hn : xs.length ≤ 1000000) (h : Q (!xs.isEmpty) st) : TruthE prog w F (.ref l) Q X st := fun _ ha => T_truthL ha hl hn h
theorem U_none {Q : Bool → St → Prop} (h : Q false st) : TruthE prog w F .none Q X st := fun _ ha => T_truthN ha h
end
end Mine
end
section
set_option maxRecDepth 100000
set_option Elab.async false
set_option linter.unusedVariables false
set_option maxHeartbeats 4000000
namespace Mine
open PySem PySem.W PySem.Calls PyProof.Rows PySem.SeqAt
section
variable {prog : Program} {w : World} {B : KeyBy prog w Int} {K : Frag} {mg mb : Str → Option Value}
theorem fnFrame {F : Fc} {n : Nat} {f : Addr} {fd : FuncData} {body : List Stmt} {nm : List (Str × NameKind)} (W : Wld K F mg mb) (O : F.Ok (n + 1)) (D : FdOk F.base f fd body) (hg : fd.globals = mainGlobals) (hbi : fd.builtins = builtinsNs) (hnm : fd.scope.names = nm) (L : Addr) :
    Ent K mg mb nm (ffx F f fd L) ∧ Fun (ffx F f fd L) ∧ (ffx F f fd L).toFc.Ok n := by
  refine ⟨⟨W.ffx, D.kind, hnm, hg, hbi, List.mem_cons_self, fun x hx => ?_⟩, ⟨⟨_, _, ffx_runs O f fd L⟩, fun x c hc => ?_⟩, ffx_ok O f fd L⟩
  · subst hnm
    exact Option.isSome_iff_exists.mp (cellsFrom_some' fd.scope.names (L + 1) [] hx)
  · exact List.mem_cons_of_mem _ (List.mem_map.mpr ⟨_, lookup_mem hc, rfl⟩)
theorem Calls.ent {F : Fc} {n : Nat} {f : Addr} {fd : FuncData} {body : List Stmt} {args : List Value} {names : List Str} {nm : List (Str × NameKind)} {H : AHeap} {Q : Value → AHeap → Prop} {X : Value → List Value → AHeap → Prop} (W : Wld K F mg mb) (O : F.Ok (n + 1)) (D : FdOk F.base f fd body)
    (hb : ∀ args', args'.map er = args → bindArgs fd ⟨args', []⟩ = Pure.pure (names.zip args')) (hn : names.Nodup) (hk : (names.all fun x => fd.scope.names.lookup x == some .local || fd.scope.names.lookup x == some .cell) = true)
    (hg : fd.globals = mainGlobals) (hbi : fd.builtins = builtinsNs) (hnm : fd.scope.names = nm)
    (h : ∀ F', Ent K mg mb nm F' → Fun F' → F'.toFc.Ok n → AbsT prog w F' (execs body F'.env) (fun fl st' => Q (match fl with | .ret v => v | _ => .none) st'.H) (fun c a st' => X c a st'.H) ⟨names.zip args, H⟩) : Calls prog w F (.ref f) args H Q X :=
  Calls.fn D O hb hn hk fun L => let ⟨a, b, c⟩ := fnFrame W O D hg hbi hnm L; (h _ a b c).out
theorem Calls.entS {F : Fc} {n : Nat} {f : Addr} {fd : FuncData} {body : List Stmt} {lead rest : List Value} {names : List Str} {nm : Str} {nms : List (Str × NameKind)} {H : AHeap} {Q : Value → AHeap → Prop} {X : Value → List Value → AHeap → Prop} (W : Wld K F mg mb) (O : F.Ok (n + 1)) (D : FdOk F.base f fd body) (hr : rest.length ≤ 1000000)
    (hb : ∀ l r, l.map er = lead → bindArgs fd ⟨l ++ r, []⟩ = (newTuple r >>= fun t => Pure.pure (names.zip l ++ [(nm, t)]))) (hn : (names ++ [nm]).Nodup) (hk : ((names ++ [nm]).all fun x => fd.scope.names.lookup x == some .local || fd.scope.names.lookup x == some .cell) = true)
    (hg : fd.globals = mainGlobals) (hbi : fd.builtins = builtinsNs) (hnm : fd.scope.names = nms)
    (h : ∀ F', Ent K mg mb nms F' → Fun F' → F'.toFc.Ok n → ∀ a H', New H a (.tup rest) H' → AbsT prog w F' (execs body F'.env) (fun fl st' => Q (match fl with | .ret v => v | _ => .none) st'.H) (fun c a st' => X c a st'.H) ⟨names.zip lead ++ [(nm, .ref a)], H'⟩) : Calls prog w F (.ref f) (lead ++ rest) H Q X :=
  Calls.star D O hr hb hn hk fun L a ha => let ⟨x, y, z⟩ := fnFrame W O D hg hbi hnm L; (h _ x y z a _ ⟨ha, rfl⟩).out
variable {cN cT : Addr} {H H' : AHeap} {l r : List As} {S : Srt}
theorem Own.n2i (O : Own B cN cT H l) (m : As.srt S ∈ l) : ∃ n, H S.dn = some (.dict (dE B S.es) n) := (O.srtAt m).dn
theorem Own.sa (O : Own B cN cT H l) (m : As.srt S ∈ l) {x : Nd} (hx : x ∈ S.nds) : H x.sa = some (.list (kns B x.succ)) := ((O.srtAt m).nds x hx).2.2
theorem Own.ready (O : Own B cN cT H l) (m : As.srt S ∈ l) {rd : Addr} {ns : List Int} (hr : S.ready = some (rd, ns)) : H rd = some (.list (kns B ns)) := (O.srtAt m).rd _ _ hr
theorem Own.setNp (O : Own B cN cT H (.srt S :: l)) {x : Nd} (hx : x ∈ S.nds) {v : Int} (e : H' = upd H x.a (.slots cN x.d [some (B.val x.key), some (vI v), some (.ref x.sa)])) : Own B cN cT H' (.srt (S.setNp x.key v) :: l) := by
  subst e
  obtain ⟨A, G⟩ := (O.srtAt List.mem_cons_self).setNp hx v
  exact O.turn A G
theorem Own.pushS (O : Own B cN cT H (.srt S :: l)) {x : Nd} (hx : x ∈ S.nds) {v : Int} (e : H' = upd H x.sa (.list (kns B (x.succ ++ [v])))) : Own B cN cT H' (.srt (S.push x.key v) :: l) := by
  subst e
  obtain ⟨A, G⟩ := (O.srtAt List.mem_cons_self).push hx v
  exact O.turn A G
theorem Own.setReady (O : Own B cN cT H (.srt S :: l)) {rd : Addr} {ns ms : List Int} (hr : S.ready = some (rd, ns)) (e : H' = upd H rd (.list (kns B ms))) : Own B cN cT H' (.srt { S with ready := some (rd, ms) } :: l) := by
  subst e
  obtain ⟨A, G⟩ := (O.srtAt List.mem_cons_self).setReady hr ms
  exact O.turn A G
theorem Own.setCount (O : Own B cN cT H (.srt S :: l)) {out fin : Int} (e : H' = upd H S.d (.ns ({ S with out := out, fin := fin } : Srt).ns)) : Own B cN cT H' (.srt { S with out := out, fin := fin } :: l) := by
  subst e
  have A := O.srtAt List.mem_cons_self
  refine O.turn (A.setNs S.ready out fin fun r ns h => ⟨A.rd r ns h, A.rs r ns h⟩) (A.growNs S.ready out fin _ fun r ns h => mem_foot.mpr (.inr (.inr (.inr ⟨ns, h⟩))))
theorem Own.giveReady {rd : Addr} {ns : List Int} (O : Own B cN cT H (.cell rd (.list (kns B ns)) :: .srt S :: l)) (hr : S.ready = none) (e : H' = upd H S.d (.ns ({ S with ready := some (rd, ns) } : Srt).ns)) : Own B cN cT H' (.srt { S with ready := some (rd, ns) } :: l) := by
  subst e
  have A := O.srtAt (List.mem_cons_of_mem _ List.mem_cons_self)
  have hrd := O.get List.mem_cons_self
  have ap := List.pairwise_cons.mp O.ap
  have off := ap.1 _ List.mem_cons_self rd rfl
  have A' := A.setNs (some (rd, ns)) S.out S.fin fun r ms h => by
    cases h
    exact ⟨hrd, fun x hx q => off (.inr (.inl (mem_foot.mpr (.inr (.inr (.inl ⟨x, hx, .inr q.symm⟩))))))⟩
  have O1 := O.tail
  have ap1 := List.pairwise_cons.mp O1.ap
  have hd : ∀ c ∈ l, ¬ c.foot S.d := fun c hc f => ap1.1 _ (List.mem_map_of_mem hc) S.d (.inr (.inl (mem_foot.mpr (.inl rfl)))) f
  refine ⟨fun c hc => ?_, List.pairwise_cons.mpr ⟨fun f hf b hb hfb => ?_, ap1.2⟩⟩
  · rcases List.mem_cons.mp hc with rfl | hc
    · exact A'
    · refine As.move (O1.all c (List.mem_cons_of_mem _ hc)) fun b o f e => ?_
      rw [upd_ne (show b ≠ S.d from fun q => hd c hc (q ▸ f))]; exact e
  · obtain ⟨c, hc, rfl⟩ := List.mem_map.mp hf
    rcases hb with q | q | ⟨x, hx, q⟩
    · exact ap1.1 _ (List.mem_map_of_mem hc) b (.inl q) hfb
    · rcases mem_foot.mp q with q | q | q | ⟨ms, q⟩
      · exact ap1.1 _ (List.mem_map_of_mem hc) b (.inr (.inl (mem_foot.mpr (.inl q)))) hfb
      · exact ap1.1 _ (List.mem_map_of_mem hc) b (.inr (.inl (mem_foot.mpr (.inr (.inl q))))) hfb
      · exact ap1.1 _ (List.mem_map_of_mem hc) b (.inr (.inl (mem_foot.mpr (.inr (.inr (.inl q)))))) hfb
      · cases q
        exact ap.1 _ (List.mem_cons_of_mem _ (List.mem_map_of_mem hc)) rd rfl hfb
    · exact ap1.1 _ (List.mem_map_of_mem hc) b (.inr (.inr ⟨x, hx, q⟩)) hfb
end
section
variable {prog : Program} {w : World} {B : KeyBy prog w Int} {K : Frag} {mg mb : Str → Option Value} {nm : List (Str × NameKind)} {F : Fx} {st : St} {X : Value → List Value → St → Prop} {pos : Pos} {x : Str}
theorem E_forB (b : List (Str × Value)) (E : Ent K mg mb nm F) (U : Fun F) (hh : F.A.handled = none) {iter : Expr} {p : Pos} {body orelse : List Stmt} {Q : Flow → St → Prop} (hs : ∀ x, foldedSetIterable iter F.env x = pure x) (hk : isOwn nm x = true)
    (h : T prog w F (eval iter F.env) (fun v st₁ => ∃ xs k, ∃ J : Nat → AHeap → Prop, Src st₁ v xs k ∧ Has st₁.vars b ∧ J 0 st₁.H ∧ (∀ i H vs, J i H → Src ⟨vs, H⟩ v xs k) ∧
      (∀ i x₀ H, xs[i]? = some x₀ → J i H → AbsT prog w F (execs body F.env) (fun f st₃ => match f with
        | .next => Has st₃.vars b ∧ J (i + 1) st₃.H | .cont => Has st₃.vars b ∧ J (i + 1) st₃.H | .brk => Q .next st₃ | .ret v => Q (.ret v) st₃) X ⟨setV b x x₀, H⟩) ∧
      (∀ H, J xs.length H → T prog w F (execs orelse F.env) Q X ⟨b, H⟩)) X st) :
    T prog w F (exec (.For (.Name x p) iter body orelse pos) F.env) Q X st :=
  E_for E U hh hs hk (h.post fun v st₁ hq => by
    refine ex3and6 hq fun xs k J q1 q2 q3 q4 q5 q6 => ?_; try clear hq
    exact exi3 xs k (fun i b' H => b' = b ∧ J i H) ⟨q1, ⟨b, q2, rfl, q3⟩, fun i b' H vs hJ => q4 i H vs hJ.2, fun i x₀ b' H hx hJ => by
        obtain ⟨rfl, hJ⟩ := hJ
        refine (q5 i x₀ H hx hJ).mono fun f st₃ q => ?_
        cases f with
        | next => exact ⟨_, q.1, rfl, q.2⟩
        | cont => exact ⟨_, q.1, rfl, q.2⟩
        | brk => exact q
        | ret v => exact q, fun b' H hJ => by obtain ⟨rfl, hJ⟩ := hJ; exact q6 H hJ⟩)
end
end Mine
end
section
set_option maxRecDepth 100000
set_option Elab.async false
set_option linter.unusedVariables false
set_option maxHeartbeats 4000000
namespace Mine
open PySem PySem.W PySem.Calls PyProof.Rows PySem.SeqAt
noncomputable abbrev Own1 {prog : Program} {w : World} (B : KeyBy prog w Int) (H : AHeap) (l : List As) : Prop := Own B 84 181 H l
noncomputable abbrev K1 (w : World) : Frag := KF1 w.params
section
variable {prog : Program} {w : World} {B : KeyBy prog w Int} {mg mb : Str → Option Value} {nm : List (Str × NameKind)} {F : Fx} {st : St} {X : Value → List Value → St → Prop} {Q : Value → St → Prop} {l : List As} {S : Srt} {v : Value}
noncomputable def SAt (S : Srt) (a : Addr) (l : List As) : Prop := As.srt S ∈ l ∧ S.self = a
noncomputable def TAt (S : Srt) (a : Addr) (l r : List As) : Prop := Take (.srt S) l r ∧ S.self = a
variable {y : Addr}
theorem A_self {name : Str} (E : Ent (K1 w) mg mb nm F) (O : Own1 B st.H l) (m : SAt S y l) (hl : S.ns.lookup name = some v) (hv : handedIn v = true)
    (hg : plainGet (K1 w) 181 name = true) (ha : findIn (K1 w) (.ref 181) name = some none) (h : Q v st) : AttrE prog w F (.ref y) name Q X st := by
  obtain ⟨m, rfl⟩ := m
  exact A_inst E (O.srtAt m).self (O.srtAt m).ns hl hv hg (by rfl) ha (by rfl) h
theorem A_n2i (E : Ent (K1 w) mg mb nm F) (O : Own1 B st.H l) (m : SAt S y l) (h : Q (.ref S.dn) st) : AttrE prog w F (.ref y) "_node2info" Q X st := A_self E O m (by rfl) (by rfl) (by rfl) (by rfl) h
theorem A_rdN (E : Ent (K1 w) mg mb nm F) (O : Own1 B st.H l) (m : SAt S y l) (hr : S.ready = none) (h : Q .none st) : AttrE prog w F (.ref y) "_ready_nodes" Q X st :=
  A_self (v := S.rv) E O m (by rfl) (by unfold Srt.rv; rw [hr]; rfl) (by rfl) (by rfl) (by unfold Srt.rv; rw [hr]; exact h)
theorem A_rdS {r : Addr} {ns : List Int} (E : Ent (K1 w) mg mb nm F) (O : Own1 B st.H l) (m : SAt S y l) (hr : S.ready = some (r, ns)) (h : Q (.ref r) st) : AttrE prog w F (.ref y) "_ready_nodes" Q X st :=
  A_self (v := S.rv) E O m (by rfl) (by unfold Srt.rv; rw [hr]; rfl) (by rfl) (by rfl) (by unfold Srt.rv; rw [hr]; exact h)
theorem A_out (E : Ent (K1 w) mg mb nm F) (O : Own1 B st.H l) (m : SAt S y l) (h : Q (vI S.out) st) : AttrE prog w F (.ref y) "_npassedout" Q X st := A_self E O m (by rfl) (by rfl) (by rfl) (by rfl) h
theorem A_fin (E : Ent (K1 w) mg mb nm F) (O : Own1 B st.H l) (m : SAt S y l) (h : Q (vI S.fin) st) : AttrE prog w F (.ref y) "_nfinished" Q X st := A_self E O m (by rfl) (by rfl) (by rfl) (by rfl) h
theorem S_out {r : List As} {out : Int} {Q : Unit → St → Prop} (E : Ent (K1 w) mg mb nm F) (O : Own1 B st.H l) (t : TAt S y l r) (h : ∀ H', Own1 B H' (.srt { S with out := out } :: r) → Q () ⟨st.vars, H'⟩) : SetAttrE prog w F (.ref y) "_npassedout" (vI out) Q X st := by
  obtain ⟨t, rfl⟩ := t
  have A := (O.take t).srtAt List.mem_cons_self
  exact S_inst E A.self A.ns (show (4 : Nat) < 1000 by decide) (by rfl) (by rfl) (by rfl) (by rfl) fun H' e => h H' ((O.take t).setCount (fin := S.fin) (out := out) (e.trans rfl))
theorem S_fin {r : List As} {fin : Int} {Q : Unit → St → Prop} (E : Ent (K1 w) mg mb nm F) (O : Own1 B st.H l) (t : TAt S y l r) (h : ∀ H', Own1 B H' (.srt { S with fin := fin } :: r) → Q () ⟨st.vars, H'⟩) : SetAttrE prog w F (.ref y) "_nfinished" (vI fin) Q X st := by
  obtain ⟨t, rfl⟩ := t
  have A := (O.take t).srtAt List.mem_cons_self
  exact S_inst E A.self A.ns (show (4 : Nat) < 1000 by decide) (by rfl) (by rfl) (by rfl) (by rfl) fun H' e => h H' ((O.take t).setCount (fin := fin) (out := S.out) (e.trans rfl))
theorem S_rd {r : List As} {rd : Addr} {ns : List Int} {Q : Unit → St → Prop} (E : Ent (K1 w) mg mb nm F) (O : Own1 B st.H (.cell rd (.list (kns B ns)) :: l)) (t : TAt S y l r) (hr : S.ready = none) (h : ∀ H', Own1 B H' (.srt { S with ready := some (rd, ns) } :: r) → Q () ⟨st.vars, H'⟩) : SetAttrE prog w F (.ref y) "_ready_nodes" (.ref rd) Q X st := by
  obtain ⟨t, rfl⟩ := t
  have O1 : Own1 B st.H (.cell rd (.list (kns B ns)) :: .srt S :: r) := O.perm (t.perm.cons _)
  have A := O1.srtAt (List.mem_cons_of_mem _ List.mem_cons_self)
  exact S_inst E A.self A.ns (show (4 : Nat) < 1000 by decide) (by rfl) (by rfl) (by rfl) (by rfl) fun H' e => h H' (O1.giveReady hr (e.trans rfl))
theorem A_np {x : Nd} (E : Ent (K1 w) mg mb nm F) (hx : x ∈ S.nds) (O : Own1 B st.H l) (m : As.srt S ∈ l) (h : Q (vI x.np) st) : AttrE prog w F (.ref x.a) "npredecessors" Q X st :=
  have A := (O.srtAt m).nds x hx
  A_slots (i := 1) E A.1 A.2.1 (by rfl) (by rfl) (by rfl) (by rfl) (by rfl) (by rfl) (by rfl) (by rfl) h
theorem A_node {x : Nd} (E : Ent (K1 w) mg mb nm F) (hx : x ∈ S.nds) (O : Own1 B st.H l) (m : As.srt S ∈ l) (h : Q (B.val x.key) st) : AttrE prog w F (.ref x.a) "node" Q X st :=
  have A := (O.srtAt m).nds x hx
  A_slots (i := 0) E A.1 A.2.1 (by rfl) (B.hand _) (by rfl) (by rfl) (by rfl) (by rfl) (by rfl) (by rfl) h
theorem A_succ {x : Nd} (E : Ent (K1 w) mg mb nm F) (hx : x ∈ S.nds) (O : Own1 B st.H l) (m : As.srt S ∈ l) (h : Q (.ref x.sa) st) : AttrE prog w F (.ref x.a) "successors" Q X st :=
  have A := (O.srtAt m).nds x hx
  A_slots (i := 2) E A.1 A.2.1 (by rfl) (by rfl) (by rfl) (by rfl) (by rfl) (by rfl) (by rfl) (by rfl) h
theorem S_np {x : Nd} {r : List As} {k : Int} {Q : Unit → St → Prop} (E : Ent (K1 w) mg mb nm F) (hx : x ∈ S.nds) (O : Own1 B st.H l) (t : Take (.srt S) l r) (h : ∀ H', Own1 B H' (.srt (S.setNp x.key k) :: r) → Q () ⟨st.vars, H'⟩) : SetAttrE prog w F (.ref x.a) "npredecessors" (vI k) Q X st :=
  have A := ((O.take t).srtAt List.mem_cons_self).nds x hx
  S_slots (i := 1) E A.1 A.2.1 (by rfl) (by rfl) (by rfl) (by rfl) (by rfl) (by decide) fun H' e => h H' ((O.take t).setNp hx (e.trans rfl))
theorem M_self {name : Str} {f : Addr} {Q : Value → List Value → St → Prop} (E : Ent (K1 w) mg mb nm F) (O : Own1 B st.H l) (m : SAt S y l) (hl : S.ns.lookup name = none)
    (hg : plainGet (K1 w) 181 name = true) (hf : findIn (K1 w) (.ref 181) name = some (some (.ref f))) (ht : isFn (K1 w) (.ref f) = true) (h : Q (.ref f) [.ref S.self] st) : MethE prog w F (.ref y) name Q X st := by
  obtain ⟨m, rfl⟩ := m
  exact M_own E (O.srtAt m).self (O.srtAt m).ns hl hg hf ht h
theorem M_info {Q : Value → List Value → St → Prop} (E : Ent (K1 w) mg mb nm F) (O : Own1 B st.H l) (m : SAt S y l) (h : Q (.ref 124) [.ref S.self] st) : MethE prog w F (.ref y) "_get_nodeinfo" Q X st := M_self E O m (by rfl) (by rfl) (by rfl) (by rfl) h
theorem M_add {Q : Value → List Value → St → Prop} (E : Ent (K1 w) mg mb nm F) (O : Own1 B st.H l) (m : SAt S y l) (h : Q (.ref 131) [.ref S.self] st) : MethE prog w F (.ref y) "add" Q X st := M_self E O m (by rfl) (by rfl) (by rfl) (by rfl) h
theorem M_prep {Q : Value → List Value → St → Prop} (E : Ent (K1 w) mg mb nm F) (O : Own1 B st.H l) (m : SAt S y l) (h : Q (.ref 136) [.ref S.self] st) : MethE prog w F (.ref y) "prepare" Q X st := M_self E O m (by rfl) (by rfl) (by rfl) (by rfl) h
theorem M_gr {Q : Value → List Value → St → Prop} (E : Ent (K1 w) mg mb nm F) (O : Own1 B st.H l) (m : SAt S y l) (h : Q (.ref 143) [.ref S.self] st) : MethE prog w F (.ref y) "get_ready" Q X st := M_self E O m (by rfl) (by rfl) (by rfl) (by rfl) h
theorem M_done {Q : Value → List Value → St → Prop} (E : Ent (K1 w) mg mb nm F) (O : Own1 B st.H l) (m : SAt S y l) (h : Q (.ref 164) [.ref S.self] st) : MethE prog w F (.ref y) "done" Q X st := M_self E O m (by rfl) (by rfl) (by rfl) (by rfl) h
theorem M_cyc {Q : Value → List Value → St → Prop} (E : Ent (K1 w) mg mb nm F) (O : Own1 B st.H l) (m : SAt S y l) (h : Q (.ref 171) [.ref S.self] st) : MethE prog w F (.ref y) "_find_cycle" Q X st := M_self E O m (by rfl) (by rfl) (by rfl) (by rfl) h
theorem nums_snoc (ns : List Int) (k : Int) : nums (ns ++ [k]) = nums ns ++ [vI k] := List.map_append
theorem nums_len (ns : List Int) : (nums ns).length = ns.length := List.length_map _
theorem kns_snoc (ns : List Int) (k : Int) : kns B (ns ++ [k]) = kns B ns ++ [B.val k] := List.map_append
theorem kns_len (ns : List Int) : (kns B ns).length = ns.length := List.length_map _
theorem M_appendS {x : Nd} {Q : Value → List Value → St → Prop} (O : Own1 B st.H l) (m : As.srt S ∈ l) (hx : x ∈ S.nds) (h : Q (.builtin "list.append") [.ref x.sa] st) : MethE prog w F (.ref x.sa) "append" Q X st := M_append (O.sa m hx) h
theorem C_pushS {x : Nd} {r : List As} {k : Int} (O : Own1 B st.H l) (t : Take (.srt S) l r) (hx : x ∈ S.nds) (hn : x.succ.length ≤ 1000000) (h : ∀ H', Own1 B H' (.srt (S.push x.key k) :: r) → Q .none ⟨st.vars, H'⟩) : CallE prog w F (.builtin "list.append") [.ref x.sa, B.val k] Q X st :=
  C_append ((O.take t).sa List.mem_cons_self hx) (by rw [kns_len]; exact hn) fun H' e => h H' ((O.take t).pushS hx (by rw [kns_snoc]; exact e))
theorem M_appendR {rd : Addr} {ns : List Int} {Q : Value → List Value → St → Prop} (O : Own1 B st.H l) (m : As.srt S ∈ l) (hr : S.ready = some (rd, ns)) (h : Q (.builtin "list.append") [.ref rd] st) : MethE prog w F (.ref rd) "append" Q X st := M_append (O.ready m hr) h
theorem M_clearR {rd : Addr} {ns : List Int} {Q : Value → List Value → St → Prop} (O : Own1 B st.H l) (m : As.srt S ∈ l) (hr : S.ready = some (rd, ns)) (h : Q (.builtin "list.clear") [.ref rd] st) : MethE prog w F (.ref rd) "clear" Q X st := M_clear (O.ready m hr) h
theorem C_appendR {rd : Addr} {ns : List Int} {r : List As} {k : Int} (O : Own1 B st.H l) (t : Take (.srt S) l r) (hr : S.ready = some (rd, ns)) (hn : ns.length ≤ 1000000) (h : ∀ H', Own1 B H' (.srt { S with ready := some (rd, ns ++ [k]) } :: r) → Q .none ⟨st.vars, H'⟩) : CallE prog w F (.builtin "list.append") [.ref rd, B.val k] Q X st :=
  C_append ((O.take t).ready List.mem_cons_self hr) (by rw [kns_len]; exact hn) fun H' e => h H' ((O.take t).setReady hr (by rw [kns_snoc]; exact e))
theorem C_clearR {rd : Addr} {ns : List Int} {r : List As} (O : Own1 B st.H l) (t : Take (.srt S) l r) (hr : S.ready = some (rd, ns)) (hn : ns.length ≤ 1000000) (h : ∀ H', Own1 B H' (.srt { S with ready := some (rd, []) } :: r) → Q .none ⟨st.vars, H'⟩) : CallE prog w F (.builtin "list.clear") [.ref rd] Q X st :=
  C_clear ((O.take t).ready List.mem_cons_self hr) (by rw [kns_len]; exact hn) fun H' e => h H' ((O.take t).setReady hr e)
theorem X_n2i {x : Nd} (O : Own1 B st.H l) (m : As.srt S ∈ l) (hx : x ∈ S.nds) (h : Q (.ref x.a) st) : Sub st (.ref S.dn) ∧ ItemE prog w F (.ref S.dn) (B.val x.key) Q X st := by
  obtain ⟨n, hd⟩ := O.n2i m
  exact ⟨⟨_, rfl, .inr (.inr ⟨_, _, hd⟩)⟩, XK_dict hd ((O.srtAt m).val hx) h⟩
variable {n : Nat} {Fc' : Fc} {H : AHeap}
theorem info_own {F : Fc} {k : Int} {r : List As} (W : Wld (K1 w) F mg mb) (O : F.Ok (n + 3)) (Ow : Own1 B H l) (t : Take (.srt S) l r) (hn : S.nds.length ≤ 1000) :
    Calls prog w F (.ref 124) [.ref S.self, B.val k] H
      (fun v H' => ∃ S' x, v = .ref x.a ∧ x ∈ S'.nds ∧ x.key = k ∧ Own1 B H' (.srt S' :: r) ∧ S'.self = S.self ∧ S'.p = S.p.touch k ∧ S'.ready = S.ready) (fun _ _ _ => False) :=
  have O1 := Ow.take t
  (info_spec W O (O1.srtAt List.mem_cons_self) hn).mono (fun v H' hz => ex2and7 hz fun S' x h1 h2 h3 h4 h5 h6 h7 => ⟨S', x, h1, h2, h3, O1.turn h4 h5, h5.self, h6, h7⟩) (fun _ _ _ z => z)
theorem sorter_own {F : Fc} (W : Wld (K1 w) F mg mb) (O : F.Ok (n + 2)) (Ow : Own1 B H l) :
    Calls prog w F (.ref 181) [] H (fun v H' => ∃ S : Srt, v = .ref S.self ∧ Own1 B H' (.srt S :: l) ∧ S.p = ⟨[], none, 0, 0⟩ ∧ S.ready = none ∧ S.nds = []) (fun _ _ _ => False) := by
  refine (sorter_spec (B := B) W O).mono ?_ (fun _ _ _ z => z)
  rintro v H' hx0_; refine ex1and7 hx0_ fun S h1 h2 h3 h4 h5 h6 h7 => ?_; try clear hx0_
  have hnd : S.nds = [] := by
    have : S.p.nds = [] := by rw [h3]
    exact List.map_eq_nil_iff.mp this
  refine ⟨S, h1, Ow.push h7 h2 fun a ha => ?_, h3, h4, hnd⟩
  rcases ha with rfl | q | ⟨x, hx, _⟩
  · exact h5
  · exact h6 a q
  · rw [hnd] at hx; cases hx
theorem filter_own {F : Fc} {a k : Addr} {xs ys : List Value} {dxs dys : List PyData} (W : Wld (K1 w) F mg mb) (O : F.Ok (n + 4)) (Ow : Own1 B H l)
    (hl : H a = some (.list xs) ∨ H a = some (.tup xs)) (hk : H k = some (.list ys)) (hx : RdAll noH dxs xs) (hy : RdAll noH dys ys) (cx : PyData.canLayAll0 dxs = true) (cy : PyData.canLayAll0 dys = true) (hn : xs.length ≤ 50000) :
    Calls prog w F (.ref 65) [.ref a, .ref k] H (fun v H' => ∃ b, v = .ref b ∧ Own1 B H' (.cell b (.list (filt xs dxs dys)) :: l)) (fun _ _ _ => False) :=
  (filter_spec W O hl hk hx hy cx cy hn).mono (fun v H' ⟨b, h1, h2, h3⟩ => ⟨b, h1, Ow.new ⟨h2, h3⟩⟩) (fun _ _ _ z => z)
end
end Mine
end
section
set_option maxRecDepth 100000
set_option Elab.async false
set_option linter.unusedVariables false
set_option maxHeartbeats 4000000
namespace Mine
open PySem PySem.W PySem.Calls PyProof.Rows PySem.SeqAt
section
variable {prog : Program} {w : World} {B : KeyBy prog w Int} {K : Frag} {mg mb : Str → Option Value} {nm : List (Str × NameKind)} {F : Fx} {st : St} {X : Value → List Value → St → Prop} {Q : Value → St → Prop} {pos : Pos} {x : Str} {v : Value}
theorem E_delSub {o i : Expr} {p : Pos} {Q : Flow → St → Prop} (h : T prog w F (eval o F.env) (fun ov st₁ => T prog w F (eval i F.env) (fun iv st₂ => DelItemE prog w F ov iv (fun _ => Q .next) X st₂) X st₁) X st) :
    T prog w F (exec (.Delete [.Subscript o i p] pos) F.env) Q X st := fun s R => by
  refine wpAny_Delete (wpAny_deleteEach_cons ?_)
  rw [arm_delete_Subscript]
  refine wpAny_bind (h.then R (.refl _ _ _ _) fun ov s₁ st₁ R₁ A₁ q => wpAny_bind (wpAny_holding (q.then R₁ A₁ fun iv s₂ st₂ R₂ A₂ q => wpAny_bind (wpAny_standAt (wpAny_bind (wpAny_holding ((q ov iv rfl rfl).then R₂ A₂ fun _ s₃ st₃ R₃ A₃ q => wpAny_release ?_)))))))
  exact wpAny_deleteEach_nil ⟨st₃, R₃, A₃, q⟩
theorem E_isTrueC {b : Bool} {k : Nat} {whole : Sem Value} {Q : Bool → St → Prop} (he : isTrue (.Constant (.bool b) k pos) F.env whole = (do let v ← whole; standAt (Expr.pos (.Constant (.bool b) k pos)); holding [v] (truthy v))) (hw : whole = eval (.Constant (.bool b) k pos) F.env) (h : Q b st) : T prog w F (isTrue (.Constant (.bool b) k pos) F.env whole) Q X st := by
  subst hw
  exact E_isVal he (T_bool (U_bool h))
theorem E_isName {whole : Sem Value} {Q : Bool → St → Prop} (he : isTrue (.Name x pos) F.env whole = (do let v ← whole; standAt (Expr.pos (.Name x pos)); holding [v] (truthy v))) (h : T prog w F whole (fun v st' => TruthE prog w F v Q X st') X st) : T prog w F (isTrue (.Name x pos) F.env whole) Q X st := E_isVal he h
theorem E_ifJ {test : Expr} {body orelse rest : List Stmt} {Q : Flow → St → Prop} (M : St → Prop)
    (h : T prog w F (isTrue test F.env (eval test F.env)) (fun b st' => (b = true → AbsT prog w F (execs body F.env) (fun f st₂ => match f with | .next => M st₂ | f => Q f st₂) X st') ∧ (b = false → AbsT prog w F (execs orelse F.env) (fun f st₂ => match f with | .next => M st₂ | f => Q f st₂) X st')) X st)
    (k : ∀ st', M st' → T prog w F (execs rest F.env) Q X st') : T prog w F (execs (.If test body orelse pos :: rest) F.env) Q X st := by
  refine E_cons (T_if2 (h.post fun b st' q => ⟨fun e => (q.1 e).out.post fun f st₂ q => ?_, fun e => (q.2 e).out.post fun f st₂ q => ?_⟩))
  · cases f with
    | next => exact k _ q
    | _ => exact q
  · cases f with
    | next => exact k _ q
    | _ => exact q
theorem stop_exc : isSubtype (.type "StopIteration") (.type "BaseException") = pure true := by rw [isSubtype_type]; kernel_rfl
theorem stop_nt : isSubtype (.type ((Manifest.find? "StopIteration").elim "type" fun x => x.metatype)) (.type "tuple") = pure false := by
  rw [show ((Manifest.find? "StopIteration").elim "type" fun x => x.metatype) = "type" from by kernel_rfl, isSubtype_type]; kernel_rfl
theorem E_exceptStop {args : List Value} {p : Pos} {b₀ : Stmt} {suite : List Stmt} {hpos : Pos} {rest : List ExceptHandler} {Q : Flow → St → Prop} (E : Ent K mg mb nm F) (hk : nm.lookup ("StopIteration" : Str) = some .globalImplicit) (e : nsIn K mainGlobals ("StopIteration" : Str) = some none)
    (h : ∀ F', Ent K mg mb nm F' → T prog w F' (execs (b₀ :: suite) F'.env) Q NoX st) :
    Caught prog w F (.ExceptHandler (some (.Name "StopIteration" p)) none (b₀ :: suite) hpos :: rest) (.type "StopIteration") args Q X st :=
  Caught.builtin stop_exc stop_nt isSubtype_stop (.nameB ⟨E.W.g, E.W.b⟩ E.gl E.bi (mg_none_of E.W.kx E.W.g e) ((E.W.bi _ (by decide)).trans rfl) (E.glob hk) E.kind rfl) fun ea => h _ (E.mark ea)
end
section
variable {prog : Program} {w : World} {B : KeyBy prog w Int} {K : Frag} {mg mb : Str → Option Value} {nm : List (Str × NameKind)} {F : Fx} {st : St} {X : Value → List Value → St → Prop} {Q : Value → St → Prop} {pos : Pos} {x : Str} {v : Value}
theorem E_listM {α : Type} (E : Ent K mg mb nm F) {elt iter : Expr} {px : Pos} {ifs : List Expr} {scope : Scope} (cv : List (Str × Value)) (u : Option (Value → Sem Unit))
    (hsc : scOk scope nm x = true) (hcv : cvOk scope cv = true) (hs : ∀ x, foldedSetIterable iter F.env x = pure x) (hh : F.A.handled = none)
    (h : T prog w F (eval iter F.env) (fun v st₁ => Has st₁.vars cv ∧ ∃ k, ∃ (ys : List α) (g : α → Value) (R : AHeap → Prop) (p : α → Bool) (f : α → Value), Src st₁ v (ys.map g) k ∧ ys.length ≤ 1000000 ∧ R st₁.H ∧ (∀ H vs, R H → Src ⟨vs, H⟩ v (ys.map g) k) ∧
      (∀ F', Ent K mg mb (relabelN scope.names nm) F' → F'.toFc = F.toFc → ∀ y H, y ∈ ys → R H → T prog w F' (tests ifs F'.env) (fun ok st₂ => (ok = true → T prog w F' (eval elt F'.env) (fun z st₃ => p y = true ∧ z = f y ∧ Has st₃.vars cv ∧ R st₃.H) NoX st₂) ∧ (ok = false → p y = false ∧ Has st₂.vars cv ∧ R st₂.H)) NoX ⟨setV cv x (g y), H⟩) ∧
      (∀ H a H', R H → New H a (.list ((ys.filter p).map f)) H' → Handed prog w F Q X u a ⟨st₁.vars, H'⟩)) X st) :
    T prog w F (comprehension (.ListComp elt [⟨.Name x px, iter, ifs, 0⟩] scope pos) scope F.env (firstIterPos [⟨.Name x px, iter, ifs, 0⟩] pos) (newList []) false (eval iter F.env) u) Q X st := by
  refine E_listCore E cv u hsc hcv hs hh (h.post fun v st₁ hq => ?_)
  refine ex0and2 hq fun q0 y1_ => ?_; try clear hq; obtain ⟨k, ys, g, R, p, f, q1, q2, q3, q4, q5, q6⟩ := y1_
  refine ⟨q0, exi3 (ys.map g) k (fun i acc H => i ≤ ys.length ∧ acc = ((ys.take i).filter p).map f ∧ R H) ⟨q1, by rw [List.length_map]; exact q2, ⟨Nat.zero_le _, rfl, q3⟩, fun i acc H vs hI => q4 H vs hI.2.2, fun i acc H hI => ?_, ?_, fun acc H a H' hI hN => ?_⟩⟩
  · obtain ⟨_, rfl, _⟩ := hI
    rw [List.length_map]
    exact Nat.le_trans (List.length_filter_le _ _) (by rw [List.length_take]; omega)
  · rintro F' E' hF i x' acc H hx ⟨hi, rfl, hR⟩
    rw [List.getElem?_map] at hx
    obtain ⟨y, hy, rfl⟩ := Option.map_eq_some_iff.mp hx
    have hlt : i < ys.length := (List.getElem?_eq_some_iff.mp hy).1
    have tk : ys.take (i + 1) = ys.take i ++ [y] := by rw [List.take_add_one, hy]; rfl
    refine (q5 F' E' hF y H (List.mem_of_getElem? hy) hR).post fun ok st₂ q => ⟨fun e => (q.1 e).post fun z st₃ ⟨z1, z2, z3, z4⟩ => ⟨z3, by omega, ?_, z4⟩, fun e => ⟨(q.2 e).2.1, by omega, ?_, (q.2 e).2.2⟩⟩
    · rw [tk, List.filter_append, List.map_append, z2]
      simp [z1]
    · rw [tk, List.filter_append, List.map_append]
      simp [(q.2 e).1]
  · obtain ⟨_, rfl, hR⟩ := hI
    rw [List.length_map, List.take_length] at hN
    exact q6 H a H' hR hN
theorem E_tests0 {Q : Bool → St → Prop} (h : Q true st) : T prog w F (tests [] F.env) Q X st := T_tests0 h
theorem E_tests1 {c : Expr} {Q : Bool → St → Prop} (h : T prog w F (isTrue c F.env (eval c F.env)) Q X st) : T prog w F (tests [c] F.env) Q X st := T_tests1 h
theorem E_raiseOwn2 {C : Addr} {B newId initId : String} {bmB : List Value} (FB : ExcBaseFacts B newId initId bmB) (O : OwnExc C bmB newId F.base) {np cpos : Pos} {a b : Expr} {Q : Flow → St → Prop} (E : Ent K mg mb nm F) (hh : F.A.handled = none)
    (hk : nm.lookup x = some .globalImplicit) (e : nsIn K mainGlobals x = some (some (.ref C))) (hd : (x == ("__debug__" : Str)) = false) (he : starEach [a, b] F.env = [(false, eval a F.env), (false, eval b F.env)])
    (h : T prog w F (eval a F.env) (fun v st₁ => T prog w F (eval b F.env) (fun u st₂ => X (.ref C) [v, u] st₂) X st₁) X st) :
    T prog w F (exec (.Raise (some (.Call (.Name x np) [a, b] [] cpos)) none pos) F.env) Q X st :=
  T_raiseOwn (t := eval a F.env) (trees := [(false, eval b F.env)]) FB O hh (by rw [he]; rfl) rfl (E_glR E hk e hd ⟨rfl, T_sp1 (h.post fun v st₁ q => T_sp1 (q.post fun u st₂ q => T_sp0 ⟨by simp, q⟩))⟩)
theorem handed_assign {a : Addr} {t : Expr} {Q : Value → St → Prop} (h : AssignE prog w F t (.ref a) (fun _ => Q .none) X st) : Handed prog w F Q X (some (assign t F.env)) a st := h _ rfl
theorem handed_none {a : Addr} {Q : Value → St → Prop} (h : Q (.ref a) st) : Handed prog w F Q X none a st := h
theorem E_joined1 {v : Expr} (h : T prog w F (eval v F.env) Q X st) : T prog w F (eval (.JoinedStr [v] pos) F.env) Q X st := T_joined1 h
end
section
variable {prog : Program} {w : World} {B : KeyBy prog w Int} {cN cT : Addr} {H : AHeap} {l : List As}
theorem Own.del {a : Addr} {o : AO} (O : Own B cN cT H (.cell a o :: l)) : Own B cN cT (del H a) l := by
  have ap := List.pairwise_cons.mp O.ap
  refine ⟨fun d hd => ?_, ap.2⟩
  refine As.move (O.all d (List.mem_cons_of_mem _ hd)) fun b ob f e => ?_
  unfold Mine.del
  rw [if_neg (show b ≠ a from fun q => ap.1 _ (List.mem_map_of_mem hd) b q f)]; exact e
theorem Own.freeze {S : Srt} (O : Own B cN cT H (.srt S :: l)) : ∃ G : AHeap, Own B cN cT H (.frag G :: l) ∧ S.At B cN cT G ∧ ∀ a, G a ≠ none → (As.srt S).foot a := by
  have A := O.srtAt List.mem_cons_self
  have ap := List.pairwise_cons.mp O.ap
  let G : AHeap := fun a => (open Classical in if (As.srt S).foot a then H a else none)
  have hG : ∀ a, G a ≠ none → (As.srt S).foot a := fun a h => by
    by_cases q : (As.srt S).foot a
    · exact q
    · exact absurd (if_neg q) h
  refine ⟨G, ⟨fun d hd => ?_, List.pairwise_cons.mpr ⟨fun f hf a ha => ap.1 f hf a (hG a ha), ap.2⟩⟩, ?_, hG⟩
  · rcases List.mem_cons.mp hd with rfl | hd
    · intro a o e
      by_cases q : (As.srt S).foot a
      · have : G a = H a := if_pos q
        rw [← this]; exact e
      · have : G a = none := if_neg q
        rw [this] at e; cases e
    · exact O.all d (List.mem_cons_of_mem _ hd)
  · exact Srt.At.away A fun a o e f => (if_pos (show (As.srt S).foot a from f)).trans e
theorem Own.thaw {S : Srt} {G : AHeap} (O : Own B cN cT H (.frag G :: l)) (A : S.At B cN cT G) : Own B cN cT H (.srt S :: l) := by
  have ap := List.pairwise_cons.mp O.ap
  have hf := O.fragAt List.mem_cons_self
  refine ⟨fun d hd => ?_, List.pairwise_cons.mpr ⟨fun f hf a ha => ap.1 f hf a ?_, ap.2⟩⟩
  · rcases List.mem_cons.mp hd with rfl | hd
    · exact A.keep hf
    · exact O.all d (List.mem_cons_of_mem _ hd)
  · exact As.live (c := .srt S) A ha
end
end Mine
end
section
set_option maxRecDepth 100000
set_option Elab.async false
set_option linter.unusedVariables false
set_option maxHeartbeats 4000000
namespace Mine
open PySem PySem.W PySem.Calls PyProof.Rows PySem.SeqAt
theorem pick_run (xs : List Value) (a : Nat) : ∀ c, a + c ≤ xs.length → ((List.range c).map fun k => a + k).filterMap (xs[·]?) = (xs.drop a).take c
  | 0, _ => rfl
  | c + 1, h => by
    have ih := pick_run xs a c (by omega)
    have hx : a + c < xs.length := by omega
    rw [List.range_succ, List.map_append, List.filterMap_append, ih, List.take_add_one, List.getElem?_drop]
    simp [List.getElem?_eq_getElem hx]
theorem pickL_bounds {xs : List Value} {lo hi st : Option Int} {a b : Nat} (hb : sliceBounds lo hi st xs.length = ((a : Int), (b : Int), 1)) (hab : a ≤ b) (hn : b ≤ xs.length) : pickL xs lo hi st = (xs.drop a).take (b - a) := by
  unfold pickL
  rw [hb]
  unfold sliceRange
  dsimp only
  rw [if_pos (by decide)]
  have hc : (if (a : Int) < b then ((b : Int) - a + 1 - 1) / 1 else 0).toNat = b - a := by
    split
    · exact toNatSub
    · rename_i h
      exact (Nat.sub_eq_zero_of_le (Nat.le_of_not_lt fun q => h (Int.ofNat_lt.mpr q))).symm
  rw [hc]
  have : (List.range (b - a)).map (fun (k : Nat) => ((a : Int) + 1 * (k : Int)).toNat) = (List.range (b - a)).map fun k => a + k := by
    refine List.map_congr_left fun k _ => ?_
    rw [Int.one_mul]; rfl
  rw [this]
  exact pick_run xs a (b - a) (by omega)
theorem pick_to {xs : List Value} {i : Nat} : pickL xs none (some (i : Int)) none = xs.take i := by
  rw [pickL_bounds (a := 0) (b := min i xs.length) (by
    unfold sliceBounds
    simp only [Option.getD_none]
    have h1 : ¬ ((i : Int) < 0) := by omega
    simp only [show ((1 : Int) > 0) from by decide, if_true, if_neg h1]
    refine Prod.ext rfl (Prod.ext ?_ rfl)
    exact maxmin _ _) (Nat.zero_le _) (Nat.min_le_right _ _)]
  rw [List.drop_zero, Nat.sub_zero]
  by_cases h : i ≤ xs.length
  · rw [Nat.min_eq_left h]
  · rw [Nat.min_eq_right (by omega), List.take_length, List.take_of_length_le (by omega)]
theorem pick_from {xs : List Value} {i : Nat} : pickL xs (some (i : Int)) none none = xs.drop i := by
  rw [pickL_bounds (a := min i xs.length) (b := xs.length) (by
    unfold sliceBounds
    simp only [Option.getD_none]
    have h1 : ¬ ((i : Int) < 0) := by omega
    simp only [show ((1 : Int) > 0) from by decide, if_true, if_neg h1]
    refine Prod.ext ?_ rfl
    exact maxmin _ _) (Nat.min_le_right _ _) (Nat.le_refl _)]
  by_cases h : i ≤ xs.length
  · rw [Nat.min_eq_left h, List.take_of_length_le (by rw [List.length_drop]; omega)]
  · rw [Nat.min_eq_right (by omega), List.drop_of_length_le (by omega), List.drop_of_length_le (by omega), List.take_nil]
section
variable {prog : Program} {w : World} {F : Fx} {st : St} {X : Value → List Value → St → Prop} {Q : Value → St → Prop} {pos : Pos}
theorem E_sliceTo {value hi : Expr} {p : Pos} (h : T prog w F (eval value F.env) (fun ov st₁ => T prog w F (eval hi F.env) (fun hv st₂ => ∃ a xs, ∃ i : Nat, ov = .ref a ∧ hv = vI i ∧ st₂.H a = some (.list xs) ∧ xs.length ≤ 1000000 ∧ ∀ b H', New st₂.H b (.list (xs.take i)) H' → Q (.ref b) ⟨st₂.vars, H'⟩) X st₁) X st) :
    T prog w F (eval (.Subscript value (.Slice none (some hi) none p) pos) F.env) Q X st :=
  T_slice (h.post fun ov st₁ q => T_partN (T_partS (q.post fun hv st₂ hq => by
    refine ex3and5 hq fun a xs i e1 e2 e3 e4 q => ?_; try clear hq
    exact T_partN ⟨a, xs, none, some (i : Int), none, e1, .inl e3, e4, trivial, by subst e2; rfl, trivial, nofun, fun b hb => by
      rw [pick_to]; exact q b _ ⟨hb, rfl⟩⟩)))
theorem E_sliceFrom {value lo : Expr} {p : Pos} (h : T prog w F (eval value F.env) (fun ov st₁ => T prog w F (eval lo F.env) (fun lv st₂ => ∃ a xs, ∃ i : Nat, ov = .ref a ∧ lv = vI i ∧ st₂.H a = some (.list xs) ∧ xs.length ≤ 1000000 ∧ ∀ b H', New st₂.H b (.list (xs.drop i)) H' → Q (.ref b) ⟨st₂.vars, H'⟩) X st₁) X st) :
    T prog w F (eval (.Subscript value (.Slice (some lo) none none p) pos) F.env) Q X st :=
  T_slice (h.post fun ov st₁ q => T_partS (q.post fun lv st₂ hq => by
    refine ex3and5 hq fun a xs i e1 e2 e3 e4 q => ?_; try clear hq
    exact T_partN (T_partN ⟨a, xs, some (i : Int), none, none, e1, .inl e3, e4, by subst e2; rfl, trivial, trivial, nofun, fun b hb => by
      rw [pick_from]; exact q b _ ⟨hb, rfl⟩⟩)))
end
end Mine
end
namespace Mine
open PySem PySem.W PySem.Calls PyProof.Rows PySem.SeqAt
local macro_rules | `(tactic| walk_at "num") => `(tactic| first | assumption | (refine leT (by assumption) ?_; rfl) | (refine ltT (by assumption) ?_; rfl) | lia | omega | (simp; omega) | decide)
local macro_rules | `(tactic| walk_at "mem") => `(tactic| with_reducible ((repeat (first | exact List.mem_cons_self | apply List.mem_cons_of_mem)); done))
local macro_rules | `(tactic| walk_at "own") => `(tactic| first | assumption | (refine Own.get (by assumption) ?_; walk_at "mem"))
local macro_rules | `(tactic| walk_at "put") => `(tactic| with_reducible (repeat (first | exact Put.here | apply Put.there)))
local macro_rules | `(tactic| walk_at "take") => `(tactic| with_reducible (repeat (first | exact Take.here | apply Take.there)))
local macro_rules | `(tactic| walk_at "sat") => do mwSat (← `(tactic| walk_at "mem")) `List.mem_cons_self `List.mem_cons_of_mem
local macro_rules | `(tactic| walk_at "tat") => do mwSat (← `(tactic| walk_at "take")) `Take.here `Take.there
local macro_rules | `(tactic| walk_at "T") => mwAll ["! E_consA AbsT.mk", "a AbsQ.use", "- T_nil E_listComp handed_assign handed_none E_augAttr T_ret T_retNone T_break T_continue T_if2 T_int T_str T_bool T_none E_call0 E_delSub E_walrus E_binop E_unop E_sliceMid E_sliceTo E_sliceFrom E_sliceRev E_sub E_tName E_tSub KF.builtin KF.type B_addI B_subI I_addI I_subI N_neg P_isNone P_isntNone P_isBB P_eqI P_neI P_ltI P_gtI P_geI U_bool T_ifExp2 T_isOr T_or2 T_or0 P_isntTT E_tests0 E_tests1 E_list0 E_dict0 C_range U_none T_isAnd T_and2 T_and0", "r E_assign E_assignAttr E_assignSub E_attr E_call1 E_call2 E_pop E_meth0 E_isCmp E_cmp E_tuple2 E_tuple3 E_list1 E_list2 E_list3 E_list4", "ar E_assignTup E_assignList E_assignDict", "ar E_assignListC E_assignDictC", "hor E_tTuple3 E_tTuple2", ".r E_exprS E_storeL", "..r E_storeC", ".rrr E_name", ".rrr E_nameC", ".rrr E_glR", ".rrr E_glI", ".rrrrr E_biB", ".rrrrr E_biT", "rr E_bmS E_bmL E_meth1 E_meth2 E_meth3", ".r KF.k", "aas A_badd A_n2i A_out A_fin M_info M_add M_prep M_gr M_act M_done M_cyc", "aasa A_rdN", "aasa A_rdS", "aaam A_np A_node A_succ", "aat S_out S_fin", "aaak S_np", "nn B_divI", "n B_modI", "o M_append M_extend M_clear M_index M_dget M_values", "on M_sadd C_len C_append C_clear C_tuple U_list", "on MK_sadd", "on C_lenT", "ama M_appendS M_clearR X_n2i", "ama M_appendR", "arr E_augNameC", "arr E_augNameL"]
section
set_option maxRecDepth 100000
set_option Elab.async false
set_option linter.unusedVariables false
set_option maxHeartbeats 4000000
open PySem PySem.W PySem.Calls PyProof.Rows PySem.SeqAt
section
variable {prog : Program} {w : World} {B : KeyBy prog w Int} {mg mb : Str → Option Value}

theorem Srt.At.bump {cN cT : Addr} {H : AHeap} {S : Srt} (A : S.At B cN cT H) {x : Nd} (hx : x ∈ S.nds) (n : Int) : (S.setNp x.key (x.np + n)).p = S.p.bump x.key n := by
  rw [Srt.setNp_p]
  unfold PS.bump PS.on Srt.p
  simp only [List.map_map, PS.mk.injEq, and_true]
  refine List.map_congr_left fun y hy => ?_
  simp only [Function.comp]
  by_cases q : y.key = x.key
  · obtain rfl := A.uniq hy hx (.inl q)
    rfl
  · rw [if_neg (show ¬ y.p.key = x.key from q), if_neg (show ¬ y.p.key = x.key from q)]
theorem touch_len (P : PS) (k : Int) : (P.touch k).nds.length ≤ P.nds.length + 1 := by
  unfold PS.touch
  split
  · walk_at "num"
  · simp
theorem on_len (P : PS) (k : Int) (f : PN → PN) : (P.on k f).nds.length = P.nds.length := by unfold PS.on; simp
noncomputable def PS.addTo (k : Int) (P : PS) (ps : List Int) : PS := ps.foldl (fun P p => (P.touch p).push p k) P
theorem addTo_len (k : Int) : ∀ (ps : List Int) (P : PS), (PS.addTo k P ps).nds.length ≤ P.nds.length + ps.length
  | [], P => Nat.le_refl _
  | p :: r, P => by
    have h1 := addTo_len k r ((P.touch p).push p k)
    have h2 : ((P.touch p).push p k).nds.length = (P.touch p).nds.length := on_len _ _ _
    have h3 := touch_len P p
    show (PS.addTo k ((P.touch p).push p k) r).nds.length ≤ _
    rw [List.length_cons]; walk_at "num"
theorem addTo_take {k : Int} {P : PS} {ps : List Int} {i : Nat} {p : Int} (h : ps[i]? = some p) : PS.addTo k P (ps.take (i + 1)) = ((PS.addTo k P (ps.take i)).touch p).push p k := by
  unfold PS.addTo
  rw [List.take_add_one, h, List.foldl_append]; rfl
noncomputable def PS.sl (P : PS) (B : Nat) : Prop := ∀ x ∈ P.nds, x.succ.length ≤ B
theorem PS.sl.touch {P : PS} {B : Nat} (h : P.sl B) (k : Int) : (P.touch k).sl B := by
  unfold PS.touch
  split
  · exact h
  · intro x hx
    rcases List.mem_append.mp hx with hx | hx
    · exact h x hx
    · rw [List.mem_singleton.mp hx]; exact Nat.zero_le _
theorem PS.sl.on {P : PS} {B : Nat} (h : P.sl B) (k : Int) (f : PN → PN) {C : Nat} (hf : ∀ x, (f x).succ.length ≤ x.succ.length + C) : (P.on k f).sl (B + C) := by
  intro x hx
  obtain ⟨y, hy, rfl⟩ := List.mem_map.mp hx
  have := h y hy
  split
  · have := hf y; walk_at "num"
  · walk_at "num"
theorem PS.sl.bump {P : PS} {B : Nat} (h : P.sl B) (k n : Int) : (P.bump k n).sl B := h.on k _ (C := 0) fun x => Nat.le_refl _
theorem PS.sl.push {P : PS} {B : Nat} (h : P.sl B) (k s : Int) : (P.push k s).sl (B + 1) := h.on k _ fun x => by simp
theorem PS.sl.addTo {k : Int} : ∀ {ps : List Int} {P : PS} {B : Nat}, P.sl B → (PS.addTo k P ps).sl (B + ps.length)
  | [], P, B, h => h
  | p :: r, P, B, h => by
    have := PS.sl.addTo (k := k) (ps := r) ((h.touch p).push p k)
    rw [List.length_cons, show B + (r.length + 1) = B + 1 + r.length by walk_at "num"]
    exact this
theorem PS.sl.le {P : PS} {B C : Nat} (h : P.sl B) (hc : B ≤ C) : P.sl C := fun x hx => Nat.le_trans (h x hx) hc
theorem PS.sl.at {S : Srt} {B : Nat} (h : S.p.sl B) {x : Nd} (hx : x ∈ S.nds) : x.succ.length ≤ B := h x.p (List.mem_map_of_mem hx)
theorem p_len (S : Srt) : S.p.nds.length = S.nds.length := by unfold Srt.p; simp
theorem nums_get {ns : List Int} {i : Nat} {v : Value} (h : (nums ns)[i]? = some v) : ∃ k, v = vI k ∧ ns[i]? = some k := by
  rw [nums, List.getElem?_map] at h
  obtain ⟨k, h1, h2⟩ := Option.map_eq_some_iff.mp h
  exact ⟨k, h2.symm, h1⟩
theorem kns_get {ns : List Int} {i : Nat} {v : Value} (h : (kns B ns)[i]? = some v) : ∃ k, v = B.val k ∧ ns[i]? = some k := by
  rw [kns, List.getElem?_map] at h
  obtain ⟨k, h1, h2⟩ := Option.map_eq_some_iff.mp h
  exact ⟨k, h2.symm, h1⟩
theorem add_spec {F : Fc} {n : Nat} {S : Srt} {k : Int} {ps : List Int} {H : AHeap} {l r : List As} (W : Wld (K1 w) F mg mb) (OF : F.Ok (n + 4)) (O : Own1 B H l) (t : Take (.srt S) l r) (hr : S.ready = none) (hn : S.nds.length + ps.length < 1000) {bd : Nat} (hs : S.p.sl bd) (hB : bd + ps.length ≤ 100000) :
    Calls prog w F (.ref 131) ([.ref S.self, B.val k] ++ kns B ps) H
      (fun v H' => v = .none ∧ ∃ S', Own1 B H' (.srt S' :: r) ∧ S'.self = S.self ∧ S'.p = S.p.add k ps ∧ S'.ready = none) (fun _ _ _ => False) := by
  refine Calls.entS (fd := _) (body := _) (names := ["self", "node"]) (nm := "predecessors") W OF ⟨⟨_, W.kx _ _ rfl, rfl⟩, rfl, rfl, rfl, codeRec_of W.kx (by rfl), rfl, rfl, by decide +kernel⟩ (by rw [List.length_map]; walk_at "num") (fun l r hl => ?_) (by decide) (by decide +kernel) rfl rfl rfl fun F' E U OF' t0 H1 hN => ?_
  · obtain ⟨a, b, rfl, _⟩ := two_of hl
    cases r with
    | nil => rfl
    | cons c r => rfl
  · have O := Own.new (O.take t) hN
    clear hN
    dsimp only at E
    repeat (walk_at "T")
    refine ⟨_, rfl, (fun h => absurd h (by decide)), fun _ => ?_⟩
    repeat (walk_at "T")
    refine C_code ((info_own E.W OF' O (by walk_at "take") (by walk_at "num")).mono ?_ (fun _ _ _ z => z.elim))
    rintro v H2 hx0_; refine ex2and7 hx0_ fun S2 x y2_ hx y4_ O2 s2 p2 r2 => ?_; try clear hx0_; obtain rfl := y2_; obtain rfl := y4_
    clear O
    have O := O2
    repeat (walk_at "T")
    intro H3 O
    repeat (walk_at "T")
    refine E_forB [(("self" : Str), .ref S.self), (("node" : Str), B.val x.key)] E U OF'.hh (fun _ => rfl) (by rfl) ?_
    repeat (walk_at "T")
    refine exi3 (kns B ps) .tup (fun i H => ∃ S', Own1 B H (.srt S' :: .cell t0 (.tup (kns B ps)) :: r) ∧ S'.self = S.self ∧ S'.p = PS.addTo x.key ((S.p.touch x.key).bump x.key ps.length) (ps.take i) ∧ S'.ready = none) ⟨⟨t0, rfl, O.get (by walk_at "mem")⟩, ⟨rfl, rfl, trivial⟩, ⟨_, O, s2, ?_, by rw [← hr, ← r2]; rfl⟩, ?_, ?_, ?_⟩
    · rw [(O2.srtAt List.mem_cons_self).bump hx, kns_len, p2]; rfl
    · rintro i H vs ⟨S', O, _⟩
      exact ⟨t0, rfl, O.get (by walk_at "mem")⟩
    · rintro i x0 H hi hx0_; refine ex1and4 hx0_ fun S' O s3 p3 r3 => ?_; try clear hx0_
      obtain ⟨k', rfl, hk'⟩ := kns_get hi
      have hlen : S'.nds.length ≤ 1000 := by
        have h1 := addTo_len x.key (ps.take i) ((S.p.touch x.key).bump x.key ps.length)
        have h2 : ((S.p.touch x.key).bump x.key ps.length).nds.length = (S.p.touch x.key).nds.length := on_len _ _ _
        have h3 := touch_len S.p x.key
        rw [← p3, p_len, h2, List.length_take] at h1
        rw [p_len] at h3
        walk_at "num"
      rw [← s3]
      repeat (walk_at "T")
      refine C_code ((info_own E.W OF' O (by walk_at "take") hlen).mono ?_ (fun _ _ _ z => z.elim))
      rintro v H4 hx0_; refine ex2and7 hx0_ fun S4 y y2_ hy y4_ O s4 p4 r4 => ?_; try clear hx0_; obtain rfl := y2_; obtain rfl := y4_
      repeat (walk_at "T")
      have hsl : y.succ.length ≤ 100000 := by
        have h1 : S4.p.sl (bd + ps.length) := by
          rw [p4, p3]
          exact ((((hs.touch _).bump _ _).addTo (ps := ps.take i)).touch _).le (by rw [List.length_take]; walk_at "num")
        have := h1.at hy
        walk_at "num"
      refine C_pushS O (by walk_at "take") hy (by walk_at "num") fun H5 O => ?_
      repeat (walk_at "T")
      refine ⟨⟨rfl, rfl, trivial⟩, _, O, s4, ?_, by rw [← r3, ← r4]; rfl⟩
      rw [Srt.push_p, p4, p3, addTo_take hk']
    · rintro H hx0_; refine ex1and4 hx0_ fun S' O s3 p3 r3 => ?_; try clear hx0_
      repeat (walk_at "T")
      refine ⟨rfl, S', ?_, s3, ?_, r3⟩
      · exact (O.take (.there .here)).tail
      · rw [p3, kns_len, List.take_length]; rfl
end
end
section
set_option maxRecDepth 100000
set_option Elab.async false
set_option linter.unusedVariables false
set_option maxHeartbeats 4000000
open PySem PySem.W PySem.Calls PyProof.Rows PySem.SeqAt
noncomputable def PS.npOf (P : PS) (k : Int) : Option Int := (P.nds.find? fun x => decide (x.key = k)).map (·.np)
noncomputable def PS.succOf (P : PS) (k : Int) : List Int := ((P.nds.find? fun x => decide (x.key = k)).map (·.succ)).getD []
noncomputable def PS.setN (P : PS) (k v : Int) : PS := P.on k fun x => { x with np := v }
noncomputable def PS.outs (P : PS) (ns : List Int) : PS := ns.foldl (fun P k => P.setN k (-1)) P
noncomputable def PS.gr (P : PS) : PS := match P.ready with
  | none => P
  | some ns => { P.outs ns with ready := some [], out := P.out + ns.length }
noncomputable def PS.dec (P : PS) (s : Int) : PS :=
  let P1 := P.on s fun x => { x with np := x.np - 1 }
  if P1.npOf s = some 0 then { P1 with ready := P1.ready.map (· ++ [s]) } else P1
noncomputable def PS.done1 (P : PS) (k : Int) : PS :=
  let P1 := (P.succOf k).foldl PS.dec (P.setN k (-2))
  { P1 with fin := P1.fin + 1 }
noncomputable def Nd.sk (x : Nd) : Int × Addr × Addr × List Int := (x.key, x.a, x.sa, x.succ)
structure Same (S S' : Srt) : Prop where
  self : S'.self = S.self
  dn : S'.dn = S.dn
  sk : S'.nds.map Nd.sk = S.nds.map Nd.sk
theorem Same.refl (S : Srt) : Same S S := ⟨rfl, rfl, rfl⟩
theorem Same.trans {S S₁ S₂ : Srt} (a : Same S S₁) (b : Same S₁ S₂) : Same S S₂ := ⟨b.self.trans a.self, b.dn.trans a.dn, b.sk.trans a.sk⟩
theorem Same.setNp (S : Srt) (k v : Int) : Same S (S.setNp k v) := ⟨rfl, rfl, by
  unfold Srt.setNp
  rw [List.map_map]
  refine List.map_congr_left fun x _ => ?_
  simp only [Function.comp]
  split <;> rfl⟩
theorem Same.at {S S' : Srt} (h : Same S S') {x : Nd} (hx : x ∈ S.nds) : ∃ y ∈ S'.nds, y.key = x.key ∧ y.a = x.a ∧ y.sa = x.sa ∧ y.succ = x.succ := by
  have : x.sk ∈ S'.nds.map Nd.sk := by rw [h.sk]; exact List.mem_map_of_mem hx
  obtain ⟨y, hy, e⟩ := List.mem_map.mp this
  unfold Nd.sk at e
  injection e with e1 e
  injection e with e2 e
  injection e with e3 e4
  exact ⟨y, hy, e1, e2, e3, e4⟩
theorem Same.keyed {S S' : Srt} (h : Same S S') {k : Int} (hk : ∃ x ∈ S.nds, x.key = k) : ∃ x ∈ S'.nds, x.key = k := by
  obtain ⟨x, hx, rfl⟩ := hk
  obtain ⟨y, hy, e, _⟩ := h.at hx
  exact ⟨y, hy, e⟩
theorem outs_take {P : PS} {ns : List Int} {i : Nat} {k : Int} (h : ns[i]? = some k) : P.outs (ns.take (i + 1)) = (P.outs (ns.take i)).setN k (-1) := by
  unfold PS.outs
  rw [List.take_add_one, h, List.foldl_append]; rfl
theorem outs_out (P : PS) : ∀ ns : List Int, (P.outs ns).out = P.out := by
  intro ns
  unfold PS.outs
  induction ns generalizing P with
  | nil => rfl
  | cons k r ih => rw [List.foldl_cons, ih]; rfl
section
variable {prog : Program} {w : World} {B : KeyBy prog w Int} {mg mb : Str → Option Value}

theorem ready_spec {F : Fc} {n : Nat} {S : Srt} {rd : Addr} {ns : List Int} {H : AHeap} {l r : List As} (W : Wld (K1 w) F mg mb) (OF : F.Ok (n + 1)) (O : Own1 B H l) (t : Take (.srt S) l r) (hr : S.ready = some (rd, ns)) (hn : ns.length ≤ 100000) (hk : ∀ k ∈ ns, ∃ x ∈ S.nds, x.key = k) :
    Calls prog w F (.ref 143) [.ref S.self] H
      (fun v H' => ∃ a S', v = .ref a ∧ Own1 B H' (.srt S' :: .cell a (.tup (kns B ns)) :: r) ∧ Same S S' ∧ S'.p = S.p.gr ∧ S'.ready = some (rd, [])) (fun _ _ _ => False) := by
  refine Calls.ent (fd := _) (body := _) (names := ["self"]) W OF ⟨⟨_, W.kx _ _ rfl, rfl⟩, rfl, rfl, rfl, codeRec_of W.kx (by rfl), rfl, rfl, by decide +kernel⟩ (fun args' ha => ?_) (by decide) (by decide +kernel) rfl rfl rfl fun F' E U OF' => ?_
  · obtain ⟨a, rfl, _⟩ := one_of ha; rfl
  · have O := O.take t
    dsimp only at E
    repeat (walk_at "T")
    refine ⟨_, rfl, (fun h => by cases h), fun _ => ?_⟩
    repeat (walk_at "T")
    refine C_tuple (O.ready (by walk_at "mem") hr) (by rw [kns_len]; walk_at "num") fun a H1 hN => ?_
    have O := Own.new O hN
    clear hN
    repeat (walk_at "T")
    refine E_forB [(("self" : Str), .ref S.self), (("n2i" : Str), .ref S.dn), (("result" : Str), .ref a)] E U OF'.hh (fun _ => rfl) (by rfl) ?_
    repeat (walk_at "T")
    refine exi3 (kns B ns) .tup (fun i H => ∃ S', Own1 B H (.srt S' :: .cell a (.tup (kns B ns)) :: r) ∧ Same S S' ∧ S'.p = S.p.outs (ns.take i) ∧ S'.ready = some (rd, ns)) ⟨⟨a, rfl, O.get (by walk_at "mem")⟩, ⟨rfl, rfl, rfl, trivial⟩, ⟨S, O.take (.there .here), .refl _, rfl, hr⟩, ?_, ?_, ?_⟩
    · rintro i H vs ⟨S', O, _⟩
      exact ⟨a, rfl, O.get (by walk_at "mem")⟩
    · rintro i x0 H hi hx0_; refine ex1and4 hx0_ fun S' O s3 p3 r3 => ?_; try clear hx0_
      obtain ⟨k', rfl, hk'⟩ := kns_get hi
      obtain ⟨x, hx, rfl⟩ := s3.keyed (hk k' (List.mem_of_getElem? hk'))
      rw [← s3.dn]
      repeat (walk_at "T")
      intro H2 O
      repeat (walk_at "T")
      refine ⟨⟨rfl, rfl, by rw [s3.dn]; rfl, trivial⟩, _, O, s3.trans (.setNp _ _ _), ?_, r3⟩
      rw [Srt.setNp_p, p3, outs_take hk']; rfl
    · rintro H hx0_; refine ex1and4 hx0_ fun S' O s3 p3 r3 => ?_; try clear hx0_
      rw [← s3.self]
      repeat (walk_at "T")
      refine C_clearR O (by walk_at "take") r3 (by walk_at "num") fun H3 O => ?_
      repeat (walk_at "T")
      intro H4 O
      repeat (walk_at "T")
      refine exi2 a _ ⟨rfl, O, ⟨s3.self, s3.dn, s3.sk⟩, ?_, rfl⟩
      have e : S.p.ready = some ns := by unfold Srt.p; rw [hr]; rfl
      rw [kns_len, List.take_length] at p3
      show (⟨S'.p.nds, some [], S'.p.out + (kns B ns).length, S'.p.fin⟩ : PS) = _
      unfold PS.gr
      rw [e, p3, kns_len, outs_out]
end
end
section
set_option maxRecDepth 100000
set_option Elab.async false
set_option linter.unusedVariables false
set_option maxHeartbeats 4000000
open PySem PySem.W PySem.Calls PyProof.Rows PySem.SeqAt
noncomputable def txt (i : Int) : Str := Str.ofString (toString i)
noncomputable def refusal (st : Option Int) (k : Int) : Option Str := match st with
  | none => some ("node " ++ txt k ++ " was not added using add()")
  | some v => if v = -1 then none else if 0 ≤ v then some ("node " ++ txt k ++ " was not passed out (still not ready)") else some ("node " ++ txt k ++ " was already marked done")
noncomputable def PS.doneN : PS → List Int → PS × Option Str
  | P, [] => (P, none)
  | P, k :: r => match refusal (P.npOf k) k with
    | some m => (P, some m)
    | none => PS.doneN (P.done1 k) r
section
variable {prog : Program} {w : World} {B : KeyBy prog w Int} {cN cT : Addr} {H : AHeap} {S : Srt}
theorem find_nd {l : List PN} {x : PN} (hx : x ∈ l) (hu : ∀ y ∈ l, y.key = x.key → y = x) : l.find? (fun y => decide (y.key = x.key)) = some x := by
  induction l with
  | nil => cases hx
  | cons z l ih =>
    rw [List.find?_cons]
    by_cases q : z.key = x.key
    · rw [decide_eq_true q, hu z List.mem_cons_self q]
    · rw [decide_eq_false q]
      rcases List.mem_cons.mp hx with rfl | hx
      · exact absurd rfl q
      · exact ih hx fun y hy => hu y (List.mem_cons_of_mem _ hy)
theorem Srt.At.find (A : S.At B cN cT H) {x : Nd} (hx : x ∈ S.nds) : S.p.nds.find? (fun y => decide (y.key = x.key)) = some x.p := by
  refine find_nd (x := x.p) (List.mem_map_of_mem hx) fun y hy e => ?_
  obtain ⟨z, hz, rfl⟩ := List.mem_map.mp hy
  rw [A.uniq hz hx (.inl e)]
theorem Srt.At.npOf (A : S.At B cN cT H) {x : Nd} (hx : x ∈ S.nds) : S.p.npOf x.key = some x.np := by
  unfold PS.npOf; rw [A.find hx]; rfl
theorem Srt.At.succOf (A : S.At B cN cT H) {x : Nd} (hx : x ∈ S.nds) : S.p.succOf x.key = x.succ := by
  unfold PS.succOf; rw [A.find hx]; rfl
theorem Srt.npNone {k : Int} (h : ∀ y ∈ S.nds, y.key ≠ k) : S.p.npOf k = none := by
  unfold PS.npOf
  rw [Option.map_eq_none_iff, List.find?_eq_none]
  intro y hy
  obtain ⟨z, hz, rfl⟩ := List.mem_map.mp hy
  rw [decide_eq_true_eq]; exact h z hz
theorem dec_take {P : PS} {ns : List Int} {i : Nat} {k : Int} (h : ns[i]? = some k) : (ns.take (i + 1)).foldl PS.dec P = ((ns.take i).foldl PS.dec P).dec k := by
  rw [List.take_add_one, h, List.foldl_append]; rfl
theorem mem_setNp {x : Nd} (hx : x ∈ S.nds) (v : Int) : { x with np := v } ∈ (S.setNp x.key v).nds := by
  unfold Srt.setNp
  exact List.mem_map.mpr ⟨x, hx, if_pos rfl⟩
end
section
variable {prog : Program} {w : World} {B : KeyBy prog w Int} {mg mb : Str → Option Value}

theorem done_spec {F : Fc} {n : Nat} {S : Srt} {rd : Addr} {ns : List Int} {ks : List Int} {H : AHeap} {l r : List As} (I : Nat → PS → Prop) (W : Wld (K1 w) F mg mb) (OF : F.Ok (n + 1)) (O : Own1 B H l) (t : Take (.srt S) l r) (hr : S.ready = some (rd, ns))
    (hk : ks.length ≤ 100000) (hcl : ∀ x ∈ S.nds, ∀ s ∈ x.succ, ∃ y ∈ S.nds, y.key = s) (hB : ∀ x ∈ S.nds, x.succ.length ≤ 1000)
    (hI0 : I 0 S.p) (hI1 : ∀ i k P, ks[i]? = some k → I i P → refusal (P.npOf k) k = none → I (i + 1) (P.done1 k)) (hI2 : ∀ i P, i < ks.length → I i P → (P.ready.getD []).length ≤ 50000) (hgo : ∀ i k P, ks[i]? = some k → I i P → refusal (P.npOf k) k = none) :
    Calls prog w F (.ref 164) ([.ref S.self] ++ kns B ks) H
      (fun v H' => v = .none ∧ ∃ S' ns', Own1 B H' (.srt S' :: r) ∧ Same S S' ∧ S.p.doneN ks = (S'.p, none) ∧ S'.ready = some (rd, ns'))
      (fun _ _ _ => False) := by
  refine Calls.entS (fd := _) (body := _) (names := ["self"]) (nm := "nodes") W OF ⟨⟨_, W.kx _ _ rfl, rfl⟩, rfl, rfl, rfl, codeRec_of W.kx (by rfl), rfl, rfl, by decide +kernel⟩ (by rw [List.length_map]; walk_at "num") (fun l r hl => ?_) (by decide) (by decide +kernel) rfl rfl rfl fun F' E U OF' t0 H1 hN => ?_
  · obtain ⟨a, rfl, _⟩ := one_of hl
    cases r with
    | nil => rfl
    | cons c r => rfl
  · have O := Own.new (O.take t) hN
    clear hN
    dsimp only at E
    repeat (walk_at "T")
    refine ⟨_, rfl, (fun h => by cases h), fun _ => ?_⟩
    repeat (walk_at "T")
    refine E_forB [(("self" : Str), .ref S.self), (("n2i" : Str), .ref S.dn)] E U OF'.hh (fun _ => rfl) (by rfl) ?_
    repeat (walk_at "T")
    refine exi3 (kns B ks) .tup (fun i H => ∃ S' ns', Own1 B H (.srt S' :: .cell t0 (.tup (kns B ks)) :: r) ∧ Same S S' ∧ S.p.doneN ks = S'.p.doneN (ks.drop i) ∧ S'.ready = some (rd, ns') ∧ I i S'.p) ⟨⟨t0, rfl, O.get (by walk_at "mem")⟩, ⟨rfl, rfl, trivial⟩, ⟨S, ns, O.take (.there .here), .refl _, rfl, hr, hI0⟩, ?_, ?_, ?_⟩
    · rintro i H vs ⟨S', ns', O, _⟩
      exact ⟨t0, rfl, O.get (by walk_at "mem")⟩
    · rintro i x0 H hi hx0_; refine ex2and5 hx0_ fun S' ns' O s3 p3 r3 hI => ?_; try clear hx0_
      obtain ⟨k, rfl, hk'⟩ := kns_get hi
      have hlt : i < ks.length := (List.getElem?_eq_some_iff.mp hk').1
      have hrl := hI2 i _ hlt hI
      have hgo := hgo i k _ hk' hI
      have hdrop : ks.drop i = k :: ks.drop (i + 1) := by
        rw [List.drop_eq_getElem_cons hlt]
        congr 1
        have := (List.getElem?_eq_some_iff.mp hk').2; exact this
      have A := O.srtAt (S := S') (by walk_at "mem")
      obtain ⟨m, hd⟩ := O.n2i (S := S') (by walk_at "mem")
      rw [← s3.dn, ← s3.self]
      repeat (walk_at "T")
      refine C_dget B (k := k) E (by exact hd) ?_
      by_cases q : ∃ x ∈ S'.nds, x.key = k
      · obtain ⟨x, hx, rfl⟩ := q
        rw [A.val hx, Option.getD_some]
        have hnp := A.npOf hx
        repeat (walk_at "T")
        refine ⟨_, rfl, (fun h => by cases h), fun _ => ?_⟩
        repeat (walk_at "T")
        refine ⟨_, rfl, fun hst => ?_, fun hst => ?_⟩
        · have hne : x.np ≠ -1 := by simpa using hst
          rw [hnp] at hgo
          unfold refusal at hgo
          dsimp only at hgo
          rw [if_neg hne] at hgo
          split at hgo <;> cases hgo
        · have hm1 : x.np = -1 := by simpa using hst
          repeat (walk_at "T")
          intro H2 O
          repeat (walk_at "T")
          have hx2 := mem_setNp hx (-2)
          have hsl : x.succ.length ≤ 1000 := by
            refine ex1and5 ((Same.mk s3.self.symm s3.dn.symm s3.sk.symm).at hx) fun z hz e1 e2 e3 e4 => ?_
            rw [← e4]; exact hB z hz
          have hns : ns'.length ≤ 50000 := by
            have : S'.p.ready = some ns' := by unfold Srt.p; rw [r3]; rfl
            rw [this] at hrl; exact hrl
          have hsc := A.succOf hx
          refine E_forB [(("self" : Str), .ref S'.self), (("n2i" : Str), .ref S'.dn)] E U OF'.hh (fun _ => rfl) (by rfl) ?_
          repeat (walk_at "T")
          refine A_succ (x := { x with np := -2 }) E hx2 (by exact O) (by walk_at "mem") ?_
          refine exi3 (kns B x.succ) .list (fun j H => ∃ S'' ns'', Own1 B H (.srt S'' :: .cell t0 (.tup (kns B ks)) :: r) ∧ Same (S'.setNp x.key (-2)) S'' ∧ S''.p = (x.succ.take j).foldl PS.dec (S'.p.setN x.key (-2)) ∧ S''.ready = some (rd, ns'') ∧ ns''.length ≤ 50000 + j) ⟨⟨x.sa, rfl, O.sa (x := { x with np := -2 }) (by walk_at "mem") hx2⟩, ⟨rfl, rfl, trivial⟩, ⟨_, ns', O, .refl _, ?_, r3, by walk_at "num"⟩, ?_, ?_, ?_⟩
          · rw [Srt.setNp_p]; rfl
          · rintro j H vs hx0_; refine ex2and3 hx0_ fun S'' ns'' O s5 _ => ?_; try clear hx0_
            refine ex1and5 (s5.at hx2) fun y hy e1 e2 e3 e4 => ?_
            have := O.sa (by walk_at "mem") hy
            rw [e3, e4] at this
            exact ⟨x.sa, rfl, this⟩
          · rintro j y0 H hj hx0_; refine ex2and5 hx0_ fun S'' ns'' O s5 p5 r5 l5 => ?_; try clear hx0_
            obtain ⟨s, rfl, hs'⟩ := kns_get hj
            have hjl : j < x.succ.length := (List.getElem?_eq_some_iff.mp hs').1
            have s6 := (s3.trans (Same.setNp S' x.key (-2))).trans s5
            have hys : ∃ y ∈ S''.nds, y.key = s := by
              refine ex1and5 ((Same.mk s3.self.symm s3.dn.symm s3.sk.symm).at hx) fun z hz e1 e2 e3 e4 => ?_
              exact s6.keyed (hcl z hz s (e4 ▸ List.mem_of_getElem? hs'))
            obtain ⟨y, hy, rfl⟩ := hys
            have e1 : S'.self = S''.self := s5.self.symm
            have e2 : S'.dn = S''.dn := s5.dn.symm
            have A5 := O.srtAt (S := S'') (by walk_at "mem")
            rw [e1, e2]
            repeat (walk_at "T")
            intro H3 O
            have hy2 := mem_setNp hy (y.np - 1)
            repeat (walk_at "T")
            have p6 : (S''.setNp y.key (y.np - 1)).p = S''.p.on y.key (fun x => { x with np := x.np - 1 }) := A5.bump hy (-1)
            have n6 : (S''.p.on y.key (fun x => { x with np := x.np - 1 })).npOf y.key = some (y.np - 1) := by
              rw [← p6]; exact (O.srtAt (by walk_at "mem")).npOf hy2
            have r6 : (S''.setNp y.key (y.np - 1)).ready = some (rd, ns'') := r5
            have s7 : Same (S'.setNp x.key (-2)) (S''.setNp y.key (y.np - 1)) := s5.trans (.setNp _ _ _)
            refine A_np (x := { y with np := y.np - 1 }) E hy2 (by exact O) (by walk_at "mem") ?_
            repeat (walk_at "T")
            refine ⟨_, rfl, fun hz => ?_, fun hz => ?_⟩
            · have hz : y.np - 1 = 0 := by simpa using hz
              repeat (walk_at "T")
              refine C_appendR O (by walk_at "take") r6 (by walk_at "num") fun H4 O => ?_
              repeat (walk_at "T")
              refine ⟨⟨rfl, rfl, trivial⟩, exi2 _ _ ⟨O, ⟨s7.self, s7.dn, s7.sk⟩, ?_, rfl, by simp; walk_at "num"⟩⟩
              rw [dec_take hs', ← p5]
              unfold PS.dec
              simp only
              rw [n6, if_pos (by rw [hz]), ← p6]
              have : (S''.setNp y.key (y.np - 1)).p.ready = some ns'' := by unfold Srt.p; rw [r6]; rfl
              rw [this]; rfl
            · have hz : y.np - 1 ≠ 0 := by simpa using hz
              repeat (walk_at "T")
              refine ⟨⟨rfl, rfl, trivial⟩, exi2 _ _ ⟨O, s7, ?_, r6, by walk_at "num"⟩⟩
              rw [dec_take hs', ← p5]
              unfold PS.dec
              simp only
              rw [n6, if_neg (by intro e; injection e with e; exact hz e), p6]
          · rintro H hx0_; refine ex2and5 hx0_ fun S'' ns'' O s5 p5 r5 l5 => ?_; try clear hx0_
            have e1 : S'.self = S''.self := s5.self.symm
            rw [e1]
            repeat (walk_at "T")
            intro H3 O
            repeat (walk_at "T")
            have href : refusal (S'.p.npOf x.key) x.key = none := by rw [hnp, hm1]; rfl
            have hp : ({ S'' with fin := S''.fin + 1 } : Srt).p = S'.p.done1 x.key := by
              rw [kns_len, List.take_length] at p5
              unfold PS.done1
              rw [hsc, ← p5]; rfl
            refine ⟨⟨congrArg (fun z => some (Value.ref z)) e1.symm, rfl, trivial⟩, exi2 _ ns'' ⟨O, ?_, ?_, r5, ?_⟩⟩
            · have s6 := (s3.trans (Same.setNp S' x.key (-2))).trans s5
              exact ⟨s6.self, s6.dn, s6.sk⟩
            · rw [p3, hdrop, PS.doneN, href, hp]
            · rw [hp]; exact hI1 i x.key S'.p hk' hI href
      · have q' : ∀ y ∈ S'.nds, y.key ≠ k := fun y hy e => q ⟨y, hy, e⟩
        rw [Srt.npNone q'] at hgo
        cases hgo
    · rintro H hx0_; refine ex2and5 hx0_ fun S' ns' O s3 p3 r3 hI => ?_; try clear hx0_
      repeat (walk_at "T")
      refine ⟨rfl, exi2 S' ns' ⟨(O.take (.there .here)).tail, s3, ?_, r3⟩⟩
      rw [p3, kns_len, List.drop_length]; rfl
end
end
section
set_option maxRecDepth 100000
set_option Elab.async false
set_option linter.unusedVariables false
set_option maxHeartbeats 4000000
open PySem PySem.W PySem.Calls PyProof.Rows PySem.SeqAt
structure Fr where
  x : Nd
  i : Nat
  it : Addr
  b : Addr
noncomputable def fkeys (fs : List Fr) : List Int := fs.map (·.x.key)
noncomputable def fbs (fs : List Fr) : List Value := fs.map fun f => .ref f.b
noncomputable def ents : List Fr → List (Int × Value)
  | [] => []
  | f :: gs => ents gs ++ [(f.x.key, vI gs.length)]
noncomputable def fcells : List Fr → List As
  | [] => []
  | f :: gs => .cell f.b (.bm "method-wrapper" (.builtin "list_iterator.__next__") (.ref f.it)) :: .cell f.it (.iter f.x.sa f.i) :: fcells gs
inductive Tp (P : PS) : List Int → Prop
  | nil : Tp P []
  | snoc {l : List Int} {x : PN} : Tp P l → x ∈ P.nds → (∀ s ∈ x.succ, s ∈ l) → Tp P (l ++ [x.key])
noncomputable def PS.Topo (P : PS) : Prop := ∃ fin, Tp P fin ∧ ∀ x ∈ P.nds, x.key ∈ fin
noncomputable def PS.Ring (P : PS) : Prop := ∃ C : List Int, C ≠ [] ∧ ∀ c ∈ C, ∃ x ∈ P.nds, x.key ∈ C ∧ c ∈ x.succ
noncomputable def Prog (fin : List Int) : Option Int → List Fr → Prop
  | _, [] => True
  | c, f :: gs => (∀ j s, j < f.i → f.x.succ[j]? = some s → s ∈ fin ∨ c = some s) ∧ Prog fin (some f.x.key) gs
noncomputable def Chain : Int → List Fr → Prop
  | _, [] => True
  | c, f :: gs => c ∈ f.x.succ ∧ Chain f.x.key gs
noncomputable def Chain0 : List Fr → Prop
  | [] => True
  | f :: gs => Chain f.x.key gs
structure DInv (S : Srt) (fs : List Fr) (ks fin : List Int) : Prop where
  nds : ∀ f ∈ fs, f.x ∈ S.nds
  idx : ∀ f ∈ fs, f.i ≤ f.x.succ.length
  ksn : ks.Nodup
  ksin : ∀ k ∈ ks, k ∈ S.nds.map (·.key)
  nod : (fkeys fs).Nodup
  sub : ∀ f ∈ fs, f.x.key ∈ ks
  dich : ∀ k ∈ ks, k ∈ fin ∨ k ∈ fkeys fs
  tp : Tp S.p fin
theorem Prog.more {fin fin' : List Int} (h : ∀ k ∈ fin, k ∈ fin') : ∀ {fs : List Fr} {c : Option Int}, Prog fin c fs → Prog fin' c fs
  | [], _, _ => trivial
  | f :: gs, c, ⟨h1, h2⟩ => ⟨fun j s hj hs => (h1 j s hj hs).imp (h s) id, Prog.more h h2⟩
theorem Prog.into {fin : List Int} {c : Int} (h : c ∈ fin) {fs : List Fr} (p : Prog fin (some c) fs) : Prog fin none fs := by
  cases fs with
  | nil => trivial
  | cons f gs => exact ⟨fun j s hj hs => .inl ((p.1 j s hj hs).elim id fun e => by cases e; exact h), p.2⟩
theorem Chain.zero : ∀ {fs : List Fr} {c : Int}, Chain c fs → Chain0 fs
  | [], _, _ => trivial
  | f :: gs, _, h => h.2
theorem ents_keys : ∀ fs : List Fr, (ents fs).map (·.1) = (fkeys fs).reverse
  | [] => rfl
  | f :: gs => by
    have e1 : ents (f :: gs) = ents gs ++ [(f.x.key, vI gs.length)] := rfl
    have e2 : fkeys (f :: gs) = f.x.key :: fkeys gs := rfl
    rw [e1, e2, List.map_append, ents_keys gs, List.reverse_cons]; rfl
theorem ents_some {k : Int} : ∀ {fs : List Fr}, (valueAt (ents fs) k).isSome = decide (k ∈ fkeys fs) := by
  intro fs
  have hk := ents_keys fs
  unfold valueAt
  rw [Option.isSome_map]
  rw [Bool.eq_iff_iff, List.find?_isSome, decide_eq_true_eq]
  constructor
  · rintro ⟨p, hp, e⟩
    have e : p.1 = k := of_decide_eq_true e
    have : p.1 ∈ (ents fs).map (·.1) := List.mem_map_of_mem hp
    rw [hk, List.mem_reverse, e] at this; exact this
  · intro h
    have : k ∈ (ents fs).map (·.1) := by rw [hk, List.mem_reverse]; exact h
    obtain ⟨p, hp, e⟩ := List.mem_map.mp this
    exact ⟨p, hp, decide_eq_true e⟩
theorem ents_val : ∀ {fs : List Fr}, ∀ p ∈ ents fs, ∃ n : Nat, p.2 = vI n ∧ n < fs.length
  | [], p, h => (nomatch h)
  | f :: gs, p, h => by
    rcases List.mem_append.mp h with h | h
    · obtain ⟨n, e, hn⟩ := ents_val p h; exact ⟨n, e, by rw [List.length_cons]; omega⟩
    · rw [List.mem_singleton.mp h]; exact ⟨gs.length, rfl, by rw [List.length_cons]; omega⟩
theorem ents_at {k : Int} {fs : List Fr} (h : k ∈ fkeys fs) : ∃ n : Nat, valueAt (ents fs) k = some (vI n) ∧ n < fs.length := by
  have : (valueAt (ents fs) k).isSome = true := by rw [ents_some]; exact decide_eq_true h
  obtain ⟨v, hv⟩ := Option.isSome_iff_exists.mp this
  unfold valueAt at hv
  obtain ⟨p, hp, e⟩ := Option.map_eq_some_iff.mp hv
  obtain ⟨n, en, hn⟩ := ents_val p (List.mem_of_find?_eq_some hp)
  refine ⟨n, ?_, hn⟩
  unfold valueAt
  rw [hp, ← en]; rfl
theorem ents_stored {k : Int} {fs : List Fr} {v : Value} (h : k ∉ fkeys fs) : stored (ents fs) k v = ents fs ++ [(k, v)] := by
  unfold stored
  rw [if_neg]
  rw [Bool.not_eq_true, List.any_eq_false]
  intro p hp e
  have e : p.1 = k := of_decide_eq_true e
  refine h ?_
  have : p.1 ∈ (ents fs).map (·.1) := List.mem_map_of_mem hp
  rw [ents_keys, List.mem_reverse, e] at this; exact this
theorem ents_without {f : Fr} {gs : List Fr} (h : f.x.key ∉ fkeys gs) : without (ents (f :: gs)) f.x.key = ents gs := by
  have hk : ∀ p ∈ ents gs, p.1 ≠ f.x.key := fun p hp e => h (by
    have : p.1 ∈ (ents gs).map (·.1) := List.mem_map_of_mem hp
    rw [ents_keys, List.mem_reverse, e] at this; exact this)
  have e1 : ents (f :: gs) = ents gs ++ [(f.x.key, vI gs.length)] := rfl
  unfold without
  rw [e1, List.filter_append, List.filter_eq_self.mpr fun p hp => by simpa using hk p hp]
  simp
theorem ents_len (fs : List Fr) : (ents fs).length = fs.length := by
  have := congrArg List.length (ents_keys fs)
  rw [List.length_map, List.length_reverse] at this
  unfold fkeys at this
  rwa [List.length_map] at this
theorem nodup_len : ∀ {l m : List Int}, l.Nodup → (∀ a ∈ l, a ∈ m) → l.length ≤ m.length
  | [], m, _, _ => Nat.zero_le _
  | a :: l, m, hn, hs => by
    obtain ⟨h1, h2⟩ := List.nodup_cons.mp hn
    have ha := hs a List.mem_cons_self
    have := nodup_len (m := m.erase a) h2 fun b hb => (List.mem_erase_of_ne fun e => h1 (by rw [← e]; exact hb)).mpr (hs b (List.mem_cons_of_mem _ hb))
    rw [List.length_erase_of_mem ha] at this
    have : 0 < m.length := List.length_pos_of_mem ha
    rw [List.length_cons]; omega
theorem DInv.kslen {S : Srt} {fs : List Fr} {ks fin : List Int} (D : DInv S fs ks fin) : ks.length ≤ S.nds.length := by
  have := nodup_len D.ksn D.ksin
  rwa [List.length_map] at this
theorem DInv.fslen {S : Srt} {fs : List Fr} {ks fin : List Int} (D : DInv S fs ks fin) : fs.length ≤ S.nds.length := by
  have := nodup_len D.nod fun a ha => by
    obtain ⟨f, hf, rfl⟩ := List.mem_map.mp ha
    exact D.sub f hf
  unfold fkeys at this
  rw [List.length_map] at this
  exact Nat.le_trans this D.kslen
noncomputable def muK (l : List Nd) (ks : List Int) : Nat := (l.map fun x => if x.key ∈ ks then 0 else x.succ.length + 2).sum
noncomputable def muF (fs : List Fr) : Nat := (fs.map fun f => f.x.succ.length - f.i + 1).sum
theorem muK_mono (l : List Nd) (ks : List Int) (k : Int) : muK l (ks ++ [k]) ≤ muK l ks := by
  unfold muK
  induction l with
  | nil => exact Nat.le_refl _
  | cons z l ih =>
    rw [List.map_cons, List.map_cons, List.sum_cons, List.sum_cons]
    have : (if z.key ∈ ks ++ [k] then 0 else z.succ.length + 2) ≤ if z.key ∈ ks then 0 else z.succ.length + 2 := by
      by_cases q : z.key ∈ ks
      · rw [if_pos q, if_pos (List.mem_append_left _ q)]; omega
      · rw [if_neg q]; split <;> omega
    omega
theorem muK_push {x : Nd} {ks : List Int} (hk : x.key ∉ ks) : ∀ {l : List Nd}, x ∈ l → muK l (ks ++ [x.key]) + (x.succ.length + 2) ≤ muK l ks
  | z :: l, h => by
    unfold muK
    rw [List.map_cons, List.map_cons, List.sum_cons, List.sum_cons]
    rcases List.mem_cons.mp h with rfl | h
    · have := muK_mono l ks x.key
      unfold muK at this
      rw [if_pos (List.mem_append_right _ List.mem_cons_self), if_neg hk]
      omega
    · have := muK_push hk h
      unfold muK at this
      have : (if z.key ∈ ks ++ [x.key] then 0 else z.succ.length + 2) ≤ if z.key ∈ ks then 0 else z.succ.length + 2 := by
        by_cases q : z.key ∈ ks
        · rw [if_pos q, if_pos (List.mem_append_left _ q)]; omega
        · rw [if_neg q]; split <;> omega
      omega
theorem ring_of {S : Srt} {k : Int} : ∀ {fs : List Fr} {c : Int}, (∀ f ∈ fs, f.x ∈ S.nds) → Chain c fs → k ∈ fkeys fs →
    ∃ C : List Int, k ∈ C ∧ (∃ x ∈ S.p.nds, x.key ∈ C ∧ c ∈ x.succ) ∧ ∀ d ∈ C, d ≠ k → ∃ x ∈ S.p.nds, x.key ∈ C ∧ d ∈ x.succ
  | [], _, _, _, h => (nomatch h)
  | f :: gs, c, hn, ⟨h1, h2⟩, h => by
    have hf : f.x.p ∈ S.p.nds := List.mem_map_of_mem (hn f List.mem_cons_self)
    by_cases q : f.x.key = k
    · exact ⟨[k], List.mem_cons_self, ⟨f.x.p, hf, by rw [← q]; exact List.mem_cons_self, h1⟩, fun d hd hne => absurd (List.mem_singleton.mp hd) hne⟩
    · have hg : k ∈ fkeys gs := by
        rcases List.mem_cons.mp h with e | h
        · exact absurd e.symm q
        · exact h
      obtain ⟨C, a1, ⟨x, x1, x2, x3⟩, a3⟩ := ring_of (fun f hf => hn f (List.mem_cons_of_mem _ hf)) h2 hg
      refine ⟨f.x.key :: C, List.mem_cons_of_mem _ a1, ⟨f.x.p, hf, List.mem_cons_self, h1⟩, fun d hd hne => ?_⟩
      rcases List.mem_cons.mp hd with rfl | hd
      · exact ⟨x, x1, List.mem_cons_of_mem _ x2, x3⟩
      · obtain ⟨y, y1, y2, y3⟩ := a3 d hd hne
        exact ⟨y, y1, List.mem_cons_of_mem _ y2, y3⟩
theorem ring_at {S : Srt} {fs : List Fr} {k : Int} (hn : ∀ f ∈ fs, f.x ∈ S.nds) (hc : Chain k fs) (hk : k ∈ fkeys fs) : S.p.Ring := by
  obtain ⟨C, a1, a2, a3⟩ := ring_of hn hc hk
  refine ⟨C, (fun e => by rw [e] at a1; cases a1), fun c hc => ?_⟩
  by_cases q : c = k
  · rw [q]; exact a2
  · exact a3 c hc q
end
section
set_option maxRecDepth 100000
set_option Elab.async false
set_option linter.unusedVariables false
set_option maxHeartbeats 4000000
open PySem PySem.W PySem.Calls PyProof.Rows PySem.SeqAt
noncomputable abbrev DFl {prog : Program} {w : World} (B : KeyBy prog w Int) (stk itl sn n2s : Addr) (G : AHeap) (fs : List Fr) (ks : List Int) (m : Nat) (r : List As) : List As :=
  .cell stk (.list (kns B (fkeys fs).reverse)) :: .cell itl (.list (fbs fs).reverse) :: .cell sn (B.aset ks) :: .cell n2s (.dict (dE B (ents fs)) m) :: .frag G :: (fcells fs ++ r)
theorem keysE {prog : Program} {w : World} {B : KeyBy prog w Int} (S : Srt) : kns B (S.nds.map (·.key)) = (dE B S.es).map (·.1) := by
  unfold kns dE Srt.es
  rw [List.map_map, List.map_map, List.map_map]; rfl
theorem fk_push (f : Fr) (fs : List Fr) : kns B (fkeys (f :: fs)).reverse = kns B (fkeys fs).reverse ++ [B.val f.x.key] := by
  unfold fkeys kns
  rw [List.map_cons, List.reverse_cons, List.map_append]; rfl
theorem fb_push (f : Fr) (fs : List Fr) : (fbs (f :: fs)).reverse = (fbs fs).reverse ++ [.ref f.b] := by
  unfold fbs
  rw [List.map_cons, List.reverse_cons]
theorem fk_len (fs : List Fr) : (kns B (fkeys fs).reverse).length = fs.length := by unfold kns fkeys; simp
theorem fb_len (fs : List Fr) : (fbs fs).reverse.length = fs.length := by unfold fbs; simp
theorem fk_empty (fs : List Fr) : (kns B (fkeys fs).reverse).isEmpty = fs.isEmpty := by
  rw [Bool.eq_iff_iff, List.isEmpty_iff, List.isEmpty_iff, ← List.length_eq_zero_iff, fk_len, List.length_eq_zero_iff]
theorem Own.thaw2 {prog : Program} {w : World} {B : KeyBy prog w Int} {cN cT : Addr} {H : AHeap} {l : List As} {S : Srt} {G : AHeap} {c : As} (O : Own B cN cT H (c :: .frag G :: l)) (A : S.At B cN cT G) : Own B cN cT H (c :: .srt S :: l) :=
  ((O.perm (.swap _ _ _)).thaw A).perm (.swap _ _ _)
theorem DInv.push {S : Srt} {fs : List Fr} {ks fin : List Int} (D : DInv S fs ks fin) {x : Nd} (hx : x ∈ S.nds) (hk : x.key ∉ ks) (it b : Addr) : DInv S (⟨x, 0, it, b⟩ :: fs) (ks ++ [x.key]) fin where
  nds f hf := by
    rcases List.mem_cons.mp hf with rfl | hf
    · exact hx
    · exact D.nds f hf
  idx f hf := by
    rcases List.mem_cons.mp hf with rfl | hf
    · exact Nat.zero_le _
    · exact D.idx f hf
  ksn := List.nodup_append.mpr ⟨D.ksn, List.nodup_cons.mpr ⟨nofun, List.nodup_nil⟩, fun a ha b hb e => hk (by rw [← List.mem_singleton.mp hb, ← e]; exact ha)⟩
  ksin k hk' := by
    rcases List.mem_append.mp hk' with h | h
    · exact D.ksin k h
    · rw [List.mem_singleton.mp h]; exact List.mem_map_of_mem hx
  nod := List.nodup_cons.mpr ⟨fun h => by
    obtain ⟨f, hf, e⟩ := List.mem_map.mp h
    have := D.sub f hf
    rw [show f.x.key = x.key from e] at this
    exact hk this, D.nod⟩
  sub f hf := by
    rcases List.mem_cons.mp hf with rfl | hf
    · exact List.mem_append_right _ List.mem_cons_self
    · exact List.mem_append_left _ (D.sub f hf)
  dich k hk' := by
    rcases List.mem_append.mp hk' with h | h
    · exact (D.dich k h).imp id (List.mem_cons_of_mem _)
    · rw [List.mem_singleton.mp h]; exact .inr List.mem_cons_self
  tp := D.tp
theorem DInv.step {S : Srt} {f : Fr} {gs : List Fr} {ks fin : List Int} (D : DInv S (f :: gs) ks fin) (h : f.i + 1 ≤ f.x.succ.length) : DInv S (⟨f.x, f.i + 1, f.it, f.b⟩ :: gs) ks fin where
  nds g hg := by
    rcases List.mem_cons.mp hg with rfl | hg
    · exact D.nds f List.mem_cons_self
    · exact D.nds g (List.mem_cons_of_mem _ hg)
  idx g hg := by
    rcases List.mem_cons.mp hg with rfl | hg
    · exact h
    · exact D.idx g (List.mem_cons_of_mem _ hg)
  ksn := D.ksn
  ksin := D.ksin
  nod := D.nod
  sub g hg := by
    rcases List.mem_cons.mp hg with rfl | hg
    · exact D.sub f List.mem_cons_self
    · exact D.sub g (List.mem_cons_of_mem _ hg)
  dich := D.dich
  tp := D.tp
theorem DInv.pop {S : Srt} {f : Fr} {gs : List Fr} {ks fin : List Int} (D : DInv S (f :: gs) ks fin) (h : ∀ s ∈ f.x.succ, s ∈ fin) : DInv S gs ks (fin ++ [f.x.key]) where
  nds g hg := D.nds g (List.mem_cons_of_mem _ hg)
  idx g hg := D.idx g (List.mem_cons_of_mem _ hg)
  ksn := D.ksn
  ksin := D.ksin
  nod := (List.nodup_cons.mp D.nod).2
  sub g hg := D.sub g (List.mem_cons_of_mem _ hg)
  dich k hk := by
    rcases D.dich k hk with h | h
    · exact .inl (List.mem_append_left _ h)
    · rcases List.mem_cons.mp h with h | h
      · exact .inl (List.mem_append_right _ (by rw [h]; exact List.mem_cons_self))
      · exact .inr h
  tp := .snoc (x := f.x.p) D.tp (List.mem_map_of_mem (D.nds f List.mem_cons_self)) h
section
variable {prog : Program} {w : World} {B : KeyBy prog w Int} {mg mb : Str → Option Value}

theorem cycle_spec {F : Fc} {n : Nat} {S : Srt} {H : AHeap} {l r : List As} (W : Wld (K1 w) F mg mb) (OF : F.Ok (n + 1)) (O : Own1 B H l) (t : Take (.srt S) l r)
    (hn : S.nds.length ≤ 1000) (hcl : ∀ x ∈ S.nds, ∀ s ∈ x.succ, ∃ y ∈ S.nds, y.key = s) (hB : ∀ x ∈ S.nds, x.succ.length ≤ 100000) :
    Calls prog w F (.ref 171) [.ref S.self] H
      (fun v H' => (v = .none ∧ Own1 B H' (.srt S :: r) ∧ S.p.Topo) ∨ (∃ a xs, v = .ref a ∧ xs ≠ [] ∧ xs.length ≤ 10000 ∧ Own1 B H' (.cell a (.list xs) :: .srt S :: r) ∧ S.p.Ring)) (fun _ _ _ => False) := by
  refine Calls.ent (fd := _) (body := _) (names := ["self"]) W OF ⟨⟨_, W.kx _ _ rfl, rfl⟩, rfl, rfl, rfl, codeRec_of W.kx (by rfl), rfl, rfl, by decide +kernel⟩ (fun args' ha => ?_) (by decide) (by decide +kernel) rfl rfl rfl fun F' E U OF' => ?_
  · obtain ⟨a, rfl, _⟩ := one_of ha; rfl
  · obtain ⟨G, O, AG, hG⟩ := (O.take t).freeze
    have O1 := O.thaw AG
    dsimp only at E
    repeat (walk_at "T")
    intro stk H1 hN; have O := Own.new O hN; clear hN
    repeat (walk_at "T")
    intro itl H2 hN; have O := Own.new O hN; clear hN
    repeat (walk_at "T")
    refine CK_setNew (B := B) ?_
    intro sn H3 hN; have O := Own.new O hN; clear hN
    repeat (walk_at "T")
    intro n2s H4 hN; have O := Own.new O hN; clear hN
    repeat (walk_at "T")
    clear O1
    have O : Own1 B H4 (DFl B stk itl sn n2s G [] [] 0 r) := O.perm ((List.reverse_perm [As.cell n2s _, As.cell sn _, As.cell itl _, As.cell stk _]).symm.append_right _)
    obtain ⟨m0, hdn⟩ := AG.dn
    have hm : (As.frag G) ∈ (As.frag G :: r) := List.mem_cons_self
    refine E_forB [(("self" : Str), .ref S.self), (("n2i" : Str), .ref S.dn), (("stack" : Str), .ref stk), (("itstack" : Str), .ref itl), (("seen" : Str), .ref sn), (("node2stacki" : Str), .ref n2s)] E U OF'.hh (fun _ => rfl) (by rfl) ?_
    repeat (walk_at "T")
    refine exi3 (kns B (S.nds.map (·.key))) (.keys (dE B S.es) m0) (fun io H => ∃ ks fin m, Own1 B H (DFl B stk itl sn n2s G [] ks m r) ∧ DInv S [] ks fin ∧ ∀ x ∈ S.nds.take io, x.key ∈ ks) ⟨⟨S.dn, rfl, O.fragAt (by walk_at "mem") _ _ hdn, keysE S⟩, ⟨rfl, rfl, rfl, rfl, rfl, rfl, trivial⟩, ⟨[], [], 0, O, ⟨nofun, nofun, List.nodup_nil, nofun, List.nodup_nil, nofun, nofun, .nil⟩, nofun⟩, ?_, ?_, ?_⟩
    · rintro i H vs hx0_; refine ex3and2 hx0_ fun ks fin m O _ => ?_; try clear hx0_
      exact ⟨S.dn, rfl, O.fragAt (by walk_at "mem") _ _ hdn, keysE S⟩
    · rintro io x0 H hi hx0_; refine ex3and3 hx0_ fun ks fin m O D hdone => ?_; try clear hx0_
      obtain ⟨k0, rfl, hk0⟩ := kns_get hi
      rw [List.getElem?_map] at hk0
      obtain ⟨x00, hx00, rfl⟩ := Option.map_eq_some_iff.mp hk0
      have hx00m : x00 ∈ S.nds := List.mem_of_getElem? hx00
      have htk : S.nds.take (io + 1) = S.nds.take io ++ [x00] := by rw [List.take_add_one, hx00]; rfl
      have hkl := D.kslen
      repeat (walk_at "T")
      refine PK_inS (by walk_at "own") (by walk_at "num") ?_
      refine ⟨_, rfl, fun hin => ?_, fun hin => ?_⟩
      · have hin : x00.key ∈ ks := of_decide_eq_true hin
        repeat (walk_at "T")
        refine ⟨⟨rfl, rfl, rfl, rfl, rfl, rfl, trivial⟩, exi3 ks fin m ⟨O, D, fun x hx => ?_⟩⟩
        rw [htk] at hx
        rcases List.mem_append.mp hx with hx | hx
        · exact hdone x hx
        · rw [List.mem_singleton.mp hx]; exact hin
      have hnin : x00.key ∉ ks := of_decide_eq_false hin
      repeat (walk_at "T")
      refine E_while U (fun n b H => ∃ k fs ks fin m, n = muK S.nds ks + muF fs ∧ b = [(("self" : Str), .ref S.self), (("n2i" : Str), .ref S.dn), (("stack" : Str), .ref stk), (("itstack" : Str), .ref itl), (("seen" : Str), .ref sn), (("node2stacki" : Str), .ref n2s), (("node" : Str), B.val k)] ∧ (∃ x ∈ S.nds, x.key = k) ∧ Own1 B H (DFl B stk itl sn n2s G fs ks m r) ∧ DInv S fs ks fin ∧ Prog fin (some k) fs ∧ Chain k fs ∧ ∀ x ∈ S.nds.take (io + 1), x.key ∈ ks ∨ x.key = k)
        (muK S.nds ks + muF []) ⟨_, ?_, x00.key, [], ks, fin, m, rfl, rfl, ⟨x00, hx00m, rfl⟩, O, D, trivial, trivial, ?_⟩ ?_
      · exact ⟨rfl, rfl, rfl, rfl, rfl, rfl, rfl, trivial⟩
      · intro x hx
        rw [htk] at hx
        rcases List.mem_append.mp hx with hx | hx
        · exact .inl (hdone x hx)
        · rw [List.mem_singleton.mp hx]; exact .inr rfl
      clear O D hdone ks fin m hkl hnin hin
      rintro N b H hx0_; refine ex5and8 hx0_ fun k fs ks fin m hN y6_ y7_ O D hpr hch hseen => ?_; try clear hx0_; obtain rfl := y6_; obtain ⟨xk, hxk, rfl⟩ := y7_
      have hkl := D.kslen
      refine E_isTrueC rfl rfl ⟨fun _ => ?_, nofun⟩
      refine AbsT.mk fun _ _ => ?_
      refine E_ifJ (fun st' => ∃ fs ks fin m, Has st'.vars [(("self" : Str), .ref S.self), (("n2i" : Str), .ref S.dn), (("stack" : Str), .ref stk), (("itstack" : Str), .ref itl), (("seen" : Str), .ref sn), (("node2stacki" : Str), .ref n2s)] ∧ Own1 B st'.H (DFl B stk itl sn n2s G fs ks m r) ∧ DInv S fs ks fin ∧ Prog fin none fs ∧ Chain0 fs ∧ (∀ x ∈ S.nds.take (io + 1), x.key ∈ ks) ∧ muK S.nds ks + muF fs ≤ N) ?_ ?_
      · repeat (walk_at "T")
        refine PK_inS (by walk_at "own") (by walk_at "num") ?_
        refine ⟨_, rfl, fun hin => ?_, fun hin => ?_⟩
        · have hin : xk.key ∈ ks := of_decide_eq_true hin
          repeat (walk_at "T")
          refine PK_inD E (by walk_at "own") ?_
          rw [ents_some]
          refine ⟨_, rfl, fun hst => ?_, fun hst => ?_⟩
          · have hst : xk.key ∈ fkeys fs := of_decide_eq_true hst
            obtain ⟨ix, hix, hixl⟩ := ents_at hst
            repeat (walk_at "T")
            refine ⟨⟨_, rfl, .inr (.inr ⟨_, _, O.get (by walk_at "mem")⟩)⟩, XK_dict (by walk_at "own") hix ?_⟩
            refine exi3 stk _ ix ⟨rfl, rfl, O.get (by walk_at "mem"), by rw [fk_len]; have := D.fslen; walk_at "num", fun b H2 hN2 => ?_⟩
            have O := Own.new O hN2
            clear hN2
            repeat (walk_at "T")
            intro c H3 hN; have O := Own.new O hN; clear hN
            have hl1 : ((kns B (fkeys fs).reverse).drop ix).length ≤ 1000 := by rw [List.length_drop, fk_len]; have := D.fslen; walk_at "num"
            refine B_addL (by walk_at "own") (by walk_at "own") (by simp only [List.length_cons, List.length_nil]; walk_at "num") ?_
            intro d H4 hN; have O := Own.new O hN; clear hN
            have Oe := (O.sub (.cons_cons _ (.cons _ (.cons _ (.cons _ (.cons _ (.cons _ (.cons _ (.cons_cons _ (List.sublist_append_right _ _)))))))))).thaw2 AG
            repeat (walk_at "T")
            refine .inr ⟨d, _, rfl, ?_, ?_, Oe, ring_at D.nds hch hst⟩
            · simp
            · rw [List.length_append]; simp only [List.length_cons, List.length_nil]; walk_at "num"
          · have hst : xk.key ∉ fkeys fs := of_decide_eq_false hst
            repeat (walk_at "T")
            exact exi4 fs ks fin m ⟨⟨rfl, rfl, rfl, rfl, rfl, rfl, trivial⟩, O, D, hpr.into ((D.dich _ hin).resolve_right hst), hch.zero, fun x hx => (hseen x hx).elim id (fun e => e ▸ hin), by walk_at "num"⟩
        · have hin : xk.key ∉ ks := of_decide_eq_false hin
          have hst : xk.key ∉ fkeys fs := fun h => by
            obtain ⟨f, hf, e⟩ := List.mem_map.mp h
            exact hin (by rw [← e]; exact D.sub f hf)
          have hfl := D.fslen
          repeat (walk_at "T")
          refine CK_sadd (by walk_at "own") hin (by walk_at "num") ?_
          intro H2 hN; have O := Own.put (l' := _) O (by walk_at "put") hN; clear hN
          repeat (walk_at "T")
          have O1 : Own1 B H2 (.srt S :: r) := (O.sub (.cons _ (.cons _ (.cons _ (.cons _ (.cons_cons _ (List.sublist_append_right _ _))))))).thaw AG
          refine X_n2i (by exact O1) List.mem_cons_self hxk ?_
          refine A_succ E hxk (by exact O1) List.mem_cons_self ?_
          repeat (walk_at "T")
          refine C_iterL E (by exact O1.sa List.mem_cons_self hxk) ?_
          intro it H3 hN; have O := Own.new O hN; clear hN
          refine A_next (by walk_at "own") ?_
          intro b H4 hN; have O := Own.new O hN; clear hN
          repeat (walk_at "T")
          refine C_append (by walk_at "own") (by rw [fb_len]; walk_at "num") ?_
          intro H5 hN; have O := Own.put (l' := _) O (by walk_at "put") hN; clear hN
          repeat (walk_at "T")
          refine C_len (by walk_at "own") (by rw [fk_len]; walk_at "num") ?_
          rw [fk_len]
          repeat (walk_at "T")
          refine YK_dict (by walk_at "own") (by rw [ents_len]; walk_at "num") ?_
          intro m2 H6 hN
          rw [ents_stored hst] at hN
          have O := Own.put (l' := _) O (by walk_at "put") hN
          clear hN
          repeat (walk_at "T")
          refine C_append (by walk_at "own") (by rw [fk_len]; walk_at "num") ?_
          intro H7 hN; have O := Own.put (l' := _) O (by walk_at "put") hN; clear hN
          repeat (walk_at "T")
          have O' : Own1 B H7 (DFl B stk itl sn n2s G (⟨xk, 0, it, b⟩ :: fs) (ks ++ [xk.key]) m2 r) := by
            rw [DFl, fk_push, fb_push]
            exact O.perm ((List.perm_append_comm (l₁ := [As.cell b _, As.cell it _]) (l₂ := [_, _, _, _, _])).append_right _)
          refine exi4 (⟨xk, 0, it, b⟩ :: fs) (ks ++ [xk.key]) fin m2 ⟨⟨rfl, rfl, rfl, rfl, rfl, rfl, trivial⟩, O', D.push hxk hin it b, ⟨fun j s hj => (nomatch hj), hpr⟩, hch, fun x hx => ?_, ?_⟩
          · rcases hseen x hx with h | h
            · exact List.mem_append_left _ h
            · rw [h]; exact List.mem_append_right _ List.mem_cons_self
          · have := muK_push hin hxk
            have h2 : muF (⟨xk, 0, it, b⟩ :: fs) = xk.succ.length - 0 + 1 + muF fs := by unfold muF; rw [List.map_cons, List.sum_cons]
            exact om2 (by assumption) this h2
      · clear O D hpr hch hseen hkl
        rintro ⟨vs, H⟩ hx0_; refine ex4and7 hx0_ fun fs ks fin m hv O D hpr hch hseen hmu => ?_; try clear hx0_
        refine T.keepVars [(("self" : Str), .ref S.self), (("n2i" : Str), .ref S.dn), (("stack" : Str), .ref stk), (("itstack" : Str), .ref itl), (("seen" : Str), .ref sn), (("node2stacki" : Str), .ref n2s)] hv ?_
        refine E_cons ?_
        refine E_while U (fun n b H => ∃ fs ks fin m, n = fs.length ∧ b = [(("self" : Str), .ref S.self), (("n2i" : Str), .ref S.dn), (("stack" : Str), .ref stk), (("itstack" : Str), .ref itl), (("seen" : Str), .ref sn), (("node2stacki" : Str), .ref n2s)] ∧ Own1 B H (DFl B stk itl sn n2s G fs ks m r) ∧ DInv S fs ks fin ∧ Prog fin none fs ∧ Chain0 fs ∧ (∀ x ∈ S.nds.take (io + 1), x.key ∈ ks) ∧ muK S.nds ks + muF fs ≤ N) fs.length ⟨_, ?hh, fs, ks, fin, m, rfl, rfl, O, D, hpr, hch, hseen, hmu⟩ ?_
        case hh => exact ⟨rfl, rfl, rfl, rfl, rfl, rfl, trivial⟩
        clear O D hpr hch hseen hmu hv fs ks fin m
        rintro n' b H hx0_; refine ex4and8 hx0_ fun fs ks fin m y4_ y5_ O D hpr hch hseen hmu => ?_; try clear hx0_; obtain rfl := y4_; obtain rfl := y5_
        have hfl := D.fslen
        refine E_isName rfl ?_
        repeat (walk_at "T")
        refine U_list (by walk_at "own") (by rw [fk_len]; walk_at "num") ?_
        rw [fk_empty]
        cases fs with
        | nil =>
          refine ⟨(fun h => by cases h), fun _ => ?_⟩
          repeat (walk_at "T")
          exact ⟨⟨rfl, rfl, rfl, rfl, rfl, rfl, trivial⟩, exi3 ks fin m ⟨O, D, hseen⟩⟩
        | cons f gs =>
          refine ⟨fun _ => ?_, fun h => by cases h⟩
          have hitl := O.get (a := itl) (o := .list (fbs (f :: gs)).reverse) (by walk_at "mem")
          rw [fb_push] at hitl
          have hstk := O.get (a := stk) (o := .list (kns B (fkeys (f :: gs)).reverse)) (by walk_at "mem")
          rw [fk_push] at hstk
          have hgl : gs.length ≤ 1000 := by rw [List.length_cons] at hfl; walk_at "num"
          have hfx := D.nds f List.mem_cons_self
          have hsa := O.fragAt (G := G) (by walk_at "mem") _ _ (AG.nds f.x hfx).2.2
          have O : Own1 B H (.cell stk (.list (kns B (fkeys (f :: gs)).reverse)) :: .cell itl (.list (fbs (f :: gs)).reverse) :: .cell sn (B.aset ks) :: .cell n2s (.dict (dE B (ents (f :: gs))) m) :: .frag G :: .cell f.b (.bm "method-wrapper" (.builtin "list_iterator.__next__") (.ref f.it)) :: .cell f.it (.iter f.x.sa f.i) :: (fcells gs ++ r)) := O
          repeat (walk_at "T")
          refine E_try U ?_
          repeat (walk_at "T")
          refine E_callAny0 rfl ?_
          repeat (walk_at "T")
          refine ⟨⟨itl, rfl, .inl ⟨_, hitl⟩⟩, X_last (by exact hitl) (by rw [fb_len]; walk_at "num") ?_⟩
          refine ⟨KF.bm (by walk_at "own") (.inr rfl), C_nextIt OF'.hh (by walk_at "own") (by walk_at "own") (by exact hsa) ?_ ?_⟩
          · intro v hv H2 hN
            obtain ⟨s, rfl, hs⟩ := kns_get hv
            have hil : f.i < f.x.succ.length := (List.getElem?_eq_some_iff.mp hs).1
            have O := Own.put (l' := _) O (by walk_at "put") hN
            clear hN
            repeat (walk_at "T")
            refine exi2 _ _ ⟨?_, ?hh, s, ⟨f.x, f.i + 1, f.it, f.b⟩ :: gs, ks, fin, m, rfl, rfl, hcl f.x hfx s (List.mem_of_getElem? hs), O, D.step hil, ⟨fun j s' hj hs' => ?_, hpr.2⟩, ⟨List.mem_of_getElem? hs, hch⟩, fun x hx => .inl (hseen x hx)⟩
            case hh => exact ⟨rfl, rfl, rfl, rfl, rfl, rfl, rfl, trivial⟩
            · have h1 : muF (f :: gs) = f.x.succ.length - f.i + 1 + muF gs := by unfold muF; rw [List.map_cons, List.sum_cons]
              have h2 : muF (⟨f.x, f.i + 1, f.it, f.b⟩ :: gs) = f.x.succ.length - (f.i + 1) + 1 + muF gs := by unfold muF; rw [List.map_cons, List.sum_cons]
              exact om1 (by assumption) hil h1 h2
            · have hs' : f.x.succ[j]? = some s' := hs'
              have hj : j < f.i + 1 := hj
              by_cases q : j = f.i
              · subst q; rw [hs] at hs'; exact .inr hs'
              · exact .inl ((hpr.1 j s' (by walk_at "num") hs').resolve_right nofun)
          · intro hx H2 hN
            have hil : f.i = f.x.succ.length := by
              have h1 := List.getElem?_eq_none_iff.mp hx
              rw [kns_len] at h1
              have := D.idx f List.mem_cons_self
              walk_at "num"
            have O := (O.take (.there (.there (.there (.there (.there (.there .here))))))).del
            rw [← hN] at O
            clear hN
            refine E_exceptStop E rfl (by rfl) fun F2 E2 => ?_
            repeat (walk_at "T")
            refine exi3 stk _ _ ⟨rfl, by rw [← fk_push]; exact O.get (by walk_at "mem"), by rw [fk_len]; walk_at "num", ?_⟩
            intro H3 hN; have O := Own.put (l' := _) O (by walk_at "put") hN; clear hN
            refine ZK_dict (by walk_at "own") (by rw [ents_some]; exact decide_eq_true List.mem_cons_self) (by rw [ents_len]; walk_at "num") ?_
            intro m2 H4 hN
            rw [ents_without (List.nodup_cons.mp D.nod).1] at hN
            have O := Own.put (l' := _) O (by walk_at "put") hN
            clear hN
            repeat (walk_at "T")
            refine exi3 itl _ _ ⟨rfl, by rw [← fb_push]; exact O.get (by walk_at "mem"), by rw [fb_len]; walk_at "num", ?_⟩
            intro H5 hN; have O := Own.put (l' := _) O (by walk_at "put") hN; clear hN
            repeat (walk_at "T")
            have O' : Own1 B H5 (DFl B stk itl sn n2s G gs ks m2 r) := O.sub (.cons_cons _ (.cons_cons _ (.cons_cons _ (.cons_cons _ (.cons_cons _ (.cons _ (List.Sublist.refl _)))))))
            refine exi2 gs.length _ ⟨Nat.lt_succ_self _, ?hh, gs, ks, fin ++ [f.x.key], m2, rfl, rfl, O', D.pop fun s hs => ?_, (hpr.2.more fun k hk => List.mem_append_left _ hk).into (List.mem_append_right _ List.mem_cons_self), hch.zero, hseen, ?_⟩
            case hh => exact ⟨rfl, rfl, rfl, rfl, rfl, rfl, trivial⟩
            · obtain ⟨j, hj, rfl⟩ := List.mem_iff_getElem.mp hs
              exact (hpr.1 j _ (by walk_at "num") (List.getElem?_eq_getElem hj)).resolve_right nofun
            · have h1 : muF (f :: gs) = f.x.succ.length - f.i + 1 + muF gs := by unfold muF; rw [List.map_cons, List.sum_cons]
              exact om3 (by assumption) h1
    · rintro H hx0_; refine ex3and3 hx0_ fun ks fin m O D hdone => ?_; try clear hx0_
      repeat (walk_at "T")
      refine .inl ⟨rfl, ?_, fin, D.tp, fun x hx => ?_⟩
      · exact (O.sub (.cons _ (.cons _ (.cons _ (.cons _ (List.Sublist.refl _)))))).thaw AG
      · obtain ⟨z, hz, rfl⟩ := List.mem_map.mp hx
        have : z.key ∈ ks := hdone z (by rw [kns_len, List.length_map, List.take_length]; exact hz)
        exact (D.dich _ this).resolve_right nofun
end
end
section
set_option maxRecDepth 100000
set_option Elab.async false
set_option linter.unusedVariables false
set_option maxHeartbeats 4000000
open PySem PySem.W PySem.Calls PyProof.Rows PySem.SeqAt
noncomputable def PS.frees (P : PS) : List Int := (P.nds.filter fun x => decide (x.np = 0)).map (·.key)
noncomputable def PS.prep (P : PS) : PS := { P with ready := some P.frees }
theorem frees_nds (S : Srt) : S.p.frees = (S.nds.filter fun x => decide (x.np = 0)).map (·.key) := by
  unfold PS.frees Srt.p
  rw [List.filter_map, List.map_map]; rfl
theorem Tp.nds {P P' : PS} (h : P'.nds = P.nds) {l : List Int} (t : Tp P l) : Tp P' l := by
  induction t with
  | nil => exact .nil
  | snoc _ hx hs ih => exact .snoc ih (by rw [h]; exact hx) hs
section
variable {prog : Program} {w : World} {B : KeyBy prog w Int} {mg mb : Str → Option Value}

noncomputable abbrev veBm : List Value := [.type "ValueError", .type "Exception", .type "BaseException", .type "object"]
theorem isNs_own {K : Frag} {h : Heap} {N : Addr} {o : Obj} {es : Array DictEntry} {ep : Nat} (X : K.In h) (q : K.lookup N = some o) (hd : o.data = .dict es ep) (e : (es.toList.all fun e => match e.key with | .str _ _ => true | _ => false) = true) : h.isNs N = true := by
  unfold Heap.isNs
  rw [X _ _ q]
  obtain ⟨c, d, dt, sl⟩ := o
  have hd : dt = .dict es ep := hd
  subst hd
  show (es.all fun e => match e.key with | .str _ _ => true | _ => false) = true
  rw [← Array.all_toList]
  exact e
theorem ns54 {F : Fc} (W : Wld (K1 w) F mg mb) : F.base.isNs 98 = true := isNs_own W.kx (by rfl) rfl (by rfl)
theorem cyc_own {F : Fc} (W : Wld (K1 w) F mg mb) : OwnExc 99 veBm "ValueError.__new__" F.base :=
  ⟨⟨_, _, _, _, _, _, _, _, _, _, _, _, _, _, _, _, _, W.kx 99 _ rfl, .of_isNs (ns54 W), ns_no W.kx (.of_isNs (ns54 W)) (by rfl) (by rfl) (by rfl), .base⟩⟩
theorem prep_spec {F : Fc} {n : Nat} {S : Srt} {H : AHeap} {l r : List As} (W : Wld (K1 w) F mg mb) (OF : F.Ok (n + 2)) (O : Own1 B H l) (t : Take (.srt S) l r) (hr : S.ready = none)
    (hn : S.nds.length ≤ 1000) (hcl : ∀ x ∈ S.nds, ∀ s ∈ x.succ, ∃ y ∈ S.nds, y.key = s) (hB : ∀ x ∈ S.nds, x.succ.length ≤ 100000) :
    Calls prog w F (.ref 136) [.ref S.self] H
      (fun v H' => v = .none ∧ ∃ S' rd, Own1 B H' (.srt S' :: r) ∧ Same S S' ∧ S'.p = S.p.prep ∧ S'.ready = some (rd, S.p.frees) ∧ S.p.Topo)
      (fun c a H' => c = .ref 99 ∧ ∃ S' rd, Own1 B H' (.srt S' :: r) ∧ Same S S' ∧ S'.p = S.p.prep ∧ S'.ready = some (rd, S.p.frees) ∧ S.p.Ring) := by
  refine Calls.ent (fd := _) (body := _) (names := ["self"]) W OF ⟨⟨_, W.kx _ _ rfl, rfl⟩, rfl, rfl, rfl, codeRec_of W.kx (by rfl), rfl, rfl, by decide +kernel⟩ (fun args' ha => ?_) (by decide) (by decide +kernel) rfl rfl rfl fun F' E U OF' => ?_
  · obtain ⟨a, rfl, _⟩ := one_of ha; rfl
  · have O := O.take t
    obtain ⟨G, OGA⟩ := O.freeze
    obtain ⟨m0, hdn⟩ := OGA.2.1.dn
    have hd := OGA.1.fragAt List.mem_cons_self _ _ hdn
    have AG := OGA.2.1
    dsimp only at E
    repeat (walk_at "T")
    refine ⟨_, rfl, (fun h => absurd h (by decide)), fun _ => ?_⟩
    repeat (walk_at "T")
    refine E_listComp (E_listM (α := Nd) E [] none rfl rfl (fun _ => rfl) OF'.hh ?_)
    repeat (walk_at "T")
    refine C_values B E (by exact hd) ?_
    intro va H1 hN
    have O := Own.new OGA.1 hN
    clear hN hd
    have hsrc : ∀ H vs, Own1 B H (.cell va (.vals S.dn) :: .frag G :: r) → Src ⟨vs, H⟩ (.ref va) (S.nds.map fun x => .ref x.a) (.vals S.dn (dE B S.es) m0) := fun H vs O =>
      ⟨va, rfl, O.get (by walk_at "mem"), O.fragAt (by walk_at "mem") _ _ hdn, by unfold dE Srt.es; rw [List.map_map, List.map_map]; rfl⟩
    refine ⟨trivial, exi6 (.vals S.dn (dE B S.es) m0) S.nds (fun x => .ref x.a) (fun H => Own1 B H (.cell va (.vals S.dn) :: .frag G :: r)) (fun x => decide (x.np = 0)) (fun x => B.val x.key) ⟨hsrc _ _ O, by walk_at "num", O, hsrc, ?_, ?_⟩⟩
    · clear O
      intro F2 E2 hF x H hx O
      have O1 := (O.perm (.swap _ _ _)).thaw AG
      repeat (walk_at "T")
      refine ⟨_, rfl, fun h => ?_, fun h => ⟨by simpa using h, trivial, O⟩⟩
      repeat (walk_at "T")
      exact ⟨by simpa using h, rfl, trivial, O⟩
    · clear O
      intro H a H2 O hN
      have O := Own.new O hN
      clear hN
      have e : (S.nds.filter (fun x => decide (x.np = 0))).map (fun x => B.val x.key) = kns B S.p.frees := by rw [frees_nds]; unfold kns; rw [List.map_map]; rfl
      rw [e] at O
      have O' := (O.sub (.cons_cons _ (.cons _ (List.Sublist.refl _)))).thaw2 AG
      clear O
      unfold Handed
      repeat (walk_at "T")
      refine S_rd E (by exact O') ⟨.here, rfl⟩ hr fun H3 O => ?_
      clear O'
      repeat (walk_at "T")
      have hp : ({ S with ready := some (a, S.p.frees) } : Srt).p = S.p.prep := rfl
      have hTop : ({ S with ready := some (a, S.p.frees) } : Srt).p.Topo → S.p.Topo := fun ⟨fin, h1, h2⟩ => ⟨fin, Tp.nds (P := ({ S with ready := some (a, S.p.frees) } : Srt).p) (P' := S.p) rfl h1, h2⟩
      refine C_code ((cycle_spec (S := { S with ready := some (a, S.p.frees) }) E.W OF' O .here hn hcl hB).mono ?_ (fun _ _ _ z => z.elim))
      rintro v H4 (⟨rfl, O, htop⟩ | ⟨ca, xs, rfl, hne, hxl, O, hring⟩)
      · repeat (walk_at "T")
        refine E_isName rfl ?_
        repeat (walk_at "T")
        refine ⟨nofun, fun _ => ?_⟩
        repeat (walk_at "T")
        exact ⟨rfl, exi2 _ a ⟨O, ⟨rfl, rfl, rfl⟩, hp, rfl, hTop htop⟩⟩
      · repeat (walk_at "T")
        refine E_isName rfl ?_
        repeat (walk_at "T")
        refine ⟨fun _ => ?_, fun h => ?_⟩
        · repeat (walk_at "T")
          refine E_raiseOwn2 PySem.F.excBase_ValueError (cyc_own E.W) E OF'.hh rfl (by rfl) rfl rfl ?_
          refine E_joined1 ?_
          repeat (walk_at "T")
          exact ⟨rfl, exi2 _ a ⟨O.tail, ⟨rfl, rfl, rfl⟩, hp, rfl, hring⟩⟩
        · cases xs with
          | nil => exact absurd rfl hne
          | cons _ _ => cases h
end
end
section
set_option maxRecDepth 100000
set_option Elab.async false
set_option linter.unusedVariables false
set_option maxHeartbeats 4000000
open PySem PySem.W PySem.Calls PyProof.Rows PySem.SeqAt
noncomputable def Ext (G G' : AHeap) : Prop := ∀ a o, G a = some o → G' a = some o
theorem Ext.refl (G : AHeap) : Ext G G := fun _ _ e => e
theorem Ext.trans {G G₁ G₂ : AHeap} (h : Ext G G₁) (k : Ext G₁ G₂) : Ext G G₂ := fun a o e => k a o (h a o e)
theorem Ext.upd {G : AHeap} {a : Addr} {o : AO} (h : G a = none) : Ext G (upd G a o) := fun b ob e => upd_keeps h b ob e
section
variable {prog : Program} {w : World} {B : KeyBy prog w Int} {cN cT : Addr} {H : AHeap} {l r : List As}
theorem Put.mid {a : Addr} {o o' : AO} : ∀ {l₁ l₂ : List As}, Put a o' (l₁ ++ .cell a o :: l₂) (l₁ ++ .cell a o' :: l₂)
  | [], _ => .here
  | _ :: l₁, _ => .there (Put.mid (l₁ := l₁))
theorem Own.layAll {G : AHeap} : ∀ {cs : List (Addr × AO)} {r : List As}, Own B cN cT H (cs.map (fun p => As.cell p.1 p.2) ++ .frag G :: r) → ∃ G', Own B cN cT H (.frag G' :: r) ∧ Ext G G' ∧ ∀ p ∈ cs, G' p.1 = some p.2
  | [], _, O => ⟨G, O, .refl _, fun _ hp => absurd hp List.not_mem_nil⟩
  | (a, o) :: cs, r, O => by
    have O1 : Own B cN cT H (cs.map (fun p => As.cell p.1 p.2) ++ .frag G :: (.cell a o :: r)) := O.perm (by
      show ((As.cell a o) :: (cs.map (fun p => As.cell p.1 p.2) ++ .frag G :: r)).Perm _
      refine List.perm_middle.symm.trans (List.Perm.append_left _ (.swap _ _ _)))
    obtain ⟨G', O2, x, h⟩ := Own.layAll O1
    have O3 := O2.perm (.swap _ _ _)
    have hn := O3.layNew
    refine ⟨upd G' a o, O3.lay, x.trans (.upd hn), fun p hp => ?_⟩
    rcases List.mem_cons.mp hp with rfl | hp
    · exact upd_at
    · exact Ext.upd hn _ _ (h p hp)
theorem Own.lay1 {G : AHeap} {a : Addr} {o : AO} (O : Own B cN cT H (.cell a o :: .frag G :: r)) : ∃ G', Own B cN cT H (.frag G' :: r) ∧ Ext G G' ∧ G' a = some o :=
  ⟨_, O.lay, .upd O.layNew, upd_at⟩
end
noncomputable abbrev NL := List (Int × Addr × List Int)
noncomputable def nents (L : NL) : List (Int × Value) := L.map fun e => (e.1, .ref e.2.1)
noncomputable def ncells (L : NL) : List As := L.map fun e => As.cell e.2.1 (.list (nums e.2.2))
noncomputable def npure (L : NL) : List (Int × List Int) := L.map fun e => (e.1, e.2.2)
structure NAt (prog : Program) (w : World) (G : AHeap) (d : Addr) (L : NL) : Prop where
  dict : ∃ n, G d = some (.dict (dE (KI prog w) (nents L)) n)
  list : ∀ e ∈ L, G e.2.1 = some (.list (nums e.2.2))
theorem nents_at {L : NL} (hn : (L.map (·.1)).Nodup) {e : Int × Addr × List Int} (he : e ∈ L) : valueAt (nents L) e.1 = some (.ref e.2.1) := by
  unfold valueAt nents
  induction L with
  | nil => cases he
  | cons z l ih =>
    rw [List.map_cons] at hn ⊢
    obtain ⟨h1, h2⟩ := List.nodup_cons.mp hn
    rw [List.find?_cons]
    rcases List.mem_cons.mp he with rfl | he
    · simp
    · have : z.1 ≠ e.1 := fun q => h1 (by rw [q]; exact List.mem_map_of_mem he)
      have q : decide ((z.1, Value.ref z.2.1).1 = e.1) = false := decide_eq_false this
      rw [q]
      exact ih h2 he
theorem nents_new {L : NL} {k : Int} {a : Addr} (h : k ∉ L.map (·.1)) (xs : List Int) : stored (nents L) k (.ref a) = nents (L ++ [(k, a, xs)]) := by
  unfold stored nents
  rw [if_neg]
  · rw [List.map_append]; rfl
  · rw [Bool.not_eq_true, List.any_eq_false]
    intro p hp e
    obtain ⟨z, hz, rfl⟩ := List.mem_map.mp hp
    exact h (List.mem_map.mpr ⟨z, hz, of_decide_eq_true e⟩)
theorem nkeysE {prog : Program} {w : World} (L : NL) : nums (L.map (·.1)) = (dE (KI prog w) (nents L)).map (·.1) := by
  unfold nums dE nents
  rw [List.map_map, List.map_map, List.map_map]; rfl
section
variable {prog : Program} {w : World} {B : KeyBy prog w Int} {K : Frag} {mg mb : Str → Option Value} {nm : List (Str × NameKind)} {F : Fx} {st : St} {X : Value → List Value → St → Prop} {Q : Value → St → Prop} {pos : Pos} {x : Str} {v : Value}
theorem E_tuple2 {a b : Expr} {k : Nat} (he : starEach [a, b] F.env = [(false, eval a F.env), (false, eval b F.env)])
    (h : T prog w F (eval a F.env) (fun v st₁ => T prog w F (eval b F.env) (fun u st₂ => ∀ t H', New st₂.H t (.tup [v, u]) H' → Q (.ref t) ⟨st₂.vars, H'⟩) X st₁) X st) : T prog w F (eval (.Tuple [a, b] k pos) F.env) Q X st :=
  T_tuple (trees := [(false, eval a F.env), (false, eval b F.env)]) (by rw [he]; rfl) (T_sp1 (h.post fun _ _ q => T_sp1 (q.post fun _ _ q => T_sp0 ⟨by simp, fun t ht => q t _ ⟨ht, rfl⟩⟩)))
theorem E_tuple3 {a b c : Expr} {k : Nat} (he : starEach [a, b, c] F.env = [(false, eval a F.env), (false, eval b F.env), (false, eval c F.env)])
    (h : T prog w F (eval a F.env) (fun v st₁ => T prog w F (eval b F.env) (fun u st₂ => T prog w F (eval c F.env) (fun z st₃ => ∀ t H', New st₃.H t (.tup [v, u, z]) H' → Q (.ref t) ⟨st₃.vars, H'⟩) X st₂) X st₁) X st) : T prog w F (eval (.Tuple [a, b, c] k pos) F.env) Q X st :=
  T_tuple (trees := [(false, eval a F.env), (false, eval b F.env), (false, eval c F.env)]) (by rw [he]; rfl) (T_sp1 (h.post fun _ _ q => T_sp1 (q.post fun _ _ q => T_sp1 (q.post fun _ _ q => T_sp0 ⟨by simp, fun t ht => q t _ ⟨ht, rfl⟩⟩))))
theorem E_list3 {a b c : Expr} (he : starEach [a, b, c] F.env = [(false, eval a F.env), (false, eval b F.env), (false, eval c F.env)])
    (h : T prog w F (eval a F.env) (fun v st₁ => T prog w F (eval b F.env) (fun u st₂ => T prog w F (eval c F.env) (fun z st₃ => ∀ t H', New st₃.H t (.list [v, u, z]) H' → Q (.ref t) ⟨st₃.vars, H'⟩) X st₂) X st₁) X st) : T prog w F (eval (.List [a, b, c] pos) F.env) Q X st :=
  T_list (trees := [(false, eval a F.env), (false, eval b F.env), (false, eval c F.env)]) (by rw [he]; rfl) (T_sp1 (h.post fun _ _ q => T_sp1 (q.post fun _ _ q => T_sp1 (q.post fun _ _ q => T_sp0 ⟨by simp, fun t ht => q t _ ⟨ht, rfl⟩⟩))))
theorem Calls.bound {F : Fc} {a : Addr} {f self : Value} {args : List Value} {H : AHeap} {Q : Value → AHeap → Prop} {X : Value → List Value → AHeap → Prop} (ha : H a = some (.meth f self)) (hself : er self = self) (h : Calls prog w F f (self :: args) H Q X) : Calls prog w F (.ref a) args H Q X := fun s args' e R => by
  obtain ⟨o, ho, hr⟩ := R.cells a _ ha
  have hr : o = methodObj f self := hr
  subst hr
  exact method_call ho (h s (self :: args') (by rw [List.map_cons, hself, e]) R)
noncomputable abbrev bmTree (o : Expr) (name : Str) (apos pos : Pos) (args : List Expr) (env : Env) : Sem Value := do
      let ov ← eval o env
      standAt apos.atName
      let (f, first) ← holding [ov] (do pure (← getAttr ov name true, []))
      callWith pos f first (backTo pos (starEach args env)) []
theorem E_bmL {o b : Expr} {name : Str} {apos p : Pos} (hs : starEach [.Starred b p] F.env = [(true, eval b F.env)]) (he : eval (.Call (.Attribute o name apos) [.Starred b p] [] pos) F.env = bmTree o name apos pos [.Starred b p] F.env)
    (h : T prog w F (eval o F.env) (fun ov st₁ => AttrE prog w F ov name (fun f st₂ => T prog w F (eval b F.env) (fun u st₄ => ∃ xs, Spread st₄ u xs ∧ KF prog w F f st₄ ∧ CallE prog w F f xs Q X st₄) X st₂) X st₁) X st) : T prog w F (eval (.Call (.Attribute o name apos) [.Starred b p] [] pos) F.env) Q X st :=
  T_callMethS (trees := [(true, starTree (eval b F.env) pos)]) (by rw [hs]; rfl) he (h.post fun _ _ q ov' ho => (q ov' ho).post fun _ _ q f' hf => T_callL (q.post fun _ _ ⟨xs, hsp, hk, q⟩ => ⟨xs, hsp, by
    rw [hk.1 f' hf]; exact ⟨hk.2, fun vs' hv => q _ (by rw [List.nil_append, hv])⟩⟩))
theorem A_bound {C d y f : Addr} {es : List (Str × Value)} (E : Ent K mg mb nm F) (hx : st.H y = some (.inst C d)) (hd : st.H d = some (.ns es)) (hl : es.lookup x = none)
    (hg : plainGet K C x = true) (hh : hasDictIn K C = true) (ha : findIn K (.ref C) x = some (some (.ref f))) (hf : isFn K (.ref f) = true)
    (hgf : specialIn K (.ref f) "__get__" = some (some (.builtin "function.__get__"))) (ht : takesIn K (.ref f) = some false) (hc : copiedNames.contains x = false)
    (h : ∀ a H', New st.H a (.meth (.ref f) (.ref y)) H' → Q (.ref a) ⟨st.vars, H'⟩) : AttrE prog w F (.ref y) x Q X st := fun o ho => by
  rw [er_ref ho]; exact T_bound E.W.kx hx hd hl hg hh ha hf hgf ht hc fun a ha => h a _ ⟨ha, rfl⟩
end
end
section
set_option maxRecDepth 100000
set_option Elab.async false
set_option linter.unusedVariables false
set_option maxHeartbeats 4000000
open PySem PySem.W PySem.Calls PyProof.Rows PySem.SeqAt
noncomputable def envN (nm : List (Str × NameKind)) : Env := { (default : Env) with scope := { (default : Scope) with kind := .function, names := nm } }
section
variable {prog : Program} {w : World} {K : Frag} {mg mb : Str → Option Value} {nm : List (Str × NameKind)} {F : Fx} {st : St} {X : Value → List Value → St → Prop} {pos : Pos} {x : Str} {v : Value}
noncomputable def envK (k : ScopeKind) (nm : List (Str × NameKind)) : Env := { (default : Env) with scope := { (default : Scope) with kind := k, names := nm } }
theorem swaps_env (ts : List Expr) (v : Expr) (env : Env) : swappedStores ts v env = swappedStores ts v (envK env.scope.kind env.scope.names) := rfl
theorem swaps_eq (E : Ent K mg mb nm F) (ts : List Expr) (v : Expr) : swappedStores ts v F.env = swappedStores ts v (envN nm) := by
  rw [swaps_env ts v F.env, E.kind, E.names]; rfl
theorem E_assignTup {ts vs : List Expr} {k k' : Nat} {p p' : Pos} {Q : Flow → St → Prop} (E : Ent K mg mb nm F) (hr : swappedStores [.Tuple ts k p] (.Tuple vs k' p') (envN nm) = pure none)
    (h : T prog w F (eval (.Tuple vs k' p') F.env) (fun v st₁ => AssignE prog w F (.Tuple ts k p) v (fun _ => Q .next) X st₁) X st) :
    T prog w F (exec (.Assign [.Tuple ts k p] (.Tuple vs k' p') pos) F.env) Q X st := E_assign1 rfl ((swaps_eq E _ _).trans hr) rfl h
theorem E_assignSw {ts vs : List Expr} {k k' : Nat} {p p' : Pos} {n₁ n₂ : Str} {Q : Flow → St → Prop} (E : Ent K mg mb nm F) (hh : F.A.handled = none) (hr : swappedStores [.Tuple ts k p] (.Tuple vs k' p') (envN nm) = pure (some [n₁, n₂]))
    (h : T prog w F (eval (.Tuple vs k' p') F.env) (fun v st₁ => ∃ t u₁ u₂, v = .ref t ∧ st₁.H t = some (.tup [u₁, u₂]) ∧ StoreE prog w F n₂ u₂ (fun _ st₂ => StoreE prog w F n₁ u₁ (fun _ => Q .next) X st₂) X st₁) X st) :
    T prog w F (exec (.Assign [.Tuple ts k p] (.Tuple vs k' p') pos) F.env) Q X st := fun s R => by
  refine Assign_Tuple_swapped (h.then R (.refl _ _ _ _) fun v s₁ st₁ R₁ A₁ hz => ?_) rfl ((swaps_eq E _ _).trans hr)
  refine ex3and3 hz fun t u₁ u₂ e1 e2 q => ?_
  clear hz
  rw [er_ref e1]
  obtain ⟨items, hi, he⟩ := tup_at R₁.1 e2
  refine ex2and3 (two_of he) fun y₁ y₂ hl h1 h2 => ?_
  have hn : [n₁, n₂].length = items.size := by
    have := congrArg List.length hl
    rw [Array.length_toList] at this
    rw [this]; rfl
  rw [hn]
  refine unpackItems_tuple hh hi fun h' hx => ?_
  have hk : ∀ b o, s₁.heap.get? b = some o → h'.get? b = some o := fun b o e => hx b o (Nat.ne_of_lt (Heap.lt_size e)) e
  have R₂ := R₁.grow (s' := { s₁ with heap := h' }) hk rfl rfl
  have A₂ := A₁.trans (.grow (s' := { s₁ with heap := h' }) _ _ hk)
  rw [hl]
  refine wpAny_assignInOrder_more (bindName_ ((q y₂ h2).then R₂ A₂ fun _ s₃ st₃ R₃ A₃ q => ?_))
  exact wpAny_assignInOrder_more (bindName_ ((q y₁ h1).then R₃ A₃ fun _ s₄ st₄ R₄ A₄ q => wpAny_pure ⟨st₄, R₄, A₄, q⟩))
theorem E_tupAsg (E : Ent K mg mb nm F) {value : Expr} {ts : List Expr} {k : Nat} {p : Pos} {Q : Flow → St → Prop} (hs : swapsWithSole [.Tuple ts k p] value pos.line F.env = pure false) (hw : swappedStores [.Tuple ts k p] value F.env = pure none)
    (h : T prog w F (eval value F.env) (fun v st₁ => AssignE prog w F (.Tuple ts k p) v (fun _ => Q .next) X st₁) X st) :
    T prog w F (exec (.Assign [.Tuple ts k p] value pos) F.env) Q X st := E_assign1 hs hw rfl h
end
end
section
set_option maxRecDepth 100000
set_option Elab.async false
set_option linter.unusedVariables false
set_option maxHeartbeats 4000000
open PySem PySem.W PySem.Calls PyProof.Rows PySem.SeqAt
noncomputable def upTo (n : Int) : List Int := (List.range n.toNat).map fun (i : Nat) => (i : Int)
theorem upTo_src (n : Int) : nums (upTo n) = intsFrom 0 (n - 0).toNat := by
  unfold nums upTo intsFrom
  rw [List.map_map, Int.sub_zero]
  refine List.map_congr_left fun i _ => ?_
  simp
theorem upTo_get {n k : Int} {i : Nat} (h : (upTo n)[i]? = some k) : k = (i : Int) ∧ 0 ≤ k ∧ k < n := by
  unfold upTo at h
  rw [List.getElem?_map] at h
  obtain ⟨j, h1, rfl⟩ := Option.map_eq_some_iff.mp h
  obtain ⟨h2, h3⟩ := List.getElem?_eq_some_iff.mp h1
  rw [List.getElem_range] at h3
  rw [List.length_range] at h2
  omega
theorem upTo_mem {n k : Int} (h : k ∈ upTo n) : 0 ≤ k ∧ k < n := by
  obtain ⟨i, hi⟩ := List.getElem?_of_mem h
  exact (upTo_get hi).2
theorem mem_upTo {n k : Int} (h0 : 0 ≤ k) (h1 : k < n) : k ∈ upTo n := by
  unfold upTo
  exact List.mem_map.mpr ⟨k.toNat, List.mem_range.mpr (by omega), by omega⟩
theorem upTo_len (n : Int) : (upTo n).length = n.toNat := by unfold upTo; simp
theorem upTo_nodup (n : Int) : (upTo n).Nodup := by
  unfold upTo
  exact List.pairwise_map.mpr (List.nodup_range.imp fun h e => h (by omega))
theorem bits_le {k : Int} (h : k.natAbs < 2 ^ 60) : Builtin.Int.intBits k ≤ 64 := by
  unfold Builtin.Int.intBits
  split
  · omega
  · rename_i h0
    have h0 : k ≠ 0 := by simpa using h0
    have : k.natAbs.log2 < 60 := (Nat.log2_lt (by omega)).mpr h
    omega
theorem pow2_ok (n : Nat) (h : n ≤ 9) : ((2 : Int) ^ n ≠ 0) ∧ ((2 : Int) ^ n).natAbs < 1073741824 := by
  have : n = 0 ∨ n = 1 ∨ n = 2 ∨ n = 3 ∨ n = 4 ∨ n = 5 ∨ n = 6 ∨ n = 7 ∨ n = 8 ∨ n = 9 := by omega
  rcases this with rfl | rfl | rfl | rfl | rfl | rfl | rfl | rfl | rfl | rfl <;> decide
theorem tri_ok {k : Int} (h0 : 0 ≤ k) (h1 : k < 5) : 0 ≤ (k * (k - 1)).fdiv 2 ∧ (k * (k - 1)).fdiv 2 ≤ 6 ∧ (k * (k - 1)).natAbs < 100 := by
  have : k = 0 ∨ k = 1 ∨ k = 2 ∨ k = 3 ∨ k = 4 := by omega
  rcases this with rfl | rfl | rfl | rfl | rfl <;> decide
theorem nums_app (a b : List Int) : nums (a ++ b) = nums a ++ nums b := List.map_append
theorem nums_take (a : List Int) (n : Nat) : nums (a.take n) = (nums a).take n := List.map_take
end
section
set_option maxRecDepth 100000
set_option Elab.async false
set_option linter.unusedVariables false
set_option maxHeartbeats 4000000
open PySem PySem.W PySem.Calls PyProof.Rows PySem.SeqAt
noncomputable abbrev Nds := List (Int × List Int)
noncomputable def atN (N : Nds) (k : Int) : List Int := ((N.find? fun e => decide (e.1 = k)).map (·.2)).getD []
noncomputable def setN (N : Nds) (k : Int) (xs : List Int) : Nds := N.map fun e => if e.1 = k then (e.1, xs) else e
noncomputable def pushN (N : Nds) (k x : Int) : Nds := setN N k (atN N k ++ [x])
noncomputable def setL (L : NL) (k : Int) (xs : List Int) : NL := L.map fun e => if e.1 = k then (e.1, e.2.1, xs) else e
theorem setN_keys (N : Nds) (k : Int) (xs : List Int) : (setN N k xs).map (·.1) = N.map (·.1) := by
  unfold setN
  rw [List.map_map]
  refine List.map_congr_left fun e _ => ?_
  simp only [Function.comp]
  split <;> rfl
theorem setL_keys (L : NL) (k : Int) (xs : List Int) : (setL L k xs).map (·.1) = L.map (·.1) := by
  unfold setL
  rw [List.map_map]
  refine List.map_congr_left fun e _ => ?_
  simp only [Function.comp]
  split <;> rfl
theorem setL_nents (L : NL) (k : Int) (xs : List Int) : nents (setL L k xs) = nents L := by
  unfold setL nents
  rw [List.map_map]
  refine List.map_congr_left fun e _ => ?_
  simp only [Function.comp]
  split <;> rfl
theorem setL_pure (L : NL) (k : Int) (xs : List Int) : npure (setL L k xs) = setN (npure L) k xs := by
  unfold setL npure setN
  rw [List.map_map, List.map_map]
  refine List.map_congr_left fun e _ => ?_
  simp only [Function.comp]
  split <;> rfl
theorem npure_keys (L : NL) : (npure L).map (·.1) = L.map (·.1) := by unfold npure; rw [List.map_map]; rfl
theorem nl_uniq {L : NL} (hn : (L.map (·.1)).Nodup) {e e' : Int × Addr × List Int} (he : e ∈ L) (he' : e' ∈ L) (q : e'.1 = e.1) : e' = e := by
  induction L with
  | nil => cases he
  | cons a r ih =>
    have h := List.nodup_cons.mp hn
    have hin : ∀ {z : Int × Addr × List Int} {k : Int}, z ∈ r → z.1 = k → k ∈ r.map (·.1) := fun hz q => q ▸ List.mem_map_of_mem (f := fun z : Int × Addr × List Int => z.1) hz
    rcases List.mem_cons.mp he with rfl | he0
    · rcases List.mem_cons.mp he' with rfl | he1
      · rfl
      · exact absurd (hin he1 q) h.1
    · rcases List.mem_cons.mp he' with rfl | he1
      · exact absurd (hin he0 q.symm) h.1
      · exact ih h.2 he0 he1
theorem npure_at {L : NL} (hn : (L.map (·.1)).Nodup) {e : Int × Addr × List Int} (he : e ∈ L) : atN (npure L) e.1 = e.2.2 := by
  unfold atN npure
  rw [List.find?_map]
  cases h : L.find? ((fun e' : Int × List Int => decide (e'.1 = e.1)) ∘ fun e => (e.1, e.2.2)) with
  | none => exact absurd (decide_eq_true rfl) (List.find?_eq_none.mp h e he)
  | some e' =>
    have h1 := List.mem_of_find?_eq_some h
    have h2 : e'.1 = e.1 := of_decide_eq_true (List.find?_some (p := (fun e' : Int × List Int => decide (e'.1 = e.1)) ∘ fun e : Int × Addr × List Int => (e.1, e.2.2)) h)
    rw [nl_uniq hn he h1 h2]; rfl
theorem nl_get {L : NL} {k : Int} (h : k ∈ L.map (·.1)) : ∃ e ∈ L, e.1 = k := List.mem_map.mp h
theorem setL_split {L1 L2 : NL} {e : Int × Addr × List Int} {xs : List Int} (hn : ((L1 ++ e :: L2).map (·.1)).Nodup) : setL (L1 ++ e :: L2) e.1 xs = L1 ++ (e.1, e.2.1, xs) :: L2 := by
  have hu : ∀ z ∈ L1 ++ L2, z.1 ≠ e.1 := fun z hz q => by
    rw [List.map_append, List.map_cons, List.nodup_append] at hn
    rcases List.mem_append.mp hz with hz | hz
    · exact hn.2.2 _ (List.mem_map_of_mem (f := fun z : Int × Addr × List Int => z.1) hz) _ List.mem_cons_self q
    · exact (List.nodup_cons.mp hn.2.1).1 (q ▸ List.mem_map_of_mem (f := fun z : Int × Addr × List Int => z.1) hz : e.1 ∈ L2.map (·.1))
  unfold setL
  rw [List.map_append, List.map_cons, if_pos rfl]
  congr 1
  · refine (List.map_congr_left fun z hz => ?_).trans (List.map_id L1)
    rw [if_neg (hu z (List.mem_append_left _ hz))]; rfl
  · congr 1
    refine (List.map_congr_left fun z hz => ?_).trans (List.map_id L2)
    rw [if_neg (hu z (List.mem_append_right _ hz))]; rfl
theorem pushL {L : NL} (hn : (L.map (·.1)).Nodup) {e : Int × Addr × List Int} (he : e ∈ L) (x : Int) : npure (setL L e.1 (e.2.2 ++ [x])) = pushN (npure L) e.1 x := by
  rw [setL_pure, pushN, npure_at hn he]
theorem setL_len {L : NL} {k : Int} {xs : List Int} {B : Nat} (h : ∀ e ∈ L, e.2.2.length ≤ B) (hx : xs.length ≤ B) : ∀ e ∈ setL L k xs, e.2.2.length ≤ B := by
  intro e he
  obtain ⟨e', he', rfl⟩ := List.mem_map.mp he
  split
  · exact hx
  · exact h e' he'
section
variable {prog : Program} {w : World} {cN cT : Addr} {H H' : AHeap} {l A : List As} {L : NL} {e : Int × Addr × List Int}
theorem Own.nget (O : Own (KI prog w) cN cT H (A ++ (ncells L ++ l))) (he : e ∈ L) : H e.2.1 = some (.list (nums e.2.2)) :=
  O.get (List.mem_append_right _ (List.mem_append_left _ (List.mem_map_of_mem (f := fun e : Int × Addr × List Int => As.cell e.2.1 (.list (nums e.2.2))) he)))
theorem Put.under {a : Addr} {o' : AO} {l l' : List As} (h : Put a o' l l') : ∀ A : List As, Put a o' (A ++ l) (A ++ l')
  | [] => h
  | _ :: A => .there (Put.under h A)
theorem Own.nset (hn : (L.map (·.1)).Nodup) (O : Own (KI prog w) cN cT H (A ++ (ncells L ++ l))) (he : e ∈ L) {xs : List Int} (hN : H' = upd H e.2.1 (.list (nums xs))) : Own (KI prog w) cN cT H' (A ++ (ncells (setL L e.1 xs) ++ l)) := by
  obtain ⟨L1, L2, rfl⟩ := List.append_of_mem he
  rw [setL_split hn]
  have e1 : ∀ ys, ncells (L1 ++ (e.1, e.2.1, ys) :: L2) ++ l = ncells L1 ++ As.cell e.2.1 (.list (nums ys)) :: (ncells L2 ++ l) := fun ys => by
    unfold ncells
    rw [List.map_append, List.append_assoc, List.map_cons]; rfl
  rw [e1]
  have e2 : ncells (L1 ++ e :: L2) ++ l = ncells L1 ++ As.cell e.2.1 (.list (nums e.2.2)) :: (ncells L2 ++ l) := e1 e.2.2
  rw [e2] at O
  exact Own.put O (Put.mid.under A) hN
end
noncomputable def bitN (told y x : Int) : Bool := (told.fdiv (2 ^ ((y * (y - 1)).fdiv 2 + x).toNat)).fmod 2 == 1
noncomputable def nearX (told y : Int) (N : Nds) (x : Int) : Nds := if bitN told y x then pushN (pushN N x y) y x else N
noncomputable def nearY (told : Int) (N : Nds) (y : Int) : Nds := (upTo y).foldl (nearX told y) N
noncomputable def near (told size : Int) : Nds := (upTo size).foldl (nearY told) ((upTo size).map fun v => (v, []))
noncomputable def joinA (later : List Int) (J : Nds) (a : Int) : Nds := setN J a (atN J a ++ later.filter fun x => !decide (x ∈ atN J a ++ [a]))
structure Sk where
  J : Nds
  U : Nds
  D : List Int
noncomputable def laterOf (J : Nds) (D : List Int) (v : Int) : List Int := (atN J v).filter fun x => !decide (x ∈ D)
noncomputable def skStep (order : List Int) (s : Sk) (v : Int) : Sk :=
  ⟨(laterOf s.J s.D v).foldl (joinA (laterOf s.J s.D v)) s.J, s.U ++ [(v, (order.filter fun a => decide (a ∈ laterOf s.J s.D v)).take 1)], s.D ++ [v]⟩
noncomputable def struckS (N : Nds) (order : List Int) : Sk := order.foldl (skStep order) ⟨N, [], []⟩
noncomputable def srt (l : List Int) : List Int := l.mergeSort
noncomputable def struckJ (N : Nds) (order : List Int) : Nds := (struckS N order).J.map fun e => (e.1, srt e.2)
noncomputable def struckU (N : Nds) (order : List Int) : Nds := (struckS N order).U
noncomputable def ahead (order : List Int) (a b : Int) : List Int := order.take (min (order.idxOf a) (order.idxOf b))
noncomputable def metS (N : Nds) (ah met : List Int) : List Int := met ++ ah.filter fun z => !decide (z ∈ met) && (atN N z).filter (fun x => decide (x ∈ met)) != []
noncomputable def metOf (N : Nds) (ah : List Int) (a : Int) : Nat → List Int
  | 0 => [a]
  | n + 1 => metS N ah (metOf N ah a n)
noncomputable def ledB (N : Nds) (order : List Int) (a b : Int) : Bool := a != b && (atN N b).filter (fun x => decide (x ∈ metOf N (ahead order a b) a (ahead order a b).length)) != []
noncomputable def led (N : Nds) (order : List Int) : Nds := N.map fun e => (e.1, (N.map (·.1)).filter (ledB N order e.1))
noncomputable def maxL : List Int → Int
  | [] => 0
  | [x] => x
  | x :: y :: r => max x (maxL (y :: r))
noncomputable abbrev Lvs := List (Int × Int)
noncomputable def atV (l : Lvs) (k : Int) : Int := ((l.find? fun e => decide (e.1 = k)).map (·.2)).getD 0
noncomputable def lvStep (U : Nds) (l : Lvs) (v : Int) : Lvs := l ++ [(v, maxL (0 :: ((l.map (·.1)).filter fun c => atN U c == [v]).map fun c => atV l c + 1))]
noncomputable def levels (U : Nds) (order : List Int) : Lvs := order.foldl (lvStep U) []
end
section
set_option maxRecDepth 100000
set_option Elab.async false
set_option linter.unusedVariables false
set_option maxHeartbeats 4000000
open PySem PySem.W PySem.Calls PyProof.Rows PySem.SeqAt
section
variable {prog : Program} {w : World} {A : Around} {R : Result → Shared → Prop} {s : Shared} {elt t₁ t₂ i₁ i₂ : Expr} {scope : Scope} {pos : Pos} {it acc : Value} {env : Env}
end
section
variable {prog : Program} {w : World} {F : Fx} {st : St} {s s' s₀ : Shared} {H₀ H H' : AHeap} {X : Value → List Value → St → Prop}
end
end
section
set_option maxRecDepth 100000
set_option Elab.async false
set_option linter.unusedVariables false
set_option maxHeartbeats 4000000
open PySem PySem.W PySem.Calls PyProof.Rows PySem.SeqAt
section
variable {prog : Program} {w : World} {K : Frag} {mg mb : Str → Option Value} {nm : List (Str × NameKind)} {F : Fx} {st : St} {X : Value → List Value → St → Prop} {Q : Value → St → Prop} {pos : Pos} {x₁ x₂ : Str} {v : Value}
end
end
section
set_option maxRecDepth 100000
set_option Elab.async false
set_option linter.unusedVariables false
set_option maxHeartbeats 4000000
open PySem PySem.W PySem.Calls PyProof.Rows PySem.SeqAt
section
variable {prog : Program} {w : World} {F : Fx} {st : St} {X : Value → List Value → St → Prop} {K : Frag} {Q : Value → St → Prop} {pos : Pos} {mg mb : Str → Option Value} {nm : List (Str × NameKind)} {x : Str} {cN cT : Addr}
theorem E_dictL (E : Ent K mg mb nm F) {kx vx iter : Expr} {px : Pos} {scope : Scope} (cv : List (Str × Value)) (u : Option (Value → Sem Unit))
    (hsc : scOk scope nm x = true) (hcv : cvOk scope cv = true) (hs : ∀ x, foldedSetIterable iter F.env x = pure x) (hh : F.A.handled = none)
    (h : T prog w F (eval iter F.env) (fun v st₁ => Has st₁.vars cv ∧ ∃ k ks, ∃ val : Int → List Int, ∃ cs r0, Src st₁ v (nums ks) k ∧ ks.Nodup ∧ ks.length ≤ 1000 ∧ Own (KI prog w) cN cT st₁.H (cs ++ r0) ∧ (∀ r H vs, Own (KI prog w) cN cT H (cs ++ r) → Src ⟨vs, H⟩ v (nums ks) k) ∧
      (∀ F', Ent K mg mb (relabelN scope.names nm) F' → F'.toFc = F.toFc → ∀ y r H, y ∈ ks → Own (KI prog w) cN cT H (cs ++ r) → T prog w F' (eval kx F'.env) (fun kv st₃ => T prog w F' (eval vx F'.env) (fun z st₄ => kv = vI y ∧ ∃ a, z = .ref a ∧ Has st₄.vars cv ∧ Own (KI prog w) cN cT st₄.H (.cell a (.list (nums (val y))) :: (cs ++ r))) NoX st₃) NoX ⟨setV cv x (vI y), H⟩) ∧
      (∀ L d n H', npure L = ks.map (fun k => (k, val k)) → Own (KI prog w) cN cT H' (.cell d (.dict (dE (KI prog w) (nents L)) n) :: (cs ++ (ncells L ++ r0))) → Handed prog w F Q X u d ⟨st₁.vars, H'⟩)) X st) :
    T prog w F (comprehension (.DictComp kx vx [⟨.Name x px, iter, [], 0⟩] scope pos) scope F.env (firstIterPos [⟨.Name x px, iter, [], 0⟩] pos) newDict false (eval iter F.env) u) Q X st := by
  refine E_dictCore E cv u hsc hcv hs hh (h.post fun v st₁ hq => ?_)
  obtain ⟨q0, k, ks, val, cs, r0, q1, q2, q3, q4, q5, q6, q7⟩ := hq
  refine ⟨q0, nums ks, k, fun i acc H => ∃ L, acc = nents L ∧ npure L = (ks.take i).map (fun k => (k, val k)) ∧ Own (KI prog w) cN cT H (cs ++ (ncells L ++ r0)), q1, by rw [nums_len]; omega, ⟨[], rfl, rfl, q4⟩, ?_, ?_, ?_, ?_⟩
  · rintro i acc H vs ⟨L, _, _, O⟩
    exact q5 _ H vs O
  · rintro i acc H ⟨L, rfl, h1, _⟩
    have := congrArg List.length h1
    unfold npure at this
    unfold nents
    rw [List.length_map, List.length_map, List.length_take] at this
    rw [List.length_map]; omega
  · rintro F' E' hF i x' acc H hi ⟨L, rfl, h1, O⟩
    obtain ⟨y, rfl, hy⟩ := nums_get hi
    refine E_tests0 ⟨fun _ => ?_, nofun⟩
    refine (q6 F' E' hF y _ H (List.mem_of_getElem? hy) O).post fun kv st₃ h3 => h3.post fun z st₄ ⟨e1, a, e2, h4, O4⟩ => ?_
    subst e1; subst e2
    refine ⟨y, rfl, fun p hp => ?_, h4, L ++ [(y, a, val y)], ?_, ?_, ?_⟩
    · obtain ⟨z, hz, rfl⟩ := List.mem_map.mp hp
      intro q
      have h3 := congrArg (List.map Prod.fst) h1
      rw [npure_keys, List.map_map] at h3
      have hm : z.1 ∈ ks.take i := by
        have : z.1 ∈ L.map (·.1) := List.mem_map_of_mem (f := fun z : Int × Addr × List Int => z.1) hz
        rw [h3] at this
        obtain ⟨k', hk', e⟩ := List.mem_map.mp this
        exact e ▸ hk'
      have hz1 : z.1 = y := q
      rw [hz1] at hm
      obtain ⟨hl, e⟩ := List.getElem?_eq_some_iff.mp hy
      have e2 : ks = ks.take i ++ ks[i] :: ks.drop (i + 1) := by rw [← List.drop_eq_getElem_cons hl, List.take_append_drop]
      have q2' := q2
      rw [e2] at q2'
      exact (List.nodup_append.mp q2').2.2 _ hm _ List.mem_cons_self e.symm
    · unfold nents; rw [List.map_append]; rfl
    · have : npure (L ++ [(y, a, val y)]) = npure L ++ [(y, val y)] := by unfold npure; rw [List.map_append]; rfl
      rw [this, h1, List.take_add_one, hy, List.map_append]; rfl
    · have e1 : ncells (L ++ [(y, a, val y)]) ++ r0 = ncells L ++ As.cell a (.list (nums (val y))) :: r0 := by
        unfold ncells
        rw [List.map_append, List.append_assoc]; rfl
      rw [e1]
      refine O4.perm ?_
      rw [← List.append_assoc, ← List.append_assoc]
      exact (List.perm_middle (l₁ := cs ++ ncells L)).symm
  · rintro acc H a n H' ⟨L, rfl, h1, O⟩ hN
    rw [nums_len, List.take_length] at h1
    exact q7 L a n H' h1 (Own.new O hN)
theorem E_assignDict {kx vx iter : Expr} {y : Str} {px py : Pos} {ifs : List Expr} {scope : Scope} {cpos : Pos} {Q : Flow → St → Prop} (E : Ent K mg mb nm F)
    (hb : (nm.lookup y == some .local && py.line == cpos.line && !(scope.names.any fun q => q.1 == y && (q.2 == .local || q.2 == .cell))) = true)
    (h : T prog w F (comprehension (.DictComp kx vx [⟨.Name x px, iter, ifs, 0⟩] scope cpos) scope F.env (firstIterPos [⟨.Name x px, iter, ifs, 0⟩] cpos) newDict false (eval iter F.env) (some (assign (.Name y py) F.env))) (fun _ => Q .next) X st) :
    T prog w F (exec (.Assign [.Name y py] (.DictComp kx vx [⟨.Name x px, iter, ifs, 0⟩] scope cpos) pos) F.env) Q X st := T_assignDict (swaps_dict E hb) h
theorem P_eqLI {a b : Addr} {ns ms : List Int} (hl : st.H a = some (.list (nums ns))) (hb : st.H b = some (.list (nums ms))) (hu : F.A.units < 9000) (h : Q (.bool (ns == ms)) st) : CmpE prog w F .Eq (.ref a) (.ref b) Q X st := by
  refine P_eqD (da := .list (ns.map .int)) (db := .list (ms.map .int)) ⟨a, _, rfl, hl, RdAll.nums _ _⟩ ⟨b, _, rfl, hb, RdAll.nums _ _⟩ (lay_nums ns) (lay_nums ms) ?_ ?_
  · have h1 : PyData.depth (.list (ns.map .int)) ≤ 10 := by
      show PyData.depthAll (ns.map .int) + 1 ≤ 10
      rw [depth_nums]; decide
    have : cLine = 9900 := rfl
    omega
  · have : PyData.eqv (.list (ns.map .int)) (.list (ms.map .int)) = (ns == ms) := eqvAll_nums ns ms
    rw [this]; exact h
theorem P_neLI {a b : Addr} {ns ms : List Int} (hl : st.H a = some (.list (nums ns))) (hb : st.H b = some (.list (nums ms))) (hu : F.A.units < 9000) (h : Q (.bool (ns != ms)) st) : CmpE prog w F .NotEq (.ref a) (.ref b) Q X st := by
  refine P_neD (da := .list (ns.map .int)) (db := .list (ms.map .int)) ⟨a, _, rfl, hl, RdAll.nums _ _⟩ ⟨b, _, rfl, hb, RdAll.nums _ _⟩ (lay_nums ns) (lay_nums ms) ?_ ?_
  · have h1 : PyData.depth (.list (ns.map .int)) ≤ 10 := by
      show PyData.depthAll (ns.map .int) + 1 ≤ 10
      rw [depth_nums]; decide
    have : cLine = 9900 := rfl
    omega
  · have : PyData.eqv (.list (ns.map .int)) (.list (ms.map .int)) = (ns == ms) := eqvAll_nums ns ms
    rw [this]; exact h
end
end
section
set_option maxRecDepth 100000
set_option Elab.async false
set_option linter.unusedVariables false
set_option maxHeartbeats 4000000
open PySem PySem.W PySem.Calls PyProof.Rows PySem.SeqAt
section
variable {prog : Program} {w : World} {mg mb : Str → Option Value}

theorem near_spec {F : Fc} {n : Nat} {told size : Int} {H : AHeap} {l : List As} (W : Wld (K1 w) F mg mb) (OF : F.Ok (n + 1)) (O : Own1 (KI prog w) H l) (h0 : 0 ≤ told) (hs : 4 ≤ size ∧ size ≤ 5) :
    Calls prog w F (.ref 190) [vI told, vI size] H
      (fun v H' => ∃ d L G, v = .ref d ∧ Own1 (KI prog w) H' (.frag G :: l) ∧ NAt prog w G d L ∧ npure L = near told size) (fun _ _ _ => False) := by
  refine Calls.ent (fd := _) (body := _) (names := ["told", "size"]) W OF ⟨⟨_, W.kx _ _ rfl, rfl⟩, rfl, rfl, rfl, codeRec_of W.kx (by rfl), rfl, rfl, by decide +kernel⟩ (fun args' ha => ?_) (by decide) (by decide +kernel) rfl rfl rfl fun F' E U OF' => ?_
  · obtain ⟨a, b, rfl, _⟩ := two_of ha; rfl
  · dsimp only at E
    repeat (walk_at "T")
    refine E_dictL (cN := 84) (cT := 181) E [] _ rfl rfl (fun _ => rfl) OF'.hh ?_
    repeat (walk_at "T")
    intro rg H1 hN; have O := Own.new O hN; clear hN
    refine ⟨trivial, exi5 (.rng 0 size) (upTo size) (fun _ => []) ([.cell rg (.rng 0 size)]) l ⟨⟨rg, rfl, O.get (by walk_at "mem"), upTo_src size, by walk_at "num", by walk_at "num", by walk_at "num", by walk_at "num"⟩, upTo_nodup _, by rw [upTo_len]; walk_at "num", O, fun r H vs O => ⟨rg, rfl, O.get (.head _), upTo_src size, by walk_at "num", by walk_at "num", by walk_at "num", by walk_at "num"⟩, ?_, ?_⟩⟩
    · clear O
      intro F2 E2 hF y r H hy O
      have O : Own1 (KI prog w) H (.cell rg (.rng 0 size) :: r) := O
      repeat (walk_at "T")
      intro b H2 hN; have O := Own.new O hN; clear hN
      exact ⟨rfl, b, rfl, trivial, O⟩
    clear O
    intro L0 d m0 H2 hL0 O
    repeat (walk_at "T")
    have O : Own1 (KI prog w) H2 (.cell d (.dict (dE (KI prog w) (nents L0)) m0) :: (ncells L0 ++ l)) := O.sub (.cons_cons _ (.cons _ (List.Sublist.refl _)))
    have hk0 : L0.map (·.1) = upTo size := by
      rw [← npure_keys, hL0, List.map_map]
      exact List.map_id _
    have hl0 : ∀ e ∈ L0, e.2.2.length ≤ 0 := fun e he => by
      have : (e.1, e.2.2) ∈ npure L0 := List.mem_map_of_mem (f := fun e : Int × Addr × List Int => (e.1, e.2.2)) he
      rw [hL0] at this
      obtain ⟨k, _, q⟩ := List.mem_map.mp this
      have : e.2.2 = [] := (congrArg Prod.snd q).symm
      rw [this]; exact Nat.le_refl _
    have hnd := upTo_nodup size
    refine E_forB [(("told" : Str), vI told), (("size" : Str), vI size), (("near" : Str), .ref d)] E U OF'.hh (fun _ => rfl) (by rfl) ?_
    repeat (walk_at "T")
    intro rg H3 hN; have O := Own.new O hN; clear hN
    refine exi3 (nums (upTo size)) (.rng 0 size) (fun i H => ∃ L, Own1 (KI prog w) H (.cell d (.dict (dE (KI prog w) (nents L)) m0) :: .cell rg (.rng 0 size) :: (ncells L ++ l)) ∧ npure L = ((upTo size).take i).foldl (nearY told) ((upTo size).map fun v => (v, [])) ∧ L.map (·.1) = upTo size ∧ ∀ e ∈ L, e.2.2.length ≤ 10 * i) ⟨⟨rg, rfl, O.get (by walk_at "mem"), upTo_src size, by walk_at "num", by walk_at "num", by walk_at "num", by walk_at "num"⟩, ⟨rfl, rfl, rfl, trivial⟩, ⟨L0, O.perm (.swap _ _ _), hL0, hk0, hl0⟩, ?_, ?_, ?_⟩
    · rintro i H vs ⟨L, O, _⟩
      exact ⟨rg, rfl, O.get (by walk_at "mem"), upTo_src size, by walk_at "num", by walk_at "num", by walk_at "num", by walk_at "num"⟩
    · clear O
      rintro i x0 H hi hx0_; refine ex1and4 hx0_ fun L O hL hk hl => ?_; try clear hx0_
      obtain ⟨y, rfl, hy⟩ := nums_get hi
      obtain ⟨hyi, hy0, hy1⟩ := upTo_get hy
      repeat (walk_at "T")
      refine E_forB [(("told" : Str), vI told), (("size" : Str), vI size), (("near" : Str), .ref d), (("y" : Str), vI y)] E U OF'.hh (fun _ => rfl) (by rfl) ?_
      repeat (walk_at "T")
      intro rg2 H4 hN; have O := Own.new O hN; clear hN
      refine exi3 (nums (upTo y)) (.rng 0 y) (fun j H => ∃ L, Own1 (KI prog w) H (.cell d (.dict (dE (KI prog w) (nents L)) m0) :: .cell rg2 (.rng 0 y) :: .cell rg (.rng 0 size) :: (ncells L ++ l)) ∧ npure L = ((upTo y).take j).foldl (nearX told y) (((upTo size).take i).foldl (nearY told) ((upTo size).map fun v => (v, []))) ∧ L.map (·.1) = upTo size ∧ ∀ e ∈ L, e.2.2.length ≤ 10 * i + 2 * j) ⟨⟨rg2, rfl, O.get (by walk_at "mem"), upTo_src y, by walk_at "num", by walk_at "num", by walk_at "num", by walk_at "num"⟩, ⟨rfl, rfl, rfl, rfl, trivial⟩, ⟨L, O.perm (.swap _ _ _), hL, hk, hl⟩, ?_, ?_, ?_⟩
      · rintro i H vs ⟨L, O, _⟩
        exact ⟨rg2, rfl, O.get (by walk_at "mem"), upTo_src y, by walk_at "num", by walk_at "num", by walk_at "num", by walk_at "num"⟩
      · clear O hL hk hl
        rintro j x0 H hj hx0_; refine ex1and4 hx0_ fun L O hL hk hl => ?_; try clear hx0_
        obtain ⟨x, rfl, hx⟩ := nums_get hj
        obtain ⟨hxi, hx0, hx1⟩ := upTo_get hx
        have ht := tri_ok hy0 (by walk_at "num")
        have he0 : 0 ≤ (y * (y - 1)).fdiv 2 + x := by walk_at "num"
        have he9 : ((y * (y - 1)).fdiv 2 + x).toNat ≤ 10 := by walk_at "num"
        have hpw : ((2 : Int) ^ ((y * (y - 1)).fdiv 2 + x).toNat ≠ 0) ∧ ((2 : Int) ^ ((y * (y - 1)).fdiv 2 + x).toNat).natAbs < 1073741824 := by
          rcases Nat.lt_or_ge ((y * (y - 1)).fdiv 2 + x).toNat 10 with h | h
          · exact pow2_ok _ (by walk_at "num")
          · rw [show ((y * (y - 1)).fdiv 2 + x).toNat = 10 by walk_at "num"]; decide
        repeat (walk_at "T")
        refine B_mulI (.of_left (bits_le (by walk_at "num"))) ?_
        repeat (walk_at "T")
        refine B_powI he0 (by
          have : Builtin.Int.intBits 2 = 2 := by decide
          rw [this]; walk_at "num") ?_
        repeat (walk_at "T")
        refine ⟨_, rfl, fun h => ?_, fun h => ?_⟩
        · obtain ⟨e, he, rfl⟩ := nl_get (L := L) (k := x) (by rw [hk]; exact mem_upTo hx0 (by walk_at "num"))
          have hn : (L.map (·.1)).Nodup := by rw [hk]; exact hnd
          have hc := Own.nget (A := [_, _, _]) O he
          have hel := hl e he
          repeat (walk_at "T")
          refine ⟨⟨d, rfl, .inr (.inr ⟨_, _, O.get (by walk_at "mem")⟩)⟩, X_dict (by walk_at "own") (nents_at hn he) ?_⟩
          refine M_append (by exact hc) ?_
          repeat (walk_at "T")
          refine C_append (by exact hc) (by rw [nums_len]; walk_at "num") ?_
          intro H5 hN
          rw [← nums_snoc] at hN
          have O := Own.nset (A := [_, _, _]) hn O he hN
          have hp1 := pushL hn he y
          have hk1 := setL_keys L e.1 (e.2.2 ++ [y])
          have hl1 := setL_len (k := e.1) (xs := e.2.2 ++ [y]) (B := 10 * i + 2 * j + 1) (fun e he => Nat.le_succ_of_le (hl e he)) (by rw [List.length_append, List.length_singleton]; walk_at "num")
          have hne := setL_nents L e.1 (e.2.2 ++ [y])
          generalize setL L e.1 (e.2.2 ++ [y]) = L1 at O hp1 hk1 hl1 hne
          rw [← hne] at O
          have O : Own1 (KI prog w) H5 (.cell d (.dict (dE (KI prog w) (nents L1)) m0) :: .cell rg2 (.rng 0 y) :: .cell rg (.rng 0 size) :: (ncells L1 ++ l)) := O
          clear hN hc
          obtain ⟨e2, he2, he2y⟩ := nl_get (L := L1) (k := y) (by rw [hk1, hk]; exact mem_upTo hy0 (by walk_at "num"))
          have hn1 : (L1.map (·.1)).Nodup := by rw [hk1, hk]; exact hnd
          have hc := Own.nget (A := [_, _, _]) O he2
          have hel2 := hl1 e2 he2
          have hv2 := nents_at hn1 he2
          rw [he2y] at hv2
          repeat (walk_at "T")
          refine ⟨⟨d, rfl, .inr (.inr ⟨_, _, O.get (by walk_at "mem")⟩)⟩, X_dict (by walk_at "own") hv2 ?_⟩
          refine M_append (by exact hc) ?_
          repeat (walk_at "T")
          refine C_append (by exact hc) (by rw [nums_len]; walk_at "num") ?_
          intro H6 hN
          rw [← nums_snoc] at hN
          have O := Own.nset (A := [_, _, _]) hn1 O he2 hN
          have hp2 := pushL hn1 he2 e.1
          repeat (walk_at "T")
          refine ⟨⟨rfl, rfl, rfl, rfl, trivial⟩, setL L1 e2.1 (e2.2.2 ++ [e.1]), ?_, ?_, ?_, ?_⟩
          · rw [setL_nents]; exact O
          · rw [hp2, hp1, hL, he2y, List.take_add_one, hx, List.foldl_append]
            exact (if_pos (c := bitN told y e.1 = true) h).symm
          · rw [setL_keys, hk1, hk]
          · exact setL_len (fun e he => by have := hl1 e he; walk_at "num") (by rw [List.length_append, List.length_singleton]; walk_at "num")
        · repeat (walk_at "T")
          refine ⟨⟨rfl, rfl, rfl, rfl, trivial⟩, L, O, ?_, hk, fun e he => by have := hl e he; walk_at "num"⟩
          rw [hL, List.take_add_one, hx, List.foldl_append]
          exact (if_neg (c := bitN told y x = true) (by unfold bitN; rw [h]; exact Bool.false_ne_true)).symm
      · clear O hL hk hl
        rintro H hx0_; refine ex1and4 hx0_ fun L O hL hk hl => ?_; try clear hx0_
        rw [nums_len, List.take_length] at hL
        rw [nums_len, upTo_len] at hl
        repeat (walk_at "T")
        refine ⟨⟨rfl, rfl, rfl, trivial⟩, L, O.sub (.cons_cons _ (.cons _ (List.Sublist.refl _))), ?_, hk, fun e he => by have := hl e he; walk_at "num"⟩
        rw [hL, List.take_add_one, hy, List.foldl_append]; rfl
    · clear O
      rintro H hx0_; refine ex1and4 hx0_ fun L O hL hk hl => ?_; try clear hx0_
      rw [nums_len, List.take_length] at hL
      repeat (walk_at "T")
      have O1 := (O.sub (.cons_cons _ (.cons _ (List.Sublist.refl _)))).frag0
      have O2 : Own1 (KI prog w) H (((d, AO.dict (dE (KI prog w) (nents L)) m0) :: L.map fun e => (e.2.1, AO.list (nums e.2.2))).map (fun p => As.cell p.1 p.2) ++ .frag noF :: l) := by
        rw [List.map_cons, List.map_map]
        exact O1.perm (List.perm_middle (l₁ := As.cell d (.dict (dE (KI prog w) (nents L)) m0) :: ncells L)).symm
      obtain ⟨G, O3, _, hG⟩ := O2.layAll
      exact exi3 d L G ⟨rfl, O3, ⟨⟨m0, hG _ List.mem_cons_self⟩, fun e he => hG (e.2.1, _) (List.mem_cons_of_mem _ (List.mem_map_of_mem he))⟩, hL⟩
end
end
section
set_option maxRecDepth 100000
set_option Elab.async false
set_option linter.unusedVariables false
set_option maxHeartbeats 4000000
open PySem PySem.W PySem.Calls PyProof.Rows PySem.SeqAt
structure GoodN (ks : List Int) (N : Nds) : Prop where
  keys : N.map (·.1) = ks
  nd : ∀ e ∈ N, e.2.Nodup
  sub : ∀ e ∈ N, ∀ a ∈ e.2, a ∈ ks
theorem atN_good {ks : List Int} {N : Nds} (g : GoodN ks N) (k : Int) : (atN N k).Nodup ∧ ∀ a ∈ atN N k, a ∈ ks := by
  unfold atN
  cases h : N.find? fun e => decide (e.1 = k) with
  | none => exact ⟨List.nodup_nil, fun a ha => absurd ha List.not_mem_nil⟩
  | some e =>
    have h1 := List.mem_of_find?_eq_some h
    exact ⟨g.nd e h1, g.sub e h1⟩
theorem setN_good {ks : List Int} {N : Nds} (g : GoodN ks N) (k : Int) {xs : List Int} (h1 : xs.Nodup) (h2 : ∀ a ∈ xs, a ∈ ks) : GoodN ks (setN N k xs) where
  keys := by rw [setN_keys, g.keys]
  nd e he := by
    obtain ⟨e', he', rfl⟩ := List.mem_map.mp he
    split
    · exact h1
    · exact g.nd e' he'
  sub e he := by
    obtain ⟨e', he', rfl⟩ := List.mem_map.mp he
    split
    · exact h2
    · exact g.sub e' he'
theorem later_good {ks : List Int} {J : Nds} (g : GoodN ks J) (D : List Int) (v : Int) : (laterOf J D v).Nodup ∧ ∀ a ∈ laterOf J D v, a ∈ ks :=
  ⟨(atN_good g v).1.filter _, fun a ha => (atN_good g v).2 a (List.mem_filter.mp ha).1⟩
theorem join_list {ks later xs : List Int} {a : Int} (h1 : later.Nodup) (h2 : ∀ x ∈ later, x ∈ ks) (h3 : xs.Nodup) (h4 : ∀ x ∈ xs, x ∈ ks) :
    (xs ++ later.filter fun x => !decide (x ∈ xs ++ [a])).Nodup ∧ ∀ x ∈ xs ++ later.filter (fun x => !decide (x ∈ xs ++ [a])), x ∈ ks := by
  refine ⟨List.nodup_append.mpr ⟨h3, h1.filter _, fun x hx y hy q => ?_⟩, fun x hx => ?_⟩
  · subst q
    have := (List.mem_filter.mp hy).2
    rw [decide_eq_true (List.mem_append_left _ hx)] at this
    exact absurd this (by decide)
  · rcases List.mem_append.mp hx with hx | hx
    · exact h4 x hx
    · exact h2 x (List.mem_filter.mp hx).1
theorem joinA_good {ks later : List Int} {J : Nds} (h1 : later.Nodup) (h2 : ∀ x ∈ later, x ∈ ks) (g : GoodN ks J) (a : Int) : GoodN ks (joinA later J a) := by
  have h := join_list (a := a) h1 h2 (atN_good g a).1 (atN_good g a).2
  exact setN_good g a h.1 h.2
theorem joins_good {ks later : List Int} (h1 : later.Nodup) (h2 : ∀ x ∈ later, x ∈ ks) : ∀ (xs : List Int) {J : Nds}, GoodN ks J → GoodN ks (xs.foldl (joinA later) J)
  | [], _, g => g
  | x :: r, _, g => joins_good h1 h2 r (joinA_good h1 h2 g x)
theorem sk_good {ks order : List Int} {s : Sk} (g : GoodN ks s.J) (v : Int) : GoodN ks (skStep order s v).J :=
  joins_good (later_good g s.D v).1 (later_good g s.D v).2 _ g
theorem sks_good {ks order : List Int} : ∀ (xs : List Int) {s : Sk}, GoodN ks s.J → GoodN ks (xs.foldl (skStep order) s).J
  | [], _, g => g
  | x :: r, _, g => sks_good r (sk_good g x)
theorem sks_U {order : List Int} : ∀ (xs : List Int) {s : Sk}, (xs.foldl (skStep order) s).U.map (·.1) = s.U.map (·.1) ++ xs
  | [], s => (List.append_nil _).symm
  | x :: r, s => by
    show (r.foldl (skStep order) (skStep order s x)).U.map (·.1) = _
    rw [sks_U r]
    show (s.U ++ [(x, (order.filter fun a => decide (a ∈ laterOf s.J s.D x)).take 1)]).map (·.1) ++ r = _
    rw [List.map_append, List.append_assoc]; rfl
theorem sks_D {order : List Int} : ∀ (xs : List Int) {s : Sk}, (xs.foldl (skStep order) s).D = s.D ++ xs
  | [], s => (List.append_nil _).symm
  | x :: r, s => by
    show (r.foldl (skStep order) (skStep order s x)).D = _
    rw [sks_D r]
    show (s.D ++ [x]) ++ r = _
    rw [List.append_assoc]; rfl
theorem good_len {ks : List Int} {N : Nds} (g : GoodN ks N) {e : Int × List Int} (he : e ∈ N) : e.2.length ≤ ks.length := nodup_len (g.nd e he) (g.sub e he)
theorem goodL_len {ks : List Int} {L : NL} (g : GoodN ks (npure L)) {e : Int × Addr × List Int} (he : e ∈ L) : e.2.2.length ≤ ks.length :=
  good_len g (e := (e.1, e.2.2)) (List.mem_map_of_mem (f := fun e : Int × Addr × List Int => (e.1, e.2.2)) he)
theorem goodL_keys {ks : List Int} {L : NL} (g : GoodN ks (npure L)) : L.map (·.1) = ks := by rw [← npure_keys, g.keys]
theorem srt_is {l l' : List Int} (h : l'.Perm l) (hs : l'.Pairwise (· ≤ ·)) : l' = srt l := by
  unfold srt
  refine (h.trans (List.mergeSort_perm l _).symm).eq_of_pairwise (le := (· ≤ ·)) (fun a b _ _ h1 h2 => Int.le_antisymm h1 h2) hs ?_
  have := List.pairwise_mergeSort (le := fun a b : Int => decide (a ≤ b)) (fun a b c h1 h2 => by simp at *; omega) (fun a b => by simp; omega) l
  exact this.imp fun h => by simpa using h
end
section
set_option maxRecDepth 100000
set_option Elab.async false
set_option linter.unusedVariables false
set_option maxHeartbeats 4000000
open PySem PySem.W PySem.Calls PyProof.Rows PySem.SeqAt
theorem NAt.mono {prog : Program} {w : World} {G G' : AHeap} {d : Addr} {L : NL} (h : NAt prog w G d L) (x : Ext G G') : NAt prog w G' d L := ⟨h.dict.imp fun _ q => x _ _ q, fun e he => x _ _ (h.list e he)⟩
theorem Own.layN {prog : Program} {w : World} {cN cT : Addr} {H G : AHeap} {l : List As} {d : Addr} {L : NL} {m : Nat} (O : Own (KI prog w) cN cT H (.cell d (.dict (dE (KI prog w) (nents L)) m) :: (ncells L ++ .frag G :: l))) : ∃ G', Own (KI prog w) cN cT H (.frag G' :: l) ∧ Ext G G' ∧ NAt prog w G' d L := by
  have O2 : Own (KI prog w) cN cT H (((d, AO.dict (dE (KI prog w) (nents L)) m) :: L.map fun e => (e.2.1, AO.list (nums e.2.2))).map (fun p => As.cell p.1 p.2) ++ .frag G :: l) := by
    rw [List.map_cons, List.map_map]
    exact O
  obtain ⟨G', O3, x, hG⟩ := O2.layAll
  exact ⟨G', O3, x, ⟨m, hG _ List.mem_cons_self⟩, fun e he => hG (e.2.1, _) (List.mem_cons_of_mem _ (List.mem_map_of_mem he))⟩
section
variable {prog : Program} {w : World} {mg mb : Str → Option Value}

theorem struck_spec {F : Fc} {n : Nat} {d oa : Addr} {L : NL} {G H : AHeap} {l r : List As} {ks order : List Int} (W : Wld (K1 w) F mg mb) (OF : F.Ok (n + 5)) (O : Own1 (KI prog w) H l) (t : Take (.frag G) l r) (hG : NAt prog w G d L) (g : GoodN ks (npure L)) (hks : ks.Nodup) (h5 : ks.length ≤ 10)
    (hord : G oa = some (.list (nums order))) (hon : order.Nodup) (hos : ∀ v ∈ order, v ∈ ks) :
    Calls prog w F (.ref 195) [.ref d, .ref oa] H
      (fun v H' => ∃ t jd J ud U G', v = .ref t ∧ Own1 (KI prog w) H' (.frag G' :: r) ∧ Ext G G' ∧ G' t = some (.tup [.ref jd, .ref ud]) ∧ NAt prog w G' jd J ∧ npure J = struckJ (npure L) order ∧ NAt prog w G' ud U ∧ npure U = struckU (npure L) order) (fun _ _ _ => False) := by
  refine Calls.ent (fd := _) (body := _) (names := ["near", "order"]) W OF ⟨⟨_, W.kx _ _ rfl, rfl⟩, rfl, rfl, rfl, codeRec_of W.kx (by rfl), rfl, rfl, by decide +kernel⟩ (fun args' ha => ?_) (by decide) (by decide +kernel) rfl rfl rfl fun F' E U' OF' => ?_
  · obtain ⟨a, b, rfl, _⟩ := two_of ha; rfl
  · dsimp only at E
    have O := O.take t
    obtain ⟨m0, hdd⟩ := hG.dict
    have hLn : (L.map (·.1)).Nodup := by rw [goodL_keys g]; exact hks
    have hLl : L.length ≤ 10 := by
      have := congrArg List.length (goodL_keys g)
      rw [List.length_map] at this; walk_at "num"
    have hol : order.length ≤ 10 := Nat.le_trans (nodup_len hon hos) h5
    repeat (walk_at "T")
    refine T_dictComp (E_dictL (cN := 84) (cT := 181) E [(("near" : Str), .ref d)] none rfl rfl (fun _ => rfl) OF'.hh ?_)
    repeat (walk_at "T")
    have hun := OF'.units
    refine ⟨⟨rfl, trivial⟩, exi5 (.keys (dE (KI prog w) (nents L)) m0) (L.map (·.1)) (fun k => atN (npure L) k) ([.frag G]) r ⟨⟨d, rfl, O.fragAt (.head _) _ _ hdd, nkeysE L⟩, hLn, by rw [List.length_map]; walk_at "num", O, fun r H vs O => ⟨d, rfl, O.fragAt (.head _) _ _ hdd, nkeysE L⟩, ?_, ?_⟩⟩
    · clear O
      intro F2 E2 hF y r H hy O
      have O : Own1 (KI prog w) H (.frag G :: r) := O
      obtain ⟨e, he, rfl⟩ := nl_get hy
      have hel := goodL_len g he
      repeat (walk_at "T")
      refine E_listM (α := Int) E2 [] none rfl rfl (fun _ => rfl) (by rw [show F2.A = F'.A from congrArg Fc.A hF]; exact OF'.hh) ?_
      repeat (walk_at "T")
      refine ⟨⟨d, rfl, .inr (.inr ⟨_, _, O.fragAt (.head _) _ _ hdd⟩)⟩, X_dict (by exact O.fragAt (.head _) _ _ hdd) (nents_at hLn he) ?_⟩
      refine ⟨trivial, exi6 .list e.2.2 vI (fun H => Own1 (KI prog w) H (.frag G :: r)) (fun _ => true) vI ⟨⟨_, rfl, O.fragAt (.head _) _ _ (hG.list e he)⟩, by walk_at "num", O, fun H vs O => ⟨_, rfl, O.fragAt (.head _) _ _ (hG.list e he)⟩, ?_, ?_⟩⟩
      · clear O
        intro F3 E3 hF3 x H hx O
        repeat (walk_at "T")
        refine ⟨fun _ => ?_, nofun⟩
        repeat (walk_at "T")
        exact ⟨rfl, rfl, trivial, O⟩
      clear O
      intro H b H2 O hN
      have O := Own.new O hN
      clear hN
      rw [PyProof.Rows.filter_all] at O
      repeat (walk_at "T")
      refine ⟨rfl, b, rfl, ⟨rfl, trivial⟩, ?_⟩
      have O : Own1 (KI prog w) H2 (.cell b (.list (nums (atN (npure L) e.1))) :: .frag G :: r) := by rw [npure_at hLn he]; exact O
      exact O
    clear O
    intro J0 jd mj H1 hJ0 O
    have O : Own1 (KI prog w) H1 (.cell jd (.dict (dE (KI prog w) (nents J0)) mj) :: .frag G :: (ncells J0 ++ r)) := O
    have hJp : npure J0 = npure L := by
      rw [hJ0, List.map_map]
      show L.map _ = L.map _
      refine List.map_congr_left fun e he => ?_
      simp only [Function.comp]
      rw [npure_at hLn he]
    repeat (walk_at "T")
    intro ud H2 hN; have O := Own.new O hN; clear hN
    repeat (walk_at "T")
    intro dn H3 hN; have O := Own.new O hN; clear hN
    repeat (walk_at "T")
    intro tp H4 hN; have O := Own.new O hN; clear hN
    repeat (walk_at "T")
    have O : Own1 (KI prog w) H4 (.cell dn (.list (nums [])) :: .cell ud (.dict (dE (KI prog w) (nents [])) 0) :: .cell jd (.dict (dE (KI prog w) (nents J0)) mj) :: .frag G :: (ncells J0 ++ (ncells [] ++ r))) := O.tail
    refine E_forB [(("near" : Str), .ref d), (("order" : Str), .ref oa), (("joined" : Str), .ref jd), (("upper" : Str), .ref ud), (("done" : Str), .ref dn)] E U' OF'.hh (fun _ => rfl) (by rfl) ?_
    repeat (walk_at "T")
    refine exi3 (nums order) .list (fun i H => ∃ J U mu, Own1 (KI prog w) H (.cell dn (.list (nums (order.take i))) :: .cell ud (.dict (dE (KI prog w) (nents U)) mu) :: .cell jd (.dict (dE (KI prog w) (nents J)) mj) :: .frag G :: (ncells J ++ (ncells U ++ r))) ∧ (⟨npure J, npure U, order.take i⟩ : Sk) = (order.take i).foldl (skStep order) ⟨npure L, [], []⟩) ⟨⟨oa, rfl, O.fragAt (by walk_at "mem") _ _ hord⟩, ⟨rfl, rfl, rfl, rfl, rfl, trivial⟩, ⟨J0, [], 0, O, by rw [hJp]; rfl⟩, ?_, ?_, ?_⟩
    · rintro i H vs hx0_; refine ex3and2 hx0_ fun J U mu O _ => ?_; try clear hx0_
      exact ⟨oa, rfl, O.fragAt (by walk_at "mem") _ _ hord⟩
    · clear O hJ0 hJp
      rintro i x0 H hi hx0_; refine ex3and2 hx0_ fun J U mu O hs => ?_; try clear hx0_
      obtain ⟨v, rfl, hv⟩ := nums_get hi
      have hvo := List.mem_of_getElem? hv
      have hil : i < order.length := (List.getElem?_eq_some_iff.mp hv).1
      have gJ : GoodN ks (npure J) := by
        have := sks_good (order := order) (order.take i) (s := ⟨npure L, [], []⟩) g
        rw [← hs] at this; exact this
      have hUk : U.map (·.1) = order.take i := by
        have := sks_U (order := order) (order.take i) (s := ⟨npure L, [], []⟩)
        rw [← hs] at this
        rw [← npure_keys]; exact this
      have hJn : (J.map (·.1)).Nodup := by rw [goodL_keys gJ]; exact hks
      obtain ⟨e, he, rfl⟩ := nl_get (L := J) (k := v) (by rw [goodL_keys gJ]; exact hos v hvo)
      have hel := goodL_len gJ he
      have hc := O.get (a := e.2.1) (o := .list (nums e.2.2)) (List.mem_append_right [_, _, _, _] (List.mem_append_left _ (List.mem_map_of_mem (f := fun e : Int × Addr × List Int => As.cell e.2.1 (.list (nums e.2.2))) he)))
      repeat (walk_at "T")
      refine ⟨⟨jd, rfl, .inr (.inr ⟨_, _, O.get (by walk_at "mem")⟩)⟩, X_dict (by walk_at "own") (nents_at hJn he) ?_⟩
      repeat (walk_at "T")
      refine C_code ((filter_own (n := n) (xs := nums e.2.2) (ys := nums (order.take i)) (dxs := e.2.2.map .int) (dys := (order.take i).map .int) E.W OF' O (.inl hc) (O.get (by walk_at "mem")) (RdAll.nums _ _) (RdAll.nums _ _) (lay_nums _) (lay_nums _) (by rw [nums_len]; walk_at "num")).mono ?_ (fun _ _ _ z => z.elim))
      rintro vx H2 ⟨lt, rfl, O⟩
      rw [filt_nums] at O
      have hlat : (e.2.2.filter fun n => !decide (n ∈ order.take i)) = laterOf (npure J) (order.take i) e.1 := by
        unfold laterOf
        rw [npure_at hJn he]
      rw [hlat] at O
      have glat := later_good gJ (order.take i) e.1
      have hstep : skStep order ⟨npure J, npure U, order.take i⟩ e.1 = ⟨(laterOf (npure J) (order.take i) e.1).foldl (joinA (laterOf (npure J) (order.take i) e.1)) (npure J), npure U ++ [(e.1, (order.filter fun a => decide (a ∈ laterOf (npure J) (order.take i) e.1)).take 1)], order.take i ++ [e.1]⟩ := rfl
      generalize laterOf (npure J) (order.take i) e.1 = later at O glat hstep
      have hll : later.length ≤ 10 := Nat.le_trans (nodup_len glat.1 glat.2) h5
      clear hc hlat
      repeat (walk_at "T")
      refine E_forB [(("near" : Str), .ref d), (("order" : Str), .ref oa), (("joined" : Str), .ref jd), (("upper" : Str), .ref ud), (("done" : Str), .ref dn), (("v" : Str), vI e.1), (("later" : Str), .ref lt)] E U' OF'.hh (fun _ => rfl) (by rfl) ?_
      repeat (walk_at "T")
      refine exi3 (nums later) .list (fun j H => ∃ J', Own1 (KI prog w) H (.cell lt (.list (nums later)) :: .cell dn (.list (nums (order.take i))) :: .cell ud (.dict (dE (KI prog w) (nents U)) mu) :: .cell jd (.dict (dE (KI prog w) (nents J')) mj) :: .frag G :: (ncells J' ++ (ncells U ++ r))) ∧ npure J' = (later.take j).foldl (joinA later) (npure J)) ⟨⟨lt, rfl, O.get (by walk_at "mem")⟩, ⟨rfl, rfl, rfl, rfl, rfl, rfl, rfl, trivial⟩, ⟨J, O, rfl⟩, ?_, ?_, ?_⟩
      · rintro j H vs ⟨J', O, _⟩
        exact ⟨lt, rfl, O.get (by walk_at "mem")⟩
      · clear O
        rintro j x0 H hj ⟨J', O, hJ'⟩
        obtain ⟨a, rfl, ha⟩ := nums_get hj
        have hal := List.mem_of_getElem? ha
        have gJ' : GoodN ks (npure J') := by rw [hJ']; exact joins_good glat.1 glat.2 _ gJ
        have hJn' : (J'.map (·.1)).Nodup := by rw [goodL_keys gJ']; exact hks
        obtain ⟨e2, he2, rfl⟩ := nl_get (L := J') (k := a) (by rw [goodL_keys gJ']; exact glat.2 a hal)
        have hel2 := goodL_len gJ' he2
        have hm2 : ∀ {A : List As}, As.cell e2.2.1 (.list (nums e2.2.2)) ∈ A ++ (ncells J' ++ (ncells U ++ r)) := List.mem_append_right _ (List.mem_append_left _ (List.mem_map_of_mem (f := fun e : Int × Addr × List Int => As.cell e.2.1 (.list (nums e.2.2))) he2))
        repeat (walk_at "T")
        refine ⟨⟨jd, rfl, .inr (.inr ⟨_, _, O.get (by walk_at "mem")⟩)⟩, X_dict (by walk_at "own") (nents_at hJn' he2) ?_⟩
        refine M_extend (by exact O.get (hm2 (A := [_, _, _, _, _]))) ?_
        repeat (walk_at "T")
        refine ⟨⟨jd, rfl, .inr (.inr ⟨_, _, O.get (by walk_at "mem")⟩)⟩, X_dict (by walk_at "own") (nents_at hJn' he2) ?_⟩
        repeat (walk_at "T")
        intro c H6 hN; have O := Own.new O hN; clear hN
        refine B_addL (by exact O.get (hm2 (A := [_, _, _, _, _, _]))) (by walk_at "own") (by rw [nums_len, List.length_singleton]; walk_at "num") ?_
        intro c2 H7 hN; have O := Own.new O hN; clear hN
        rw [← nums_snoc] at O
        repeat (walk_at "T")
        refine C_code ((filter_own (n := n) (xs := nums later) (ys := nums (e2.2.2 ++ [e2.1])) (dxs := later.map .int) (dys := (e2.2.2 ++ [e2.1]).map .int) E.W OF' O (.inl (O.get (by walk_at "mem"))) (O.get (by walk_at "mem")) (RdAll.nums _ _) (RdAll.nums _ _) (lay_nums _) (lay_nums _) (by rw [nums_len]; walk_at "num")).mono ?_ (fun _ _ _ z => z.elim))
        rintro vx H8 ⟨b, rfl, O⟩
        rw [filt_nums] at O
        have hfl := List.length_filter_le (fun n => !decide (n ∈ e2.2.2 ++ [e2.1])) later
        have hbe : e2.2.1 ≠ b := fun q => by
          have h1 := List.pairwise_cons.mp O.ap
          exact h1.1 _ (List.mem_map_of_mem (hm2 (A := [_, _, _, _, _, _, _]))) b rfl q.symm
        repeat (walk_at "T")
        refine C_extend (by exact O.get (hm2 (A := [_, _, _, _, _, _, _, _]))) (.inl (O.get (.head _))) hbe (by rw [nums_len, nums_len]; walk_at "num") ?_
        intro H9 hN
        rw [← nums_app] at hN
        have O := Own.nset (A := [_, _, _, _, _, _, _, _]) hJn' O he2 hN
        have O : Own1 (KI prog w) H9 (.cell b (.list (nums (later.filter fun n => !decide (n ∈ e2.2.2 ++ [e2.1])))) :: .cell c2 (.list (nums (e2.2.2 ++ [e2.1]))) :: .cell c (.list [vI e2.1]) :: .cell lt (.list (nums later)) :: .cell dn (.list (nums (order.take i))) :: .cell ud (.dict (dE (KI prog w) (nents U)) mu) :: .cell jd (.dict (dE (KI prog w) (nents J')) mj) :: .frag G :: (ncells (setL J' e2.1 (e2.2.2 ++ later.filter fun n => !decide (n ∈ e2.2.2 ++ [e2.1]))) ++ (ncells U ++ r))) := O
        have hp : npure (setL J' e2.1 (e2.2.2 ++ later.filter fun n => !decide (n ∈ e2.2.2 ++ [e2.1]))) = joinA later (npure J') e2.1 := by
          unfold joinA
          rw [setL_pure, npure_at hJn' he2]
        have hne := setL_nents J' e2.1 (e2.2.2 ++ later.filter fun n => !decide (n ∈ e2.2.2 ++ [e2.1]))
        generalize setL J' e2.1 (e2.2.2 ++ later.filter fun n => !decide (n ∈ e2.2.2 ++ [e2.1])) = J2 at O hp hne
        rw [← hne] at O
        repeat (walk_at "T")
        refine ⟨⟨rfl, rfl, rfl, rfl, rfl, rfl, rfl, trivial⟩, J2, O.tail.tail.tail, ?_⟩
        rw [hp, hJ', List.take_add_one, ha, List.foldl_append]; rfl
      clear O
      rintro H ⟨J2, O, hJ2⟩
      rw [nums_len, List.take_length] at hJ2
      repeat (walk_at "T")
      refine E_listM (α := Int) E [(("later" : Str), .ref lt)] none rfl rfl (fun _ => rfl) OF'.hh ?_
      repeat (walk_at "T")
      refine ⟨⟨rfl, trivial⟩, exi6 .list order vI (fun H => Own1 (KI prog w) H (.cell lt (.list (nums later)) :: .cell dn (.list (nums (order.take i))) :: .cell ud (.dict (dE (KI prog w) (nents U)) mu) :: .cell jd (.dict (dE (KI prog w) (nents J2)) mj) :: .frag G :: (ncells J2 ++ (ncells U ++ r)))) (fun a => decide (a ∈ later)) vI ⟨⟨oa, rfl, O.fragAt (by walk_at "mem") _ _ hord⟩, by walk_at "num", O, fun H vs O => ⟨oa, rfl, O.fragAt (by walk_at "mem") _ _ hord⟩, ?_, ?_⟩⟩
      · clear O
        intro F2 E2 hF a H ha O
        have hu : F2.A.units < 9000 := by rw [show F2.A = F'.A from congrArg Fc.A hF]; walk_at "num"
        repeat (walk_at "T")
        refine P_inI (l := lt) (O.get (by walk_at "mem")) hu ?_
        refine ⟨_, rfl, fun h => ?_, fun h => ⟨h, ⟨rfl, trivial⟩, O⟩⟩
        repeat (walk_at "T")
        exact ⟨h, rfl, ⟨rfl, trivial⟩, O⟩
      clear O
      intro H c H3 O hN
      have O := Own.new O hN
      clear hN
      have O : Own1 (KI prog w) H3 (.cell c (.list (nums (order.filter fun a => decide (a ∈ later)))) :: .cell lt (.list (nums later)) :: .cell dn (.list (nums (order.take i))) :: .cell ud (.dict (dE (KI prog w) (nents U)) mu) :: .cell jd (.dict (dE (KI prog w) (nents J2)) mj) :: .frag G :: (ncells J2 ++ (ncells U ++ r))) := O
      have hofl := List.length_filter_le (fun a => decide (a ∈ later)) order
      repeat (walk_at "T")
      refine exi3 c _ 1 ⟨rfl, rfl, O.get (by walk_at "mem"), by rw [nums_len]; walk_at "num", ?_⟩
      intro b H4 hN; have O := Own.new O hN; clear hN
      rw [← nums_take] at O
      repeat (walk_at "T")
      have hUl : U.length ≤ 10 := by
        have := congrArg List.length hUk
        rw [List.length_map, List.length_take] at this; walk_at "num"
      refine Y_dict (by walk_at "own") (by unfold nents; rw [List.length_map]; walk_at "num") ?_
      intro m2 H7 hN
      have hkU : e.1 ∉ U.map (·.1) := fun h => by
        rw [hUk] at h
        obtain ⟨hl, q⟩ := List.getElem?_eq_some_iff.mp hv
        have e2 : order = order.take i ++ order[i] :: order.drop (i + 1) := by rw [← List.drop_eq_getElem_cons hl, List.take_append_drop]
        have hon' := hon
        rw [e2] at hon'
        exact (List.nodup_append.mp hon').2.2 _ h _ List.mem_cons_self q.symm
      rw [nents_new hkU ((order.filter fun a => decide (a ∈ later)).take 1)] at hN
      have O := Own.put (l' := _) O (by walk_at "put") hN
      clear hN
      have hp : npure (U ++ [(e.1, b, (order.filter fun a => decide (a ∈ later)).take 1)]) = npure U ++ [(e.1, (order.filter fun a => decide (a ∈ later)).take 1)] := by
        unfold npure; rw [List.map_append]; rfl
      have O : Own1 (KI prog w) H7 (.cell dn (.list (nums (order.take i))) :: .cell ud (.dict (dE (KI prog w) (nents (U ++ [(e.1, b, (order.filter fun a => decide (a ∈ later)).take 1)]))) m2) :: .cell jd (.dict (dE (KI prog w) (nents J2)) mj) :: .frag G :: (ncells J2 ++ (ncells (U ++ [(e.1, b, (order.filter fun a => decide (a ∈ later)).take 1)]) ++ r))) := by
        have e1 : ncells (U ++ [(e.1, b, (order.filter fun a => decide (a ∈ later)).take 1)]) ++ r = ncells U ++ As.cell b (.list (nums ((order.filter fun a => decide (a ∈ later)).take 1))) :: r := by
          unfold ncells
          rw [List.map_append, List.append_assoc]; rfl
        rw [e1]
        have O := O.sub (l' := .cell b (.list (nums ((order.filter fun a => decide (a ∈ later)).take 1))) :: .cell dn (.list (nums (order.take i))) :: .cell ud (.dict (dE (KI prog w) (nents (U ++ [(e.1, b, (order.filter fun a => decide (a ∈ later)).take 1)]))) m2) :: .cell jd (.dict (dE (KI prog w) (nents J2)) mj) :: .frag G :: (ncells J2 ++ (ncells U ++ r))) (.cons_cons _ (.cons _ (.cons _ (List.Sublist.refl _))))
        refine O.perm ?_
        have := (List.perm_middle (a := As.cell b (.list (nums ((order.filter fun a => decide (a ∈ later)).take 1)))) (l₁ := [.cell dn (.list (nums (order.take i))), .cell ud (.dict (dE (KI prog w) (nents (U ++ [(e.1, b, (order.filter fun a => decide (a ∈ later)).take 1)]))) m2), .cell jd (.dict (dE (KI prog w) (nents J2)) mj), .frag G] ++ (ncells J2 ++ ncells U)) (l₂ := r)).symm
        simpa only [List.append_assoc, List.cons_append, List.nil_append] using this
      generalize U ++ [(e.1, b, (order.filter fun a => decide (a ∈ later)).take 1)] = U2 at O hp
      repeat (walk_at "T")
      refine C_append (by walk_at "own") (by rw [nums_len, List.length_take]; walk_at "num") ?_
      intro H8 hN
      have O := Own.put (l' := _) O (by walk_at "put") hN
      clear hN
      rw [← nums_snoc] at O
      repeat (walk_at "T")
      refine ⟨⟨rfl, rfl, rfl, rfl, rfl, trivial⟩, exi3 J2 U2 m2 ⟨?_, ?_⟩⟩
      · rw [List.take_add_one, hv]; exact O
      · rw [List.take_add_one, hv, List.foldl_append, ← hs]
        show _ = skStep order _ e.1
        rw [hstep, hp, hJ2]; rfl
    clear O hJ0 hJp
    rintro H hx0_; refine ex3and2 hx0_ fun J U mu O hs => ?_; try clear hx0_
    rw [nums_len, List.take_length] at hs O
    repeat (walk_at "T")
    have gJ : GoodN ks (npure J) := by
      have := sks_good (order := order) order (s := ⟨npure L, [], []⟩) g
      rw [← hs] at this; exact this
    have hJn : (J.map (·.1)).Nodup := by rw [goodL_keys gJ]; exact hks
    have hJl : J.length ≤ 10 := by
      have := congrArg List.length (goodL_keys gJ)
      rw [List.length_map] at this; walk_at "num"
    have O1 : Own1 (KI prog w) H ((.cell jd (.dict (dE (KI prog w) (nents J)) mj) :: ncells J) ++ (.cell ud (.dict (dE (KI prog w) (nents U)) mu) :: .frag G :: (ncells U ++ r))) := by
      refine O.tail.perm ?_
      refine (List.Perm.swap _ _ _).trans (.cons _ ?_)
      exact List.perm_append_comm_assoc [_, _] (ncells J) (ncells U ++ r)
    clear O
    refine T_dictComp (E_dictL (cN := 84) (cT := 181) E [(("joined" : Str), .ref jd)] none rfl rfl (fun _ => rfl) OF'.hh ?_)
    repeat (walk_at "T")
    refine ⟨⟨rfl, trivial⟩, exi5 (.keys (dE (KI prog w) (nents J)) mj) (J.map (·.1)) (fun k => srt (atN (npure J) k)) (.cell jd (.dict (dE (KI prog w) (nents J)) mj) :: ncells J) _ ⟨⟨jd, rfl, O1.get (.head _), nkeysE J⟩, hJn, by rw [List.length_map]; walk_at "num", O1, fun r H vs O => ⟨jd, rfl, O.get (.head _), nkeysE J⟩, ?_, ?_⟩⟩
    · clear O1
      intro F2 E2 hF y r H hy O
      obtain ⟨e, he, rfl⟩ := nl_get hy
      have hel := goodL_len gJ he
      have hc := O.get (a := e.2.1) (o := .list (nums e.2.2)) (List.mem_append_left _ (.tail _ (List.mem_map_of_mem (f := fun e : Int × Addr × List Int => As.cell e.2.1 (.list (nums e.2.2))) he)))
      repeat (walk_at "T")
      refine ⟨⟨jd, rfl, .inr (.inr ⟨_, _, O.get (.head _)⟩)⟩, X_dict (O.get (.head _)) (nents_at hJn he) ?_⟩
      repeat (walk_at "T")
      refine C_sorted (.inl hc) (by walk_at "num") fun a ns' H2 hN h1 h2 => ?_
      have O := Own.new O hN
      clear hN
      rw [srt_is h1 h2] at O
      repeat (walk_at "T")
      refine ⟨rfl, a, rfl, ⟨rfl, trivial⟩, ?_⟩
      have O : Own1 (KI prog w) H2 (.cell a (.list (nums (srt (atN (npure J) e.1)))) :: ((.cell jd (.dict (dE (KI prog w) (nents J)) mj) :: ncells J) ++ r)) := by rw [npure_at hJn he]; exact O
      exact O
    clear O1
    intro J3 jd3 m3 H2 hJ3 O
    repeat (walk_at "T")
    intro tt H3 hN; have O := Own.new O hN; clear hN
    repeat (walk_at "T")
    have O := O.sub (.cons_cons _ (.cons_cons _ (List.sublist_append_right _ _)))
    obtain ⟨G1, O, x1, n1⟩ := (O.perm (l' := .cell jd3 (.dict (dE (KI prog w) (nents J3)) m3) :: (ncells J3 ++ .frag G :: .cell tt (.tup [.ref jd3, .ref ud]) :: .cell ud (.dict (dE (KI prog w) (nents U)) mu) :: (ncells U ++ r))) (by
      refine (List.Perm.swap _ _ _).trans (.cons _ ?_)
      refine (List.perm_middle (l₁ := ncells J3)).symm.trans (List.Perm.append_left _ ?_)
      exact List.perm_middle (l₁ := [_, _]))).layN
    obtain ⟨G2, O, x2, n2⟩ := (O.perm (l' := .cell ud (.dict (dE (KI prog w) (nents U)) mu) :: (ncells U ++ .frag G1 :: .cell tt (.tup [.ref jd3, .ref ud]) :: r)) (by
      refine (List.perm_middle (l₁ := [_, _])).trans (.cons _ ?_)
      exact List.perm_append_comm_assoc [_, _] (ncells U) r)).layN
    obtain ⟨G3, O, x3, ht⟩ := (O.perm (.swap _ _ _)).lay1
    refine exi6 tt jd3 J3 ud U G3 ⟨rfl, O, (x1.trans x2).trans x3, ht, (n1.mono x2).mono x3, ?_, n2.mono x3, ?_⟩
    · rw [hJ3]
      unfold struckJ struckS
      rw [← hs]
      show _ = (npure J).map _
      unfold npure
      rw [List.map_map, List.map_map]
      refine List.map_congr_left fun e he => ?_
      have := npure_at hJn he
      unfold npure at this
      simp only [Function.comp]
      rw [this]
    · unfold struckU struckS
      rw [← hs]
end
end
section
set_option maxRecDepth 100000
set_option Elab.async false
set_option linter.unusedVariables false
set_option maxHeartbeats 4000000
open PySem PySem.W PySem.Calls PyProof.Rows PySem.SeqAt
theorem metOf_good {N : Nds} {ah : List Int} (h : ah.Nodup) (a : Int) : ∀ n, (metOf N ah a n).Nodup ∧ ∀ z ∈ metOf N ah a n, z = a ∨ z ∈ ah
  | 0 => ⟨by unfold metOf; simp, fun z hz => .inl (List.mem_singleton.mp hz)⟩
  | n + 1 => by
    obtain ⟨h1, h2⟩ := metOf_good h a n
    refine ⟨List.nodup_append.mpr ⟨h1, h.filter _, fun x hx y hy q => ?_⟩, fun z hz => ?_⟩
    · subst q
      have := (List.mem_filter.mp hy).2
      rw [decide_eq_true hx] at this
      exact absurd this (by simp)
    · rcases List.mem_append.mp hz with hz | hz
      · exact h2 z hz
      · exact .inr (List.mem_filter.mp hz).1
theorem metOf_len {N : Nds} {ah : List Int} (h : ah.Nodup) (a : Int) (n : Nat) : (metOf N ah a n).length ≤ ah.length + 1 := by
  obtain ⟨h1, h2⟩ := metOf_good (N := N) h a n
  have := nodup_len h1 (m := a :: ah) fun z hz => (h2 z hz).elim (fun q => q ▸ List.mem_cons_self) (List.mem_cons_of_mem _)
  rwa [List.length_cons] at this
section
variable {prog : Program} {w : World} {mg mb : Str → Option Value}

theorem led_spec {F : Fc} {n : Nat} {d oa : Addr} {L : NL} {G H : AHeap} {l r : List As} {ks order : List Int} (W : Wld (K1 w) F mg mb) (OF : F.Ok (n + 5)) (O : Own1 (KI prog w) H l) (t : Take (.frag G) l r) (hG : NAt prog w G d L) (g : GoodN ks (npure L)) (hks : ks.Nodup) (h5 : ks.length ≤ 10)
    (hord : G oa = some (.list (nums order))) (hon : order.Nodup) (hos : ∀ v, v ∈ order ↔ v ∈ ks) :
    Calls prog w F (.ref 200) [.ref d, .ref oa] H
      (fun v H' => ∃ ld D G', v = .ref ld ∧ Own1 (KI prog w) H' (.frag G' :: r) ∧ Ext G G' ∧ NAt prog w G' ld D ∧ npure D = led (npure L) order) (fun _ _ _ => False) := by
  refine Calls.ent (fd := _) (body := _) (names := ["near", "order"]) W OF ⟨⟨_, W.kx _ _ rfl, rfl⟩, rfl, rfl, rfl, codeRec_of W.kx (by rfl), rfl, rfl, by decide +kernel⟩ (fun args' ha => ?_) (by decide) (by decide +kernel) rfl rfl rfl fun F' E U' OF' => ?_
  · obtain ⟨a, b, rfl, _⟩ := two_of ha; rfl
  · dsimp only at E
    have O := O.take t
    obtain ⟨m0, hdd⟩ := hG.dict
    have hLn : (L.map (·.1)).Nodup := by rw [goodL_keys g]; exact hks
    have hLl : L.length ≤ 10 := by
      have := congrArg List.length (goodL_keys g)
      rw [List.length_map] at this; walk_at "num"
    have hol : order.length ≤ 10 := Nat.le_trans (nodup_len hon fun v hv => (hos v).mp hv) h5
    have hun := OF'.units
    repeat (walk_at "T")
    intro ld H1 hN; have O := Own.new O hN; clear hN
    repeat (walk_at "T")
    refine E_forB [(("near" : Str), .ref d), (("order" : Str), .ref oa), (("led" : Str), .ref ld)] E U' OF'.hh (fun _ => rfl) (by rfl) ?_
    repeat (walk_at "T")
    refine exi3 (nums (L.map (·.1))) (.keys (dE (KI prog w) (nents L)) m0) (fun i H => ∃ D m, Own1 (KI prog w) H (.cell ld (.dict (dE (KI prog w) (nents D)) m) :: .frag G :: (ncells D ++ r)) ∧ npure D = ((npure L).take i).map fun e => (e.1, (L.map (·.1)).filter (ledB (npure L) order e.1))) ⟨⟨d, rfl, O.fragAt (by walk_at "mem") _ _ hdd, nkeysE L⟩, ⟨rfl, rfl, rfl, trivial⟩, ⟨[], 0, O, rfl⟩, ?_, ?_, ?_⟩
    · rintro i H vs ⟨D, m, O, _⟩
      exact ⟨d, rfl, O.fragAt (by walk_at "mem") _ _ hdd, nkeysE L⟩
    · clear O
      rintro i x0 H hi ⟨D, m, O, hD⟩
      obtain ⟨a, rfl, ha⟩ := nums_get hi
      have hak := List.mem_of_getElem? ha
      repeat (walk_at "T")
      intro c H2 hN; have O := Own.new O hN; clear hN
      repeat (walk_at "T")
      have hDk : D.map (·.1) = (L.map (·.1)).take i := by
        rw [← npure_keys, hD, List.map_map, ← npure_keys, List.map_take]; rfl
      have hDl : D.length ≤ 10 := by
        have := congrArg List.length hDk
        rw [List.length_map, List.length_take, List.length_map] at this; walk_at "num"
      have hkD : a ∉ D.map (·.1) := fun h => by
        rw [hDk] at h
        obtain ⟨hl, q⟩ := List.getElem?_eq_some_iff.mp ha
        have e2 : L.map (·.1) = (L.map (·.1)).take i ++ (L.map (·.1))[i] :: (L.map (·.1)).drop (i + 1) := by rw [← List.drop_eq_getElem_cons hl, List.take_append_drop]
        rw [e2] at hLn
        exact (List.nodup_append.mp hLn).2.2 _ h _ List.mem_cons_self q.symm
      refine Y_dict (by walk_at "own") (by unfold nents; rw [List.length_map]; walk_at "num") ?_
      intro m2 H3 hN
      rw [nents_new hkD []] at hN
      have O := Own.put (l' := _) O (by walk_at "put") hN
      clear hN
      have hDn : ((D ++ [(a, c, ([] : List Int))]).map (·.1)).Nodup := by
        rw [List.map_append]
        refine List.nodup_append.mpr ⟨by rw [hDk]; exact hLn.sublist (List.take_sublist _ _), by simp, fun x hx y hy q => ?_⟩
        rw [List.mem_singleton.mp hy] at q
        exact hkD (by have q : x = a := q; rw [← q]; exact hx)
      repeat (walk_at "T")
      refine E_forB [(("near" : Str), .ref d), (("order" : Str), .ref oa), (("led" : Str), .ref ld), (("a" : Str), vI a)] E U' OF'.hh (fun _ => rfl) (by rfl) ?_
      repeat (walk_at "T")
      refine exi3 (nums (L.map (·.1))) (.keys (dE (KI prog w) (nents L)) m0) (fun j H => Own1 (KI prog w) H (.cell ld (.dict (dE (KI prog w) (nents (D ++ [(a, c, [])]))) m2) :: .cell c (.list (nums (((L.map (·.1)).take j).filter (ledB (npure L) order a)))) :: .frag G :: (ncells D ++ r))) ⟨⟨d, rfl, O.fragAt (by walk_at "mem") _ _ hdd, nkeysE L⟩, ⟨rfl, rfl, rfl, rfl, trivial⟩, O.perm (.swap _ _ _), ?_, ?_, ?_⟩
      · rintro j H vs O
        exact ⟨d, rfl, O.fragAt (by walk_at "mem") _ _ hdd, nkeysE L⟩
      · clear O
        rintro j x0 H hj O
        obtain ⟨b, rfl, hb⟩ := nums_get hj
        have hbk := List.mem_of_getElem? hb
        have hao : a ∈ order := (hos a).mpr (by rw [← goodL_keys g]; exact hak)
        have hbo : b ∈ order := (hos b).mpr (by rw [← goodL_keys g]; exact hbk)
        repeat (walk_at "T")
        refine M_index (O.fragAt (by walk_at "mem") _ _ hord) ?_
        repeat (walk_at "T")
        refine C_index (O.fragAt (by walk_at "mem") _ _ hord) hao (by walk_at "num") ?_
        repeat (walk_at "T")
        refine M_index (O.fragAt (by walk_at "mem") _ _ hord) ?_
        repeat (walk_at "T")
        refine C_index (O.fragAt (by walk_at "mem") _ _ hord) hbo (by walk_at "num") ?_
        repeat (walk_at "T")
        refine C_min2 OF'.hh ?_
        refine exi3 oa _ (min (order.idxOf a) (order.idxOf b)) ⟨rfl, ?_, O.fragAt (by walk_at "mem") _ _ hord, by rw [nums_len]; walk_at "num", ?_⟩
        · congr 1
          split <;> walk_at "num"
        intro ah H2 hN; have O := Own.new O hN; clear hN
        rw [← nums_take] at O
        have hahn : (ahead order a b).Nodup := hon.sublist (List.take_sublist _ _)
        have hahl : (ahead order a b).length ≤ 10 := by
          unfold ahead
          rw [List.length_take]; walk_at "num"
        have hahs : ∀ z ∈ ahead order a b, z ∈ L.map (·.1) := fun z hz => by
          rw [goodL_keys g]; exact (hos z).mp (List.mem_of_mem_take hz)
        have hldB : ledB (npure L) order a b = (a != b && (atN (npure L) b).filter (fun x => decide (x ∈ metOf (npure L) (ahead order a b) a (ahead order a b).length)) != []) := rfl
        have O : Own1 (KI prog w) H2 (.cell ah (.list (nums (ahead order a b))) :: .cell ld (.dict (dE (KI prog w) (nents (D ++ [(a, c, [])]))) m2) :: .cell c (.list (nums (((L.map (·.1)).take j).filter (ledB (npure L) order a)))) :: .frag G :: (ncells D ++ r)) := O
        generalize ahead order a b = ahd at O hahn hahl hahs hldB
        repeat (walk_at "T")
        intro mt H3 hN; have O := Own.new O hN; clear hN
        repeat (walk_at "T")
        intro tt H4 hN; have O := Own.new O hN; clear hN
        repeat (walk_at "T")
        have O := O.tail
        refine E_forB [(("near" : Str), .ref d), (("order" : Str), .ref oa), (("led" : Str), .ref ld), (("a" : Str), vI a), (("b" : Str), vI b), (("ahead" : Str), .ref ah), (("met" : Str), .ref mt)] E U' OF'.hh (fun _ => rfl) (by rfl) ?_
        repeat (walk_at "T")
        refine exi3 (nums ahd) .list (fun k H => Own1 (KI prog w) H (.cell mt (.list (nums (metOf (npure L) ahd a k))) :: .cell ah (.list (nums ahd)) :: .cell ld (.dict (dE (KI prog w) (nents (D ++ [(a, c, [])]))) m2) :: .cell c (.list (nums (((L.map (·.1)).take j).filter (ledB (npure L) order a)))) :: .frag G :: (ncells D ++ r))) ⟨⟨ah, rfl, O.get (by walk_at "mem")⟩, ⟨rfl, rfl, rfl, rfl, rfl, rfl, rfl, trivial⟩, O, ?_, ?_, ?_⟩
        · rintro k H vs O
          exact ⟨ah, rfl, O.get (by walk_at "mem")⟩
        · clear O
          rintro k x0 H hk O
          have hml := metOf_len (N := npure L) hahn a k
          have hst : metOf (npure L) ahd a (k + 1) = metS (npure L) ahd (metOf (npure L) ahd a k) := rfl
          generalize metOf (npure L) ahd a k = met at O hml hst
          repeat (walk_at "T")
          refine E_listM (α := Int) E [(("near" : Str), .ref d), (("met" : Str), .ref mt)] none rfl rfl (fun _ => rfl) OF'.hh ?_
          repeat (walk_at "T")
          refine ⟨⟨rfl, rfl, trivial⟩, exi6 .list ahd vI (fun H => Own1 (KI prog w) H (.cell mt (.list (nums met)) :: .cell ah (.list (nums ahd)) :: .cell ld (.dict (dE (KI prog w) (nents (D ++ [(a, c, [])]))) m2) :: .cell c (.list (nums (((L.map (·.1)).take j).filter (ledB (npure L) order a)))) :: .frag G :: (ncells D ++ r))) (fun z => !decide (z ∈ met) && (atN (npure L) z).filter (fun x => decide (x ∈ met)) != []) vI ⟨⟨ah, rfl, O.get (by walk_at "mem")⟩, by walk_at "num", O, fun H vs O => ⟨ah, rfl, O.get (by walk_at "mem")⟩, ?_, ?_⟩⟩
          · clear O
            intro F2 E2 hF z H hz O
            have hu : F2.A.units < 9000 := by rw [show F2.A = F'.A from congrArg Fc.A hF]; walk_at "num"
            obtain ⟨e, he, rfl⟩ := nl_get (hahs z hz)
            have hel := goodL_len g he
            have hat := npure_at hLn he
            repeat (walk_at "T")
            refine P_notInI (l := mt) (O.get (by walk_at "mem")) hu ?_
            refine ⟨_, rfl, fun h => ?_, fun h => ?_⟩
            · repeat (walk_at "T")
              refine E_listM (α := Int) E2 [(("met" : Str), .ref mt)] none rfl rfl (fun _ => rfl) (by rw [show F2.A = F'.A from congrArg Fc.A hF]; exact OF'.hh) ?_
              repeat (walk_at "T")
              refine ⟨⟨d, rfl, .inr (.inr ⟨_, _, O.fragAt (by walk_at "mem") _ _ hdd⟩)⟩, X_dict (by exact O.fragAt (by walk_at "mem") _ _ hdd) (nents_at hLn he) ?_⟩
              refine ⟨⟨rfl, trivial⟩, exi6 .list e.2.2 vI (fun H => Own1 (KI prog w) H (.cell mt (.list (nums met)) :: .cell ah (.list (nums ahd)) :: .cell ld (.dict (dE (KI prog w) (nents (D ++ [(a, c, [])]))) m2) :: .cell c (.list (nums (((L.map (·.1)).take j).filter (ledB (npure L) order a)))) :: .frag G :: (ncells D ++ r))) (fun x => decide (x ∈ met)) vI ⟨⟨_, rfl, O.fragAt (by walk_at "mem") _ _ (hG.list e he)⟩, by walk_at "num", O, fun H vs O => ⟨_, rfl, O.fragAt (by walk_at "mem") _ _ (hG.list e he)⟩, ?_, ?_⟩⟩
              · clear O
                intro F3 E3 hF3 x H hx O
                have hu3 : F3.A.units < 9000 := by rw [show F3.A = F2.A from congrArg Fc.A hF3]; exact hu
                repeat (walk_at "T")
                refine P_inI (l := mt) (O.get (by walk_at "mem")) hu3 ?_
                refine ⟨_, rfl, fun h => ?_, fun h => ⟨h, ⟨rfl, trivial⟩, O⟩⟩
                repeat (walk_at "T")
                exact ⟨h, rfl, ⟨rfl, trivial⟩, O⟩
              clear O
              intro H q1 H5 O hN
              have O := Own.new O hN
              clear hN
              repeat (walk_at "T")
              intro q2 H6 hN; have O := Own.new O hN; clear hN
              refine P_neLI (ns := e.2.2.filter fun x => decide (x ∈ met)) (ms := []) (O.get (by walk_at "mem")) (O.get (o := .list []) (by walk_at "mem")) hu ?_
              refine ⟨_, rfl, fun h2 => ?_, fun h2 => ?_⟩
              · repeat (walk_at "T")
                refine ⟨fun _ => ?_, nofun⟩
                repeat (walk_at "T")
                refine ⟨?_, rfl, ⟨rfl, rfl, trivial⟩, O.tail.tail⟩
                dsimp only
                rw [hat, h, h2]; rfl
              · refine ⟨nofun, fun _ => ⟨?_, ⟨rfl, rfl, trivial⟩, O.tail.tail⟩⟩
                dsimp only
                rw [hat, h2, Bool.and_false]
            · refine ⟨nofun, fun _ => ⟨?_, ⟨rfl, rfl, trivial⟩, O⟩⟩
              dsimp only
              rw [h, Bool.false_and]
          clear O
          intro H q1 H5 O hN
          have O := Own.new O hN
          clear hN
          repeat (walk_at "T")
          have hql := List.length_filter_le (fun z => !decide (z ∈ met) && (atN (npure L) z).filter (fun x => decide (x ∈ met)) != []) ahd
          have hmq : mt ≠ q1 := fun q => by
            have h1 := List.pairwise_cons.mp O.ap
            exact h1.1 _ (List.mem_map_of_mem (List.mem_cons_self (a := As.cell mt (.list (nums met))))) q1 rfl q.symm
          refine I_addL (O.get (by walk_at "mem")) (O.get (by walk_at "mem")) hmq (by rw [nums_len, List.length_map]; walk_at "num") ?_
          intro H6 hN
          have O := Own.put (l' := _) O (by walk_at "put") hN
          clear hN
          have O := O.tail
          rw [← nums_app] at O
          repeat (walk_at "T")
          refine ⟨⟨rfl, rfl, rfl, rfl, rfl, rfl, rfl, trivial⟩, ?_⟩
          have O : Own1 (KI prog w) H6 (.cell mt (.list (nums (metOf (npure L) ahd a (k + 1)))) :: .cell ah (.list (nums ahd)) :: .cell ld (.dict (dE (KI prog w) (nents (D ++ [(a, c, [])]))) m2) :: .cell c (.list (nums (((L.map (·.1)).take j).filter (ledB (npure L) order a)))) :: .frag G :: (ncells D ++ r)) := by rw [hst]; exact O
          exact O
        clear O
        intro H O
        rw [nums_len] at O
        have hml := metOf_len (N := npure L) hahn a ahd.length
        generalize metOf (npure L) ahd a ahd.length = met at O hml hldB
        obtain ⟨e, he, heb⟩ := nl_get hbk
        have hel := goodL_len g he
        have hat := npure_at hLn he
        have hv := nents_at hLn he
        rw [heb] at hat hv
        rw [hat] at hldB
        repeat (walk_at "T")
        refine ⟨_, rfl, fun h => ?_, fun h => ?_⟩
        · repeat (walk_at "T")
          refine E_listM (α := Int) E [(("met" : Str), .ref mt)] none rfl rfl (fun _ => rfl) OF'.hh ?_
          repeat (walk_at "T")
          refine ⟨⟨d, rfl, .inr (.inr ⟨_, _, O.fragAt (by walk_at "mem") _ _ hdd⟩)⟩, X_dict (by exact O.fragAt (by walk_at "mem") _ _ hdd) hv ?_⟩
          refine ⟨⟨rfl, trivial⟩, exi6 .list e.2.2 vI (fun H => Own1 (KI prog w) H (.cell mt (.list (nums met)) :: .cell ah (.list (nums ahd)) :: .cell ld (.dict (dE (KI prog w) (nents (D ++ [(a, c, [])]))) m2) :: .cell c (.list (nums (((L.map (·.1)).take j).filter (ledB (npure L) order a)))) :: .frag G :: (ncells D ++ r))) (fun x => decide (x ∈ met)) vI ⟨⟨_, rfl, O.fragAt (by walk_at "mem") _ _ (hG.list e he)⟩, by walk_at "num", O, fun H vs O => ⟨_, rfl, O.fragAt (by walk_at "mem") _ _ (hG.list e he)⟩, ?_, ?_⟩⟩
          · clear O
            intro F3 E3 hF3 x H hx O
            have hu3 : F3.A.units < 9000 := by rw [show F3.A = F'.A from congrArg Fc.A hF3]; walk_at "num"
            repeat (walk_at "T")
            refine P_inI (l := mt) (O.get (by walk_at "mem")) hu3 ?_
            refine ⟨_, rfl, fun h => ?_, fun h => ⟨h, ⟨rfl, trivial⟩, O⟩⟩
            repeat (walk_at "T")
            exact ⟨h, rfl, ⟨rfl, trivial⟩, O⟩
          clear O
          intro H q1 H5 O hN
          have O := Own.new O hN
          clear hN
          repeat (walk_at "T")
          intro q2 H6 hN; have O := Own.new O hN; clear hN
          refine P_neLI (ns := e.2.2.filter fun x => decide (x ∈ met)) (ms := []) (O.get (by walk_at "mem")) (O.get (o := .list []) (by walk_at "mem")) (by walk_at "num") ?_
          have O := O.tail.tail.tail.tail
          refine ⟨_, rfl, fun h2 => ?_, fun h2 => ?_⟩
          · repeat (walk_at "T")
            refine ⟨fun _ => ?_, nofun⟩
            repeat (walk_at "T")
            refine ⟨⟨ld, rfl, .inr (.inr ⟨_, _, O.get (by walk_at "mem")⟩)⟩, X_dict (by walk_at "own") (nents_at hDn (e := (a, c, [])) (List.mem_append_right _ (.head _))) ?_⟩
            refine M_append (O.get (by walk_at "mem")) ?_
            repeat (walk_at "T")
            refine C_append (O.get (by walk_at "mem")) (by
              have h1 := List.length_filter_le (ledB (npure L) order a) ((L.map (·.1)).take j)
              rw [List.length_take, List.length_map] at h1
              rw [nums_len]; walk_at "num") ?_
            intro H7 hN
            have O := Own.put (l' := _) O (by walk_at "put") hN
            clear hN
            rw [← nums_snoc] at O
            repeat (walk_at "T")
            refine ⟨⟨rfl, rfl, rfl, rfl, trivial⟩, ?_⟩
            dsimp only
            rw [List.take_add_one, hb, List.filter_append]
            have e1 : List.filter (ledB (npure L) order a) (some b).toList = [b] := by
              show List.filter _ [b] = _
              rw [List.filter_cons_of_pos (by rw [hldB, h, h2]; rfl)]; rfl
            rw [e1]; exact O
          · refine ⟨nofun, fun _ => ?_⟩
            repeat (walk_at "T")
            refine ⟨⟨rfl, rfl, rfl, rfl, trivial⟩, ?_⟩
            dsimp only
            rw [List.take_add_one, hb, List.filter_append]
            have e1 : List.filter (ledB (npure L) order a) (some b).toList = [] := by
              show List.filter _ [b] = _
              rw [List.filter_cons_of_neg (by rw [hldB, h2, Bool.and_false]; exact Bool.false_ne_true)]; rfl
            rw [e1, List.append_nil]; exact O
        · refine ⟨nofun, fun _ => ?_⟩
          repeat (walk_at "T")
          refine ⟨⟨rfl, rfl, rfl, rfl, trivial⟩, ?_⟩
          dsimp only
          rw [List.take_add_one, hb, List.filter_append]
          have e1 : List.filter (ledB (npure L) order a) (some b).toList = [] := by
            show List.filter _ [b] = _
            rw [List.filter_cons_of_neg (by rw [hldB, h, Bool.false_and]; exact Bool.false_ne_true)]; rfl
          rw [e1, List.append_nil]; exact O.tail.tail
      clear O
      intro H O
      rw [nums_len, List.take_length] at O
      repeat (walk_at "T")
      refine ⟨⟨rfl, rfl, rfl, trivial⟩, exi2 (D ++ [(a, c, (L.map (·.1)).filter (ledB (npure L) order a))]) m2 ⟨?_, ?_⟩⟩
      · have e1 : ncells (D ++ [(a, c, (L.map (·.1)).filter (ledB (npure L) order a))]) ++ r = ncells D ++ As.cell c (.list (nums ((L.map (·.1)).filter (ledB (npure L) order a)))) :: r := by
          unfold ncells
          rw [List.map_append, List.append_assoc]; rfl
        have e2 : nents (D ++ [(a, c, (L.map (·.1)).filter (ledB (npure L) order a))]) = nents (D ++ [(a, c, [])]) := by unfold nents; rw [List.map_append, List.map_append]; rfl
        rw [e1, e2]
        refine O.perm (.cons _ ?_)
        exact (List.Perm.swap _ _ _).trans (.cons _ List.perm_middle.symm)
      · have e1 : npure (D ++ [(a, c, (L.map (·.1)).filter (ledB (npure L) order a))]) = npure D ++ [(a, (L.map (·.1)).filter (ledB (npure L) order a))] := by unfold npure; rw [List.map_append]; rfl
        have e2 : (npure L)[i]?.map (·.1) = some a := by rw [← List.getElem?_map, npure_keys]; exact ha
        obtain ⟨z, hz, hza⟩ := Option.map_eq_some_iff.mp e2
        rw [e1, hD, List.take_add_one, hz, List.map_append, ← hza]; rfl
    clear O
    rintro H ⟨D, m, O, hD⟩
    rw [nums_len, List.length_map] at hD
    repeat (walk_at "T")
    obtain ⟨G1, O, x1, n1⟩ := (O.perm (l' := .cell ld (.dict (dE (KI prog w) (nents D)) m) :: (ncells D ++ .frag G :: r)) (.cons _ List.perm_middle.symm)).layN
    refine exi3 ld D G1 ⟨rfl, O, x1, n1, ?_⟩
    rw [hD, List.take_of_length_le (by unfold npure; rw [List.length_map]; exact Nat.le_refl _)]
    unfold led
    rw [npure_keys]
end
end
section
set_option maxRecDepth 100000
set_option Elab.async false
set_option linter.unusedVariables false
set_option maxHeartbeats 4000000
open PySem PySem.W PySem.Calls PyProof.Rows PySem.SeqAt
noncomputable def lents (l : Lvs) : List (Int × Value) := l.map fun e => (e.1, vI e.2)
theorem lents_at {l : Lvs} {k : Int} (h : k ∈ l.map (·.1)) : valueAt (lents l) k = some (vI (atV l k)) := by
  unfold valueAt lents atV
  rw [List.find?_map]
  have e0 : ((fun p : Int × Value => decide (p.1 = k)) ∘ fun e : Int × Int => (e.1, vI e.2)) = fun e => decide (e.1 = k) := rfl
  rw [e0]
  cases q : l.find? fun e => decide (e.1 = k) with
  | none =>
    obtain ⟨e, he, rfl⟩ := List.mem_map.mp h
    exact absurd (decide_eq_true rfl) (List.find?_eq_none.mp q e he)
  | some e => rfl
theorem lents_new {l : Lvs} {k v : Int} (h : k ∉ l.map (·.1)) : stored (lents l) k (vI v) = lents (l ++ [(k, v)]) := by
  unfold stored
  rw [if_neg]
  · unfold lents; rw [List.map_append]; rfl
  · intro z
    obtain ⟨p, hp, e⟩ := List.any_eq_true.mp z
    obtain ⟨y, hy, rfl⟩ := List.mem_map.mp hp
    exact h (List.mem_map.mpr ⟨y, hy, of_decide_eq_true e⟩)
theorem maxL_ge : ∀ {l : List Int} {a : Int}, a ∈ l → a ≤ maxL l
  | [x], a, h => by rw [List.mem_singleton.mp h]; exact Int.le_refl _
  | x :: y :: r, a, h => by
    show a ≤ max x (maxL (y :: r))
    rcases List.mem_cons.mp h with rfl | h
    · exact Int.le_max_left _ _
    · exact Int.le_trans (maxL_ge h) (Int.le_max_right _ _)
theorem maxL_mem : ∀ {l : List Int}, l ≠ [] → maxL l ∈ l
  | [], h => absurd rfl h
  | [x], _ => List.mem_cons_self
  | x :: y :: r, _ => by
    show max x (maxL (y :: r)) ∈ _
    rcases Int.le_total x (maxL (y :: r)) with h | h
    · rw [Int.max_eq_right h]; exact List.mem_cons_of_mem _ (maxL_mem (List.cons_ne_nil _ _))
    · rw [Int.max_eq_left h]; exact List.mem_cons_self
theorem maxL_is {l : List Int} {M : Int} (h : M ∈ l) (h2 : ∀ a, a ∈ l → a ≤ M) : M = maxL l :=
  Int.le_antisymm (maxL_ge h) (h2 _ (maxL_mem (List.ne_nil_of_mem h)))
theorem levels_keys {U : Nds} : ∀ (xs : List Int) (l : Lvs), (xs.foldl (lvStep U) l).map (·.1) = l.map (·.1) ++ xs
  | [], l => (List.append_nil _).symm
  | x :: r, l => by
    rw [List.foldl_cons, levels_keys r]
    unfold lvStep
    rw [List.map_append, List.append_assoc]; rfl
section
variable {prog : Program} {w : World} {mg mb : Str → Option Value}

theorem levels_spec {F : Fc} {n : Nat} {oa ud : Addr} {U : NL} {G H : AHeap} {l r : List As} {order : List Int} (W : Wld (K1 w) F mg mb) (OF : F.Ok (n + 1)) (O : Own1 (KI prog w) H l) (t : Take (.frag G) l r) (hU : NAt prog w G ud U) (hUk : U.map (·.1) = order)
    (hord : G oa = some (.list (nums order))) (hon : order.Nodup) (hol : order.length ≤ 10) :
    Calls prog w F (.ref 205) [.ref oa, .ref ud] H
      (fun v H' => ∃ lv m, v = .ref lv ∧ Own1 (KI prog w) H' (.cell lv (.dict (dE (KI prog w) (lents (levels (npure U) order))) m) :: .frag G :: r)) (fun _ _ _ => False) := by
  refine Calls.ent (fd := _) (body := _) (names := ["order", "upper"]) W OF ⟨⟨_, W.kx _ _ rfl, rfl⟩, rfl, rfl, rfl, codeRec_of W.kx (by rfl), rfl, rfl, by decide +kernel⟩ (fun args' ha => ?_) (by decide) (by decide +kernel) rfl rfl rfl fun F' E U' OF' => ?_
  · obtain ⟨a, b, rfl, _⟩ := two_of ha; rfl
  · dsimp only at E
    have O := O.take t
    obtain ⟨m0, hdd⟩ := hU.dict
    have hUn : (U.map (·.1)).Nodup := by rw [hUk]; exact hon
    have hun := OF'.units
    repeat (walk_at "T")
    intro lv H1 hN; have O := Own.new O hN; clear hN
    repeat (walk_at "T")
    refine E_forB [(("order" : Str), .ref oa), (("upper" : Str), .ref ud), (("level" : Str), .ref lv)] E U' OF'.hh (fun _ => rfl) (by rfl) ?_
    repeat (walk_at "T")
    refine exi3 (nums order) .list (fun i H => ∃ m, Own1 (KI prog w) H (.cell lv (.dict (dE (KI prog w) (lents ((order.take i).foldl (lvStep (npure U)) []))) m) :: .frag G :: r)) ⟨⟨oa, rfl, O.fragAt (by walk_at "mem") _ _ hord⟩, ⟨rfl, rfl, rfl, trivial⟩, ⟨0, O⟩, ?_, ?_, ?_⟩
    · rintro i H vs ⟨m, O⟩
      exact ⟨oa, rfl, O.fragAt (by walk_at "mem") _ _ hord⟩
    · clear O
      rintro i x0 H hi ⟨m, O⟩
      obtain ⟨v, rfl, hv⟩ := nums_get hi
      have hlk := levels_keys (U := npure U) (order.take i) []
      rw [List.map_nil, List.nil_append] at hlk
      have hst : (order.take (i + 1)).foldl (lvStep (npure U)) [] = lvStep (npure U) ((order.take i).foldl (lvStep (npure U)) []) v := by
        rw [List.take_add_one, hv, List.foldl_append]; rfl
      have hll : ((order.take i).foldl (lvStep (npure U)) []).length ≤ 10 := by
        have := congrArg List.length hlk
        rw [List.length_map, List.length_take] at this; walk_at "num"
      dsimp only
      rw [hst]
      generalize (order.take i).foldl (lvStep (npure U)) [] = lq at O hlk hst hll
      repeat (walk_at "T")
      intro z1 H2 hN; have O := Own.new O hN; clear hN
      refine E_listM (α := Int) E [(("upper" : Str), .ref ud), (("level" : Str), .ref lv), (("v" : Str), vI v)] none rfl rfl (fun _ => rfl) OF'.hh ?_
      repeat (walk_at "T")
      have hsrc : ∀ {H : AHeap} {vs : List (Str × Value)}, Own1 (KI prog w) H (.cell z1 (.list [vI 0]) :: .cell lv (.dict (dE (KI prog w) (lents lq)) m) :: .frag G :: r) → Src ⟨vs, H⟩ (.ref lv) ((lq.map (·.1)).map vI) (.keys (dE (KI prog w) (lents lq)) m) := fun O =>
        ⟨lv, rfl, O.get (by walk_at "mem"), by unfold lents dE; rw [List.map_map, List.map_map, List.map_map]; rfl⟩
      refine ⟨⟨rfl, rfl, rfl, trivial⟩, exi6 (.keys (dE (KI prog w) (lents lq)) m) (lq.map (·.1)) vI (fun H => Own1 (KI prog w) H (.cell z1 (.list [vI 0]) :: .cell lv (.dict (dE (KI prog w) (lents lq)) m) :: .frag G :: r)) (fun c => atN (npure U) c == [v]) (fun c => vI (atV lq c + 1)) ⟨hsrc O, by rw [List.length_map]; walk_at "num", O, fun H vs O => hsrc O, ?_, ?_⟩⟩
      · clear O
        intro F2 E2 hF c H hc O
        have hu : F2.A.units < 9000 := by rw [show F2.A = F'.A from congrArg Fc.A hF]; walk_at "num"
        obtain ⟨e, he, heb⟩ := nl_get (L := U) (k := c) (by rw [hUk]; rw [hlk] at hc; exact List.mem_of_mem_take hc)
        have hat := npure_at hUn he
        have hva := nents_at hUn he
        rw [heb] at hat hva
        repeat (walk_at "T")
        refine ⟨⟨ud, rfl, .inr (.inr ⟨_, _, O.fragAt (by walk_at "mem") _ _ hdd⟩)⟩, X_dict (by exact O.fragAt (by walk_at "mem") _ _ hdd) hva ?_⟩
        repeat (walk_at "T")
        intro z2 H3 hN; have O := Own.new O hN; clear hN
        refine P_eqLI (ns := e.2.2) (ms := [v]) (O.fragAt (by walk_at "mem") _ _ (hU.list e he)) (O.get (o := .list [vI v]) (by walk_at "mem")) hu ?_
        refine ⟨_, rfl, fun h => ?_, fun h => ⟨?_, ⟨rfl, rfl, rfl, trivial⟩, O.tail⟩⟩
        · repeat (walk_at "T")
          refine ⟨⟨lv, rfl, .inr (.inr ⟨_, _, O.get (by walk_at "mem")⟩)⟩, X_dict (by walk_at "own") (lents_at hc) ?_⟩
          repeat (walk_at "T")
          refine ⟨?_, rfl, ⟨rfl, rfl, rfl, trivial⟩, O.tail⟩
          dsimp only
          rw [hat, h]
        · dsimp only
          rw [hat, h]
      clear O
      intro H z2 H3 O hN
      have O := Own.new O hN
      clear hN
      have hfl := List.length_filter_le (fun c => atN (npure U) c == [v]) (lq.map (·.1))
      rw [List.length_map] at hfl
      repeat (walk_at "T")
      refine B_addL (by walk_at "own") (by walk_at "own") (by rw [List.length_singleton, List.length_map]; walk_at "num") ?_
      intro z3 H4 hN; have O := Own.new O hN; clear hN
      have O : Own1 (KI prog w) H4 (.cell z3 (.list (nums (0 :: ((lq.map (·.1)).filter fun c => atN (npure U) c == [v]).map fun c => atV lq c + 1))) :: .cell lv (.dict (dE (KI prog w) (lents lq)) m) :: .frag G :: r) := by
        have e1 : ([vI 0] ++ ((lq.map (·.1)).filter fun c => atN (npure U) c == [v]).map fun c => vI (atV lq c + 1)) = nums (0 :: ((lq.map (·.1)).filter fun c => atN (npure U) c == [v]).map fun c => atV lq c + 1) := by
          unfold nums
          rw [List.map_cons, List.map_map]; rfl
        rw [← e1]
        exact O.sub (.cons_cons _ (.cons _ (.cons _ (List.Sublist.refl _))))
      repeat (walk_at "T")
      refine C_max OF'.hh (O.get (by walk_at "mem")) (by rw [List.length_cons]; walk_at "num") fun M hM1 hM2 => ?_
      rw [maxL_is hM1 hM2]
      repeat (walk_at "T")
      refine Y_dict (by walk_at "own") (by unfold lents; rw [List.length_map]; walk_at "num") ?_
      intro m2 H5 hN
      have hvl : v ∉ lq.map (·.1) := fun h => by
        rw [hlk] at h
        obtain ⟨hl, q⟩ := List.getElem?_eq_some_iff.mp hv
        have e2 : order = order.take i ++ order[i] :: order.drop (i + 1) := by rw [← List.drop_eq_getElem_cons hl, List.take_append_drop]
        have hon' := hon
        rw [e2] at hon'
        exact (List.nodup_append.mp hon').2.2 _ h _ List.mem_cons_self q.symm
      rw [lents_new hvl] at hN
      have O := Own.put (l' := _) O (by walk_at "put") hN
      clear hN
      repeat (walk_at "T")
      exact ⟨⟨rfl, rfl, rfl, trivial⟩, m2, O.tail⟩
    clear O
    rintro H ⟨m, O⟩
    rw [nums_len, List.take_length] at O
    repeat (walk_at "T")
    exact exi2 lv m ⟨rfl, O⟩
end
end
section
set_option maxRecDepth 100000
set_option Elab.async false
set_option linter.unusedVariables false
open PySem PySem.W PySem.Calls PyProof.Rows PySem.SeqAt
section
variable {prog : Program} {w : World} {A : Around} {E : Value → Shared → Prop} {s : Shared}
theorem find_ix {p : DictEntry → Bool} {fs : Array DictEntry} {y : Value} (h : (fs.toList.find? p).map (·.val) = some y) : ∃ j, ∃ hj : j < fs.size, fs.findIdx? p = some j ∧ fs[j].val = y := by
  obtain ⟨e, he, rfl⟩ := Option.map_eq_some_iff.mp h
  rw [Array.find?_toList] at he
  cases q : fs.findIdx? p with
  | none =>
    have := Array.findIdx?_eq_none_iff.mp q
    have h1 := Array.find?_some he
    rw [this e (Array.mem_of_find?_eq_some he)] at h1
    cases h1
  | some j =>
    obtain ⟨hj, h1, h2⟩ := Array.findIdx?_eq_some_iff_getElem.mp q
    refine ⟨j, hj, rfl, ?_⟩
    obtain ⟨_, i, hi, rfl, h3⟩ := Array.find?_eq_some_iff_getElem.mp he
    have : i = j := by
      rcases Nat.lt_trichotomy i j with z | z | z
      · rename_i h4
        exact absurd h4 (h2 i z)
      · exact z
      · have := h3 j z
        rw [h1] at this
        cases this
    subst this; rfl
theorem same_pairs {nm : String} {a b : Addr} {ka kb : List (Int × Value)} {Q : Bool → Shared → Prop} (ha : (a == sysModules) = false) (hb : (b == sysModules) = false)
    (da : s.heap.DictOf (intKind prog w) a ka) (db : s.heap.DictOf (intKind prog w) b kb) (hl : ka.length = kb.length)
    (hv : ∀ p ∈ ka, ∃ y, valueAt kb p.1 = some y ∧ EqAt A s p.2 y true) (h : Q true s) : wpAny (model prog w) A (Builtin.Dict.samePairs nm a b) Q E s := by
  obtain ⟨oa, es, ea, hoa, _, hda, hka, hpa, _⟩ := da
  obtain ⟨ob, fs, eb, hob, _, hdb, hkb, hpb, _⟩ := db
  have la : es.size = ka.length := by rw [← hpa.length, Array.length_toList]
  have lb : fs.size = kb.length := by rw [← hpb.length, Array.length_toList]
  unfold Builtin.Dict.samePairs Builtin.Dict.showsAll
  rw [ha, hb]
  refine wpAny_bind (wpAny_pure (wpAny_bind (wpAny_pure (wpAny_bind (wpAny_dictEntries hoa hda (wpAny_bind (wpAny_dictEntries hob hdb ?_)))))))
  rw [if_neg (by rw [la, lb, hl]; simp)]
  refine wpAny_bind (wpAny_dictEpoch hoa hda (wpAny_bind ?_))
  rw [Std.Legacy.Range.forIn_eq_forIn_range']
  simp only [Std.Legacy.Range.size, Nat.sub_zero, Nat.add_sub_cancel, Nat.div_one]
  refine wpAny_forIn_list _ (fun rest b s' => s' = s ∧ b = (none, ()) ∧ ∀ i ∈ rest, i < es.size) _ ?_ ?_ _ _ ⟨rfl, rfl, fun i hi => by
    have := List.mem_range'_1.mp hi; omega⟩
  · rintro i rest b s' ⟨rfl, rfl, hr⟩
    have hi : i < es.size := hr i List.mem_cons_self
    refine wpAny_bind (wpAny_dictEntries hoa hda ?_)
    rw [Array.getElem?_eq_getElem hi]
    have hi2 : i < ka.length := la ▸ hi
    obtain ⟨hk1, hk2⟩ := hpa.get? (i := i) (e := es[i]) (k := ka[i].1) (v := ka[i].2) (by rw [Array.getElem?_toList]; exact Array.getElem?_eq_getElem hi) (List.getElem?_eq_getElem hi2)
    obtain ⟨k', hk3, hk4⟩ := hka es[i] (Array.getElem_mem hi)
    obtain rfl : k' = ka[i].1 := (intKind prog w).inj _ _ _ hk3 hk1
    obtain ⟨y, hy, hq⟩ := hv ka[i] (List.getElem_mem hi2)
    rw [← hpb.find] at hy
    obtain ⟨j, hj, hj1, hj2⟩ := find_ix hy
    dsimp only
    rw [hk4]
    refine wpAny_bind (wpAny_holding (wpAny_bind (wpAny_dictFind_of hk1 hob hdb hkb ?_)))
    rw [hj1]
    dsimp only
    refine wpAny_bind (wpAny_dictEntries hob hdb ?_)
    rw [Array.getElem?_eq_getElem hj]
    dsimp only
    rw [hj2, hk2]
    refine wpAny_holding (hq prog w _ _ ?_)
    rw [if_neg (by decide)]
    refine wpAny_bind (wpAny_dictEpoch hoa hda ?_)
    rw [if_neg (by simp)]
    exact wpAny_pure ⟨rfl, rfl, fun j hj => hr j (List.mem_cons_of_mem _ hj)⟩
  · rintro b s' ⟨rfl, rfl, _⟩
    exact wpAny_pure h
theorem dict_eq {a b : Addr} {ka kb : List (Int × Value)} {Q : Value → Shared → Prop} (ha : (a == sysModules) = false) (hb : (b == sysModules) = false)
    (da : s.heap.DictOf (intKind prog w) a ka) (db : s.heap.DictOf (intKind prog w) b kb) (hu : A.units < cLine) (hl : ka.length = kb.length)
    (hv : ∀ p ∈ ka, ∃ y, valueAt kb p.1 = some y ∧ EqAt A.in1 s p.2 y true) (h : Q (.bool true) s) : wpAny (model prog w) A (richCompare .Eq (.ref a) (.ref b)) Q E s := by
  refine wpAny_richCompare_same_room (op := .Eq) da.typeIs db.typeIs PySem.F.slot_dict_eq (wpAny_call_entry PySem.F.slot_dict_eq da.typeIs PySem.F.entry_dict_eq ?_ (PySem.F.args_dict_eq_2 _ _)) hu
  refine wpAny_bind (m := Builtin.Dict.dictSlotArgs "__eq__" ⟨[.ref a, .ref b], []⟩) ?_
  unfold Builtin.Dict.dictSlotArgs
  refine wpAny_bind (wpAny_notOrdered_dict da.typeIs (wpAny_pure ?_))
  refine wpAny_bind (wpAny_isInstance (T := "dict") db.typeIs PySem.F.sub_dict_dict (wpAny_bind (wpAny_pure (wpAny_bind (wpAny_pure (wpAny_bind (same_pairs ha hb da db hl hv (wpAny_pure ⟨_, rfl, nofun, h⟩))))))))
theorem dict_ne {a b : Addr} {ka kb : List (Int × Value)} {Q : Value → Shared → Prop} (ha : (a == sysModules) = false) (hb : (b == sysModules) = false)
    (da : s.heap.DictOf (intKind prog w) a ka) (db : s.heap.DictOf (intKind prog w) b kb) (hu : A.units < cLine) (hl : ka.length = kb.length)
    (hv : ∀ p ∈ ka, ∃ y, valueAt kb p.1 = some y ∧ EqAt A.in1 s p.2 y true) (h : Q (.bool false) s) : wpAny (model prog w) A (richCompare .NotEq (.ref a) (.ref b)) Q E s := by
  refine wpAny_richCompare_same_room (op := .NotEq) da.typeIs db.typeIs PySem.F.slot_dict_ne (wpAny_call_entry PySem.F.slot_dict_ne da.typeIs PySem.F.entry_dict_ne ?_ (PySem.F.args_dict_ne_2 _ _)) hu
  refine wpAny_bind (m := Builtin.Dict.dictSlotArgs "__ne__" ⟨[.ref a, .ref b], []⟩) ?_
  unfold Builtin.Dict.dictSlotArgs
  refine wpAny_bind (wpAny_notOrdered_dict da.typeIs (wpAny_pure ?_))
  refine wpAny_bind (wpAny_isInstance (T := "dict") db.typeIs PySem.F.sub_dict_dict (wpAny_bind (wpAny_pure (wpAny_bind (wpAny_pure (wpAny_bind (same_pairs ha hb da db hl hv (wpAny_pure ⟨_, rfl, nofun, h⟩))))))))
end
end
section
set_option maxRecDepth 100000
set_option Elab.async false
set_option linter.unusedVariables false
open PySem PySem.W PySem.Calls PyProof.Rows PySem.SeqAt
noncomputable def cs (i : Int) : Str := if 0 ≤ i then ⟨#[i.toNat + 97]⟩ else ⟨#[0, (-i).toNat]⟩
theorem cs_inj {a b : Int} (h : cs a = cs b) : a = b := by
  unfold cs at h
  split at h <;> split at h
  · have h := congrArg Str.cps h
    have h := congrArg Array.toList h
    injection h with h _
    omega
  · have h := congrArg Array.size (congrArg Str.cps h)
    cases h
  · have h := congrArg Array.size (congrArg Str.cps h)
    cases h
  · have h := congrArg Array.toList (congrArg Str.cps h)
    injection h with _ h
    injection h with h _
    omega
section
variable (prog : Program) (w : World)
noncomputable def ckind : KeyKind prog w Int where
  is k v := v.isStrOf (cs k)
  hash k := hashStr w (cs k)
  inj v a b h1 h2 := cs_inj (Value.isStrOf_inj v _ _ h1 h2)
  byValue k v h := (strKind prog w).byValue (cs k) v h
  pyHash h q := (strKind prog w).pyHash h q
  eqBool {A E s a b u v Q} hu hv h := (strKind prog w).eqBool (a := cs a) (b := cs b) hu hv (by
    have : decide (cs a = cs b) = decide (a = b) := by
      by_cases q : a = b
      · rw [q]; simp
      · rw [decide_eq_false q, decide_eq_false fun z => q (cs_inj z)]
    rw [this]; exact h)
  «strs» k x t v h := KeyKind.«strs» (strKind prog w) (cs k) x t v h
theorem ck_pairs {l : List DictEntry} {kvs : List (Int × Value)} (h : Pairs (ckind prog w) l kvs) : Pairs (strKind prog w) l (kvs.map fun p => (cs p.1, p.2)) := by
  induction h with
  | nil => exact .nil
  | cons h1 h2 _ ih => exact .cons h1 h2 ih
theorem kc_pairs {l : List DictEntry} {kvs : List (Str × Value)} (h : Pairs (strKind prog w) l kvs) : ∀ ms : List (Int × Value), (ms.map fun p => (cs p.1, p.2)) = kvs → Pairs (ckind prog w) l ms := by
  induction h with
  | nil => intro ms e; cases ms with
    | nil => exact .nil
    | cons _ _ => cases e
  | cons h1 h2 _ ih => intro ms e; cases ms with
    | nil => cases e
    | cons m ms =>
      rw [List.map_cons] at e
      injection e with e1 e2
      subst e1
      exact .cons h1 h2 (ih ms e2)
theorem kc_nodup {ms : List (Int × Value)} : ((ms.map fun p => (cs p.1, p.2)).map (·.1)).Nodup ↔ (ms.map (·.1)).Nodup := by
  rw [List.map_map]
  show (ms.map fun p => cs p.1).Nodup ↔ _
  rw [show (ms.map fun p => cs p.1) = (ms.map (·.1)).map cs from by rw [List.map_map]; rfl]
  generalize ms.map (·.1) = l
  induction l with
  | nil => simp
  | cons a r ih =>
    rw [List.map_cons, List.nodup_cons, List.nodup_cons, ih]
    refine and_congr (not_congr ⟨fun h => ?_, fun h => List.mem_map_of_mem h⟩) Iff.rfl
    obtain ⟨b, hb, e⟩ := List.mem_map.mp h
    exact cs_inj e ▸ hb
theorem mem_cs {ks : List Int} {k : Int} : cs k ∈ ks.map cs ↔ k ∈ ks := ⟨fun h => by
  obtain ⟨b, hb, e⟩ := List.mem_map.mp h
  exact cs_inj e ▸ hb, fun h => List.mem_map_of_mem h⟩
noncomputable def KC : KeyBy prog w Int where
  knd := ckind prog w
  val k := vS (cs k)
  is k v h := by obtain ⟨t, rfl⟩ := er_str h; exact strKind_is prog w _ _
  scan k v h := by obtain ⟨t, rfl⟩ := er_str h; rfl
  rep des kvs a b c := .inr ⟨kvs.map fun p => (cs p.1, p.2), fun e he => by
      obtain ⟨k, h1, h2⟩ := a e he
      exact ⟨cs k, h1, h2⟩, ck_pairs _ _ b, kc_nodup.mpr c, by rw [List.map_map]; rfl⟩
  un des kvs h := by
    rcases h with ⟨l, a, b, c, e⟩ | ⟨l, a, b, c, e⟩
    · cases kvs with
      | nil =>
        cases l with
        | nil => obtain ⟨x, y⟩ := noKeys (knd' := ckind prog w) b; exact ⟨[], x, y, List.nodup_nil, rfl⟩
        | cons _ _ => cases e
      | cons p r =>
        cases l with
        | nil => cases e
        | cons q l =>
          rw [List.map_cons, List.map_cons] at e
          injection e with e1 e2
          injection e1 with e3 e4
          cases e3
    · have hl : l.length = kvs.length := by
        have := congrArg List.length e
        rw [List.length_map, List.length_map] at this
        exact this.symm
      have hk : ∀ (kvs : List (Int × Value)) (l : List (Str × Value)), (kvs.map fun p => (vS (cs p.1), p.2)) = (l.map fun p => (vS p.1, er p.2)) →
          (((kvs.zip l).map fun z => (z.1.1, z.2.2)).map fun p => (cs p.1, p.2)) = l ∧ ((kvs.zip l).map fun z => (z.1.1, z.2.2)).map (fun p => (p.1, er p.2)) = kvs := by
        intro kvs
        induction kvs with
        | nil => intro l e; cases l with
          | nil => exact ⟨rfl, rfl⟩
          | cons _ _ => cases e
        | cons p r ih => intro l e; cases l with
          | nil => cases e
          | cons q l =>
            rw [List.map_cons, List.map_cons] at e
            injection e with e1 e2
            injection e1 with e3 e4
            injection e3 with e5
            obtain ⟨i1, i2⟩ := ih l e2
            obtain ⟨p1, p2⟩ := p
            obtain ⟨q1, q2⟩ := q
            have e5 : cs p1 = q1 := e5
            have e4 : p2 = er q2 := e4
            subst e5 e4
            rw [List.zip_cons_cons, List.map_cons, List.map_cons, List.map_cons, i1, i2]
            exact ⟨rfl, rfl⟩
      obtain ⟨h1, h2⟩ := hk kvs l e
      refine ⟨(kvs.zip l).map fun z => (z.1.1, z.2.2), fun d hd => ?_, kc_pairs _ _ b _ h1, ?_, h2⟩
      · obtain ⟨i, hi, rfl⟩ := List.mem_iff_getElem.mp (Array.mem_toList_iff.mpr hd)
        obtain ⟨k, q1, q2⟩ := a _ hd
        have bb := kc_pairs _ _ b _ h1
        have key : ∀ {es : List DictEntry} {ms : List (Int × Value)}, Pairs (ckind prog w) es ms → ∀ d ∈ es, ∃ m : Int, (d.key).isStrOf (cs m) = true := by
          intro es ms hp
          induction hp with
          | nil => intro d hd; cases hd
          | cons z1 _ _ ih => intro d hd; cases hd with
            | head => exact ⟨_, z1⟩
            | tail _ hd => exact ih d hd
        obtain ⟨m, hm⟩ := key bb _ (List.getElem_mem hi)
        refine ⟨m, hm, ?_⟩
        have : cs m = k := Value.isStrOf_inj _ _ _ hm q1
        show _ = hashStr w (cs m)
        rw [this]; exact q2
      · exact kc_nodup.mp (by rw [h1]; exact c)
  hand _ := rfl
  same _ := rfl
  aset ks := .sset (ks.map cs)
  srep ks o S h1 h2 := by
    obtain ⟨hex, es, ep, t, hd, hel, hm, hn, hf⟩ := h1
    refine ⟨fun x => decide (x ∈ ks.map cs), ⟨hex, es, ep, t, hd, fun e he => ?_, fun x => ?_, by rw [List.length_map]; exact hn, hf⟩, fun _ => rfl⟩
    · obtain ⟨⟨k, q1, q2⟩, q3⟩ := hel e he
      exact ⟨⟨cs k, q1, q2⟩, q3⟩
    · rw [decide_eq_true_eq]
      constructor
      · intro hx
        obtain ⟨k, hk, rfl⟩ := List.mem_map.mp hx
        exact (hm k).mp (by rw [h2]; exact decide_eq_true hk)
      · rintro ⟨e, he, q⟩
        obtain ⟨⟨k, q1, _⟩, _⟩ := hel e he
        have : x = cs k := Value.isStrOf_inj _ _ _ q q1
        subst this
        exact mem_cs.mpr (of_decide_eq_true (by rw [← h2]; exact (hm k).mpr ⟨e, he, q⟩))
  sun ks o h := by
    obtain ⟨S, ⟨hex, es, ep, t, hd, hel, hm, hn, hf⟩, h2⟩ := h
    refine ⟨fun k => decide (k ∈ ks), ⟨hex, es, ep, t, hd, fun e he => ?_, fun k => ?_, by rw [List.length_map] at hn; exact hn, hf⟩, fun _ => rfl⟩
    · obtain ⟨⟨x, q1, q2⟩, q3⟩ := hel e he
      have : x ∈ ks.map cs := of_decide_eq_true (by rw [← h2]; exact (hm x).mpr ⟨e, he, q1⟩)
      obtain ⟨k, hk, rfl⟩ := List.mem_map.mp this
      exact ⟨⟨k, q1, q2⟩, q3⟩
    · rw [decide_eq_true_eq, ← mem_cs (ks := ks), ← decide_eq_true_eq (p := cs k ∈ ks.map cs), ← h2]
      exact hm (cs k)
end
end
section
set_option maxRecDepth 100000
set_option Elab.async false
set_option linter.unusedVariables false
set_option maxHeartbeats 4000000
open PySem PySem.W PySem.Calls PyProof.Rows PySem.SeqAt
theorem Own.kinds {prog : Program} {w : World} {B B' : KeyBy prog w Int} {cN cT : Addr} {H : AHeap} {l : List As} (h : ∀ c ∈ l, ∀ S, c ≠ .srt S) (O : Own B cN cT H l) : Own B' cN cT H l :=
  ⟨fun c hc => by
    have q := O.all c hc
    cases c with
    | cell a o => exact q
    | srt S => exact absurd rfl (h _ hc S)
    | frag G => exact q, O.ap⟩
noncomputable def fan0 : PS := ⟨[], none, 0, 0⟩
noncomputable def fan1 : PS := (fan0.add 24 [0, 1]).add 25 [0]
noncomputable def fan2 : PS := (fan1.prep.gr.doneN [0]).1
noncomputable def fan3 : PS := (fan2.gr.doneN [1]).1
theorem fan_topo : ¬ fan1.Ring := by
  rintro ⟨C, hC, h⟩
  have key : ∀ c ∈ C, c = 24 ∨ c = 25 := fun c hc => by
    obtain ⟨x, hx, _, hs⟩ := h c hc
    have : ∀ x ∈ fan1.nds, ∀ s ∈ x.succ, s = 24 ∨ s = 25 := by decide
    exact this x hx c hs
  obtain ⟨c, hc⟩ := List.exists_mem_of_ne_nil C hC
  obtain ⟨x, hx, hxC, hs⟩ := h c hc
  have : ∀ x ∈ fan1.nds, ∀ s ∈ x.succ, x.key ≠ 24 ∧ x.key ≠ 25 := by decide
  rcases key _ hxC with q | q
  · exact (this x hx c hs).1 q
  · exact (this x hx c hs).2 q
theorem cs_a : ("a" : Str) = cs 0 := by kernel_rfl
theorem cs_b : ("b" : Str) = cs 1 := by kernel_rfl
theorem cs_y : ("y" : Str) = cs 24 := by kernel_rfl
theorem cs_z : ("z" : Str) = cs 25 := by kernel_rfl
theorem srt_cl {S : Srt} (h : ∀ x ∈ S.p.nds, ∀ s ∈ x.succ, ∃ y ∈ S.p.nds, y.key = s) : ∀ x ∈ S.nds, ∀ s ∈ x.succ, ∃ y ∈ S.nds, y.key = s := fun x hx s hs => by
  obtain ⟨y, hy, e⟩ := h x.p (List.mem_map_of_mem hx) s hs
  obtain ⟨z, hz, rfl⟩ := List.mem_map.mp hy
  exact ⟨z, hz, e⟩
theorem srt_sl {S : Srt} {n : Nat} (h : ∀ x ∈ S.p.nds, x.succ.length ≤ n) : ∀ x ∈ S.nds, x.succ.length ≤ n := fun x hx => h x.p (List.mem_map_of_mem hx)
theorem srt_has {S : Srt} {P : PS} {k : Int} (e : S.p = P) (h : ∃ x ∈ P.nds, x.key = k) : ∃ x ∈ S.nds, x.key = k := by
  subst e
  obtain ⟨y, hy, q⟩ := h
  obtain ⟨z, hz, rfl⟩ := List.mem_map.mp hy
  exact ⟨z, hz, q⟩
theorem one_at {a : Int} {i : Nat} {k : Int} (h : [a][i]? = some k) : i = 0 ∧ k = a := by
  cases i with
  | zero => exact ⟨rfl, (Option.some.inj h).symm⟩
  | succ i => cases h
theorem one_step {a : Int} {i : Nat} {k : Int} {P Q : PS} (hk : [a][i]? = some k) (hP : P = ([a].take i).foldl PS.done1 Q) : P.done1 k = ([a].take (i + 1)).foldl PS.done1 Q := by
  obtain ⟨rfl, rfl⟩ := one_at hk
  subst hP; rfl
theorem ready_of {S : Srt} {P : PS} {rd : Addr} {ns ms : List Int} (e : S.p = P) (r : S.ready = some (rd, ns)) (h : P.ready = some ms) : ns = ms := by
  subst e
  unfold Srt.p at h
  rw [r] at h
  exact Option.some.inj h
section
variable {prog : Program} {w : World} {mg mb : Str → Option Value}

theorem fan_spec {F : Fc} {n : Nat} {H : AHeap} {l : List As} (W : Wld (K1 w) F mg mb) (OF : F.Ok (n + 6)) (O : Own1 (KC prog w) H l) :
    Calls prog w F (.ref 212) [] H (fun v H' => ∃ a t1 t2 t3, v = .ref a ∧ Own1 (KC prog w) H' (.cell a (.list [.ref t1, .ref t2, .ref t3]) :: .cell t1 (.tup [vS "a", vS "b"]) :: .cell t2 (.tup [vS "z"]) :: .cell t3 (.tup [vS "y"]) :: l)) (fun _ _ _ => False) := by
  refine Calls.ent (fd := _) (body := _) (names := []) W OF ⟨⟨_, W.kx _ _ rfl, rfl⟩, rfl, rfl, rfl, codeRec_of W.kx (by rfl), rfl, rfl, by decide +kernel⟩ (fun args' ha => ?_) (by decide) (by decide +kernel) rfl rfl rfl fun F' E U OF' => ?_
  · rw [none_of ha]; rfl
  · dsimp only at E
    repeat (walk_at "T")
    refine C_code ((sorter_own (n := n + 3) E.W OF' O).mono ?_ (fun _ _ _ z => z.elim))
    rintro v H1 hx0_; refine ex1and5 hx0_ fun S y1_ O p0 r0 n0 => ?_; try clear hx0_; obtain rfl := y1_
    repeat (walk_at "T")
    rw [cs_y, cs_a, cs_b]
    refine C_code (args := [.ref S.self, (KC prog w).val 24] ++ kns (KC prog w) [0, 1]) ((add_spec (n := n + 1) (bd := 0) E.W OF' O (by walk_at "take") r0 (by rw [n0]; decide) (by rw [p0]; exact nofun) (by decide)).mono ?_ (fun _ _ _ z => z.elim))
    rintro v H2 hx0_; refine ex0and2 hx0_ fun y0_ y1_ => ?_; try clear hx0_; obtain rfl := y0_; refine ex1and4 y1_ fun S2 O s2 p2 r2 => ?_; try clear y1_
    rw [← s2]
    repeat (walk_at "T")
    rw [cs_z, cs_a]
    have hS2 : S2.p = fan0.add 24 [0, 1] := by rw [p2, p0]; rfl
    have n2 : S2.nds.length ≤ 10 := by rw [← p_len, hS2]; decide
    refine C_code (args := [.ref S2.self, (KC prog w).val 25] ++ kns (KC prog w) [0]) ((add_spec (n := n + 1) (bd := 5) E.W OF' O (by walk_at "take") r2 (by show S2.nds.length + 1 < 1000; omega) (by rw [hS2]; unfold PS.sl; decide) (by decide)).mono ?_ (fun _ _ _ z => z.elim))
    rintro v H3 hx0_; refine ex0and2 hx0_ fun y0_ y1_ => ?_; try clear hx0_; obtain rfl := y0_; refine ex1and4 y1_ fun S3 O s3 p3 r3 => ?_; try clear y1_
    have hS3 : S3.p = fan1 := by rw [p3, hS2]; rfl
    have n3 : S3.nds.length ≤ 10 := by rw [← p_len, hS3]; decide
    rw [← s3]
    repeat (walk_at "T")
    have hcl : ∀ x ∈ S3.nds, ∀ s ∈ x.succ, ∃ y ∈ S3.nds, y.key = s := srt_cl (by rw [hS3]; decide)
    have hsl : ∀ x ∈ S3.nds, x.succ.length ≤ 100 := srt_sl (by rw [hS3]; decide)
    refine C_code ((prep_spec (n := n + 3) E.W OF' O (by walk_at "take") r3 (by omega) hcl (fun x hx => leT (hsl x hx) rfl)).mono ?_ ?_)
    rotate_left
    · rintro c as H4 hx0_; refine ex0and2 hx0_ fun y0_ y1_ => ?_; try clear hx0_; obtain rfl := y0_; refine ex2and5 y1_ fun S4 rd _ _ _ _ hR => ?_; try clear y1_
      exact absurd hR (by rw [hS3]; exact fan_topo)
    rintro v H4 hx0_; refine ex0and2 hx0_ fun y0_ y1_ => ?_; try clear hx0_; obtain rfl := y0_; refine ex2and5 y1_ fun S4 rd O m4 p4 r4 _ => ?_; try clear y1_
    have hS4 : S4.p = fan1.prep := by rw [p4, hS3]
    rw [hS3] at r4
    rw [← m4.self]
    repeat (walk_at "T")
    have fr : fan1.frees = [0, 1] := by decide
    rw [fr] at r4
    refine C_code ((ready_spec (n := n + 4) E.W OF' O (by walk_at "take") r4 (by decide) (fun k hk => srt_has (P := fan1.prep) hS4 (by revert k; decide))).mono ?_ (fun _ _ _ z => z.elim))
    rintro v H5 hx0_; refine ex2and5 hx0_ fun t1 S5 y2_ O m5 p5 r5 => ?_; try clear hx0_; obtain rfl := y2_
    have hS5 : S5.p = fan1.prep.gr := by rw [p5, hS4]
    repeat (walk_at "T")
    intro told H6 hN; have O := Own.new O hN; clear hN
    repeat (walk_at "T")
    rw [← m5.self]
    repeat (walk_at "T")
    rw [cs_a]
    have m35 := m4.trans m5
    have O5 : Own1 (KC prog w) H6 (.srt S5 :: .cell told (.list [.ref t1]) :: .cell t1 (.tup (kns (KC prog w) [0, 1])) :: l) := O.perm (.swap _ _ _)
    clear O
    show CallE prog w F' (.ref 164) ([.ref S5.self] ++ kns (KC prog w) [0]) _ _ ⟨_, H6⟩
    refine C_code ((done_spec (n := n + 4) (fun i P => P = ([0].take i).foldl PS.done1 fan1.prep.gr) E.W OF' O5 .here r5 (by decide) (srt_cl (by rw [hS5]; decide)) (srt_sl (by rw [hS5]; decide)) hS5 (fun i k P hk hP _ => one_step hk hP) (fun i P hi hP => by
      have : i = 0 := Nat.lt_one_iff.mp hi
      subst this; subst hP; decide) (fun i k P hk hP => by
      obtain ⟨rfl, rfl⟩ := one_at hk
      subst hP; decide)).mono ?_ (fun _ _ _ z => z.elim))
    rintro v H7 hx0_; refine ex0and2 hx0_ fun y0_ y1_ => ?_; try clear hx0_; obtain rfl := y0_; refine ex2and4 y1_ fun S6 ns6 O m6 d6 r6 => ?_; try clear y1_
    have hS6 : S6.p = fan2 := by rw [hS5] at d6; exact (congrArg Prod.fst d6).symm
    obtain rfl : ns6 = [25] := ready_of hS6 r6 (by decide)
    rw [← m6.self]
    repeat (walk_at "T")
    refine C_code ((ready_spec (n := n + 4) E.W OF' O (by walk_at "take") r6 (by decide) (fun k hk => srt_has (P := fan2) hS6 (by revert k; decide))).mono ?_ (fun _ _ _ z => z.elim))
    rintro v H8 hx0_; refine ex2and5 hx0_ fun t2 S7 y2_ O m7 p7 r7 => ?_; try clear hx0_; obtain rfl := y2_
    have hS7 : S7.p = fan2.gr := by rw [p7, hS6]
    repeat (walk_at "T")
    refine C_append (by walk_at "own") (by simp) ?_
    intro H9 hN; have O := Own.put (l' := _) O (by walk_at "put") hN; clear hN
    repeat (walk_at "T")
    rw [← m7.self]
    repeat (walk_at "T")
    rw [cs_b]
    show CallE prog w F' (.ref 164) ([.ref S7.self] ++ kns (KC prog w) [1]) _ _ ⟨_, H9⟩
    refine C_code ((done_spec (n := n + 4) (fun i P => P = ([1].take i).foldl PS.done1 fan2.gr) E.W OF' O .here r7 (by decide) (srt_cl (by rw [hS7]; decide)) (srt_sl (by rw [hS7]; decide)) hS7 (fun i k P hk hP _ => one_step hk hP) (fun i P hi hP => by
      have : i = 0 := Nat.lt_one_iff.mp hi
      subst this; subst hP; decide) (fun i k P hk hP => by
      obtain ⟨rfl, rfl⟩ := one_at hk
      subst hP; decide)).mono ?_ (fun _ _ _ z => z.elim))
    rintro v H10 hx0_; refine ex0and2 hx0_ fun y0_ y1_ => ?_; try clear hx0_; obtain rfl := y0_; refine ex2and4 y1_ fun S8 ns8 O m8 d8 r8 => ?_; try clear y1_
    have hS8 : S8.p = fan3 := by rw [hS7] at d8; exact (congrArg Prod.fst d8).symm
    obtain rfl : ns8 = [24] := ready_of hS8 r8 (by decide)
    rw [← m8.self]
    repeat (walk_at "T")
    refine C_code ((ready_spec (n := n + 4) E.W OF' O (by walk_at "take") r8 (by decide) (fun k hk => srt_has (P := fan3) hS8 (by revert k; decide))).mono ?_ (fun _ _ _ z => z.elim))
    rintro v H11 hx0_; refine ex2and5 hx0_ fun t3 S9 y2_ O m9 p9 r9 => ?_; try clear hx0_; obtain rfl := y2_
    repeat (walk_at "T")
    intro o1 H12 hN; have O := Own.new O hN; clear hN
    refine B_addL (by walk_at "own") (by walk_at "own") (by simp) ?_
    intro re H13 hN; have O := Own.new O hN; clear hN
    repeat (walk_at "T")
    refine exi4 re t1 t2 t3 ⟨rfl, ?_⟩
    have O : Own1 (KC prog w) H13 (.cell re (.list [.ref t1, .ref t2, .ref t3]) :: .cell t3 (.tup [vS "y"]) :: .cell t2 (.tup [vS "z"]) :: .cell t1 (.tup [vS "a", vS "b"]) :: l) := by
      rw [cs_a, cs_b, cs_y, cs_z]
      exact O.sub (.cons_cons _ (.cons _ (.cons _ (.cons_cons _ (.cons_cons _ (.cons _ (.cons_cons _ (List.Sublist.refl _))))))))
    exact O.perm (.cons _ ((List.Perm.swap _ _ _).trans ((List.Perm.cons _ (.swap _ _ _)).trans (.swap _ _ _))))
end
end
section
set_option maxRecDepth 100000
set_option Elab.async false
set_option linter.unusedVariables false
set_option maxHeartbeats 4000000
open PySem PySem.W PySem.Calls PyProof.Rows PySem.SeqAt
structure SameN (L M : NL) : Prop where
  len : L.length = M.length
  at_ : ∀ e ∈ L, ∃ e' ∈ M, e'.1 = e.1 ∧ e'.2.2 = e.2.2
  nd : (M.map (·.1)).Nodup
section
variable {prog : Program} {w : World} {K : Frag} {mg mb : Str → Option Value} {nm : List (Str × NameKind)} {F : Fx} {st : St} {X : Value → List Value → St → Prop} {Q : Value → St → Prop} {s : Shared}
theorem dict_refs {L : NL} {kvs : List (Int × Value)} (h : kvs.map (fun p => (p.1, er p.2)) = nents L) : kvs = nents L := by
  unfold nents at *
  induction L generalizing kvs with
  | nil => cases kvs with
    | nil => rfl
    | cons _ _ => cases h
  | cons e L ih => cases kvs with
    | nil => cases h
    | cons p r =>
      rw [List.map_cons, List.map_cons] at h
      injection h with h1 h2
      injection h1 with h3 h4
      rw [List.map_cons, ih h2, ← er_ref h4, ← h3]
theorem list_same {H : AHeap} (R : HRel prog w F.toFc H s) {a b : Addr} {ns : List Int} (ha : H a = some (.list (nums ns))) (hb : H b = some (.list (nums ns))) {A : Around} (hu : A.units + 10 < 9900) : EqAt A s (.ref a) (.ref b) true := by
  obtain ⟨as, ra⟩ := Rd.reads R (d := .list (ns.map .int)) (v := .ref a) ⟨a, _, rfl, ha, RdAll.nums _ ns⟩
  obtain ⟨bs, rb⟩ := Rd.reads R (d := .list (ns.map .int)) (v := .ref b) ⟨b, _, rfl, hb, RdAll.nums _ ns⟩
  have h := eqAt_reads _ _ A s _ _ as bs ra rb (lay_nums ns) (lay_nums ns) (by
    have : PyData.depth (.list (ns.map .int)) ≤ 10 := by show PyData.depthAll (ns.map .int) + 1 ≤ 10; rw [depth_nums]; decide
    exact Nat.lt_of_le_of_lt (Nat.add_le_add_left (Nat.le_trans (Nat.min_le_left _ _) this) _) hu)
  rw [eqv_refl (.list (ns.map .int)) (lay_nums ns)] at h
  exact h
theorem ints_any {prog' : Program} {w' : World} {l : List DictEntry} {kvs : List (Int × Value)} (h : Pairs (intKind prog w) l kvs) : Pairs (intKind prog' w') l kvs := by
  induction h with
  | nil => exact .nil
  | cons a b _ ih => exact .cons a b ih
theorem dictOf_any {prog' : Program} {w' : World} {h : Heap} {d : Addr} {kvs : List (Int × Value)} (x : h.DictOf (intKind prog w) d kvs) : h.DictOf (intKind prog' w') d kvs := by
  obtain ⟨o, es, ep, h1, h2, h3, h4, h5, h6⟩ := x
  exact ⟨o, es, ep, h1, h2, h3, h4, ints_any h5, h6⟩
theorem dict_has (R : HRel prog w F.toFc st.H s) (E : Ent K mg mb nm F) {d : Addr} {L : NL} (h : NAt prog w st.H d L) : (d == sysModules) = false ∧ s.heap.DictOf (intKind prog w) d (nents L) := by
  obtain ⟨n, hd⟩ := h.dict
  obtain ⟨kvs, hm, e⟩ := dict_by (KI prog w) R hd
  rw [dict_refs e] at hm
  exact ⟨notSys R E.W.ns (by rw [hd]; exact nofun), hm.dictOf⟩
theorem dict_hits (R : HRel prog w F.toFc st.H s) {d₁ d₂ : Addr} {L M : NL} (h1 : NAt prog w st.H d₁ L) (h2 : NAt prog w st.H d₂ M) (q : SameN L M) {A : Around} (hu : A.units + 10 < 9900) :
    ∀ p ∈ nents L, ∃ y, valueAt (nents M) p.1 = some y ∧ EqAt A s p.2 y true := fun p hp => by
  obtain ⟨e, he, rfl⟩ := List.mem_map.mp hp
  obtain ⟨e', he', k1, k2⟩ := q.at_ e he
  exact ⟨.ref e'.2.1, by rw [← nents_at q.nd he', k1], list_same R (h1.list e he) (by rw [h2.list e' he', k2]) hu⟩
theorem nents_length (L : NL) : (nents L).length = L.length := List.length_map _
theorem P_neN {d₁ d₂ : Addr} {L M : NL} (E : Ent K mg mb nm F) (h1 : NAt prog w st.H d₁ L) (h2 : NAt prog w st.H d₂ M) (q : SameN L M) (hu : F.A.units < 9000) (h : Q (.bool false) st) : CmpE prog w F .NotEq (.ref d₁) (.ref d₂) Q X st := fun a' b' ha hb s R => by
  rw [er_ref ha, er_ref hb]
  obtain ⟨a1, a2⟩ := dict_has R.1 E h1
  obtain ⟨b1, b2⟩ := dict_has R.1 E h2
  exact dict_ne a1 b1 a2 b2 (by show _ < 9900; omega) (by rw [nents_length, nents_length, q.len]) (dict_hits R.1 h1 h2 q (by show F.A.units + 1 + 10 < 9900; omega)) ⟨st, R, .refl _ _ _ _, h⟩
theorem dict_eqAt (R : HRel prog w F.toFc st.H s) (E : Ent K mg mb nm F) {d₁ d₂ : Addr} {L M : NL} (h1 : NAt prog w st.H d₁ L) (h2 : NAt prog w st.H d₂ M) (q : SameN L M) {A : Around} (hu : A.units + 11 < 9900) : EqAt A s (.ref d₁) (.ref d₂) true := by
  by_cases e : d₁ = d₂
  · subst e; exact EqAt.same _
  · obtain ⟨a1, a2⟩ := dict_has R E h1
    obtain ⟨b1, b2⟩ := dict_has R E h2
    exact EqAt.of_refs e fun prog' w' E' Q' h' => dict_eq (prog := prog') (w := w') a1 b1 (dictOf_any a2) (dictOf_any b2) (by show _ < 9900; omega) (by rw [nents_length, nents_length, q.len]) (dict_hits R h1 h2 q (by show A.units + 1 + 10 < 9900; omega)) h'
theorem P_eqPair {t₁ t₂ d₁ d₂ u₁ u₂ : Addr} {L M L' M' : NL} (E : Ent K mg mb nm F) (ht : st.H t₁ = some (.tup [.ref d₁, .ref u₁])) (ht' : st.H t₂ = some (.tup [.ref d₂, .ref u₂])) (h1 : NAt prog w st.H d₁ L) (h2 : NAt prog w st.H d₂ M) (q : SameN L M)
    (h1' : NAt prog w st.H u₁ L') (h2' : NAt prog w st.H u₂ M') (q' : SameN L' M') (hu : F.A.units < 9000) (h : Q (.bool true) st) : CmpE prog w F .Eq (.ref t₁) (.ref t₂) Q X st := fun a' b' ha hb s R => by
  rw [er_ref ha, er_ref hb]
  obtain ⟨i1, hi1, e1⟩ := tup_at R.1 ht
  obtain ⟨i2, hi2, e2⟩ := tup_at R.1 ht'
  obtain ⟨x1, y1, f1, g1, g2⟩ := two_of e1
  obtain ⟨x2, y2, f2, g3, g4⟩ := two_of e2
  cases er_ref g1; cases er_ref g2; cases er_ref g3; cases er_ref g4
  obtain ⟨l1⟩ := i1
  obtain ⟨l2⟩ := i2
  have f1 : l1 = _ := f1
  have f2 : l2 = _ := f2
  subst f1 f2
  have hA : F.A.in1.units + 11 < 9900 := by show F.A.units + 1 + 11 < 9900; omega
  exact RcAt.tuples (e := fun _ => true) hi1 hi2 (by show _ < 9900; omega) (fun j j1 j2 => by
    match j, j1, j2 with
    | 0, _, _ => exact dict_eqAt R.1 E h1 h2 q hA
    | 1, _, _ => exact dict_eqAt R.1 E h1' h2' q' hA) prog w _ _ ⟨st, R, .refl _ _ _ _, h⟩
end
end
section
set_option maxRecDepth 100000
set_option Elab.async false
set_option linter.unusedVariables false
set_option maxHeartbeats 4000000
open PySem PySem.W PySem.Calls PyProof.Rows PySem.SeqAt
theorem pick_back (xs : List Value) : (List.range xs.length).filterMap (fun k => xs[xs.length - 1 - k]?) = xs.reverse := by
  have e : (List.range xs.length).map (fun k => xs[xs.length - 1 - k]?) = xs.reverse.map some := by
    refine List.ext_getElem (by rw [List.length_map, List.length_map, List.length_range, List.length_reverse]) fun i h1 h2 => ?_
    rw [List.length_map, List.length_range] at h1
    rw [List.getElem_map, List.getElem_map, List.getElem_range, List.getElem_reverse, List.getElem?_eq_getElem (by omega)]
  have h := congrArg (List.filterMap id) e
  rw [List.filterMap_map, List.filterMap_map] at h
  have h2 : xs.reverse.filterMap (id ∘ some) = xs.reverse := by
    show List.filterMap some xs.reverse = _
    exact List.filterMap_some
  rw [h2] at h
  exact h
theorem pick_rev {xs : List Value} : pickL xs none none (some (-1)) = xs.reverse := by
  have hb : sliceBounds none none (some (-1)) xs.length = ((xs.length : Int) - 1, -1, -1) := by
    unfold sliceBounds
    simp
  unfold pickL
  rw [hb]
  unfold sliceRange
  dsimp only
  rw [if_neg (by decide)]
  have hc : (if (xs.length : Int) - 1 > -1 then ((xs.length : Int) - 1 - -1 - -1 - 1) / (- -1) else 0).toNat = xs.length := by
    rw [show (-(-1 : Int)) = 1 from rfl, Int.ediv_one]
    split <;> omega
  rw [hc, ← pick_back]
  have : (List.range xs.length).map (fun (k : Nat) => ((xs.length : Int) - 1 + -1 * (k : Int)).toNat) = (List.range xs.length).map fun k => xs.length - 1 - k := by
    refine List.map_congr_left fun k hk => ?_
    have := List.mem_range.mp hk
    omega
  rw [this, List.filterMap_map]
  rfl
section
variable {prog : Program} {w : World}
theorem pick_mid {xs : List Value} {i j : Nat} (h : i ≤ j) : pickL xs (some (i : Int)) (some (j : Int)) none = (xs.take j).drop i := by
  rw [pickL_bounds (a := min i xs.length) (b := min j xs.length) (by
    unfold sliceBounds
    simp only [Option.getD_none]
    have h1 : ¬ ((i : Int) < 0) := by omega
    have h2 : ¬ ((j : Int) < 0) := by omega
    simp only [show ((1 : Int) > 0) from by decide, if_true, if_neg h1, if_neg h2]
    refine Prod.ext ?_ (Prod.ext ?_ rfl)
    · exact maxmin _ _
    · exact maxmin _ _) (by omega) (Nat.min_le_right _ _)]
  rw [List.drop_take]
  by_cases h1 : j ≤ xs.length
  · rw [Nat.min_eq_left h1, Nat.min_eq_left (by omega)]
  · rw [Nat.min_eq_right (by omega)]
    by_cases h2 : i ≤ xs.length
    · rw [Nat.min_eq_left h2, List.take_of_length_le (by rw [List.length_drop]; exact Nat.le_refl _), List.take_of_length_le (by rw [List.length_drop]; omega)]
    · rw [Nat.min_eq_right (by omega), List.drop_of_length_le (Nat.le_refl _), List.drop_of_length_le (by omega), List.take_nil, List.take_nil]
theorem E_sliceMid {F : Fx} {st : St} {X : Value → List Value → St → Prop} {Q : Value → St → Prop} {pos : Pos} {value lo hi : Expr} {p : Pos} (h : T prog w F (eval value F.env) (fun ov st₁ => T prog w F (eval lo F.env) (fun lv st₂ => T prog w F (eval hi F.env) (fun hv st₃ => ∃ a xs, ∃ i j : Nat, ov = .ref a ∧ lv = vI i ∧ hv = vI j ∧ i ≤ j ∧ Lst st₃.H a xs ∧ xs.length ≤ 1000000 ∧ ∀ b H', New st₃.H b (.list ((xs.take j).drop i)) H' → Q (.ref b) ⟨st₃.vars, H'⟩) X st₂) X st₁) X st) :
    T prog w F (eval (.Subscript value (.Slice (some lo) (some hi) none p) pos) F.env) Q X st :=
  T_slice (h.post fun ov st₁ q => T_partS (q.post fun lv st₂ q => T_partS (q.post fun hv st₃ hq => by
    refine ex4and7 hq fun a xs i j e1 e2 e3 hij e4 e5 q => ?_; try clear hq
    exact T_partN ⟨a, xs, some (i : Int), some (j : Int), none, e1, e4, e5, by subst e2; rfl, by subst e3; rfl, trivial, nofun, fun b hb => by
      rw [pick_mid hij]; exact q b _ ⟨hb, rfl⟩⟩)))
theorem E_sliceRev {F : Fx} {st : St} {X : Value → List Value → St → Prop} {Q : Value → St → Prop} {pos : Pos} {value stp : Expr} {p : Pos}
    (h : T prog w F (eval value F.env) (fun ov st₁ => T prog w F (eval stp F.env) (fun sv st₂ => ∃ a xs, ov = .ref a ∧ sv = vI (-1) ∧ st₂.H a = some (.list xs) ∧ xs.length ≤ 1000000 ∧ ∀ b H', New st₂.H b (.list xs.reverse) H' → Q (.ref b) ⟨st₂.vars, H'⟩) X st₁) X st) :
    T prog w F (eval (.Subscript value (.Slice none none (some stp) p) pos) F.env) Q X st :=
  T_slice (h.post fun ov st₁ q => T_partN (T_partN (T_partS (q.post fun sv st₂ hq => by
    refine ex2and5 hq fun a xs e1 e2 e3 e4 q => ?_; try clear hq
    exact ⟨a, xs, none, none, some (-1), e1, .inl e3, e4, trivial, trivial, by subst e2; rfl, nofun, fun b hb => by
      rw [pick_rev]; exact q b _ ⟨hb, rfl⟩⟩))))
end
end
section
set_option maxRecDepth 100000
set_option Elab.async false
set_option linter.unusedVariables false
open PySem PySem.W PySem.Calls PyProof.Rows PySem.SeqAt
theorem PS.sl.add {P : PS} {B : Nat} (h : P.sl B) (k : Int) (ps : List Int) : (P.add k ps).sl (B + ps.length) := ((h.touch k).bump k _).addTo
noncomputable def P00 : PS := ⟨[], none, 0, 0⟩
noncomputable def bldA (N : List (Int × List Int)) : PS := N.foldl (fun P e => P.add e.1 []) P00
end
section
set_option maxRecDepth 100000
set_option Elab.async false
set_option linter.unusedVariables false
open PySem PySem.W PySem.Calls PyProof.Rows PySem.SeqAt
structure GN (N : Nds) : Prop where
  nd : (N.map (·.1)).Nodup
  srt : (N.map (·.1)).Pairwise (· ≤ ·)
  cl : ∀ e ∈ N, ∀ a ∈ e.2, a ∈ N.map (·.1)
  few : N.length ≤ 10
  len : ∀ e ∈ N, e.2.length ≤ 20
noncomputable def fset (f : Int → Int) (k v : Int) : Int → Int := fun j => if j = k then v else f j
noncomputable def mk (N : Nds) (f : Int → Int) (g : Int → List Int) (rd : Option (List Int)) (o n : Int) : PS := ⟨N.map fun e => ⟨e.1, f e.1, g e.1⟩, rd, o, n⟩
theorem key_mem {N : Nds} {e : Int × List Int} (he : e ∈ N) : e.1 ∈ N.map (·.1) := List.mem_map_of_mem (f := fun e : Int × List Int => e.1) he
theorem key_at {N : Nds} {e : Int × List Int} {k : Int} (he : e ∈ N) (q : e.1 = k) : k ∈ N.map (·.1) := q ▸ key_mem he
theorem mk_congr {N : Nds} {f f' : Int → Int} {g g' : Int → List Int} {rd : Option (List Int)} {o n : Int} (h : ∀ e ∈ N, f e.1 = f' e.1) (h2 : ∀ e ∈ N, g e.1 = g' e.1) : mk N f g rd o n = mk N f' g' rd o n := by
  unfold mk
  congr 1
  exact List.map_congr_left fun e he => by rw [h e he, h2 e he]
section
variable {N : Nds} {f : Int → Int} {g : Int → List Int} {rd : Option (List Int)} {o n : Int}
theorem mk_find (hn : (N.map (·.1)).Nodup) {e : Int × List Int} (he : e ∈ N) : (mk N f g rd o n).nds.find? (fun x => decide (x.key = e.1)) = some ⟨e.1, f e.1, g e.1⟩ := by
  unfold mk
  refine find_nd (x := ⟨e.1, f e.1, g e.1⟩) (List.mem_map_of_mem (f := fun e : Int × List Int => (⟨e.1, f e.1, g e.1⟩ : PN)) he) fun y hy q => ?_
  obtain ⟨e', he', rfl⟩ := List.mem_map.mp hy
  have q : e'.1 = e.1 := q
  show (⟨e'.1, f e'.1, g e'.1⟩ : PN) = ⟨e.1, f e.1, g e.1⟩
  rw [q]
theorem mk_np (hn : (N.map (·.1)).Nodup) {e : Int × List Int} (he : e ∈ N) : (mk N f g rd o n).npOf e.1 = some (f e.1) := by
  unfold PS.npOf; rw [mk_find hn he]; rfl
theorem mk_succ (hn : (N.map (·.1)).Nodup) {e : Int × List Int} (he : e ∈ N) : (mk N f g rd o n).succOf e.1 = g e.1 := by
  unfold PS.succOf; rw [mk_find hn he]; rfl
theorem mk_onF (k : Int) (u : Int → Int) : (mk N f g rd o n).on k (fun x => { x with np := u x.np }) = mk N (fset f k (u (f k))) g rd o n := by
  unfold PS.on mk
  congr 1
  rw [List.map_map]
  refine List.map_congr_left fun e _ => ?_
  simp only [Function.comp, fset]
  by_cases q : e.1 = k
  · rw [if_pos q, if_pos q, q]
  · rw [if_neg q, if_neg q]
theorem mk_onG (k : Int) (u : List Int → List Int) : (mk N f g rd o n).on k (fun x => { x with succ := u x.succ }) = mk N f (fun j => if j = k then u (g k) else g j) rd o n := by
  unfold PS.on mk
  congr 1
  rw [List.map_map]
  refine List.map_congr_left fun e _ => ?_
  simp only [Function.comp]
  by_cases q : e.1 = k
  · rw [if_pos q, if_pos q, q]
  · rw [if_neg q, if_neg q]
theorem mk_setN (k v : Int) : (mk N f g rd o n).setN k v = mk N (fset f k v) g rd o n := mk_onF k fun _ => v
theorem mk_outs : ∀ (ns : List Int) (f : Int → Int), (mk N f g rd o n).outs ns = mk N (fun j => if j ∈ ns then -1 else f j) g rd o n
  | [], f => mk_congr (fun e _ => by simp) fun _ _ => rfl
  | k :: r, f => by
    show ((mk N f g rd o n).setN k (-1)).outs r = _
    rw [mk_setN, mk_outs r]
    refine mk_congr (fun e _ => ?_) fun _ _ => rfl
    simp only [fset, List.mem_cons]
    by_cases q1 : e.1 ∈ r
    · rw [if_pos q1, if_pos (.inr q1)]
    · by_cases q2 : e.1 = k
      · rw [if_neg q1, if_pos q2, if_pos (.inl q2)]
      · rw [if_neg q1, if_neg q2, if_neg (fun z => z.elim q2 q1)]
theorem mk_gr (ns : List Int) : (mk N f g (some ns) o n).gr = mk N (fun j => if j ∈ ns then -1 else f j) g (some []) (o + ns.length) n := by
  show { (mk N f g (some ns) o n).outs ns with ready := some [], out := (mk N f g (some ns) o n).out + ns.length } = _
  rw [mk_outs]; rfl
theorem mk_frees : (mk N f g rd o n).frees = (N.filter fun e => decide (f e.1 = 0)).map (·.1) := by
  unfold PS.frees mk
  rw [List.filter_map, List.map_map]; rfl
theorem mk_dec (hn : (N.map (·.1)).Nodup) {e : Int × List Int} (he : e ∈ N) {rd : List Int} : (mk N f g (some rd) o n).dec e.1 = mk N (fset f e.1 (f e.1 - 1)) g (some (if f e.1 - 1 = 0 then rd ++ [e.1] else rd)) o n := by
  unfold PS.dec
  rw [show (mk N f g (some rd) o n).on e.1 (fun x => { x with np := x.np - 1 }) = _ from mk_onF e.1 (fun i => i - 1)]
  simp only []
  rw [mk_np hn he]
  have : fset f e.1 (f e.1 - 1) e.1 = f e.1 - 1 := if_pos rfl
  rw [this]
  by_cases q : f e.1 - 1 = 0
  · rw [if_pos (by rw [q]), if_pos q]; rfl
  · rw [if_neg (fun z => q (Option.some.inj z)), if_neg q]
end
theorem mk_touch {N : Nds} {f : Int → Int} {g : Int → List Int} {rd : Option (List Int)} {o n k : Int} (h : k ∈ N.map (·.1)) : (mk N f g rd o n).touch k = mk N f g rd o n := by
  unfold PS.touch
  rw [if_pos]
  obtain ⟨e, he, rfl⟩ := List.mem_map.mp h
  exact List.any_eq_true.mpr ⟨⟨e.1, f e.1, g e.1⟩, List.mem_map_of_mem (f := fun e : Int × List Int => (⟨e.1, f e.1, g e.1⟩ : PN)) he, decide_eq_true rfl⟩
theorem mk_push {N : Nds} {f : Int → Int} {g : Int → List Int} {rd : Option (List Int)} {o n k s : Int} : (mk N f g rd o n).push k s = mk N f (fun j => if j = k then g k ++ [s] else g j) rd o n := mk_onG k fun l => l ++ [s]
theorem mk_bump {N : Nds} {f : Int → Int} {g : Int → List Int} {rd : Option (List Int)} {o n k v : Int} : (mk N f g rd o n).bump k v = mk N (fset f k (f k + v)) g rd o n := mk_onF k fun i => i + v
theorem mk_addTo {N : Nds} {f : Int → Int} {rd : Option (List Int)} {o n k : Int} : ∀ (ps : List Int) (g : Int → List Int), (∀ p ∈ ps, p ∈ N.map (·.1)) → PS.addTo k (mk N f g rd o n) ps = mk N f (fun j => g j ++ List.replicate (ps.count j) k) rd o n
  | [], g, _ => mk_congr (fun _ _ => rfl) fun e _ => by simp
  | p :: r, g, h => by
    show PS.addTo k (((mk N f g rd o n).touch p).push p k) r = _
    rw [mk_touch (h p List.mem_cons_self), mk_push, mk_addTo r _ fun q hq => h q (List.mem_cons_of_mem _ hq)]
    refine mk_congr (fun _ _ => rfl) fun e _ => ?_
    by_cases q : e.1 = p
    · rw [if_pos q, q, List.count_cons_self, List.replicate_succ, List.append_assoc]; rfl
    · rw [if_neg q, List.count_cons_of_ne (Ne.symm q)]
theorem mk_add {N : Nds} {f : Int → Int} {g : Int → List Int} {rd : Option (List Int)} {o n k : Int} {ps : List Int} (hk : k ∈ N.map (·.1)) (h : ∀ p ∈ ps, p ∈ N.map (·.1)) : (mk N f g rd o n).add k ps = mk N (fset f k (f k + ps.length)) (fun j => g j ++ List.replicate (ps.count j) k) rd o n := by
  show PS.addTo k (((mk N f g rd o n).touch k).bump k ps.length) ps = _
  rw [mk_touch hk, mk_bump, mk_addTo ps _ h]
theorem bldA_mk {N : Nds} (hn : (N.map (·.1)).Nodup) : bldA N = mk N (fun _ => 0) (fun _ => []) none 0 0 := by
  have : ∀ (M M0 : Nds), ((M0 ++ M).map (·.1)).Nodup → M.foldl (fun P e => P.add e.1 []) (mk M0 (fun _ => 0) (fun _ => []) none 0 0) = mk (M0 ++ M) (fun _ => 0) (fun _ => []) none 0 0 := by
    intro M
    induction M with
    | nil => intro M0 _; rw [List.append_nil]; rfl
    | cons e M ih =>
      intro M0 h
      have hne : e.1 ∉ M0.map (·.1) := by
        rw [List.map_append, List.nodup_append] at h
        exact fun z => h.2.2 _ z _ List.mem_cons_self rfl
      have h1 : (mk M0 (fun _ => 0) (fun _ => []) none 0 0).touch e.1 = mk (M0 ++ [e]) (fun _ => 0) (fun _ => []) none 0 0 := by
        unfold PS.touch
        rw [if_neg]
        · unfold Mine.mk; rw [List.map_append]; rfl
        · intro z
          obtain ⟨y, hy, q⟩ := List.any_eq_true.mp z
          obtain ⟨e', he', rfl⟩ := List.mem_map.mp hy
          exact hne (key_at he' (of_decide_eq_true q))
      have h2 : (mk M0 (fun _ => 0) (fun _ => []) none 0 0).add e.1 [] = mk (M0 ++ [e]) (fun _ => 0) (fun _ => []) none 0 0 := by
        show PS.addTo e.1 (((mk M0 _ _ none 0 0).touch e.1).bump e.1 (0 : Nat)) [] = _
        rw [h1, mk_bump]
        show mk (M0 ++ [e]) (fset (fun _ => 0) e.1 (0 + (0 : Nat))) (fun _ => []) none 0 0 = _
        refine mk_congr (fun e' _ => ?_) fun _ _ => rfl
        simp [fset]
      rw [List.foldl_cons, h2, ih (M0 ++ [e]) (by rw [List.append_assoc]; exact h), List.append_assoc]; rfl
  exact this N [] hn
end
section
set_option maxRecDepth 100000
set_option Elab.async false
set_option linter.unusedVariables false
set_option linter.unusedSectionVars false
open PySem PySem.W PySem.Calls PyProof.Rows PySem.SeqAt
structure GraphN (ks : List Int) (N : Nds) : Prop where
  good : GoodN ks N
  nd : ks.Nodup
  sym : ∀ a b, b ∈ atN N a → a ∈ atN N b
  irr : ∀ a, a ∉ atN N a
theorem atN_key {N : Nds} {a b : Int} (h : b ∈ atN N a) : a ∈ N.map (·.1) := by
  unfold atN at h
  cases q : N.find? fun e => decide (e.1 = a) with
  | none => rw [q] at h; exact absurd h List.not_mem_nil
  | some e =>
    have h1 := List.mem_of_find?_eq_some q
    have h2 : e.1 = a := of_decide_eq_true (List.find?_some (p := fun e : Int × List Int => decide (e.1 = a)) q)
    exact List.mem_map.mpr ⟨e, h1, h2⟩
theorem atN_set {N : Nds} {k x : Int} {xs : List Int} (hk : k ∈ N.map (·.1)) : atN (setN N k xs) x = if x = k then xs else atN N x := by
  unfold atN setN
  rw [List.find?_map]
  have e0 : ((fun e : Int × List Int => decide (e.1 = x)) ∘ fun e => if e.1 = k then (e.1, xs) else e) = fun e => decide (e.1 = x) := by
    funext e
    simp only [Function.comp]
    split <;> rfl
  rw [e0]
  cases q : N.find? fun e => decide (e.1 = x) with
  | none =>
    by_cases c : x = k
    · subst c
      obtain ⟨e, he, hx⟩ := List.mem_map.mp hk
      exact absurd (decide_eq_true hx) (List.find?_eq_none.mp q e he)
    · rw [if_neg c]; rfl
  | some e =>
    have h2 : e.1 = x := of_decide_eq_true (List.find?_some (p := fun e : Int × List Int => decide (e.1 = x)) q)
    show (if e.1 = k then (e.1, xs) else e).2 = _
    rw [h2]
    by_cases c : x = k
    · rw [if_pos c, if_pos c]
    · rw [if_neg c, if_neg c]; rfl
theorem joinA_keys (later : List Int) (J : Nds) (a : Int) : (joinA later J a).map (·.1) = J.map (·.1) := setN_keys _ _ _
theorem joinA_mem {later : List Int} {J : Nds} {a b x : Int} (ha : a ∈ J.map (·.1)) : b ∈ atN (joinA later J a) x ↔ b ∈ atN J x ∨ (x = a ∧ b ∈ later ∧ b ≠ x) := by
  unfold joinA
  rw [atN_set ha]
  by_cases c : x = a
  · subst c
    rw [if_pos rfl, List.mem_append, List.mem_filter]
    constructor
    · rintro (h | ⟨h1, h2⟩)
      · exact .inl h
      · refine .inr ⟨rfl, h1, fun q => ?_⟩
        subst q
        simp at h2
    · rintro (h | ⟨_, h1, h2⟩)
      · exact .inl h
      · by_cases d : b ∈ atN J x
        · exact .inl d
        · refine .inr ⟨h1, ?_⟩
          simp [d, h2]
  · rw [if_neg c]
    exact ⟨.inl, fun h => h.elim id fun z => absurd z.1 c⟩
theorem joins_mem {later : List Int} {b x : Int} : ∀ (xs : List Int) (J : Nds), (∀ a ∈ xs, a ∈ J.map (·.1)) → (b ∈ atN (xs.foldl (joinA later) J) x ↔ b ∈ atN J x ∨ (x ∈ xs ∧ b ∈ later ∧ b ≠ x))
  | [], J, _ => ⟨.inl, fun h => h.elim id fun z => absurd z.1 List.not_mem_nil⟩
  | a :: r, J, h => by
    rw [List.foldl_cons, joins_mem r (joinA later J a) fun y hy => by rw [joinA_keys]; exact h y (List.mem_cons_of_mem _ hy), joinA_mem (h a List.mem_cons_self), List.mem_cons]
    constructor
    · rintro ((h | ⟨h1, h2⟩) | ⟨h1, h2⟩)
      · exact .inl h
      · exact .inr ⟨.inl h1, h2⟩
      · exact .inr ⟨.inr h1, h2⟩
    · rintro (h | ⟨h1 | h1, h2⟩)
      · exact .inl (.inl h)
      · exact .inl (.inr ⟨h1, h2⟩)
      · exact .inr ⟨h1, h2⟩
noncomputable def skAt (N : Nds) (order : List Int) (i : Nat) : Sk := (order.take i).foldl (skStep order) ⟨N, [], []⟩
noncomputable def JJ (N : Nds) (order : List Int) (i : Nat) (a b : Int) : Prop := b ∈ atN (skAt N order i).J a
section
variable {N : Nds} {ks order : List Int}
theorem skAt_good (g : GraphN ks N) (i : Nat) : GoodN ks (skAt N order i).J := sks_good _ (s := ⟨N, [], []⟩) g.good
theorem skAt_D (i : Nat) : (skAt N order i).D = order.take i := by
  have := sks_D (order := order) (order.take i) (s := ⟨N, [], []⟩)
  rwa [List.nil_append] at this
theorem skAt_succ {i : Nat} {v : Int} (hv : order[i]? = some v) : skAt N order (i + 1) = skStep order (skAt N order i) v := by
  unfold skAt
  rw [List.take_add_one, hv, List.foldl_append]; rfl
theorem later_mem {i : Nat} {v a : Int} : a ∈ laterOf (skAt N order i).J (skAt N order i).D v ↔ JJ N order i v a ∧ a ∉ order.take i := by
  unfold laterOf JJ
  rw [List.mem_filter, skAt_D]
  simp
theorem JJ_succ (g : GraphN ks N) {i : Nat} {v : Int} (hv : order[i]? = some v) {a b : Int} :
    JJ N order (i + 1) a b ↔ JJ N order i a b ∨ ((JJ N order i v a ∧ a ∉ order.take i) ∧ (JJ N order i v b ∧ b ∉ order.take i) ∧ b ≠ a) := by
  have gi := skAt_good (order := order) g i
  unfold JJ
  rw [skAt_succ hv]
  show b ∈ atN (List.foldl _ _ _) a ↔ _
  rw [joins_mem _ _ fun y hy => by rw [gi.keys]; exact (later_good gi _ v).2 y hy]
  rw [later_mem, later_mem]
  exact Iff.rfl
theorem JJ_sym (g : GraphN ks N) : ∀ (i : Nat) {a b : Int}, JJ N order i a b → JJ N order i b a
  | 0, a, b, h => g.sym a b h
  | i + 1, a, b, h => by
    cases hv : order[i]? with
    | none =>
      have e : skAt N order (i + 1) = skAt N order i := by unfold skAt; rw [List.take_add_one, hv]; simp
      unfold JJ at h ⊢
      rw [e] at h ⊢
      exact JJ_sym g i h
    | some v =>
      rw [JJ_succ g hv] at h ⊢
      rcases h with h | ⟨h1, h2, h3⟩
      · exact .inl (JJ_sym g i h)
      · exact .inr ⟨h2, h1, Ne.symm h3⟩
theorem JJ_irr (g : GraphN ks N) : ∀ (i : Nat) (a : Int), ¬ JJ N order i a a
  | 0, a, h => g.irr a h
  | i + 1, a, h => by
    cases hv : order[i]? with
    | none =>
      have e : skAt N order (i + 1) = skAt N order i := by unfold skAt; rw [List.take_add_one, hv]; simp
      unfold JJ at h
      rw [e] at h
      exact JJ_irr g i a h
    | some v =>
      rw [JJ_succ g hv] at h
      rcases h with h | ⟨_, _, h3⟩
      · exact JJ_irr g i a h
      · exact h3 rfl
theorem JJ_key (g : GraphN ks N) {i : Nat} {a b : Int} (h : JJ N order i a b) : a ∈ ks ∧ b ∈ ks := by
  have gi := skAt_good (order := order) g i
  refine ⟨?_, (atN_good gi a).2 b h⟩
  have := atN_key h
  rwa [gi.keys] at this
theorem JJ_up (g : GraphN ks N) {i : Nat} {a b : Int} (h : JJ N order i a b) : ∀ k, JJ N order (i + k) a b
  | 0 => h
  | k + 1 => by
    have ih := JJ_up g h k
    cases hv : order[i + k]? with
    | none =>
      have e : skAt N order (i + k + 1) = skAt N order (i + k) := by unfold skAt; rw [List.take_add_one, hv]; simp
      show JJ N order (i + k + 1) a b
      unfold JJ at ih ⊢
      rw [e]; exact ih
    | some v => exact (JJ_succ g hv).mpr (.inl ih)
theorem JJ_stay (g : GraphN ks N) (hn : order.Nodup) {i : Nat} {v a : Int} (hv : order[i]? = some v) : ∀ k, JJ N order (i + k) v a → JJ N order i v a
  | 0, h => h
  | k + 1, h => by
    cases hu : order[i + k]? with
    | none =>
      have e : skAt N order (i + k + 1) = skAt N order (i + k) := by unfold skAt; rw [List.take_add_one, hu]; simp
      have h : JJ N order (i + k + 1) v a := h
      unfold JJ at h
      rw [e] at h
      exact JJ_stay g hn hv k h
    | some u =>
      rcases (JJ_succ g hu).mp h with h | ⟨⟨h1, h2⟩, _⟩
      · exact JJ_stay g hn hv k h
      · exfalso
        cases k with
        | zero =>
          rw [Nat.add_zero] at hu h1
          rw [hv] at hu; cases hu
          exact JJ_irr g i v h1
        | succ k =>
          refine h2 (List.mem_of_getElem? (i := i) ?_)
          rw [List.getElem?_take, if_pos (by omega)]; exact hv
noncomputable def JF (N : Nds) (order : List Int) (a b : Int) : Prop := JJ N order order.length a b
theorem pos_lt {a : Int} (h : a ∈ order) : order.idxOf a < order.length := List.idxOf_lt_length_iff.mpr h
theorem pos_get {a : Int} (h : a ∈ order) : order[order.idxOf a]? = some a := by
  rw [List.getElem?_eq_getElem (pos_lt h), List.getElem_idxOf]
theorem pos_of (hn : order.Nodup) {i : Nat} {a : Int} (h : order[i]? = some a) : order.idxOf a = i := by
  obtain ⟨hl, e⟩ := List.getElem?_eq_some_iff.mp h
  rw [← e]; exact hn.idxOf_getElem i hl
theorem take_pos (hn : order.Nodup) {i : Nat} {a : Int} (h : a ∈ order) : a ∈ order.take i ↔ order.idxOf a < i := by
  constructor
  · intro z
    obtain ⟨j, hj⟩ := List.getElem?_of_mem z
    rw [List.getElem?_take] at hj
    split at hj
    · rw [pos_of hn hj]; assumption
    · cases hj
  · intro z
    refine List.mem_of_getElem? (i := order.idxOf a) ?_
    rw [List.getElem?_take, if_pos z]; exact pos_get h
section
variable (g : GraphN ks N) (hn : order.Nodup) (hm : ∀ v, v ∈ order ↔ v ∈ ks)
include g hn hm
theorem JF_at {i : Nat} {v a : Int} (hv : order[i]? = some v) : JF N order v a ↔ JJ N order i v a := by
  have hl := (List.getElem?_eq_some_iff.mp hv).1
  have e : order.length = i + (order.length - i) := by omega
  unfold JF
  rw [e]
  exact ⟨JJ_stay g hn hv _, fun h => JJ_up g h _⟩
theorem JF_key {a b : Int} (h : JF N order a b) : a ∈ order ∧ b ∈ order := by
  have := JJ_key g h
  exact ⟨(hm a).mpr this.1, (hm b).mpr this.2⟩
theorem JF_sym {a b : Int} (h : JF N order a b) : JF N order b a := JJ_sym g _ h
theorem JF_ne {a b : Int} (h : JF N order a b) : a ≠ b := fun q => by subst q; exact JJ_irr g _ _ h
theorem pos_ne {a b : Int} (ha : a ∈ order) (hb : b ∈ order) (h : a ≠ b) : order.idxOf a ≠ order.idxOf b := fun q => h (by
  have h1 := pos_get ha
  rw [q, pos_get hb] at h1
  exact (Option.some.inj h1).symm)
theorem later_JF {i : Nat} {v a : Int} (hv : order[i]? = some v) : a ∈ laterOf (skAt N order i).J (skAt N order i).D v ↔ JF N order v a ∧ order.idxOf v < order.idxOf a := by
  rw [later_mem, JF_at g hn hm hv, pos_of hn hv]
  constructor
  · rintro ⟨h1, h2⟩
    have h3 : JF N order v a := (JF_at g hn hm hv).mpr h1
    have ha := (JF_key g hn hm h3).2
    rw [take_pos hn ha] at h2
    have := pos_ne g hn hm (JF_key g hn hm h3).1 ha (JF_ne g hn hm h3)
    rw [pos_of hn hv] at this
    exact ⟨h1, by omega⟩
  · rintro ⟨h1, h2⟩
    have ha := (JF_key g hn hm ((JF_at g hn hm hv).mpr h1)).2
    exact ⟨h1, by rw [take_pos hn ha]; omega⟩
theorem JF_close {v a b : Int} (h1 : JF N order v a) (h2 : JF N order v b) (p1 : order.idxOf v < order.idxOf a) (p2 : order.idxOf v < order.idxOf b) (hab : a ≠ b) : JF N order a b := by
  have hv := pos_get (JF_key g hn hm h1).1
  have e1 := (JF_at g hn hm hv).mp h1
  have e2 := (JF_at g hn hm hv).mp h2
  have k1 : a ∉ order.take (order.idxOf v) := by rw [take_pos hn (JF_key g hn hm h1).2]; omega
  have k2 : b ∉ order.take (order.idxOf v) := by rw [take_pos hn (JF_key g hn hm h2).2]; omega
  have h3 := (JJ_succ g hv).mpr (.inr ⟨⟨e1, k1⟩, ⟨e2, k2⟩, Ne.symm hab⟩)
  have hl := pos_lt (JF_key g hn hm h1).1
  have e : order.length = order.idxOf v + 1 + (order.length - (order.idxOf v + 1)) := by omega
  unfold JF
  rw [e]
  exact JJ_up g h3 _
theorem JF_edge {a b : Int} (h : b ∈ atN N a) : JF N order a b := by
  have := JJ_up (order := order) g (i := 0) h order.length
  rwa [Nat.zero_add] at this
theorem JF_least {P : Int → Int → Prop} (h0 : ∀ a b, b ∈ atN N a → P a b)
    (h1 : ∀ v a b, JF N order v a → JF N order v b → P v a → P v b → order.idxOf v < order.idxOf a → order.idxOf v < order.idxOf b → a ≠ b → P a b) {a b : Int} (h : JF N order a b) : P a b := by
  have : ∀ i a b, JJ N order i a b → i ≤ order.length → P a b := by
    intro i
    induction i with
    | zero => exact fun a b h _ => h0 a b h
    | succ i ih =>
      intro a b h hi
      have hv : order[i]? = some order[i] := List.getElem?_eq_getElem hi
      rcases (JJ_succ g hv).mp h with h | ⟨⟨q1, q2⟩, ⟨q3, q4⟩, q5⟩
      · exact ih a b h (by omega)
      · have f1 := (later_JF g hn hm hv).mp (later_mem.mpr ⟨q1, q2⟩)
        have f2 := (later_JF g hn hm hv).mp (later_mem.mpr ⟨q3, q4⟩)
        exact h1 _ a b f1.1 f2.1 (ih _ _ q1 (by omega)) (ih _ _ q3 (by omega)) f1.2 f2.2 (Ne.symm q5)
  exact this _ a b h (Nat.le_refl _)
end
end
end
section
set_option maxRecDepth 100000
set_option Elab.async false
set_option linter.unusedVariables false
set_option linter.unusedSectionVars false
open PySem PySem.W PySem.Calls PyProof.Rows PySem.SeqAt
inductive Reach (N : Nds) (S : List Int) (a : Int) : Int → Prop
  | refl : Reach N S a a
  | step {y z : Int} : Reach N S a y → z ∈ atN N y → z ∈ S → Reach N S a z
theorem Reach.more {N : Nds} {S S' : List Int} {a z : Int} (h : ∀ x ∈ S, x ∈ S') (r : Reach N S a z) : Reach N S' a z := by
  induction r with
  | refl => exact .refl
  | step _ h1 h2 ih => exact .step ih h1 (h _ h2)
theorem Reach.trans {N : Nds} {S : List Int} {a b c : Int} (r : Reach N S a b) (q : Reach N S b c) : Reach N S a c := by
  induction q with
  | refl => exact r
  | step _ h1 h2 ih => exact .step ih h1 h2
theorem Reach.back {ks : List Int} {N : Nds} {S : List Int} (g : GraphN ks N) {a z : Int} (r : Reach N S a z) (ha : a ∈ S) : Reach N S z a := by
  induction r with
  | refl => exact .refl
  | @step y z r h1 h2 ih =>
    have hy : y ∈ S := by
      cases r with
      | refl => exact ha
      | step _ _ h => exact h
    exact (Reach.step .refl (g.sym _ _ h1) hy).trans ih
section
variable {N : Nds} {ks order : List Int}
theorem met_reach (g : GraphN ks N) {ah : List Int} {a : Int} : ∀ n, ∀ z ∈ metOf N ah a n, Reach N ah a z
  | 0, z, h => by rw [List.mem_singleton.mp h]; exact .refl
  | n + 1, z, h => by
    rcases List.mem_append.mp h with h | h
    · exact met_reach g n z h
    · obtain ⟨h1, h2⟩ := List.mem_filter.mp h
      have h2 := (Bool.and_eq_true_iff.mp h2).2
      have h2 : (atN N z).filter (fun x => decide (x ∈ metOf N ah a n)) ≠ [] := by simpa using h2
      obtain ⟨x, hx⟩ := List.exists_mem_of_ne_nil _ h2
      obtain ⟨hx1, hx2⟩ := List.mem_filter.mp hx
      exact .step (met_reach g n x (of_decide_eq_true hx2)) (g.sym _ _ hx1) h1
noncomputable def MetShut (N : Nds) (ah met : List Int) : Prop := ∀ z ∈ ah, ∀ x ∈ met, z ∈ atN N x → z ∈ met
theorem met_mono {ah : List Int} {a : Int} {n : Nat} : ∀ z ∈ metOf N ah a n, z ∈ metOf N ah a (n + 1) := fun z h => List.mem_append_left _ h
theorem met_nd {ah : List Int} (h : ah.Nodup) (a : Int) : ∀ n, (metOf N ah a n).Nodup ∧ ∀ z ∈ metOf N ah a n, z ∈ a :: ah
  | 0 => ⟨by unfold metOf; simp, fun z hz => by rw [List.mem_singleton.mp hz]; exact List.mem_cons_self⟩
  | n + 1 => by
    obtain ⟨h1, h2⟩ := met_nd h a n
    refine ⟨List.nodup_append.mpr ⟨h1, h.filter _, fun x hx y hy q => ?_⟩, fun z hz => ?_⟩
    · subst q
      have := (List.mem_filter.mp hy).2
      rw [decide_eq_true hx] at this
      exact absurd this (by simp)
    · rcases List.mem_append.mp hz with hz | hz
      · exact h2 z hz
      · exact List.mem_cons_of_mem _ (List.mem_filter.mp hz).1
theorem met_grow (g : GraphN ks N) {ah : List Int} (h : ah.Nodup) (a : Int) : ∀ n, MetShut N ah (metOf N ah a n) ∨ n + 1 ≤ (metOf N ah a n).length
  | 0 => .inr (Nat.le_refl _)
  | n + 1 => by
    rcases met_grow g h a n with q | q
    · refine .inl ?_
      have e : metOf N ah a (n + 1) = metOf N ah a n := by
        show _ ++ _ = _
        rw [List.filter_eq_nil_iff.mpr, List.append_nil]
        intro z hz w
        obtain ⟨w1, w2⟩ := Bool.and_eq_true_iff.mp w
        have w1 : z ∉ metOf N ah a n := by simpa using w1
        have w2 : (atN N z).filter (fun x => decide (x ∈ metOf N ah a n)) ≠ [] := by simpa using w2
        obtain ⟨x, hx⟩ := List.exists_mem_of_ne_nil _ w2
        obtain ⟨hx1, hx2⟩ := List.mem_filter.mp hx
        exact w1 (q z hz x (of_decide_eq_true hx2) (g.sym _ _ hx1))
      rw [e]; exact q
    · by_cases c : MetShut N ah (metOf N ah a n)
      · refine .inl ?_
        intro z hz x hx hxz
        rcases List.mem_append.mp hx with hx | hx
        · exact met_mono z (c z hz x hx hxz)
        · exfalso
          obtain ⟨w0, w⟩ := List.mem_filter.mp hx
          obtain ⟨w1, w2⟩ := Bool.and_eq_true_iff.mp w
          have w1 : x ∉ metOf N ah a n := by simpa using w1
          have w2 : (atN N x).filter (fun x => decide (x ∈ metOf N ah a n)) ≠ [] := by simpa using w2
          obtain ⟨y, hy⟩ := List.exists_mem_of_ne_nil _ w2
          obtain ⟨hy1, hy2⟩ := List.mem_filter.mp hy
          exact w1 (c x w0 y (of_decide_eq_true hy2) (g.sym _ _ hy1))
      · refine .inr ?_
        have : ∃ z ∈ ah, ∃ x ∈ metOf N ah a n, z ∈ atN N x ∧ z ∉ metOf N ah a n := by
          refine Classical.byContradiction fun w => c fun z hz x hx hxz => Classical.byContradiction fun w2 => w ⟨z, hz, x, hx, hxz, w2⟩
        obtain ⟨z, hz, x, hx, hxz, hzn⟩ := this
        have hzm : z ∈ ah.filter fun z => !decide (z ∈ metOf N ah a n) && (atN N z).filter (fun x => decide (x ∈ metOf N ah a n)) != [] := by
          refine List.mem_filter.mpr ⟨hz, Bool.and_eq_true_iff.mpr ⟨by simpa using hzn, ?_⟩⟩
          have : x ∈ (atN N z).filter (fun x => decide (x ∈ metOf N ah a n)) := List.mem_filter.mpr ⟨g.sym _ _ hxz, decide_eq_true hx⟩
          simpa using List.ne_nil_of_mem this
        have := List.length_pos_of_mem hzm
        show _ ≤ (metOf N ah a n ++ _).length
        rw [List.length_append]
        omega
theorem met_shut (g : GraphN ks N) {ah : List Int} (h : ah.Nodup) (a : Int) : MetShut N ah (metOf N ah a ah.length) := by
  rcases met_grow g h a ah.length with q | q
  · exact q
  · intro z hz x hx hxz
    refine Classical.byContradiction fun hn => ?_
    obtain ⟨h1, h2⟩ := met_nd (N := N) h a ah.length
    have h3 : (z :: metOf N ah a ah.length).length ≤ (a :: ah).length := nodup_len (List.nodup_cons.mpr ⟨hn, h1⟩) fun y hy => by
      rcases List.mem_cons.mp hy with rfl | hy
      · exact List.mem_cons_of_mem _ hz
      · exact h2 y hy
    rw [List.length_cons, List.length_cons] at h3
    omega
theorem reach_met (g : GraphN ks N) {ah : List Int} (h : ah.Nodup) {a z : Int} (r : Reach N ah a z) : z ∈ metOf N ah a ah.length := by
  induction r with
  | refl =>
    have : ∀ n, a ∈ metOf N ah a n := fun n => by
      induction n with
      | zero => exact List.mem_singleton.mpr rfl
      | succ n ih => exact met_mono a ih
    exact this _
  | step _ h1 h2 ih => exact met_shut g h a _ h2 _ ih h1
noncomputable def Way (N : Nds) (S : List Int) (a b : Int) : Prop := ∃ z, Reach N S a z ∧ b ∈ atN N z
theorem ledB_way (g : GraphN ks N) (hn : order.Nodup) {a b : Int} : ledB N order a b = true ↔ a ≠ b ∧ Way N (ahead order a b) a b := by
  have hah : (ahead order a b).Nodup := hn.sublist (List.take_sublist _ _)
  unfold ledB
  rw [Bool.and_eq_true_iff]
  refine and_congr (by simp) ?_
  constructor
  · intro h
    have h : (atN N b).filter (fun x => decide (x ∈ metOf N (ahead order a b) a (ahead order a b).length)) ≠ [] := by simpa using h
    obtain ⟨x, hx⟩ := List.exists_mem_of_ne_nil _ h
    obtain ⟨hx1, hx2⟩ := List.mem_filter.mp hx
    exact ⟨x, met_reach g _ x (of_decide_eq_true hx2), g.sym _ _ hx1⟩
  · rintro ⟨z, r, hz⟩
    have : z ∈ (atN N b).filter (fun x => decide (x ∈ metOf N (ahead order a b) a (ahead order a b).length)) := List.mem_filter.mpr ⟨g.sym _ _ hz, decide_eq_true (reach_met g hah r)⟩
    simpa using List.ne_nil_of_mem this
section
variable (g : GraphN ks N) (hn : order.Nodup) (hm : ∀ v, v ∈ order ↔ v ∈ ks)
include g hn hm
theorem mem_ahead {a b x : Int} (hx : x ∈ order) : x ∈ ahead order a b ↔ order.idxOf x < order.idxOf a ∧ order.idxOf x < order.idxOf b := by
  unfold ahead
  rw [take_pos hn hx]
  omega
theorem JF_way {a b : Int} (h : JF N order a b) : Way N (ahead order a b) a b := by
  refine JF_least g hn hm (P := fun a b => Way N (ahead order a b) a b) (fun a b h => ⟨a, .refl, h⟩) (fun v a b h1 h2 w1 w2 p1 p2 hab => ?_) h
  have hv := (JF_key g hn hm h1).1
  have ha := (JF_key g hn hm h1).2
  have hb := (JF_key g hn hm h2).2
  have hvS : v ∈ ahead order a b := (mem_ahead g hn hm hv).mpr ⟨p1, p2⟩
  have sub : ∀ c x, order.idxOf v < order.idxOf c → x ∈ ahead order v c → x ∈ ahead order a b := fun c x p hx => by
    have hxo : x ∈ order := List.mem_of_mem_take hx
    have := (mem_ahead g hn hm hxo).mp hx
    exact (mem_ahead g hn hm hxo).mpr ⟨by omega, by omega⟩
  obtain ⟨z1, r1, e1⟩ := w1
  obtain ⟨z2, r2, e2⟩ := w2
  have r1' := r1.more (S' := ahead order a b) (sub a · p1)
  have r2' := r2.more (S' := ahead order a b) (sub b · p2)
  have hz1 : z1 ∈ ahead order a b := by
    cases r1' with
    | refl => exact hvS
    | step _ _ h => exact h
  exact ⟨z2, ((Reach.step .refl (g.sym _ _ e1) hz1).trans (r1'.back g hvS)).trans r2', e2⟩
theorem reach_split {i : Nat} {v a z : Int} (hv : order[i]? = some v) (r : Reach N (order.take (i + 1)) a z) :
    Reach N (order.take i) a z ∨ (Way N (order.take i) a v ∧ Reach N (order.take i) v z) := by
  induction r with
  | refl => exact .inl .refl
  | @step y z _ h1 h2 ih =>
    rw [List.take_add_one, hv] at h2
    rcases List.mem_append.mp h2 with h2 | h2
    · rcases ih with ih | ⟨ih1, ih2⟩
      · exact .inl (.step ih h1 h2)
      · exact .inr ⟨ih1, .step ih2 h1 h2⟩
    · have : z = v := by simpa using h2
      subst this
      rcases ih with ih | ⟨ih1, _⟩
      · exact .inr ⟨⟨y, ih, h1⟩, .refl⟩
      · exact .inr ⟨ih1, .refl⟩
theorem way_JJ : ∀ (i : Nat) {a b : Int}, i ≤ order.length → a ∈ order → b ∈ order → a ≠ b → i ≤ order.idxOf a → i ≤ order.idxOf b → Way N (order.take i) a b → JJ N order i a b
  | 0, a, b, _, _, _, _, _, _, ⟨z, r, h⟩ => by
    cases r with
    | refl => exact h
    | step _ _ h => exact absurd h List.not_mem_nil
  | i + 1, a, b, hi, ha, hb, hab, pa, pb, ⟨z, r, h⟩ => by
    have hv : order[i]? = some order[i] := List.getElem?_eq_getElem hi
    have pv := pos_of hn hv
    have hvo : order[i] ∈ order := List.getElem_mem hi
    generalize order[i] = v at hv pv hvo
    rcases reach_split g hn hm hv r with r | ⟨w, r⟩
    · exact (JJ_succ g hv).mpr (.inl (way_JJ i (by omega) ha hb hab (by omega) (by omega) ⟨z, r, h⟩))
    · have hav : a ≠ v := fun q => by rw [q] at pa; omega
      have hvb : v ≠ b := fun q => by rw [← q] at pb; omega
      have j1 := way_JJ i (by omega) ha hvo hav (by omega) (by omega) w
      have j2 := way_JJ i (by omega) hvo hb hvb (by omega) (by omega) ⟨z, r, h⟩
      exact (JJ_succ g hv).mpr (.inr ⟨⟨JJ_sym g i j1, by rw [take_pos hn ha]; omega⟩, ⟨j2, by rw [take_pos hn hb]; omega⟩, Ne.symm hab⟩)
theorem led_iff {a b : Int} (ha : a ∈ order) (hb : b ∈ order) : ledB N order a b = true ↔ JF N order a b := by
  rw [ledB_way g hn]
  constructor
  · rintro ⟨hab, w⟩
    have pa := pos_lt ha
    have := way_JJ g hn hm (min (order.idxOf a) (order.idxOf b)) (by omega) ha hb hab (by omega) (by omega) w
    have h2 := JJ_up g this (order.length - min (order.idxOf a) (order.idxOf b))
    unfold JF
    rwa [show min (order.idxOf a) (order.idxOf b) + (order.length - min (order.idxOf a) (order.idxOf b)) = order.length by omega] at h2
  · intro h
    exact ⟨JF_ne g hn hm h, JF_way g hn hm h⟩
end
theorem atN_of {L : Nds} (hn : (L.map (·.1)).Nodup) {e : Int × List Int} (he : e ∈ L) : atN L e.1 = e.2 := by
  unfold atN
  cases h : L.find? fun e' => decide (e'.1 = e.1) with
  | none => exact absurd (decide_eq_true rfl) (List.find?_eq_none.mp h e he)
  | some e' =>
    have h1 := List.mem_of_find?_eq_some h
    have h2 : e'.1 = e.1 := of_decide_eq_true (List.find?_some (p := fun e' : Int × List Int => decide (e'.1 = e.1)) h)
    have : e' = e := by
      clear h
      induction L with
      | nil => cases he
      | cons z r ih =>
        have hz := List.nodup_cons.mp hn
        have hin : ∀ {y : Int × List Int} {k : Int}, y ∈ r → y.1 = k → k ∈ r.map (·.1) := fun hy q => q ▸ List.mem_map_of_mem (f := fun y : Int × List Int => y.1) hy
        rcases List.mem_cons.mp he with rfl | he0
        · rcases List.mem_cons.mp h1 with rfl | h10
          · rfl
          · exact absurd (hin h10 h2) hz.1
        · rcases List.mem_cons.mp h1 with rfl | h10
          · exact absurd (hin he0 h2.symm) hz.1
          · exact ih hz.2 he0 h10
    rw [this]; rfl
theorem srt_eq {l m : List Int} (hl : l.Nodup) (hm : m.Nodup) (hs : m.Pairwise (· ≤ ·)) (h : ∀ x, x ∈ l ↔ x ∈ m) : srt l = m :=
  (srt_is ((List.perm_ext_iff_of_nodup hm hl).mpr fun x => (h x).symm) hs).symm
theorem map_keys_eq {L : Nds} {f g : Int × List Int → List Int} (h : ∀ e ∈ L, f e = g e) : L.map (fun e => (e.1, f e)) = L.map fun e => (e.1, g e) := List.map_congr_left fun e he => by rw [h e he]
noncomputable def joinedL (N : Nds) (order : List Int) : Nds := (N.map (·.1)).map fun k => (k, srt (atN (skAt N order order.length).J k))
theorem struckS_at (N : Nds) (order : List Int) : struckS N order = skAt N order order.length := by
  unfold struckS skAt; rw [List.take_length]
theorem struckJ_eq (g : GraphN ks N) : struckJ N order = joinedL N order := by
  unfold struckJ joinedL
  rw [struckS_at]
  have gi := skAt_good (order := order) g order.length
  have hk : (skAt N order order.length).J.map (·.1) = N.map (·.1) := by rw [gi.keys, g.good.keys]
  rw [← hk, List.map_map]
  refine List.map_congr_left fun e he => ?_
  simp only [Function.comp]
  rw [atN_of (by rw [gi.keys]; exact g.nd) he]
theorem joined_led (g : GraphN ks N) (hn : order.Nodup) (hm : ∀ v, v ∈ order ↔ v ∈ ks) (hs : ks.Pairwise (· ≤ ·)) : struckJ N order = led N order := by
  rw [struckJ_eq g]
  unfold joinedL led
  rw [List.map_map]
  refine map_keys_eq fun e he => ?_
  simp only [Function.comp]
  have gi := skAt_good (order := order) g order.length
  have hek : e.1 ∈ ks := by rw [← g.good.keys]; exact List.mem_map_of_mem (f := fun e : Int × List Int => e.1) he
  rw [g.good.keys]
  refine srt_eq (atN_good gi e.1).1 (g.nd.filter _) (hs.filter _) fun x => ?_
  rw [List.mem_filter]
  constructor
  · intro h
    have hx := (atN_good gi e.1).2 x h
    exact ⟨hx, (led_iff g hn hm ((hm _).mpr hek) ((hm _).mpr hx)).mpr h⟩
  · rintro ⟨hx, h⟩
    exact (led_iff g hn hm ((hm _).mpr hek) ((hm _).mpr hx)).mp h
end
end
section
set_option maxRecDepth 100000
set_option Elab.async false
set_option linter.unusedVariables false
set_option linter.unusedSectionVars false
open PySem PySem.W PySem.Calls PyProof.Rows PySem.SeqAt
noncomputable def upOf (N : Nds) (order : List Int) (v : Int) : List Int := (order.filter fun a => decide (a ∈ laterOf (skAt N order (order.idxOf v)).J (skAt N order (order.idxOf v)).D v)).take 1
section
variable {N : Nds} {ks order : List Int}
theorem skAt_U (hn : order.Nodup) : ∀ i, i ≤ order.length → (skAt N order i).U = (order.take i).map fun v => (v, upOf N order v)
  | 0, _ => rfl
  | i + 1, hi => by
    have hv : order[i]? = some order[i] := List.getElem?_eq_getElem hi
    rw [skAt_succ hv]
    show (skAt N order i).U ++ [_] = _
    have e1 : order.take (i + 1) = order.take i ++ [order[i]] := by rw [List.take_add_one, hv]; rfl
    rw [skAt_U hn i (by omega), e1, List.map_append]
    show _ = _ ++ [(order[i], upOf N order order[i])]
    unfold upOf
    rw [pos_of hn hv]
theorem struckU_eq (hn : order.Nodup) : struckU N order = order.map fun v => (v, upOf N order v) := by
  unfold struckU
  rw [struckS_at, skAt_U hn _ (Nat.le_refl _), List.take_length]
theorem atU (hn : order.Nodup) {v : Int} (hv : v ∈ order) : atN (struckU N order) v = upOf N order v := by
  rw [struckU_eq hn]
  exact atN_of (L := order.map fun v => (v, upOf N order v)) (by rw [List.map_map]; exact (List.map_id order).symm ▸ hn) (e := (v, upOf N order v)) (List.mem_map_of_mem (f := fun v => (v, upOf N order v)) hv)
theorem order_pos (hn : order.Nodup) : order.Pairwise fun a b => order.idxOf a < order.idxOf b := by
  rw [List.pairwise_iff_getElem]
  intro i j hi hj hij
  rw [hn.idxOf_getElem i hi, hn.idxOf_getElem j hj]; exact hij
section
variable (g : GraphN ks N) (hn : order.Nodup) (hm : ∀ v, v ∈ order ↔ v ∈ ks)
include g hn hm
theorem up_mem {v a : Int} (hv : v ∈ order) : a ∈ order.filter (fun a => decide (a ∈ laterOf (skAt N order (order.idxOf v)).J (skAt N order (order.idxOf v)).D v)) ↔ JF N order v a ∧ order.idxOf v < order.idxOf a := by
  rw [List.mem_filter, decide_eq_true_eq, later_JF g hn hm (pos_get hv)]
  exact ⟨fun h => h.2, fun h => ⟨(JF_key g hn hm h.1).2, h⟩⟩
theorem up_cases {v : Int} (hv : v ∈ order) : (upOf N order v = [] ∧ ∀ x, JF N order v x → ¬ order.idxOf v < order.idxOf x) ∨
    ∃ p, upOf N order v = [p] ∧ JF N order v p ∧ order.idxOf v < order.idxOf p ∧ ∀ x, JF N order v x → order.idxOf v < order.idxOf x → x ≠ p → order.idxOf p < order.idxOf x := by
  have hmem := fun a => up_mem g hn hm (a := a) hv
  have hp := (order_pos hn).filter (fun a => decide (a ∈ laterOf (skAt N order (order.idxOf v)).J (skAt N order (order.idxOf v)).D v))
  unfold upOf
  cases q : order.filter fun a => decide (a ∈ laterOf (skAt N order (order.idxOf v)).J (skAt N order (order.idxOf v)).D v) with
  | nil =>
    refine .inl ⟨rfl, fun x h1 h2 => ?_⟩
    have := (hmem x).mpr ⟨h1, h2⟩
    rw [q] at this; cases this
  | cons p r =>
    rw [q] at hp
    refine .inr ⟨p, rfl, ?_⟩
    have h1 := (hmem p).mp (by rw [q]; exact List.mem_cons_self)
    refine ⟨h1.1, h1.2, fun x h2 h3 h4 => ?_⟩
    have h5 := (hmem x).mpr ⟨h2, h3⟩
    rw [q] at h5
    rcases List.mem_cons.mp h5 with h5 | h5
    · exact absurd h5 h4
    · exact (List.pairwise_cons.mp hp).1 x h5
theorem up_is {v p : Int} (hv : v ∈ order) (h : upOf N order v = [p]) : JF N order v p ∧ order.idxOf v < order.idxOf p ∧ ∀ x, JF N order v x → order.idxOf v < order.idxOf x → x ≠ p → order.idxOf p < order.idxOf x := by
  rcases up_cases g hn hm hv with ⟨h1, _⟩ | ⟨q, h1, h2⟩
  · rw [h1] at h; cases h
  · rw [h1] at h; cases h; exact h2
theorem rises {P : Int → Int → Prop} (h1 : ∀ a p, a ∈ order → upOf N order a = [p] → P a p) (h2 : ∀ a p b, P a p → P p b → P a b) {a b : Int} (h : JF N order a b) (hp : order.idxOf a < order.idxOf b) : P a b := by
  have : ∀ n a, order.length - order.idxOf a ≤ n → JF N order a b → order.idxOf a < order.idxOf b → P a b := by
    intro n
    induction n with
    | zero =>
      intro a h3 h4 _
      have := pos_lt (JF_key g hn hm h4).1
      omega
    | succ n ih =>
      intro a h3 h4 h5
      have ha := (JF_key g hn hm h4).1
      rcases up_cases g hn hm ha with ⟨_, q⟩ | ⟨p, q1, q2, q3, q4⟩
      · exact absurd h5 (q b h4)
      · by_cases c : b = p
        · rw [c]; exact h1 a p ha q1
        · exact h2 a p b (h1 a p ha q1) (ih p (by omega) (JF_close g hn hm q2 h4 q3 h5 (Ne.symm c)) (q4 b h4 h5 c))
  exact this _ a (Nat.le_refl _) h hp
theorem lv_at {i : Nat} {v x : Int} {U : Nds} (hv : order[i]? = some v) (hx : x ∈ order.take i) : atV ((order.take (i + 1)).foldl (lvStep U) []) x = atV ((order.take i).foldl (lvStep U) []) x := by
  rw [List.take_add_one, hv, List.foldl_append]
  show atV (lvStep U _ v) x = _
  have hk := levels_keys (U := U) (order.take i) []
  generalize (order.take i).foldl (lvStep U) [] = l at hk
  unfold lvStep atV
  rw [List.find?_append]
  have : (l.find? fun e => decide (e.1 = x)).isSome := by
    rw [List.find?_isSome]
    have hx : x ∈ l.map (·.1) := by rw [hk]; exact hx
    obtain ⟨e, he, q⟩ := List.mem_map.mp hx
    exact ⟨e, he, decide_eq_true q⟩
  rw [Option.or_of_isSome this]
theorem lv_new {i : Nat} {v : Int} {U : Nds} (hv : order[i]? = some v) : atV ((order.take (i + 1)).foldl (lvStep U) []) v = maxL (0 :: ((order.take i).filter fun c => atN U c == [v]).map fun c => atV ((order.take i).foldl (lvStep U) []) c + 1) := by
  rw [List.take_add_one, hv, List.foldl_append]
  show atV (lvStep U _ v) v = _
  have hk := levels_keys (U := U) (order.take i) []
  rw [List.map_nil, List.nil_append] at hk
  generalize (order.take i).foldl (lvStep U) [] = l at hk
  unfold lvStep
  rw [hk]
  unfold atV
  rw [List.find?_append]
  have : l.find? (fun e => decide (e.1 = v)) = none := by
    rw [List.find?_eq_none]
    intro e he q
    have h1 : v ∈ l.map (·.1) := List.mem_map.mpr ⟨e, he, of_decide_eq_true q⟩
    rw [hk, take_pos hn (List.mem_of_getElem? hv), pos_of hn hv] at h1
    omega
  rw [this, Option.none_or]
  simp
theorem lv_stay {i : Nat} {v : Int} {U : Nds} (hv : order[i]? = some v) : ∀ k, i + 1 + k ≤ order.length → atV ((order.take (i + 1 + k)).foldl (lvStep U) []) v = atV ((order.take (i + 1)).foldl (lvStep U) []) v
  | 0, _ => rfl
  | k + 1, hk => by
    have hu : order[i + 1 + k]? = some order[i + 1 + k] := List.getElem?_eq_getElem hk
    have hmem : v ∈ order.take (i + 1 + k) := by rw [take_pos hn (List.mem_of_getElem? hv), pos_of hn hv]; omega
    rw [show i + 1 + (k + 1) = (i + 1 + k) + 1 by omega, lv_at g hn hm hu hmem, lv_stay hv k (by omega)]
noncomputable def lvl (N : Nds) (order : List Int) (v : Int) : Int := atV (levels (struckU N order) order) v
theorem lvl_eq {v : Int} (hv : v ∈ order) : lvl N order v = maxL (0 :: ((order.take (order.idxOf v)).filter fun c => upOf N order c == [v]).map fun c => lvl N order c + 1) := by
  have hg := pos_get hv
  have hl := pos_lt hv
  unfold lvl levels
  have e1 := lv_stay g hn hm (U := struckU N order) hg (order.length - (order.idxOf v + 1)) (by omega)
  rw [show order.idxOf v + 1 + (order.length - (order.idxOf v + 1)) = order.length by omega, List.take_length] at e1
  rw [e1, lv_new g hn hm hg]
  have hf : ((order.take (order.idxOf v)).filter fun c => atN (struckU N order) c == [v]) = (order.take (order.idxOf v)).filter fun c => upOf N order c == [v] := by
    refine List.filter_congr fun c hc => ?_
    rw [atU hn (List.mem_of_mem_take hc)]
  rw [hf]
  congr 2
  refine List.map_congr_left fun c hc => ?_
  have hcm := (List.mem_filter.mp hc).1
  have hco := List.mem_of_mem_take hcm
  have hcp := (take_pos hn hco).mp hcm
  have e2 := lv_stay g hn hm (U := struckU N order) (pos_get hco) (order.length - (order.idxOf c + 1)) (by omega)
  rw [show order.idxOf c + 1 + (order.length - (order.idxOf c + 1)) = order.length by omega, List.take_length] at e2
  have e3 := lv_stay g hn hm (U := struckU N order) (pos_get hco) (order.idxOf v - (order.idxOf c + 1)) (by omega)
  rw [show order.idxOf c + 1 + (order.idxOf v - (order.idxOf c + 1)) = order.idxOf v by omega] at e3
  rw [e2, e3]
theorem lvl_child {c v : Int} (hc : c ∈ order) (h : upOf N order c = [v]) : lvl N order c + 1 ≤ lvl N order v := by
  have h1 := up_is g hn hm hc h
  have hv := (JF_key g hn hm h1.1).2
  rw [lvl_eq g hn hm hv]
  refine maxL_ge (List.mem_cons_of_mem _ (List.mem_map.mpr ⟨c, List.mem_filter.mpr ⟨(take_pos hn hc).mpr h1.2.1, ?_⟩, rfl⟩))
  rw [h]; exact beq_self_eq_true _
theorem lvl_nonneg {v : Int} (hv : v ∈ order) : 0 ≤ lvl N order v := by
  rw [lvl_eq g hn hm hv]
  exact maxL_ge List.mem_cons_self
theorem lvl_has {v : Int} (hv : v ∈ order) : lvl N order v = 0 ∨ ∃ c ∈ order, upOf N order c = [v] ∧ lvl N order v = lvl N order c + 1 := by
  have h := maxL_mem (l := 0 :: ((order.take (order.idxOf v)).filter fun c => upOf N order c == [v]).map fun c => lvl N order c + 1) (List.cons_ne_nil _ _)
  rw [← lvl_eq g hn hm hv] at h
  rcases List.mem_cons.mp h with h | h
  · exact .inl h
  · obtain ⟨c, hc, q⟩ := List.mem_map.mp h
    obtain ⟨h1, h2⟩ := List.mem_filter.mp hc
    exact .inr ⟨c, List.mem_of_mem_take h1, beq_iff_eq.mp h2, q.symm⟩
theorem lvl_le {v : Int} (hv : v ∈ order) : lvl N order v ≤ order.idxOf v := by
  have : ∀ n v, v ∈ order → order.idxOf v ≤ n → lvl N order v ≤ order.idxOf v := by
    intro n
    induction n with
    | zero =>
      intro v hv h
      rcases lvl_has g hn hm hv with q | ⟨c, hc, h1, h2⟩
      · omega
      · have := (up_is g hn hm hc h1).2.1; omega
    | succ n ih =>
      intro v hv h
      rcases lvl_has g hn hm hv with q | ⟨c, hc, h1, h2⟩
      · omega
      · have := (up_is g hn hm hc h1).2.1
        have := ih c hc (by omega)
        omega
  exact this _ v hv (Nat.le_refl _)
theorem JF_lvl {a b : Int} (h : JF N order a b) (hp : order.idxOf a < order.idxOf b) : lvl N order a < lvl N order b :=
  rises g hn hm (P := fun a b => lvl N order a < lvl N order b) (fun a p ha hu => by have := lvl_child g hn hm ha hu; omega) (fun a p b h1 h2 => by omega) h hp
theorem JF_lvl_ne {a b : Int} (h : JF N order a b) : lvl N order a ≠ lvl N order b := by
  have hne := pos_ne g hn hm (JF_key g hn hm h).1 (JF_key g hn hm h).2 (JF_ne g hn hm h)
  rcases Nat.lt_or_ge (order.idxOf a) (order.idxOf b) with q | q
  · have := JF_lvl g hn hm h q; omega
  · have := JF_lvl g hn hm (JF_sym g hn hm h) (by omega); omega
end
section
variable {again : List Int} (g : GraphN ks N) (hn : order.Nodup) (hm : ∀ v, v ∈ order ↔ v ∈ ks) (hn2 : again.Nodup) (hm2 : ∀ v, v ∈ again ↔ v ∈ ks)
  (hl : ∀ a b, a ∈ again → b ∈ again → lvl N order a < lvl N order b → again.idxOf a < again.idxOf b)
include g hn hm hn2 hm2 hl
theorem agree {a b : Int} (h : JF N order a b) : order.idxOf a < order.idxOf b ↔ again.idxOf a < again.idxOf b := by
  have ha := (hm2 a).mpr ((hm a).mp (JF_key g hn hm h).1)
  have hb := (hm2 b).mpr ((hm b).mp (JF_key g hn hm h).2)
  constructor
  · intro q
    exact hl a b ha hb (JF_lvl g hn hm h q)
  · intro q
    refine Classical.byContradiction fun z => ?_
    have hne := pos_ne g hn hm (JF_key g hn hm h).1 (JF_key g hn hm h).2 (JF_ne g hn hm h)
    have := hl b a hb ha (JF_lvl g hn hm (JF_sym g hn hm h) (by omega))
    omega
theorem JF_again {a b : Int} : JF N again a b ↔ JF N order a b := by
  constructor
  · intro h
    refine JF_least g hn2 hm2 (P := fun a b => JF N order a b) (fun a b h => JF_edge g hn hm h) (fun v a b _ _ w1 w2 p1 p2 hab => ?_) h
    exact JF_close g hn hm w1 w2 ((agree g hn hm hn2 hm2 hl w1).mpr p1) ((agree g hn hm hn2 hm2 hl w2).mpr p2) hab
  · intro h
    refine JF_least g hn hm (P := fun a b => JF N again a b) (fun a b h => JF_edge g hn2 hm2 h) (fun v a b h1 h2 w1 w2 p1 p2 hab => ?_) h
    exact JF_close g hn2 hm2 w1 w2 ((agree g hn hm hn2 hm2 hl h1).mp p1) ((agree g hn hm hn2 hm2 hl h2).mp p2) hab
theorem up_again {v : Int} (hv : v ∈ ks) : upOf N again v = upOf N order v := by
  have hv1 := (hm v).mpr hv
  have hv2 := (hm2 v).mpr hv
  have J := fun a b => JF_again g hn hm hn2 hm2 hl (a := a) (b := b)
  rcases up_cases g hn hm hv1 with ⟨h1, q⟩ | ⟨p, h1, q1, q2, q3⟩
  · rcases up_cases g hn2 hm2 hv2 with ⟨h2, _⟩ | ⟨p2, h2, r1, r2, _⟩
    · rw [h1, h2]
    · have j := (J _ _).mp r1
      exact absurd ((agree g hn hm hn2 hm2 hl j).mpr r2) (q p2 j)
  · rcases up_cases g hn2 hm2 hv2 with ⟨h2, r⟩ | ⟨p2, h2, r1, r2, r3⟩
    · exact absurd ((agree g hn hm hn2 hm2 hl q1).mp q2) (r p ((J _ _).mpr q1))
    · by_cases c : p2 = p
      · rw [h1, h2, c]
      · exfalso
        have j2 := (J _ _).mp r1
        have p2l := (agree g hn hm hn2 hm2 hl j2).mpr r2
        have a1 := q3 p2 j2 p2l c
        have a2 := r3 p ((J _ _).mpr q1) ((agree g hn hm hn2 hm2 hl q1).mp q2) (Ne.symm c)
        have jj := JF_close g hn hm q1 j2 q2 p2l (Ne.symm c)
        have := (agree g hn hm hn2 hm2 hl jj).mp a1
        omega
theorem struckJ_again : struckJ N again = struckJ N order := by
  rw [struckJ_eq g, struckJ_eq g]
  unfold joinedL
  refine List.map_congr_left fun k hk => ?_
  have g1 := skAt_good (order := order) g order.length
  have g2 := skAt_good (order := again) g again.length
  congr 1
  have hs : (srt (atN (skAt N order order.length).J k)).Pairwise (· ≤ ·) := by
    have := List.pairwise_mergeSort (le := fun a b : Int => decide (a ≤ b)) (fun a b c h1 h2 => by simp at *; omega) (fun a b => by simp; omega) (atN (skAt N order order.length).J k)
    exact this.imp fun h => by simpa using h
  have hp : (srt (atN (skAt N order order.length).J k)).Perm (atN (skAt N order order.length).J k) := List.mergeSort_perm _ _
  refine srt_eq (atN_good g2 k).1 (hp.nodup_iff.mpr (atN_good g1 k).1) hs fun x => ?_
  rw [hp.mem_iff]
  exact JF_again g hn hm hn2 hm2 hl
end
end
end
section
set_option maxRecDepth 100000
set_option Elab.async false
set_option linter.unusedVariables false
set_option linter.unusedSectionVars false
open PySem PySem.W PySem.Calls PyProof.Rows PySem.SeqAt
structure Tree (order : List Int) (up : Int → List Int) (L : Int → Int) : Prop where
  nd : order.Nodup
  child : ∀ c ∈ order, ∀ v, up c = [v] → v ∈ order ∧ L c + 1 ≤ L v
  one : ∀ c ∈ order, up c = [] ∨ ∃ v, up c = [v]
  has : ∀ v ∈ order, L v = 0 ∨ ∃ c ∈ order, up c = [v] ∧ L v = L c + 1
  pos : ∀ v ∈ order, 0 ≤ L v
noncomputable def chn (order : List Int) (up : Int → List Int) (L : Int → Int) (k : Int) (xs : List Int) (v : Int) : Int := ((order.filter fun c => (up c == [v] && decide (k ≤ L c)) && !decide (c ∈ xs)).length : Nat)
noncomputable def KN (order : List Int) : Nds := order.reverse.map fun v => (v, [])
theorem KN_keys (order : List Int) : (KN order).map (·.1) = order.reverse := by unfold KN; rw [List.map_map]; exact List.map_id _
theorem KN_mem {order : List Int} {v : Int} (h : v ∈ order) : ((v, []) : Int × List Int) ∈ KN order := List.mem_map_of_mem (f := fun v => ((v, []) : Int × List Int)) (List.mem_reverse.mpr h)
theorem KN_of {order : List Int} {e : Int × List Int} (h : e ∈ KN order) : e.1 ∈ order := by
  obtain ⟨v, hv, rfl⟩ := List.mem_map.mp h
  exact List.mem_reverse.mp hv
theorem KN_nd {order : List Int} (h : order.Nodup) : ((KN order).map (·.1)).Nodup := by rw [KN_keys]; exact (List.reverse_perm order).nodup_iff.mpr h
noncomputable def fK (order : List Int) (up : Int → List Int) (L : Int → Int) (k : Int) (v : Int) : Int := if L v < k then -2 else chn order up L k [] v
noncomputable def SK' (order : List Int) (up : Int → List Int) (L : Int → Int) (k : Int) (R : List Int) (o n : Int) : PS := mk (KN order) (fK order up L k) up (some R) o n
noncomputable def fM (order : List Int) (up : Int → List Int) (L : Int → Int) (k : Int) (R xs : List Int) (v : Int) : Int := if v ∈ xs then -2 else if v ∈ R then -1 else if L v < k then -2 else chn order up L k xs v
structure RdOk (order : List Int) (up : Int → List Int) (L : Int → Int) (k : Int) (xs rd : List Int) : Prop where
  nd : rd.Nodup
  mem : ∀ p, p ∈ rd ↔ p ∈ order ∧ k < L p ∧ chn order up L k xs p = 0
structure RowOk (order : List Int) (L : Int → Int) (k : Int) (R : List Int) : Prop where
  nd : R.Nodup
  mem : ∀ v, v ∈ R ↔ v ∈ order ∧ L v = k
section
variable {order : List Int} {up : Int → List Int} {L : Int → Int} {k : Int}
theorem filt_less {p : Int → Bool} {x : Int} : ∀ {l : List Int}, l.Nodup → x ∈ l → (l.filter p).length = (l.filter fun c => p c && !decide (c = x)).length + if p x = true then 1 else 0
  | [], _, hx => absurd hx List.not_mem_nil
  | a :: l, hn, hx => by
    obtain ⟨h1, h2⟩ := List.nodup_cons.mp hn
    by_cases c : a = x
    · subst c
      have hsame : (l.filter fun c => p c && !decide (c = a)) = l.filter p := List.filter_congr fun c hc => by
        have : c ≠ a := fun q => h1 (q ▸ hc)
        simp [this]
      rw [List.filter_cons_of_neg (by simp) (p := fun c => p c && !decide (c = a)), hsame]
      by_cases d : p a = true
      · rw [List.filter_cons_of_pos d, if_pos d, List.length_cons]
      · rw [List.filter_cons_of_neg d, if_neg d, Nat.add_zero]
    · have hx : x ∈ l := (List.mem_cons.mp hx).resolve_left fun q => c q.symm
      have ih := filt_less (p := p) h2 hx
      by_cases d : p a = true
      · rw [List.filter_cons_of_pos d, List.filter_cons_of_pos (by simp [d, c]), List.length_cons, List.length_cons]; omega
      · rw [List.filter_cons_of_neg d, List.filter_cons_of_neg (by simp [d])]; exact ih
theorem chn_next (t : Tree order up L) {xs : List Int} {x v : Int} (hx : x ∈ order) (hk : k ≤ L x) (hn : x ∉ xs) : chn order up L k xs v = chn order up L k (xs ++ [x]) v + if up x = [v] then 1 else 0 := by
  unfold chn
  rw [filt_less (p := fun c => (up c == [v] && decide (k ≤ L c)) && !decide (c ∈ xs)) t.nd hx]
  have e1 : (order.filter fun c => ((up c == [v] && decide (k ≤ L c)) && !decide (c ∈ xs)) && !decide (c = x)) = order.filter fun c => (up c == [v] && decide (k ≤ L c)) && !decide (c ∈ xs ++ [x]) := List.filter_congr fun c _ => by
    rw [Bool.and_assoc]
    congr 1
    rw [Bool.eq_iff_iff]
    simp
  rw [e1]
  by_cases d : up x = [v]
  · rw [if_pos d, if_pos (by simp [d, hk, hn])]; push_cast; rfl
  · rw [if_neg d, if_neg (by simp [d])]; push_cast; rfl
theorem chn_pos (t : Tree order up L) {v : Int} (hv : v ∈ order) (h : k < L v) (h0 : 0 ≤ k) : chn order up L k [] v ≠ 0 := by
  rcases t.has v hv with q | ⟨c, hc, h1, h2⟩
  · omega
  · unfold chn
    have : c ∈ order.filter fun c => (up c == [v] && decide (k ≤ L c)) && !decide (c ∈ ([] : List Int)) := List.mem_filter.mpr ⟨hc, by simp [h1]; omega⟩
    have := List.length_pos_of_mem this
    omega
theorem chn_zero (t : Tree order up L) {v : Int} (h : L v ≤ k) : chn order up L k [] v = 0 := by
  unfold chn
  have : (order.filter fun c => (up c == [v] && decide (k ≤ L c)) && !decide (c ∈ ([] : List Int))) = [] := List.filter_eq_nil_iff.mpr fun c hc z => by
    have z1 := (Bool.and_eq_true_iff.mp (Bool.and_eq_true_iff.mp z).1)
    have h1 := (t.child c hc v (beq_iff_eq.mp z1.1)).2
    have h2 : k ≤ L c := of_decide_eq_true z1.2
    omega
  rw [this]; rfl
theorem chn_row (t : Tree order up L) {R : List Int} (r : RowOk order L k R) (v : Int) : chn order up L k R v = chn order up L (k + 1) [] v := by
  unfold chn
  congr 2
  refine List.filter_congr fun c hc => ?_
  rw [Bool.and_assoc, Bool.and_assoc]
  congr 1
  rw [Bool.eq_iff_iff]
  simp only [Bool.and_eq_true, decide_eq_true_eq, Bool.not_eq_true', decide_eq_false_iff_not, r.mem, List.not_mem_nil, not_false_eq_true, and_true]
  constructor
  · rintro ⟨h1, h2⟩
    have : L c ≠ k := fun q => h2 ⟨hc, q⟩
    omega
  · intro h
    exact ⟨by omega, fun q => by omega⟩
theorem round_step (t : Tree order up L) (h0 : 0 ≤ k) {R xs rd : List Int} {x o n : Int} (r : RowOk order L k R) (hx : x ∈ R) (hs : ∀ y ∈ xs, y ∈ R) (hnx : x ∉ xs) (q : RdOk order up L k xs rd) :
    ∃ rd', (mk (KN order) (fM order up L k R xs) up (some rd) o n).npOf x = some (-1) ∧ (mk (KN order) (fM order up L k R xs) up (some rd) o n).done1 x = mk (KN order) (fM order up L k R (xs ++ [x])) up (some rd') o (n + 1) ∧ RdOk order up L k (xs ++ [x]) rd' := by
  obtain ⟨hxo, hxL⟩ := (r.mem x).mp hx
  have hnd := KN_nd t.nd
  have hnp : (mk (KN order) (fM order up L k R xs) up (some rd) o n).npOf x = some (-1) := by
    rw [mk_np hnd (KN_mem hxo) (e := (x, []))]
    unfold fM
    rw [if_neg hnx, if_pos hx]
  have hsc : (mk (KN order) (fM order up L k R xs) up (some rd) o n).succOf x = up x := mk_succ hnd (KN_mem hxo) (e := (x, []))
  have hchn := fun v => chn_next t (v := v) hxo (by omega) hnx (k := k) (xs := xs)
  have hf0 : ∀ v ∈ order, v ≠ x → up x ≠ [v] → fM order up L k R xs v = fM order up L k R (xs ++ [x]) v := fun v hv h1 h2 => by
    unfold fM
    have e1 : v ∈ xs ++ [x] ↔ v ∈ xs := by simp [h1]
    rw [hchn v, if_neg h2, Int.add_zero]
    simp only [e1]
  have hfx : fM order up L k R (xs ++ [x]) x = -2 := by unfold fM; rw [if_pos (by simp)]
  rcases t.one x hxo with hu | ⟨p, hu⟩
  · refine ⟨rd, hnp, ?_, q.nd, fun p => ?_⟩
    · unfold PS.done1
      rw [hsc, hu, mk_setN]
      show (mk (KN order) (fset (fM order up L k R xs) x (-2)) up (some rd) o (n + 1)) = _
      refine mk_congr (fun e he => ?_) fun _ _ => rfl
      unfold fset
      by_cases c : e.1 = x
      · rw [if_pos c, c, hfx]
      · rw [if_neg c]
        exact hf0 _ (KN_of he) c (by rw [hu]; exact fun z => by cases z)
    · rw [q.mem, hchn p, if_neg (by rw [hu]; exact fun z => by cases z), Int.add_zero]
  · obtain ⟨hpo, hpL⟩ := t.child x hxo p hu
    have hpx : p ≠ x := fun z => by rw [z] at hpL; omega
    have hpR : p ∉ R := fun z => by have := ((r.mem p).mp z).2; omega
    have hpxs : p ∉ xs := fun z => hpR (hs p z)
    have hfp : fM order up L k R xs p = chn order up L k xs p := by
      unfold fM
      rw [if_neg hpxs, if_neg hpR, if_neg (by omega)]
    have hfp' : fM order up L k R (xs ++ [x]) p = chn order up L k (xs ++ [x]) p := by
      unfold fM
      rw [if_neg (by simp [hpxs, hpx]), if_neg hpR, if_neg (by omega)]
    have hc1 := hchn p
    rw [if_pos hu] at hc1
    refine ⟨if chn order up L k xs p - 1 = 0 then rd ++ [p] else rd, hnp, ?_, ?_⟩
    · unfold PS.done1
      rw [hsc, hu, mk_setN]
      show { (mk (KN order) (fset (fM order up L k R xs) x (-2)) up (some rd) o n).dec p with fin := ((mk (KN order) (fset (fM order up L k R xs) x (-2)) up (some rd) o n).dec p).fin + 1 } = _
      have hd := mk_dec hnd (f := fset (fM order up L k R xs) x (-2)) (g := up) (o := o) (n := n) (KN_mem hpo) (rd := rd)
      have e0 : fset (fM order up L k R xs) x (-2) p = chn order up L k xs p := by unfold fset; rw [if_neg hpx, hfp]
      have hd : (mk (KN order) (fset (fM order up L k R xs) x (-2)) up (some rd) o n).dec p = mk (KN order) (fset (fset (fM order up L k R xs) x (-2)) p (chn order up L k xs p - 1)) up (some (if chn order up L k xs p - 1 = 0 then rd ++ [p] else rd)) o n := by
        rw [← e0]; exact hd
      rw [hd]
      show mk (KN order) _ up _ o (n + 1) = _
      refine mk_congr (fun e he => ?_) fun _ _ => rfl
      unfold fset
      by_cases c : e.1 = p
      · rw [if_pos c, c, hfp']; omega
      · rw [if_neg c]
        by_cases c2 : e.1 = x
        · rw [if_pos c2, c2, hfx]
        · rw [if_neg c2]
          exact hf0 _ (KN_of he) c2 (by rw [hu]; exact fun z => c (by cases z; rfl))
    · have hpn : p ∉ rd := fun z => by have := ((q.mem p).mp z).2.2; have := Int.natCast_nonneg ((order.filter fun c => (up c == [p] && decide (k ≤ L c)) && !decide (c ∈ xs ++ [x])).length); unfold chn at *; omega
      by_cases c : chn order up L k xs p - 1 = 0
      · rw [if_pos c]
        refine ⟨List.nodup_append.mpr ⟨q.nd, by simp, fun a ha b hb z => ?_⟩, fun v => ?_⟩
        · rw [List.mem_singleton.mp hb] at z; exact hpn (z ▸ ha)
        · rw [List.mem_append, List.mem_singleton]
          by_cases d : v = p
          · subst d
            exact ⟨fun _ => ⟨hpo, by omega, by omega⟩, fun _ => .inr rfl⟩
          · rw [q.mem, hchn v, if_neg (by rw [hu]; exact fun z => d (by cases z; rfl)), Int.add_zero]
            exact ⟨fun h => h.elim id fun z => absurd z d, .inl⟩
      · rw [if_neg c]
        refine ⟨q.nd, fun v => ?_⟩
        by_cases d : v = p
        · subst d
          exact ⟨fun h => absurd h hpn, fun h => by have := h.2.2; omega⟩
        · rw [q.mem, hchn v, if_neg (by rw [hu]; exact fun z => d (by cases z; rfl)), Int.add_zero]
noncomputable def MidI (order : List Int) (up : Int → List Int) (L : Int → Int) (k : Int) (R : List Int) (o n : Int) (i : Nat) (P : PS) : Prop := ∃ rd, P = mk (KN order) (fM order up L k R (R.take i)) up (some rd) o (n + i) ∧ RdOk order up L k (R.take i) rd
theorem mid_start (t : Tree order up L) (h0 : 0 ≤ k) {R : List Int} (r : RowOk order L k R) (o n : Int) : MidI order up L k R (o + R.length) n 0 (SK' order up L k R o n).gr := by
  refine ⟨[], ?_, List.nodup_nil, fun p => ⟨fun h => absurd h List.not_mem_nil, fun h => absurd h.2.2 (chn_pos t h.1 h.2.1 h0)⟩⟩
  unfold SK'
  rw [mk_gr, List.take_zero, show n + ((0 : Nat) : Int) = n from Int.add_zero n]
  refine mk_congr (fun e he => ?_) fun _ _ => rfl
  unfold fM fK
  rw [if_neg List.not_mem_nil]
theorem mid_step (t : Tree order up L) (h0 : 0 ≤ k) {R : List Int} (r : RowOk order L k R) {o n : Int} {i : Nat} {x : Int} {P : PS} (hi : R[i]? = some x) (h : MidI order up L k R o n i P) : refusal (P.npOf x) x = none ∧ MidI order up L k R o n (i + 1) (P.done1 x) := by
  obtain ⟨rd, rfl, q⟩ := h
  have hx := List.mem_of_getElem? hi
  have hnx : x ∉ R.take i := fun z => by
    rw [take_pos r.nd hx, pos_of r.nd hi] at z; omega
  obtain ⟨rd', h1, h2, h3⟩ := round_step t h0 (o := o) (n := n + i) r hx (fun y hy => List.mem_of_mem_take hy) hnx q
  have e : R.take (i + 1) = R.take i ++ [x] := by rw [List.take_add_one, hi]; rfl
  refine ⟨by rw [h1]; rfl, rd', ?_, ?_⟩
  · rw [h2, e]
    congr 1
    push_cast; omega
  · rw [e]; exact h3
theorem mid_end (t : Tree order up L) (h0 : 0 ≤ k) {R : List Int} (r : RowOk order L k R) {o n : Int} {P : PS} (h : MidI order up L k R o n R.length P) : ∃ R', P = SK' order up L (k + 1) R' o (n + R.length) ∧ RowOk order L (k + 1) R' := by
  obtain ⟨rd, rfl, q⟩ := h
  rw [List.take_length] at q
  refine ⟨rd, ?_, q.nd, fun v => ?_⟩
  · rw [List.take_length]
    unfold SK'
    refine mk_congr (fun e he => ?_) fun _ _ => rfl
    have heo := KN_of he
    unfold fM fK
    rw [chn_row t r]
    by_cases c : e.1 ∈ R
    · rw [if_pos c, if_pos (by have := ((r.mem _).mp c).2; omega)]
    · rw [if_neg c, if_neg c]
      have : L e.1 ≠ k := fun z => c ((r.mem _).mpr ⟨heo, z⟩)
      by_cases d : L e.1 < k
      · rw [if_pos d, if_pos (by omega)]
      · rw [if_neg d, if_neg (by omega)]
  · rw [q.mem, chn_row t r]
    constructor
    · rintro ⟨h1, h2, h3⟩
      refine ⟨h1, ?_⟩
      refine Classical.byContradiction fun z => ?_
      exact chn_pos t h1 (by omega) (by omega) h3
    · rintro ⟨h1, h2⟩
      exact ⟨h1, by omega, chn_zero t (by omega)⟩
theorem mid_done (t : Tree order up L) (h0 : 0 ≤ k) {R : List Int} (r : RowOk order L k R) {o n : Int} : ∀ (m i : Nat) {P : PS}, i + m = R.length → MidI order up L k R o n i P → ∃ P', P.doneN (R.drop i) = (P', none) ∧ MidI order up L k R o n R.length P'
  | 0, i, P, hi, h => by
    have : i = R.length := by omega
    subst this
    rw [List.drop_length]
    exact ⟨P, rfl, h⟩
  | m + 1, i, P, hi, h => by
    have hl : i < R.length := by omega
    obtain ⟨h1, h2⟩ := mid_step t h0 r (List.getElem?_eq_getElem hl) h
    obtain ⟨P', h3, h4⟩ := mid_done t h0 r m (i + 1) (by omega) h2
    refine ⟨P', ?_, h4⟩
    rw [List.drop_eq_getElem_cons hl]
    unfold PS.doneN
    rw [h1]; exact h3
theorem mid_sane {R : List Int} {o n : Int} {i : Nat} {P : PS} (h : MidI order up L k R o n i P) (hol : order.length ≤ 10) : (∀ x ∈ P.nds, -2 ≤ x.np) ∧ (P.ready.getD []).length ≤ 50000 := by
  obtain ⟨rd, rfl, q⟩ := h
  constructor
  · intro x hx
    obtain ⟨e, he, rfl⟩ := List.mem_map.mp hx
    show -2 ≤ fM order up L k R (R.take i) e.1
    unfold fM chn
    split
    · omega
    · split
      · omega
      · split <;> omega
  · have : rd.length ≤ order.length := nodup_len q.nd fun p hp => ((q.mem p).mp hp).1
    show rd.length ≤ 50000
    omega
end
end
section
set_option maxRecDepth 100000
set_option Elab.async false
set_option linter.unusedVariables false
set_option linter.unusedSectionVars false
open PySem PySem.W PySem.Calls PyProof.Rows PySem.SeqAt
theorem tree_of {N : Nds} {ks order : List Int} (g : GraphN ks N) (hn : order.Nodup) (hm : ∀ v, v ∈ order ↔ v ∈ ks) : Tree order (upOf N order) (lvl N order) where
  nd := hn
  child c hc v h := ⟨(JF_key g hn hm (up_is g hn hm hc h).1).2, lvl_child g hn hm hc h⟩
  one c hc := by
    rcases up_cases g hn hm hc with ⟨h, _⟩ | ⟨p, h, _⟩
    · exact .inl h
    · exact .inr ⟨p, h⟩
  has v hv := lvl_has g hn hm hv
  pos v hv := lvl_nonneg g hn hm hv
section
variable {order : List Int} {up : Int → List Int} {L : Int → Int}
theorem no_ring (t : Tree order up L) {f : Int → Int} {rd : Option (List Int)} {o n : Int} : ¬ (mk (KN order) f up rd o n).Ring := by
  rintro ⟨C, hC, h⟩
  have down : ∀ c ∈ C, c ∈ order ∧ ∃ c' ∈ C, c' ∈ order ∧ L c' + 1 ≤ L c := fun c hc => by
    obtain ⟨x, hx, h1, h2⟩ := h c hc
    obtain ⟨e, he, rfl⟩ := List.mem_map.mp hx
    have h1 : e.1 ∈ C := h1
    have h2 : c ∈ up e.1 := h2
    have heo := KN_of he
    rcases t.one _ heo with q | ⟨p, q⟩
    · rw [q] at h2; cases h2
    · rw [q] at h2
      rw [List.mem_singleton.mp h2]
      have := t.child _ heo p q
      exact ⟨this.1, e.1, h1, heo, this.2⟩
  have low : ∀ (m : Nat) c, c ∈ C → L c ≤ m → False := by
    intro m
    induction m with
    | zero =>
      intro c hc hl
      obtain ⟨_, c', h1, h2, h3⟩ := down c hc
      have := t.pos c' h2
      omega
    | succ m ih =>
      intro c hc hl
      obtain ⟨_, c', h1, h2, h3⟩ := down c hc
      exact ih c' h1 (by omega)
  cases C with
  | nil => exact hC rfl
  | cons c r =>
    have h1 := t.pos c (down c List.mem_cons_self).1
    exact low (L c).toNat c List.mem_cons_self (by omega)
noncomputable def tellUp (up : Int → List Int) (P : PS) (v : Int) : PS := (up v).foldl (fun P a => P.add a [v]) P
noncomputable def told1 (order : List Int) : PS := order.reverse.foldl (fun P v => P.add v []) ⟨[], none, 0, 0⟩
noncomputable def told2 (order : List Int) (up : Int → List Int) : PS := order.foldl (tellUp up) (told1 order)
noncomputable def upN (order : List Int) (up : Int → List Int) (v : Int) : Int := ((order.filter fun c => up c == [v]).length : Nat)
theorem told1_mk (hn : order.Nodup) : told1 order = mk (KN order) (fun _ => 0) (fun _ => []) none 0 0 := by
  rw [← bldA_mk (KN_nd hn)]
  unfold told1 bldA KN
  rw [List.foldl_map]; rfl
theorem tellUp_mk (t : Tree order up L) {i : Nat} {v : Int} (hv : order[i]? = some v) :
    tellUp up (mk (KN order) (upN (order.take i) up) (fun j => if j ∈ order.take i then up j else []) none 0 0) v = mk (KN order) (upN (order.take (i + 1)) up) (fun j => if j ∈ order.take (i + 1) then up j else []) none 0 0 := by
  have hvo := List.mem_of_getElem? hv
  have e1 : order.take (i + 1) = order.take i ++ [v] := by rw [List.take_add_one, hv]; rfl
  have hvn : v ∉ order.take i := fun z => by rw [take_pos t.nd hvo, pos_of t.nd hv] at z; omega
  have hk : ∀ x ∈ order, x ∈ (KN order).map (·.1) := fun x hx => by rw [KN_keys]; exact List.mem_reverse.mpr hx
  have hN : ∀ x, upN (order.take (i + 1)) up x = upN (order.take i) up x + if up v = [x] then 1 else 0 := fun x => by
    unfold upN
    rw [e1, List.filter_append]
    by_cases d : up v = [x]
    · rw [if_pos d, List.filter_cons_of_pos (by simp [d]), List.length_append]; push_cast; rfl
    · rw [if_neg d, List.filter_cons_of_neg (by simp [d]), List.length_append]; push_cast; rfl
  unfold tellUp
  rcases t.one v hvo with q | ⟨p, q⟩
  · rw [q]
    refine mk_congr (fun e he => ?_) fun e he => ?_
    · rw [hN, q, if_neg (fun z => by cases z), Int.add_zero]
    · by_cases c : e.1 = v
      · rw [c, if_neg hvn, if_pos (by rw [e1]; simp), q]
      · have : e.1 ∈ order.take (i + 1) ↔ e.1 ∈ order.take i := by rw [e1]; simp [c]
        simp only [this]
  · have hp := (t.child v hvo p q).1
    rw [q]
    show (mk (KN order) _ _ none 0 0).add p [v] = _
    rw [mk_add (hk p hp) fun x hx => by rw [List.mem_singleton.mp hx]; exact hk v hvo]
    refine mk_congr (fun e he => ?_) fun e he => ?_
    · rw [hN, q]
      unfold fset
      by_cases c : e.1 = p
      · rw [if_pos c, c, if_pos rfl]; rfl
      · rw [if_neg c, if_neg (fun z => c (by cases z; rfl)), Int.add_zero]
    · by_cases c : e.1 = v
      · rw [c, if_neg hvn, if_pos (by rw [e1]; simp), q, List.count_cons_self]; rfl
      · have : e.1 ∈ order.take (i + 1) ↔ e.1 ∈ order.take i := by rw [e1]; simp [c]
        rw [List.count_cons_of_ne (Ne.symm c)]
        simp only [this]
        show _ ++ [] = _
        rw [List.append_nil]
theorem told2_at (t : Tree order up L) : ∀ i, i ≤ order.length → (order.take i).foldl (tellUp up) (told1 order) = mk (KN order) (upN (order.take i) up) (fun j => if j ∈ order.take i then up j else []) none 0 0
  | 0, _ => by
    rw [List.take_zero]
    show told1 order = _
    rw [told1_mk t.nd]
    exact mk_congr (fun _ _ => rfl) fun _ _ => rfl
  | i + 1, hi => by
    have hv : order[i]? = some order[i] := List.getElem?_eq_getElem hi
    rw [List.take_add_one, hv, List.foldl_append, told2_at t i (by omega)]
    show tellUp up _ order[i] = _
    rw [tellUp_mk t hv, List.take_add_one, hv]
theorem told2_mk (t : Tree order up L) : told2 order up = mk (KN order) (upN order up) up none 0 0 := by
  have := told2_at t order.length (Nat.le_refl _)
  rw [List.take_length] at this
  unfold told2
  rw [this]
  exact mk_congr (fun _ _ => rfl) fun e he => if_pos (KN_of he)
theorem upN_chn (t : Tree order up L) (v : Int) : upN order up v = chn order up L 0 [] v := by
  unfold upN chn
  congr 2
  refine List.filter_congr fun c hc => ?_
  have := t.pos c hc
  simp [this]
theorem prep_row (t : Tree order up L) : RowOk order L 0 (told2 order up).frees ∧ (told2 order up).prep = SK' order up L 0 (told2 order up).frees 0 0 := by
  have hf : (told2 order up).frees = ((KN order).filter fun e => decide (upN order up e.1 = 0)).map (·.1) := by rw [told2_mk t, mk_frees]
  refine ⟨⟨?_, fun v => ?_⟩, ?_⟩
  · rw [hf]
    exact (KN_nd t.nd).sublist ((List.filter_sublist).map _)
  · rw [hf]
    constructor
    · intro h
      obtain ⟨e, he, rfl⟩ := List.mem_map.mp h
      obtain ⟨h1, h2⟩ := List.mem_filter.mp he
      have h2 : upN order up e.1 = 0 := of_decide_eq_true h2
      have heo := KN_of h1
      refine ⟨heo, ?_⟩
      rw [upN_chn t] at h2
      have := t.pos _ heo
      refine Classical.byContradiction fun z => ?_
      exact chn_pos t heo (by omega) (Int.le_refl 0) h2
    · rintro ⟨h1, h2⟩
      refine List.mem_map.mpr ⟨(v, []), List.mem_filter.mpr ⟨KN_mem h1, decide_eq_true ?_⟩, rfl⟩
      rw [upN_chn t]; exact chn_zero t (v := v) (by omega)
  · unfold PS.prep SK'
    generalize hR : (told2 order up).frees = R
    rw [told2_mk t]
    show mk (KN order) (upN order up) up (some R) 0 0 = _
    refine mk_congr (fun e he => ?_) fun _ _ => rfl
    unfold fK
    rw [upN_chn t, if_neg (by have := t.pos _ (KN_of he); omega)]
theorem told2_ring (t : Tree order up L) : ¬ (told2 order up).Ring := by rw [told2_mk t]; exact no_ring t
structure AgOk (order : List Int) (L : Int → Int) (k : Int) (A : List Int) : Prop where
  nd : A.Nodup
  mem : ∀ v, v ∈ A ↔ v ∈ order ∧ L v < k
  inc : A.Pairwise fun a b => L a ≤ L b
theorem ag_nil (t : Tree order up L) : AgOk order L 0 [] := ⟨List.nodup_nil, fun v => ⟨fun h => absurd h List.not_mem_nil, fun h => by have := t.pos v h.1; omega⟩, List.Pairwise.nil⟩
theorem ag_next {k : Int} {A R : List Int} (a : AgOk order L k A) (r : RowOk order L k R) : AgOk order L (k + 1) (A ++ R) where
  nd := List.nodup_append.mpr ⟨a.nd, r.nd, fun x hx y hy q => by
    subst q
    have := ((a.mem x).mp hx).2
    have := ((r.mem x).mp hy).2
    omega⟩
  mem v := by
    rw [List.mem_append, a.mem, r.mem]
    constructor
    · rintro (⟨h1, h2⟩ | ⟨h1, h2⟩)
      · exact ⟨h1, by omega⟩
      · exact ⟨h1, by omega⟩
    · rintro ⟨h1, h2⟩
      by_cases c : L v = k
      · exact .inr ⟨h1, c⟩
      · exact .inl ⟨h1, by omega⟩
  inc := List.pairwise_append.mpr ⟨a.inc, List.pairwise_iff_forall_sublist.mpr fun {x y} h => by
    have hx := ((r.mem x).mp (h.subset List.mem_cons_self)).2
    have hy := ((r.mem y).mp (h.subset (List.mem_cons_of_mem _ List.mem_cons_self))).2
    omega, fun x hx y hy => by
    have := ((a.mem x).mp hx).2
    have := ((r.mem y).mp hy).2
    omega⟩
theorem ag_pos {k : Int} {A : List Int} (a : AgOk order L k A) {x y : Int} (hx : x ∈ A) (hy : y ∈ A) (h : L x < L y) : A.idxOf x < A.idxOf y := by
  refine Classical.byContradiction fun z => ?_
  have hlx := List.idxOf_lt_length_iff.mpr hx
  have hly := List.idxOf_lt_length_iff.mpr hy
  by_cases c : A.idxOf x = A.idxOf y
  · have h1 : A[A.idxOf x]? = some x := by rw [List.getElem?_eq_getElem hlx, List.getElem_idxOf]
    have h2 : A[A.idxOf y]? = some y := by rw [List.getElem?_eq_getElem hly, List.getElem_idxOf]
    rw [c, h2] at h1
    cases h1
    omega
  · have := (List.pairwise_iff_getElem.mp a.inc) (A.idxOf y) (A.idxOf x) hly hlx (by omega)
    rw [List.getElem_idxOf, List.getElem_idxOf] at this
    omega
end
section
variable {N : Nds} {ks order again : List Int} (g : GraphN ks N) (hn : order.Nodup) (hm : ∀ v, v ∈ order ↔ v ∈ ks)
include g hn hm
theorem ag_all {k : Int} (a : AgOk order (lvl N order) k again) (hk : (order.length : Int) ≤ k) : ∀ v, v ∈ again ↔ v ∈ ks := fun v => by
  rw [a.mem, hm]
  refine ⟨fun h => h.1, fun h => ⟨h, ?_⟩⟩
  have hv := (hm v).mpr h
  have h1 := lvl_le g hn hm hv
  have h2 := pos_lt hv
  omega
theorem again_is {k : Int} (a : AgOk order (lvl N order) k again) (hk : (order.length : Int) ≤ k) : struckJ N again = struckJ N order ∧ ∀ v ∈ ks, upOf N again v = upOf N order v := by
  have hm2 := ag_all g hn hm a hk
  have hl : ∀ x y, x ∈ again → y ∈ again → lvl N order x < lvl N order y → again.idxOf x < again.idxOf y := fun x y hx hy h => ag_pos a hx hy h
  exact ⟨struckJ_again g hn hm a.nd hm2 hl, fun v hv => up_again g hn hm a.nd hm2 hl hv⟩
theorem row_apart {k : Int} {R : List Int} (r : RowOk order (lvl N order) k R) {v : Int} (hv : v ∈ R) : R.filter (fun x => !decide (x ∈ atN (struckJ N order) v)) = R := by
  refine List.filter_eq_self.mpr fun x hx => ?_
  have hvo := ((r.mem v).mp hv)
  have hxo := ((r.mem x).mp hx)
  have : x ∉ atN (struckJ N order) v := fun z => by
    have gi := skAt_good (order := order) g order.length
    rw [struckJ_eq g] at z
    have hvk : v ∈ N.map (·.1) := by rw [g.good.keys]; exact (hm v).mp hvo.1
    have e := atN_of (L := joinedL N order) (by unfold joinedL; rw [List.map_map]; exact (List.map_id (N.map (·.1))).symm ▸ (by rw [g.good.keys]; exact g.nd)) (e := (v, srt (atN (skAt N order order.length).J v))) (List.mem_map_of_mem (f := fun k => (k, srt (atN (skAt N order order.length).J k))) hvk)
    have e : atN (joinedL N order) v = srt (atN (skAt N order order.length).J v) := e
    rw [e] at z
    have z : x ∈ atN (skAt N order order.length).J v := (List.mergeSort_perm _ _).mem_iff.mp z
    exact JF_lvl_ne g hn hm (a := v) (b := x) z (by rw [hvo.2, hxo.2])
  simpa using this
theorem row_sorted {k : Int} {R : List Int} (r : RowOk order (lvl N order) k R) (hs : ks.Pairwise (· ≤ ·)) : srt R = ks.filter fun v => lvl N order v == k :=
  srt_eq r.nd (g.nd.filter _) (hs.filter _) fun x => by
    rw [r.mem, List.mem_filter, hm]
    simp
end
end
section
set_option maxRecDepth 100000
set_option Elab.async false
set_option linter.unusedVariables false
set_option linter.unusedSectionVars false
open PySem PySem.W PySem.Calls PyProof.Rows PySem.SeqAt
structure NearI (size y x : Int) (N : Nds) : Prop where
  keys : N.map (·.1) = upTo size
  nd : ∀ e ∈ N, e.2.Nodup
  sym : ∀ a b, b ∈ atN N a → a ∈ atN N b
  old : ∀ a b, b ∈ atN N a → a ≠ b ∧ (0 ≤ b ∧ b < size) ∧ (max a b < y ∨ (max a b = y ∧ min a b < x))
theorem atN_nd {N : Nds} (h : ∀ e ∈ N, e.2.Nodup) (k : Int) : (atN N k).Nodup := by
  unfold atN
  cases q : N.find? fun e => decide (e.1 = k) with
  | none => exact List.nodup_nil
  | some e => exact h e (List.mem_of_find?_eq_some q)
theorem pushN_mem {N : Nds} {k x a b : Int} (hk : k ∈ N.map (·.1)) : b ∈ atN (pushN N k x) a ↔ b ∈ atN N a ∨ (a = k ∧ b = x) := by
  unfold pushN
  rw [atN_set hk]
  by_cases c : a = k
  · subst c
    rw [if_pos rfl, List.mem_append, List.mem_singleton]
    exact ⟨fun h => h.imp id fun q => ⟨rfl, q⟩, fun h => h.imp id fun q => q.2⟩
  · rw [if_neg c]
    exact ⟨.inl, fun h => h.elim id fun q => absurd q.1 c⟩
theorem pushN_nd {N : Nds} {k x : Int} (h : ∀ e ∈ N, e.2.Nodup) (hx : x ∉ atN N k) : ∀ e ∈ pushN N k x, e.2.Nodup := by
  intro e he
  obtain ⟨e', he', rfl⟩ := List.mem_map.mp he
  split
  · refine List.nodup_append.mpr ⟨atN_nd h k, by simp, fun a ha b hb q => ?_⟩
    rw [List.mem_singleton.mp hb] at q
    exact hx (q ▸ ha)
  · exact h e' he'
theorem near_step {size y x told : Int} {N : Nds} (h : NearI size y x N) (h0 : 0 ≤ x) (h1 : x < y) (h2 : y < size) : NearI size y (x + 1) (nearX told y N x) := by
  unfold nearX
  have hkx : x ∈ N.map (·.1) := by rw [h.keys]; exact mem_upTo h0 (by omega)
  have hky : y ∈ N.map (·.1) := by rw [h.keys]; exact mem_upTo (by omega) h2
  by_cases c : bitN told y x = true
  · rw [if_pos c]
    have hk1 : (pushN N x y).map (·.1) = N.map (·.1) := setN_keys _ _ _
    have hk2 : (pushN (pushN N x y) y x).map (·.1) = (pushN N x y).map (·.1) := setN_keys _ _ _
    have hm : ∀ a b, b ∈ atN (pushN (pushN N x y) y x) a ↔ (b ∈ atN N a ∨ (a = x ∧ b = y)) ∨ (a = y ∧ b = x) := fun a b => by
      rw [pushN_mem (by rw [hk1]; exact hky), pushN_mem hkx]
    have n1 : y ∉ atN N x := fun z => by have := (h.old x y z).2.2; omega
    have n2 : x ∉ atN (pushN N x y) y := fun z => by
      rcases (pushN_mem hkx).mp z with z | z
      · have := (h.old y x z).2.2; omega
      · omega
    refine ⟨by rw [hk2, hk1, h.keys], pushN_nd (pushN_nd h.nd n1) n2, fun a b z => ?_, fun a b z => ?_⟩
    · rw [hm] at z ⊢
      rcases z with (z | z) | z
      · exact .inl (.inl (h.sym a b z))
      · exact .inr ⟨z.2, z.1⟩
      · exact .inl (.inr ⟨z.2, z.1⟩)
    · rw [hm] at z
      rcases z with (z | ⟨rfl, rfl⟩) | ⟨rfl, rfl⟩
      · have := h.old a b z
        exact ⟨this.1, this.2.1, by omega⟩
      · exact ⟨by omega, by omega, by omega⟩
      · exact ⟨by omega, by omega, by omega⟩
  · rw [if_neg c]
    exact ⟨h.keys, h.nd, h.sym, fun a b z => by
      have := h.old a b z
      exact ⟨this.1, this.2.1, by omega⟩⟩
theorem near_row {size y told : Int} (h0 : 0 ≤ y) (h2 : y < size) : ∀ (i : Nat) {N : Nds}, (i : Int) ≤ y → NearI size y 0 N → NearI size y i (((upTo y).take i).foldl (nearX told y) N)
  | 0, N, _, h => h
  | i + 1, N, hi, h => by
    have ih := near_row (told := told) h0 h2 i (by push_cast at hi; omega) h
    have hl : i < (upTo y).length := by rw [upTo_len]; push_cast at hi; omega
    have hg : (upTo y)[i]? = some (upTo y)[i] := List.getElem?_eq_getElem hl
    obtain ⟨q1, q2, q3⟩ := upTo_get hg
    rw [List.take_add_one, hg, List.foldl_append]
    show NearI size y _ (nearX told y _ (upTo y)[i])
    rw [q1]
    push_cast
    exact near_step ih (by omega) (by push_cast at hi; omega) h2
theorem near_rows {size told : Int} (hs : 0 ≤ size) : ∀ (i : Nat), (i : Int) ≤ size → NearI size i 0 (((upTo size).take i).foldl (nearY told) ((upTo size).map fun v => (v, [])))
  | 0, _ => by
    have he : ∀ a, atN ((upTo size).map fun v => ((v, []) : Int × List Int)) a = [] := fun a => by
      unfold atN
      cases q : ((upTo size).map fun v => ((v, []) : Int × List Int)).find? fun e => decide (e.1 = a) with
      | none => rfl
      | some e =>
        obtain ⟨v, _, rfl⟩ := List.mem_map.mp (List.mem_of_find?_eq_some q)
        rfl
    refine ⟨by rw [List.take_zero]; show ((upTo size).map _).map _ = _; rw [List.map_map]; exact List.map_id _, fun e h => ?_, fun a b h => ?_, fun a b h => ?_⟩
    · obtain ⟨v, _, rfl⟩ := List.mem_map.mp h
      exact List.nodup_nil
    · have h : b ∈ atN ((upTo size).map fun v => ((v, []) : Int × List Int)) a := h
      rw [he] at h; cases h
    · have h : b ∈ atN ((upTo size).map fun v => ((v, []) : Int × List Int)) a := h
      rw [he] at h; cases h
  | i + 1, hi => by
    have ih := near_rows (told := told) hs i (by push_cast at hi; omega)
    have hl : i < (upTo size).length := by rw [upTo_len]; push_cast at hi; omega
    have hg : (upTo size)[i]? = some (upTo size)[i] := List.getElem?_eq_getElem hl
    obtain ⟨q1, q2, q3⟩ := upTo_get hg
    rw [List.take_add_one, hg, List.foldl_append]
    show NearI size _ 0 (nearY told _ (upTo size)[i])
    rw [q1]
    have h := near_row (told := told) (y := i) (by omega) (by push_cast at hi; omega) i (Int.le_refl _) ih
    have e : (upTo (i : Int)).take i = upTo i := List.take_of_length_le (by rw [upTo_len]; omega)
    rw [e] at h
    exact ⟨h.keys, h.nd, h.sym, fun a b z => by
      have := h.old a b z
      exact ⟨this.1, this.2.1, by push_cast; omega⟩⟩
theorem near_graph {size told : Int} (hs : 0 ≤ size) : GraphN (upTo size) (near told size) := by
  have h := near_rows (told := told) hs size.toNat (by omega)
  have e : (upTo size).take size.toNat = upTo size := List.take_of_length_le (by rw [upTo_len]; exact Nat.le_refl _)
  rw [e] at h
  have h : NearI size size.toNat 0 (near told size) := h
  refine ⟨⟨h.keys, h.nd, fun e he a ha => ?_⟩, upTo_nodup _, h.sym, fun a z => (h.old a a z).1 rfl⟩
  have : a ∈ atN (near told size) e.1 := by
    rw [atN_of (by rw [h.keys]; exact upTo_nodup _) he]; exact ha
  have := (h.old _ _ this).2.1
  exact mem_upTo this.1 this.2
theorem upTo_sorted (n : Int) : (upTo n).Pairwise (· ≤ ·) := by
  unfold upTo
  exact List.pairwise_map.mpr (List.pairwise_lt_range.imp fun h => by omega)
noncomputable def turned (size drawn : Int) : List Int := (upTo size).map fun v => (v + drawn).fmod size
theorem turned_nd {size drawn : Int} (hs : size = 4 ∨ size = 5) : (turned size drawn).Nodup := by
  unfold turned
  refine List.pairwise_map.mpr ((upTo_nodup size).imp_of_mem fun {a b} ha hb h q => h ?_)
  have h1 := upTo_mem ha
  have h2 := upTo_mem hb
  rw [Int.fmod_eq_emod_of_nonneg _ (by omega), Int.fmod_eq_emod_of_nonneg _ (by omega)] at q
  rcases hs with rfl | rfl <;> omega
theorem turned_mem {size drawn : Int} (hs : size = 4 ∨ size = 5) (v : Int) : v ∈ turned size drawn ↔ v ∈ upTo size := by
  unfold turned
  rw [List.mem_map]
  constructor
  · rintro ⟨a, ha, rfl⟩
    exact mem_upTo (Int.fmod_nonneg_of_pos _ (by omega)) (Int.fmod_lt_of_pos _ (by omega))
  · intro h
    have h1 := upTo_mem h
    refine ⟨(v - drawn) % size, mem_upTo ?_ ?_, ?_⟩
    · rcases hs with rfl | rfl <;> omega
    · rcases hs with rfl | rfl <;> omega
    · rw [Int.fmod_eq_emod_of_nonneg _ (by omega)]
      rcases hs with rfl | rfl <;> omega
theorem turned_len (size drawn : Int) : (turned size drawn).length = size.toNat := by unfold turned; rw [List.length_map, upTo_len]
end
section
set_option maxRecDepth 100000
set_option Elab.async false
set_option linter.unusedVariables false
set_option maxHeartbeats 4000000
open PySem PySem.W PySem.Calls PyProof.Rows PySem.SeqAt
section
variable {prog : Program} {w : World} {mg mb : Str → Option Value}

theorem P_isRef {F : Fx} {st : St} {X : Value → List Value → St → Prop} {Q : Value → St → Prop} {a b : Addr} {xs ys : List Value} (hne : a ≠ b) (ha : st.H a = some (.list xs)) (hb : st.H b = some (.list ys)) (h : Q (.bool false) st) : CmpE prog w F .Is (.ref a) (.ref b) Q X st := fun a' b' ha' hb' s R => by
  rw [er_ref ha', er_ref hb']
  obtain ⟨i1, ⟨o1, h1, c1, _⟩, _⟩ := list_at R.1 ha
  obtain ⟨i2, ⟨o2, h2, c2, _⟩, _⟩ := list_at R.1 hb
  exact wpAny_is_ref_other hne h1 h2 (by rw [c1]; decide) ⟨st, R, .refl _ _ _ _, h⟩
theorem Own.ne {B : KeyBy prog w Int} {cN cT : Addr} {H : AHeap} {l : List As} {a b : Addr} {o o' : AO} (O : Own B cN cT H (.cell a o :: l)) (h : As.cell b o' ∈ l) : a ≠ b := fun q => by
  have := (List.pairwise_cons.mp O.ap).1 _ (List.mem_map_of_mem h) a rfl
  exact this q
theorem E_tuple1 {F : Fx} {st : St} {X : Value → List Value → St → Prop} {Q : Value → St → Prop} {pos : Pos} {a : Expr} {k : Nat} (he : starEach [a] F.env = [(false, eval a F.env)])
    (h : T prog w F (eval a F.env) (fun v st₁ => ∀ t H', New st₁.H t (.tup [v]) H' → Q (.ref t) ⟨st₁.vars, H'⟩) X st) : T prog w F (eval (.Tuple [a] k pos) F.env) Q X st :=
  T_tuple (trees := [(false, eval a F.env)]) (by rw [he]; rfl) (T_sp1 (h.post fun _ _ q => T_sp0 ⟨by simp, fun t ht => q t _ ⟨ht, rfl⟩⟩))
theorem Own.layT {B : KeyBy prog w Int} {cN cT : Addr} {H G : AHeap} {l l' r : List As} {a : Addr} {o : AO} (O : Own B cN cT H l) (t : Take (.cell a o) l l') (t2 : Take (.frag G) l' r) : ∃ G', Own B cN cT H (.frag G' :: r) ∧ Ext G G' ∧ G' a = some o :=
  ((O.take t).perm (.cons _ t2.perm)).lay1
theorem nkeys_pure (L : NL) : (npure L).map (·.1) = L.map (·.1) := by unfold npure; rw [List.map_map]; rfl
theorem NAt.up {G H : AHeap} {d : Addr} {L : NL} (h : NAt prog w G d L) (x : ∀ a o, G a = some o → H a = some o) : NAt prog w H d L := ⟨h.dict.imp fun _ q => x _ _ q, fun e he => x _ _ (h.list e he)⟩
theorem foldl_take {α β : Type} {f : β → α → β} {l : List α} {b : β} {i : Nat} {x : α} (h : l[i]? = some x) : (l.take (i + 1)).foldl f b = f ((l.take i).foldl f b) x := by
  rw [List.take_add_one, h, List.foldl_append]; rfl
theorem add_lenN (P : PS) (k : Int) (ps : List Int) : (P.add k ps).nds.length ≤ P.nds.length + 1 + ps.length := by
  unfold PS.add
  have h1 := addTo_len k ps ((P.touch k).bump k (ps.length : Nat))
  have h2 : ((P.touch k).bump k (ps.length : Nat)).nds.length = (P.touch k).nds.length := on_len _ _ _
  have h3 := touch_len P k
  rw [h2] at h1
  exact Nat.le_trans h1 (Nat.add_le_add_right h3 _)
theorem kn_cl {order : List Int} {up : Int → List Int} {L f : Int → Int} {rd : Option (List Int)} {o n : Int} (t : Tree order up L) : ∀ x ∈ (mk (KN order) f up rd o n).nds, ∀ s ∈ x.succ, ∃ y ∈ (mk (KN order) f up rd o n).nds, y.key = s := fun x hx s hs => by
  obtain ⟨e, he, rfl⟩ := List.mem_map.mp hx
  have hs : s ∈ up e.1 := hs
  rcases t.one e.1 (KN_of he) with q | ⟨v, q⟩
  · rw [q] at hs; cases hs
  · rw [q] at hs
    cases List.mem_singleton.mp hs
    exact ⟨_, List.mem_map_of_mem (KN_mem (t.child _ (KN_of he) _ q).1), rfl⟩
theorem kn_sl {order : List Int} {up : Int → List Int} {L f : Int → Int} {rd : Option (List Int)} {o n : Int} (t : Tree order up L) : ∀ x ∈ (mk (KN order) f up rd o n).nds, x.succ.length ≤ 1 := fun x hx => by
  obtain ⟨e, he, rfl⟩ := List.mem_map.mp hx
  show (up e.1).length ≤ 1
  rcases t.one e.1 (KN_of he) with q | ⟨v, q⟩
  · rw [q]; exact Nat.zero_le _
  · rw [q]; exact Nat.le_refl _
theorem same_of {L M : NL} (h : npure L = npure M) (nd : (M.map (·.1)).Nodup) : SameN L M where
  len := by
    have := congrArg List.length h
    unfold npure at this
    rwa [List.length_map, List.length_map] at this
  at_ e he := by
    have : (e.1, e.2.2) ∈ npure M := by rw [← h]; exact List.mem_map_of_mem (f := fun e : Int × Addr × List Int => (e.1, e.2.2)) he
    obtain ⟨e', he', q⟩ := List.mem_map.mp this
    injection q with q1 q2
    exact ⟨e', he', q1, q2⟩
  nd := nd
theorem same_perm {L M : NL} {A order : List Int} {f g : Int → List Int} (h1 : npure L = A.map fun v => (v, f v)) (h2 : npure M = order.map fun v => (v, g v)) (hA : A.Nodup) (ho : order.Nodup) (hm : ∀ v, v ∈ A ↔ v ∈ order) (hf : ∀ v ∈ A, f v = g v) : SameN L M where
  len := by
    have e1 := congrArg List.length h1
    have e2 := congrArg List.length h2
    unfold npure at e1 e2
    rw [List.length_map, List.length_map] at e1 e2
    rw [e1, e2]
    exact Nat.le_antisymm (nodup_len hA fun a ha => (hm a).mp ha) (nodup_len ho fun a ha => (hm a).mpr ha)
  at_ e he := by
    have : (e.1, e.2.2) ∈ npure L := List.mem_map_of_mem (f := fun e : Int × Addr × List Int => (e.1, e.2.2)) he
    rw [h1] at this
    obtain ⟨v, hv, q⟩ := List.mem_map.mp this
    injection q with q1 q2
    have : (v, g v) ∈ npure M := by rw [h2]; exact List.mem_map_of_mem (f := fun v => (v, g v)) ((hm v).mp hv)
    obtain ⟨e', he', q'⟩ := List.mem_map.mp this
    injection q' with q3 q4
    exact ⟨e', he', q3.trans q1, by rw [q4, ← q2, hf v hv]⟩
  nd := by
    rw [← nkeys_pure, h2, List.map_map]
    exact (List.map_id order).symm ▸ ho
theorem sum_of : ∀ {xs : List Int} {n : Nat}, xs.length ≤ n → (∀ x ∈ xs, 0 ≤ x ∧ x < 10 ^ 10) → 0 ≤ xs.sum ∧ xs.sum ≤ n * 10 ^ 10
  | [], n, _, _ => ⟨by decide, by show (0 : Int) ≤ _; omega⟩
  | x :: r, 0, h, _ => absurd h (Nat.not_succ_le_zero _)
  | x :: r, n + 1, h, hb => by
    have h1 := sum_of (xs := r) (n := n) (Nat.le_of_succ_le_succ h) fun y hy => hb y (List.mem_cons_of_mem _ hy)
    have h2 := hb x List.mem_cons_self
    rw [List.sum_cons]
    push_cast
    omega
theorem A_bdone {nm : List (Str × NameKind)} {F : Fx} {st : St} {X : Value → List Value → St → Prop} {Q : Value → St → Prop} {l : List As} {S : Srt} {y : Addr} (E : Ent (K1 w) mg mb nm F) (O : Own1 (KI prog w) st.H l) (m : SAt S y l) (h : ∀ a H', New st.H a (.meth (.ref 164) (.ref S.self)) H' → Q (.ref a) ⟨st.vars, H'⟩) : AttrE prog w F (.ref y) "done" Q X st := by
  obtain ⟨m, rfl⟩ := m
  exact A_bound E (O.srtAt m).self (O.srtAt m).ns (by rfl) (by rfl) (by rfl) (by rfl) (by rfl) (by rfl) (by rfl) (by decide) h
local macro_rules | `(tactic| walk_at "T") => mwAll ["r E_tuple1"]
theorem law_walk {F : Fc} {n : Nat} {sc : Addr} {pb : Obj} {script : List Int} {H : AHeap} (W : Wld (K1 w) F mg mb) (OF : F.Ok (n + 12)) (O : Own1 (KI prog w) H [.cell sc (.pin pb)]) (hp : ∃ items n, pb.cls = .type "list" ∧ pb.data = .seq items n ∧ items.toList.map er = nums script) (hsl : script.length ≤ 63) :
    Calls prog w F (.ref 217) [.ref sc] H (fun v H' => v = .bool true ∧ Own1 (KI prog w) H' [.cell sc (.pin pb)]) (fun _ _ _ => False) := by
  refine Calls.ent (fd := _) (body := _) (names := ["script"]) W OF ⟨⟨_, W.kx _ _ rfl, rfl⟩, rfl, rfl, rfl, codeRec_of W.kx (by rfl), rfl, rfl, by decide +kernel⟩ (fun args' ha => ?_) (by decide) (by decide +kernel) rfl rfl rfl fun F' E U OF' => ?_
  · obtain ⟨a, rfl, _⟩ := one_of ha; rfl
  · dsimp only at E
    have hun := OF'.units
    repeat (walk_at "T")
    intro kp H1 hN; have O := Own.new O hN; clear hN
    repeat (walk_at "T")
    intro o1 H2 hN; have O := Own.new O hN; clear hN
    repeat (walk_at "T")
    refine C_code ((filter_own (n := n + 7) (xs := [.bool true, vI 2]) (ys := [vI 1]) (dxs := [.bool true, .int 2]) (dys := [.int 1]) E.W OF' O (.inl (O.get (.tail _ (.head _)))) (O.get (.head _)) ⟨rfl, rfl, trivial⟩ ⟨rfl, trivial⟩ rfl rfl (by decide)).mono ?_ (fun _ _ _ z => z.elim))
    rintro v H3 ⟨fl, rfl, O⟩
    rw [show filt [.bool true, vI 2] [.bool true, .int 2] [.int 1] = [vI 2] from by kernel_rfl] at O
    repeat (walk_at "T")
    intro o2 H4 hN; have O := Own.new O hN; clear hN
    have hcl : cLine = 9900 := rfl
    refine P_neD (da := .list [.int 2]) (db := .list [.int 2]) ⟨fl, [vI 2], rfl, O.get (.tail _ (.head _)), ⟨rfl, trivial⟩⟩ ⟨o2, [vI 2], rfl, O.get (.head _), ⟨rfl, trivial⟩⟩ (by decide) (by decide) (by
      have : min (PyData.depth (.list [.int 2])) (PyData.depth (.list [.int 2])) ≤ 10 := by decide +kernel
      omega) ?_
    refine ⟨_, rfl, (fun h => absurd h (by decide +kernel)), fun _ => ?_⟩
    repeat (walk_at "T")
    intro o3 H5 hN; have O := Own.new O hN; clear hN
    repeat (walk_at "T")
    refine C_code ((filter_own (n := n + 7) (xs := [.bool true, vI 2]) (ys := []) (dxs := [.bool true, .int 2]) (dys := []) E.W OF' O (.inl (O.get (by walk_at "mem"))) (O.get (.head _)) ⟨rfl, rfl, trivial⟩ trivial rfl rfl (by decide)).mono ?_ (fun _ _ _ z => z.elim))
    rintro v H6 ⟨gl, rfl, O⟩
    repeat (walk_at "T")
    refine P_isRef (Own.ne O (o' := .list [.bool true, vI 2]) (by walk_at "mem")) (O.get (.head _)) (O.get (o := .list [.bool true, vI 2]) (by walk_at "mem")) ?_
    refine ⟨_, rfl, (fun h => absurd h (by decide)), fun _ => ?_⟩
    repeat (walk_at "T")
    have O : Own1 (KI prog w) H6 [.cell sc (.pin pb)] := O.sub (.cons _ (.cons _ (.cons _ (.cons _ (.cons _ (.cons _ (List.Sublist.refl _)))))))
    have noS : ∀ c ∈ [As.cell sc (.pin pb)], ∀ S, c ≠ .srt S := fun c hc S e => by
      cases List.mem_singleton.mp hc; cases e
    refine C_code ((fan_spec (n := n + 5) E.W OF' (Own.kinds (B' := KC prog w) noS O)).mono ?_ (fun _ _ _ z => z.elim))
    clear O
    rintro v H7 hx0_; refine ex4and2 hx0_ fun fa t1 t2 t3 y4_ O => ?_; try clear hx0_; obtain rfl := y4_
    have O : Own1 (KI prog w) H7 _ := Own.kinds (B' := KI prog w) (fun c hc S e => by
      subst e
      simp at hc) O
    repeat (walk_at "T")
    intro q1 H8 hN; have O := Own.new O hN; clear hN
    repeat (walk_at "T")
    intro q2 H9 hN; have O := Own.new O hN; clear hN
    repeat (walk_at "T")
    intro q3 H10 hN; have O := Own.new O hN; clear hN
    repeat (walk_at "T")
    intro fb H11 hN; have O := Own.new O hN; clear hN
    have fd : PyData.canLay0 (.list [.tuple [.str "a", .str "b"], .tuple [.str "z"], .tuple [.str "y"]]) = true := by decide +kernel
    have fr : ∀ {x y z o : Addr} {H : AHeap}, H o = some (.list [.ref x, .ref y, .ref z]) → H x = some (.tup [vS "a", vS "b"]) → H y = some (.tup [vS "z"]) → H z = some (.tup [vS "y"]) → Rd H (.list [.tuple [.str "a", .str "b"], .tuple [.str "z"], .tuple [.str "y"]]) (.ref o) := fun {x y z o H} h1 h2 h3 h4 =>
      ⟨o, _, rfl, h1, ⟨x, _, rfl, h2, rfl, rfl, trivial⟩, ⟨y, _, rfl, h3, rfl, trivial⟩, ⟨z, _, rfl, h4, rfl, trivial⟩, trivial⟩
    refine P_neD (fr (O.get (by walk_at "mem")) (O.get (by walk_at "mem")) (O.get (by walk_at "mem")) (O.get (by walk_at "mem"))) (fr (O.get (.head _)) (O.get (by walk_at "mem")) (O.get (by walk_at "mem")) (O.get (by walk_at "mem"))) fd fd (by
      have : min (PyData.depth (.list [.tuple [.str "a", .str "b"], .tuple [.str "z"], .tuple [.str "y"]])) (PyData.depth (.list [.tuple [.str "a", .str "b"], .tuple [.str "z"], .tuple [.str "y"]])) ≤ 10 := by decide +kernel
      omega) ?_
    refine ⟨_, rfl, (fun h => absurd h (by decide +kernel)), fun _ => ?_⟩
    repeat (walk_at "T")
    refine ⟨nofun, fun _ => ?_⟩
    have O : Own1 (KI prog w) H11 [.cell sc (.pin pb)] := O.sub (.cons _ (.cons _ (.cons _ (.cons _ (.cons _ (.cons _ (.cons _ (.cons _ (List.Sublist.refl _)))))))))
    clear fd fr
    repeat (walk_at "T")
    refine exi4 sc (nums script) 1 2 ⟨rfl, rfl, rfl, by decide, .inr ⟨pb, O.get (.head _), hp⟩, by rw [nums_len]; omega, ?_⟩
    intro sl H12 hN; have O := Own.new O hN; clear hN
    have hl1 : (((nums script).take 2).drop 1).length ≤ 1 := by rw [List.length_drop, List.length_take]; omega
    repeat (walk_at "T")
    have hsz : 4 ≤ 4 + (((((nums script).take 2).drop 1).length : Nat) : Int) ∧ 4 + (((((nums script).take 2).drop 1).length : Nat) : Int) ≤ 5 := by omega
    generalize (4 : Int) + (((((nums script).take 2).drop 1).length : Nat) : Int) = size at hsz
    have O : Own1 (KI prog w) H12 [.cell sc (.pin pb)] := O.tail
    clear hl1
    refine E_listM (α := Int) E [] none rfl rfl (fun _ => rfl) OF'.hh ?_
    repeat (walk_at "T")
    refine ⟨trivial, exi6 (.pin pb) script vI (fun H => Own1 (KI prog w) H [.cell sc (.pin pb)]) (fun _ => true) (fun x => vI (x.fmod (10 ^ 10))) ⟨⟨sc, rfl, O.get (.head _), hp⟩, by omega, O, fun H vs O => ⟨sc, rfl, O.get (.head _), hp⟩, ?_, ?_⟩⟩
    · clear O
      intro F2 E2 hF x H hx O
      repeat (walk_at "T")
      refine ⟨fun _ => ?_, nofun⟩
      repeat (walk_at "T")
      refine B_powI (by decide) (by decide +kernel) ?_
      repeat (walk_at "T")
      exact ⟨rfl, rfl, trivial, O⟩
    clear O
    intro H nu H13 O hN
    have O := Own.new O hN
    clear hN
    have en : ((script.filter fun _ => true).map fun x => vI (x.fmod (10 ^ 10))) = nums (script.map fun x => x.fmod (10 ^ 10)) := by
      rw [List.filter_eq_self.mpr fun _ _ => rfl, nums, List.map_map]; rfl
    rw [en] at O
    clear en
    have hnl : (script.map fun x => x.fmod (10 ^ 10)).length ≤ 63 := by rw [List.length_map]; exact hsl
    have hnb : ∀ x ∈ script.map fun x => x.fmod (10 ^ 10), 0 ≤ x ∧ x < 10 ^ 10 := fun x hx => by
      obtain ⟨y, hy, rfl⟩ := List.mem_map.mp hx
      exact ⟨Int.fmod_nonneg_of_pos _ (by decide), Int.fmod_lt_of_pos _ (by decide)⟩
    have hsum := sum_of hnl hnb
    generalize (script.map fun x => x.fmod (10 ^ 10)) = numbers at O hsum hnl hnb
    repeat (walk_at "T")
    refine C_sum OF'.hh (O.get (.head _)) ?_
    generalize numbers.sum = drawn at hsum
    repeat (walk_at "T")
    intro tt H14 hN; have O := Own.new O hN; clear hN
    repeat (walk_at "T")
    have O : Own1 (KI prog w) H14 [.cell sc (.pin pb)] := O.tail.tail
    refine T.keepVars [(("size" : Str), vI size), (("drawn" : Str), vI drawn)] ⟨rfl, rfl, trivial⟩ ?_
    change T prog w _ _ _ _ ⟨_, H14⟩
    clear hnl hnb
    refine E_assignSw E OF'.hh (by rfl) ?_
    repeat (walk_at "T")
    refine B_mulI (.of_left (bits_le (by omega))) ?_
    repeat (walk_at "T")
    refine C_code ((near_spec (n := n + 10) (told := 654 + 24683 * drawn) (size := size) E.W OF' O (by omega) hsz).mono ?_ (fun _ _ _ z => z.elim))
    rintro v H15 hx0_; refine ex3and4 hx0_ fun nd L G y3_ O hG hL => ?_; try clear hx0_; obtain rfl := y3_
    repeat (walk_at "T")
    refine E_listM (α := Int) E [(("drawn" : Str), vI drawn), (("size" : Str), vI size)] none rfl rfl (fun _ => rfl) OF'.hh ?_
    repeat (walk_at "T")
    intro rg H16 hN; have O := Own.new O hN; clear hN
    have hsrc : ∀ H vs, Own1 (KI prog w) H (.cell rg (.rng 0 size) :: .frag G :: [.cell sc (.pin pb)]) → Src ⟨vs, H⟩ (.ref rg) ((upTo size).map vI) (.rng 0 size) := fun H vs O =>
      ⟨rg, rfl, O.get (.head _), upTo_src _, by omega, by omega, by omega, by omega⟩
    refine ⟨⟨rfl, rfl, trivial⟩, exi6 (.rng 0 size) (upTo size) vI (fun H => Own1 (KI prog w) H (.cell rg (.rng 0 size) :: .frag G :: [.cell sc (.pin pb)])) (fun _ => true) (fun v => vI ((v + drawn).fmod size)) ⟨hsrc _ _ O, by rw [upTo_len]; omega, O, hsrc, ?_, ?_⟩⟩
    · clear O
      intro F2 E2 hF x H hx O
      repeat (walk_at "T")
      refine ⟨fun _ => ?_, nofun⟩
      repeat (walk_at "T")
      exact ⟨rfl, rfl, ⟨rfl, rfl, trivial⟩, O⟩
    clear O hsrc
    intro H oa H17 O hN
    have O := Own.new O hN
    clear hN
    have en : (((upTo size).filter fun _ => true).map fun v => vI ((v + drawn).fmod size)) = nums ((upTo size).map fun v => (v + drawn).fmod size) := by
      rw [List.filter_eq_self.mpr fun _ _ => rfl, nums, List.map_map]; rfl
    rw [en] at O
    clear en
    repeat (walk_at "T")
    intro tt2 H18 hN; have O := Own.new O hN; clear hN
    refine exi3 _ _ _ ⟨rfl, O.get (.head _), ?_⟩
    have hs45 : size = 4 ∨ size = 5 := by omega
    have O : Own1 (KI prog w) H18 (.cell oa (.list (nums (turned size drawn))) :: .frag G :: [.cell sc (.pin pb)]) := O.sub (.cons _ (.cons_cons _ (.cons _ (List.Sublist.refl _))))
    obtain ⟨G1, O, x1, hord⟩ := O.layT .here .here
    have hG1 := hG.mono x1
    have hon := turned_nd (drawn := drawn) hs45
    have hom := turned_mem (drawn := drawn) hs45
    have hol := turned_len size drawn
    have gr := near_graph (size := size) (told := 654 + 24683 * drawn) (by omega)
    rw [← hL] at gr
    generalize turned size drawn = order at hord hon hom hol
    have hol5 : order.length ≤ 10 := by omega
    clear hG x1 hsum hL
    walk_at "T"
    walk_at "T"
    walk_at "T"
    walk_at "T"
    refine T.keepVars [(("size" : Str), vI size), (("near" : Str), .ref nd), (("order" : Str), .ref oa)] ⟨rfl, rfl, rfl, trivial⟩ ?_
    change T prog w _ _ _ _ ⟨_, H18⟩
    refine E_tupAsg E rfl rfl ?_
    repeat (walk_at "T")
    refine C_code ((struck_spec (n := n + 6) E.W OF' O .here hG1 gr.good gr.nd (by rw [upTo_len]; omega) hord hon (fun v hv => (hom v).mp hv)).mono ?_ (fun _ _ _ z => z.elim))
    rintro v H19 hx0_; refine ex6and8 hx0_ fun st jd J ud Us G2 y6_ O x2 hst hJ hJp hU hUp => ?_; try clear hx0_; obtain rfl := y6_
    have hst' := O.fragAt (.head _) _ _ hst
    walk_at "T"
    walk_at "T"
    walk_at "T"
    walk_at "T"
    walk_at "T"
    walk_at "T"
    refine T.keepVars [(("size" : Str), vI size), (("near" : Str), .ref nd), (("order" : Str), .ref oa), (("joined" : Str), .ref jd), (("upper" : Str), .ref ud)] ⟨rfl, rfl, rfl, rfl, rfl, trivial⟩ ?_
    change T prog w _ _ _ _ ⟨_, H19⟩
    have hG2 := hG1.mono x2
    have hord2 := x2 _ _ hord
    clear hst' hst hG1 hord x2
    repeat (walk_at "T")
    refine C_code ((led_spec (n := n + 6) E.W OF' O .here hG2 gr.good gr.nd (by rw [upTo_len]; omega) hord2 hon hom).mono ?_ (fun _ _ _ z => z.elim))
    rintro v H20 hx0_; refine ex3and5 hx0_ fun ld D G3 y3_ O x3 hD hDp => ?_; try clear hx0_; obtain rfl := y3_
    have hF := O.fragAt (.head _)
    have hsame : SameN J D := same_of (by rw [hJp, hDp]; exact joined_led gr hon hom (upTo_sorted size)) (by
      rw [← nkeys_pure, hDp]
      unfold led
      rw [List.map_map]
      show ((npure L).map fun e => e.1).Nodup
      rw [gr.good.keys]; exact gr.nd)
    have hu9 : F'.A.units < 9000 := by omega
    refine P_neN E ((hJ.mono x3).up hF) (hD.up hF) hsame hu9 ?_
    refine ⟨_, rfl, (fun h => by cases h), fun _ => ?_⟩
    have hJ3 := hJ.mono x3
    have hU3 := hU.mono x3
    have hG3 := hG2.mono x3
    have hord3 := x3 _ _ hord2
    clear hJ hU hG2 hord2 x3 hD hDp hsame hF
    repeat (walk_at "T")
    refine C_code ((sorter_own (n := n + 9) E.W OF' O).mono ?_ (fun _ _ _ z => z.elim))
    rintro v H21 hx0_; refine ex1and5 hx0_ fun S y1_ O p0 r0 n0 => ?_; try clear hx0_; obtain rfl := y1_
    repeat (walk_at "T")
    intro ag H22 hN; have O := Own.new O hN; clear hN
    repeat (walk_at "T")
    have hUk : Us.map (·.1) = order := by
      rw [← nkeys_pure, hUp, struckU_eq hon, List.map_map]; exact List.map_id _
    refine C_code ((levels_spec (n := n + 10) E.W OF' O (.there (.there .here)) hU3 hUk hord3 hon hol5).mono ?_ (fun _ _ _ z => z.elim))
    rintro v H23 ⟨lv, m, rfl, O⟩
    repeat (walk_at "T")
    intro tt3 H24 hN; have O := Own.new O hN; clear hN
    walk_at "T"
    walk_at "T"
    walk_at "T"
    walk_at "T"
    walk_at "T"
    walk_at "T"
    walk_at "T"
    walk_at "T"
    generalize hs0 : S.self = s0
    refine T.keepVars [(("size" : Str), vI size), (("near" : Str), .ref nd), (("order" : Str), .ref oa), (("joined" : Str), .ref jd), (("upper" : Str), .ref ud), (("sorter" : Str), .ref s0), (("again" : Str), .ref ag), (("level" : Str), .ref lv)] ⟨rfl, rfl, rfl, rfl, rfl, rfl, rfl, rfl, trivial⟩ ?_
    change T prog w _ _ _ _ ⟨_, H24⟩
    have O : Own1 (KI prog w) H24 (.srt S :: .cell lv (.dict (dE (KI prog w) (lents (levels (npure Us) order))) m) :: .frag G3 :: .cell ag (.list []) :: [.cell sc (.pin pb)]) :=
      (O.tail).take (.there (.there (.there .here)))
    walk_at "T"
    refine E_forB [(("size" : Str), vI size), (("near" : Str), .ref nd), (("order" : Str), .ref oa), (("joined" : Str), .ref jd), (("upper" : Str), .ref ud), (("sorter" : Str), .ref s0), (("again" : Str), .ref ag), (("level" : Str), .ref lv)] E U OF'.hh (fun _ => rfl) (by rfl) ?_
    repeat (walk_at "T")
    refine exi2 oa (nums order) ⟨rfl, rfl, O.fragAt (by walk_at "mem") _ _ hord3, by rw [nums_len]; omega, ?_⟩
    intro rv H25 hN; have O := Own.new O hN; clear hN
    obtain ⟨rest, hrest⟩ : ∃ rest, rest = (As.cell lv (.dict (dE (KI prog w) (lents (levels (npure Us) order))) m) :: .frag G3 :: .cell ag (.list []) :: [.cell sc (.pin pb)]) := ⟨_, rfl⟩
    have O : Own1 (KI prog w) H25 (.srt S :: .cell rv (.list (nums order.reverse)) :: rest) := by
      rw [hrest, nums, List.map_reverse]; exact O.take (.there .here)
    refine exi3 (nums order.reverse) .list (fun i H => ∃ S, Own1 (KI prog w) H (.srt S :: .cell rv (.list (nums order.reverse)) :: rest) ∧ S.self = s0 ∧ S.p = (order.reverse.take i).foldl (fun P v => P.add v []) ⟨[], none, 0, 0⟩ ∧ S.ready = none ∧ S.nds.length ≤ i ∧ S.p.sl 0) ⟨⟨rv, rfl, O.get (.tail _ (.head _))⟩, ⟨rfl, rfl, rfl, rfl, rfl, rfl, rfl, rfl, trivial⟩, ⟨S, O, hs0, p0, r0, by rw [n0]; exact Nat.le_refl _, by rw [p0]; exact nofun⟩, ?_, ?_, ?_⟩
    · rintro i H vs ⟨S, O, _⟩
      exact ⟨rv, rfl, O.get (.tail _ (.head _))⟩
    · rintro i x0 H hi hx0_; refine ex1and6 hx0_ fun S O y2_ hp' hr hnl hsl => ?_; try clear hx0_; obtain rfl := y2_
      obtain ⟨k, rfl, hk⟩ := nums_get hi
      have hil : i < order.reverse.length := (List.getElem?_eq_some_iff.mp hk).1
      rw [List.length_reverse] at hil
      repeat (walk_at "T")
      show CallE prog w F' (.ref 131) ([.ref S.self, (KI prog w).val k] ++ kns (KI prog w) []) _ _ ⟨_, H⟩
      refine C_code ((add_spec (n := n + 7) E.W OF' O (by walk_at "take") hr (by simp only [List.length_nil]; omega) hsl (by decide)).mono ?_ (fun _ _ _ z => z.elim))
      rintro v H2 hx0_; refine ex0and2 hx0_ fun y0_ y1_ => ?_; try clear hx0_; obtain rfl := y0_; refine ex1and4 y1_ fun S' O s' p' r' => ?_; try clear y1_
      repeat (walk_at "T")
      refine ⟨⟨rfl, rfl, rfl, rfl, rfl, rfl, rfl, rfl, trivial⟩, S', O, s', ?_, r', ?_, ?_⟩
      · rw [p', hp', foldl_take hk]
      · have := add_lenN S.p k []
        rw [← p', p_len, p_len] at this
        simp only [List.length_nil] at this
        omega
      · rw [p']; exact hsl.add k []
    · rintro H hx0_; refine ex1and6 hx0_ fun S O y2_ hp' hr hnl hsl => ?_; try clear hx0_
      have hs1 := y2_
      clear hs0 y2_
      rw [nums_len] at hp' hnl
      have hp1 : S.p = told1 order := by rw [hp', List.take_length]; rfl
      rw [List.length_reverse] at hnl
      clear hp'
      have O : Own1 (KI prog w) H (.srt S :: rest) := O.sub (.cons_cons _ (.cons _ (List.Sublist.refl _)))
      walk_at "T"
      walk_at "T"
      walk_at "T"
      refine E_forB [(("size" : Str), vI size), (("near" : Str), .ref nd), (("order" : Str), .ref oa), (("joined" : Str), .ref jd), (("upper" : Str), .ref ud), (("sorter" : Str), .ref s0), (("again" : Str), .ref ag), (("level" : Str), .ref lv)] E U OF'.hh (fun _ => rfl) (by rfl) ?_
      repeat (walk_at "T")
      have mfr : As.frag G3 ∈ rest := by rw [hrest]; walk_at "mem"
      refine exi3 (nums order) .list (fun i H => ∃ S, Own1 (KI prog w) H (.srt S :: rest) ∧ S.self = s0 ∧ S.p = (order.take i).foldl (tellUp (upOf (npure L) order)) (told1 order) ∧ S.ready = none ∧ S.nds.length ≤ 10 + 2 * i ∧ S.p.sl i) ⟨⟨oa, rfl, O.fragAt (.tail _ mfr) _ _ hord3⟩, ⟨rfl, rfl, rfl, rfl, rfl, rfl, rfl, rfl, trivial⟩, ⟨S, O, hs1, hp1, hr, by omega, hsl⟩, ?_, ?_, ?_⟩
      · rintro i H vs ⟨S, O, _⟩
        exact ⟨oa, rfl, O.fragAt (.tail _ mfr) _ _ hord3⟩
      · rintro i x0 H hi hx0_; refine ex1and6 hx0_ fun S O y2_ hp' hr hnl hsl => ?_; try clear hx0_
        have hs1 := y2_
        clear y2_
        obtain ⟨k, rfl, hk⟩ := nums_get hi
        have hil : i < order.length := (List.getElem?_eq_some_iff.mp hk).1
        have hko : k ∈ order := List.mem_of_getElem? hk
        obtain ⟨eu, heu, hek⟩ := List.mem_map.mp (show k ∈ Us.map (·.1) by rw [hUk]; exact hko)
        have hnu : (Us.map (·.1)).Nodup := by rw [hUk]; exact hon
        have hup : eu.2.2 = upOf (npure L) order k := by
          have h1 : ((k, eu.2.2) : Int × List Int) ∈ npure Us := by rw [← hek]; exact List.mem_map_of_mem (f := fun e : Int × Addr × List Int => (e.1, e.2.2)) heu
          rw [hUp, struckU_eq hon] at h1
          obtain ⟨v, _, q⟩ := List.mem_map.mp h1
          injection q with q1 q2
          subst q1; exact q2.symm
        have hul : (upOf (npure L) order k).length ≤ 1 := by unfold upOf; rw [List.length_take]; omega
        repeat (walk_at "T")
        refine E_forB [(("size" : Str), vI size), (("near" : Str), .ref nd), (("order" : Str), .ref oa), (("joined" : Str), .ref jd), (("upper" : Str), .ref ud), (("sorter" : Str), .ref s0), (("again" : Str), .ref ag), (("level" : Str), .ref lv), (("v" : Str), vI k)] E U OF'.hh (fun _ => rfl) (by rfl) ?_
        repeat (walk_at "T")
        obtain ⟨mu, hud⟩ := hU3.dict
        have hul2 : ∀ H S, Own1 (KI prog w) H (.srt S :: rest) → H eu.2.1 = some (.list (nums (upOf (npure L) order k))) := fun H S O => O.fragAt (.tail _ mfr) _ _ (by rw [← hup]; exact hU3.list eu heu)
        refine ⟨⟨ud, rfl, .inr (.inr ⟨_, _, O.fragAt (.tail _ mfr) _ _ hud⟩)⟩, X_dict (kvs := nents Us) (O.fragAt (.tail _ mfr) _ _ hud) (by rw [← hek]; exact nents_at hnu heu) ?_⟩
        refine exi3 (nums (upOf (npure L) order k)) .list (fun j H => ∃ S, Own1 (KI prog w) H (.srt S :: rest) ∧ S.self = s0 ∧ S.p = ((upOf (npure L) order k).take j).foldl (fun P a => P.add a [k]) ((order.take i).foldl (tellUp (upOf (npure L) order)) (told1 order)) ∧ S.ready = none ∧ S.nds.length ≤ 10 + 2 * i + 2 * j ∧ S.p.sl (i + j)) ⟨⟨eu.2.1, rfl, hul2 _ _ O⟩, ⟨rfl, rfl, rfl, rfl, rfl, rfl, rfl, rfl, rfl, trivial⟩, ⟨S, O, hs1, hp', hr, by omega, hsl⟩, ?_, ?_, ?_⟩
        · rintro j H vs ⟨S, O, _⟩
          exact ⟨eu.2.1, rfl, hul2 _ _ O⟩
        · clear O hp' hr hnl hsl hs1
          rintro j x1 H hj hx0_; refine ex1and6 hx0_ fun S O y2_ hp' hr hnl hsl => ?_; try clear hx0_; obtain rfl := y2_
          obtain ⟨a, rfl, ha⟩ := nums_get hj
          have hjl : j < (upOf (npure L) order k).length := (List.getElem?_eq_some_iff.mp ha).1
          repeat (walk_at "T")
          show CallE prog w F' (.ref 131) ([.ref S.self, (KI prog w).val a] ++ kns (KI prog w) [k]) _ _ ⟨_, H⟩
          refine C_code ((add_spec (n := n + 7) E.W OF' O (by walk_at "take") hr (by simp only [List.length_cons, List.length_nil]; omega) hsl (by simp only [List.length_cons, List.length_nil]; omega)).mono ?_ (fun _ _ _ z => z.elim))
          rintro v H2 hx0_; refine ex0and2 hx0_ fun y0_ y1_ => ?_; try clear hx0_; obtain rfl := y0_; refine ex1and4 y1_ fun S' O s' p' r' => ?_; try clear y1_
          repeat (walk_at "T")
          refine ⟨⟨rfl, rfl, rfl, rfl, rfl, rfl, rfl, rfl, rfl, trivial⟩, S', O, s', ?_, r', ?_, ?_⟩
          · rw [p', hp', foldl_take ha]
          · have := add_lenN S.p a [k]
            rw [← p', p_len, p_len] at this
            simp only [List.length_cons, List.length_nil] at this
            omega
          · rw [p']; exact hsl.add a [k]
        · clear O hp' hr hnl hsl hs1
          rintro H hx0_; refine ex1and6 hx0_ fun S O y2_ hp' hr hnl hsl => ?_; try clear hx0_
          rw [nums_len] at hp' hnl hsl
          rw [List.take_length] at hp'
          repeat (walk_at "T")
          refine ⟨⟨rfl, rfl, rfl, rfl, rfl, rfl, rfl, rfl, trivial⟩, S, O, y2_, ?_, hr, by omega, hsl.le (by omega)⟩
          rw [hp', foldl_take hk]; rfl
      · clear O hp1 hr hnl hsl hs1
        rintro H hx0_; refine ex1and6 hx0_ fun S O y2_ hp' hr hnl hsl => ?_; try clear hx0_
        rw [nums_len] at hp' hnl hsl
        have hp2 : S.p = told2 order (upOf (npure L) order) := by rw [hp', List.take_length]; rfl
        clear hp'
        walk_at "T"
        walk_at "T"
        walk_at "T"
        have hs1 := y2_
        clear y2_
        rw [← hs1]
        have tr := tree_of gr hon hom
        repeat (walk_at "T")
        have hmk := told2_mk tr
        have hcl := srt_cl (S := S) (by rw [hp2, hmk]; exact kn_cl tr)
        have hsl1 := srt_sl (S := S) (n := 1) (by rw [hp2, hmk]; exact kn_sl tr)
        refine C_code ((prep_spec (n := n + 9) E.W OF' O .here hr (by omega) hcl (fun x hx => Nat.le_trans (hsl1 x hx) (by decide))).mono ?_ ?_)
        rotate_left
        · rintro c as H4 hx0_; refine ex0and2 hx0_ fun y0_ y1_ => ?_; try clear hx0_; obtain rfl := y0_; refine ex2and5 y1_ fun S4 rd _ _ _ _ hR => ?_; try clear y1_
          exact absurd hR (by rw [hp2]; exact told2_ring tr)
        rintro v H4 hx0_; refine ex0and2 hx0_ fun y0_ y1_ => ?_; try clear hx0_; obtain rfl := y0_; refine ex2and5 y1_ fun S4 rd O m4 p4 r4 _ => ?_; try clear y1_
        obtain ⟨row0, prep0⟩ := prep_row tr
        rw [hp2] at p4 r4
        rw [prep0] at p4
        have hs4 : S4.self = s0 := m4.self.trans hs1
        rw [hs1]
        generalize (told2 order (upOf (npure L) order)).frees = R0 at row0 p4 r4
        clear hp2 hmk hcl hsl1 prep0 hr hnl hsl hs1 m4
        walk_at "T"
        walk_at "T"
        subst hrest
        refine E_forB [(("size" : Str), vI size), (("near" : Str), .ref nd), (("order" : Str), .ref oa), (("joined" : Str), .ref jd), (("upper" : Str), .ref ud), (("sorter" : Str), .ref s0), (("again" : Str), .ref ag), (("level" : Str), .ref lv)] E U OF'.hh (fun _ => rfl) (by rfl) ?_
        repeat (walk_at "T")
        intro rk H5 hN; have O := Own.new O hN; clear hN
        generalize hlv : (lents (levels (npure Us) order)) = lvs at O
        have O : Own1 (KI prog w) H5 (.srt S4 :: .cell ag (.list (nums [])) :: .cell rk (.rng 0 size) :: .cell lv (.dict (dE (KI prog w) lvs) m) :: .frag G3 :: [.cell sc (.pin pb)]) :=
          (((O.take (.there (.there (.there (.there .here))))).take (.there (.there .here))))
        refine exi3 (nums (upTo size)) (.rng 0 size) (fun k H => ∃ S R A o n', Own1 (KI prog w) H (.srt S :: .cell ag (.list (nums A)) :: .cell rk (.rng 0 size) :: .cell lv (.dict (dE (KI prog w) lvs) m) :: .frag G3 :: [.cell sc (.pin pb)]) ∧ S.self = s0 ∧ S.p = SK' order (upOf (npure L) order) (lvl (npure L) order) k R o n' ∧ S.ready = some (rd, R) ∧ RowOk order (lvl (npure L) order) k R ∧ AgOk order (lvl (npure L) order) k A) ⟨⟨rk, rfl, O.get (by walk_at "mem"), upTo_src _, by omega, by omega, by omega, by omega⟩, ⟨rfl, rfl, rfl, rfl, rfl, rfl, rfl, rfl, trivial⟩, exi5 S4 R0 [] 0 0 ⟨O, hs4, p4, r4, row0, ag_nil tr⟩, ?_, ?_, ?_⟩
        · rintro k H vs hx0_; refine ex5and2 hx0_ fun S R A o n' O _ => ?_; try clear hx0_
          exact ⟨rk, rfl, O.get (by walk_at "mem"), upTo_src _, by omega, by omega, by omega, by omega⟩
        · clear O p4 r4 row0 hs4
          rintro i x0 H hi hx0_; refine ex5and6 hx0_ fun S R A o n' O y2_ hp' hr hrow hag => ?_; try clear hx0_; obtain rfl := y2_
          obtain ⟨k, rfl, hk⟩ := nums_get hi
          obtain ⟨hki, hk0, hk1⟩ := upTo_get hk
          rw [← hki] at hp' hrow hag
          repeat (walk_at "T")
          have hRl : R.length ≤ 10 := Nat.le_trans (nodup_len hrow.nd fun a ha => ((hrow.mem a).mp ha).1) hol5
          refine C_code ((ready_spec (n := n + 10) E.W OF' O .here hr (by omega) (fun x hx => srt_has hp' (by unfold SK'; exact ⟨_, List.mem_map_of_mem (KN_mem ((hrow.mem x).mp hx).1), rfl⟩))).mono ?_ (fun _ _ _ z => z.elim))
          rintro v H1 hx0_; refine ex2and5 hx0_ fun ra S1 y2_ O s1 p1 r1 => ?_; try clear hx0_; obtain rfl := y2_
          rw [hp'] at p1
          have hsn := s1.self
          rw [← hsn]
          have O : Own1 (KI prog w) H1 (.srt S1 :: .cell ra (.tup (nums R)) :: .cell ag (.list (nums A)) :: .cell rk (.rng 0 size) :: .cell lv (.dict (dE (KI prog w) lvs) m) :: .frag G3 :: [.cell sc (.pin pb)]) := O
          clear hp' hr
          repeat (walk_at "T")
          refine T_isNot ?_
          refine E_isVal (by rfl) ?_
          repeat (walk_at "T")
          refine C_isTuple (O.get (.tail _ (.head _))) ?_
          repeat (walk_at "T")
          refine ⟨nofun, fun _ => ?_⟩
          repeat (walk_at "T")
          refine C_sorted (.inr (O.get (by walk_at "mem"))) (by omega) fun so ns' H2 hN hper hsrt => ?_
          have O := Own.new O hN
          clear hN
          rw [srt_is hper hsrt, row_sorted gr hon hom hrow (upTo_sorted size)] at O
          repeat (walk_at "T")
          refine E_listM (α := Int) E [(("k" : Str), vI k), (("level" : Str), .ref lv)] none rfl rfl (fun _ => rfl) OF'.hh ?_
          repeat (walk_at "T")
          intro rg H3 hN; have O := Own.new O hN; clear hN
          have hlvk : ∀ x ∈ upTo size, valueAt lvs x = some (vI (lvl (npure L) order x)) := fun x hx => by
            rw [← hlv, lents_at (by unfold levels; rw [levels_keys]; exact List.mem_append_right _ ((hom x).mpr hx)), hUp]; rfl
          obtain ⟨row, hrw⟩ : ∃ row, row = (upTo size).filter fun v => lvl (npure L) order v == k := ⟨_, rfl⟩
          rw [← hrw] at O
          have hsrc : ∀ H vs, Own1 (KI prog w) H (.cell rg (.rng 0 size) :: .cell so (.list (nums row)) :: .srt S1 :: .cell ra (.tup (nums R)) :: .cell ag (.list (nums A)) :: .cell rk (.rng 0 size) :: .cell lv (.dict (dE (KI prog w) lvs) m) :: .frag G3 :: [.cell sc (.pin pb)]) → Src ⟨vs, H⟩ (.ref rg) ((upTo size).map vI) (.rng 0 size) := fun H vs O =>
            ⟨rg, rfl, O.get (.head _), upTo_src _, by omega, by omega, by omega, by omega⟩
          refine ⟨⟨rfl, rfl, trivial⟩, exi6 (.rng 0 size) (upTo size) vI (fun H => Own1 (KI prog w) H (.cell rg (.rng 0 size) :: .cell so (.list (nums row)) :: .srt S1 :: .cell ra (.tup (nums R)) :: .cell ag (.list (nums A)) :: .cell rk (.rng 0 size) :: .cell lv (.dict (dE (KI prog w) lvs) m) :: .frag G3 :: [.cell sc (.pin pb)])) (fun v => lvl (npure L) order v == k) (fun v => vI v) ⟨hsrc _ _ O, by rw [upTo_len]; omega, O, hsrc, ?_, ?_⟩⟩
          · clear O
            intro F2 E2 hF x H hx O
            repeat (walk_at "T")
            refine ⟨⟨lv, rfl, .inr (.inr ⟨_, _, O.get (by walk_at "mem")⟩)⟩, X_dict (O.get (by walk_at "mem")) (hlvk x hx) ?_⟩
            repeat (walk_at "T")
            refine ⟨_, rfl, fun h => ?_, fun h => ⟨h, ⟨rfl, rfl, trivial⟩, O⟩⟩
            repeat (walk_at "T")
            exact ⟨h, rfl, ⟨rfl, rfl, trivial⟩, O⟩
          clear O hsrc
          intro H co H4 O hN
          have O := Own.new O hN
          clear hN
          rw [← hrw] at O
          refine P_neD (da := .list (row.map .int)) (db := .list (row.map .int)) ⟨so, _, rfl, O.get (by walk_at "mem"), RdAll.nums _ _⟩ ⟨co, _, rfl, O.get (.head _), RdAll.nums _ _⟩ (lay_nums _) (lay_nums _) (by
            have : min (PyData.depth (.list (row.map .int))) (PyData.depth (.list (row.map .int))) ≤ 10 := by rw [Nat.min_self]; show PyData.depthAll (row.map .int) + 1 ≤ 10; rw [depth_nums]; decide
            have hcl : cLine = 9900 := rfl
            omega) ?_
          refine ⟨_, rfl, (fun h => absurd h (by rw [eqv_refl (.list (row.map .int)) (lay_nums row)]; decide)), fun _ => ?_⟩
          repeat (walk_at "T")
          refine ⟨nofun, fun _ => ?_⟩
          repeat (walk_at "T")
          refine E_listM (α := Int) E [(("joined" : Str), .ref jd), (("ready" : Str), .ref ra)] none rfl rfl (fun _ => rfl) OF'.hh ?_
          repeat (walk_at "T")
          have O : Own1 (KI prog w) H4 (.srt S1 :: .cell ra (.tup (nums R)) :: .cell ag (.list (nums A)) :: .cell rk (.rng 0 size) :: .cell lv (.dict (dE (KI prog w) lvs) m) :: .frag G3 :: [.cell sc (.pin pb)]) := O.sub (.cons _ (.cons _ (.cons _ (List.Sublist.refl _))))
          obtain ⟨mj, hjd⟩ := hJ3.dict
          have hJk : J.map (·.1) = upTo size := by
            rw [← nkeys_pure, hJp, joined_led gr hon hom (upTo_sorted size)]
            unfold led
            rw [List.map_map]
            show ((npure L).map fun e => e.1) = _
            exact gr.good.keys
          have hJn : (J.map (·.1)).Nodup := by rw [hJk]; exact upTo_nodup _
          refine ⟨⟨rfl, rfl, trivial⟩, exi6 .tup R vI (fun H => Own1 (KI prog w) H (.srt S1 :: .cell ra (.tup (nums R)) :: .cell ag (.list (nums A)) :: .cell rk (.rng 0 size) :: .cell lv (.dict (dE (KI prog w) lvs) m) :: .frag G3 :: [.cell sc (.pin pb)])) (fun _ => false) (fun v => vI v) ⟨⟨ra, rfl, O.get (by walk_at "mem")⟩, by omega, O, fun H vs O => ⟨ra, rfl, O.get (by walk_at "mem")⟩, ?_, ?_⟩⟩
          · clear O
            intro F2 E2 hF x H hx O
            obtain ⟨ej, hej, hek⟩ := List.mem_map.mp (show x ∈ J.map (·.1) by rw [hJk]; exact (hom x).mp ((hrow.mem x).mp hx).1)
            repeat (walk_at "T")
            refine ⟨⟨jd, rfl, .inr (.inr ⟨_, _, O.fragAt (by walk_at "mem") _ _ hjd⟩)⟩, X_dict (O.fragAt (by walk_at "mem") _ _ hjd) (by rw [← hek]; exact nents_at hJn hej) ?_⟩
            repeat (walk_at "T")
            have OF2 : F2.toFc.Ok (n + 11) := by rw [hF]; exact OF'
            refine C_code ((filter_own (n := n + 7) (xs := nums R) (ys := nums ej.2.2) (dxs := R.map .int) (dys := ej.2.2.map .int) E2.W OF2 O (.inr (O.get (by walk_at "mem"))) (O.fragAt (by walk_at "mem") _ _ (hJ3.list ej hej)) (RdAll.nums _ _) (RdAll.nums _ _) (lay_nums _) (lay_nums _) (by rw [nums_len]; omega)).mono ?_ (fun _ _ _ z => z.elim))
            rintro v H2 ⟨fb, rfl, O⟩
            have hat : ej.2.2 = atN (struckJ (npure L) order) x := by
              rw [← hJp, ← hek]
              exact (npure_at hJn hej).symm
            rw [filt_nums, hat, row_apart gr hon hom hrow hx] at O
            repeat (walk_at "T")
            refine E_listM (α := Int) E2 [] none rfl rfl (fun _ => rfl) OF2.hh ?_
            repeat (walk_at "T")
            refine ⟨trivial, exi6 .tup R vI (fun H => Own1 (KI prog w) H (.cell fb (.list (nums R)) :: .srt S1 :: .cell ra (.tup (nums R)) :: .cell ag (.list (nums A)) :: .cell rk (.rng 0 size) :: .cell lv (.dict (dE (KI prog w) lvs) m) :: .frag G3 :: [.cell sc (.pin pb)])) (fun _ => true) (fun v => vI v) ⟨⟨ra, rfl, O.get (by walk_at "mem")⟩, by omega, O, fun H vs O => ⟨ra, rfl, O.get (by walk_at "mem")⟩, ?_, ?_⟩⟩
            · clear O
              intro F3 E3 hF3 y H hy O
              repeat (walk_at "T")
              refine ⟨fun _ => ?_, nofun⟩
              repeat (walk_at "T")
              exact ⟨rfl, rfl, trivial, O⟩
            clear O
            intro H gb H3 O hN
            have O := Own.new O hN
            clear hN
            rw [List.filter_eq_self.mpr fun _ _ => rfl] at O
            repeat (walk_at "T")
            refine P_neD (da := .list (R.map .int)) (db := .list (R.map .int)) ⟨fb, _, rfl, O.get (by walk_at "mem"), RdAll.nums _ _⟩ ⟨gb, _, rfl, O.get (.head _), RdAll.nums _ _⟩ (lay_nums _) (lay_nums _) (by
              have : min (PyData.depth (.list (R.map .int))) (PyData.depth (.list (R.map .int))) ≤ 10 := by rw [Nat.min_self]; show PyData.depthAll (R.map .int) + 1 ≤ 10; rw [depth_nums]; decide
              have hcl : cLine = 9900 := rfl
              have := OF2.units
              omega) ?_
            refine ⟨_, rfl, (fun h => absurd h (by rw [eqv_refl (.list (R.map .int)) (lay_nums R)]; decide)), fun _ => ?_⟩
            exact ⟨rfl, ⟨rfl, rfl, trivial⟩, O.sub (.cons _ (.cons _ (List.Sublist.refl _)))⟩
          clear O
          intro H ho H5 O hN
          have O := Own.new O hN
          clear hN
          repeat (walk_at "T")
          intro o9 H6 hN; have O := Own.new O hN; clear hN
          refine P_neD (da := .list []) (db := .list []) ⟨ho, _, rfl, O.get (.tail _ (.head _)), by rw [List.filter_eq_nil_iff.mpr fun _ _ => by decide]; trivial⟩ ⟨o9, [], rfl, O.get (.head _), trivial⟩ (by decide) (by decide) (by
            have : min (PyData.depth (.list [])) (PyData.depth (.list [])) ≤ 10 := by decide +kernel
            have hcl : cLine = 9900 := rfl
            omega) ?_
          refine ⟨_, rfl, (fun h => absurd h (by decide +kernel)), fun _ => ?_⟩
          have O : Own1 (KI prog w) H6 (.srt S1 :: .cell ra (.tup (nums R)) :: .cell ag (.list (nums A)) :: .cell rk (.rng 0 size) :: .cell lv (.dict (dE (KI prog w) lvs) m) :: .frag G3 :: [.cell sc (.pin pb)]) := O.sub (.cons _ (.cons _ (List.Sublist.refl _)))
          repeat (walk_at "T")
          have hAl : A.length ≤ 10 := Nat.le_trans (nodup_len hag.nd fun a ha => ((hag.mem a).mp ha).1) hol5
          refine C_extend (O.get (by walk_at "mem")) (.inr (O.get (by walk_at "mem"))) (fun q => Own.ne O.tail (o' := .list (nums A)) (.head _) q.symm) (by rw [nums_len, nums_len]; omega) ?_
          intro H7 hN; have O := Own.put (l' := _) O (by walk_at "put") hN; clear hN
          rw [← nums_app] at O
          repeat (walk_at "T")
          refine A_bdone E O (by walk_at "sat") ?_
          intro bm H8 hN; have O := Own.new O hN; clear hN
          repeat (walk_at "T")
          have hst0 : MidI order (upOf (npure L) order) (lvl (npure L) order) k R (o + R.length) n' 0 S1.p := by rw [p1]; exact mid_start tr hk0 hrow o n'
          have hc := srt_cl (S := S1) (by rw [p1]; unfold SK'; rw [mk_gr]; exact kn_cl tr)
          have hs := srt_sl (S := S1) (n := 1) (by rw [p1]; unfold SK'; rw [mk_gr]; exact kn_sl tr)
          refine ⟨nums R, ⟨ra, rfl, .inr (O.get (by walk_at "mem")), by rw [nums_len]; omega⟩, KF.meth E (by walk_at "own") (by rfl), ?_⟩
          refine C_code (.bound (by walk_at "own") rfl ?_)
          refine (show Calls _ _ _ _ ([.ref S1.self] ++ kns (KI prog w) R) _ _ _ from (done_spec (n := n + 10) (MidI order (upOf (npure L) order) (lvl (npure L) order) k R (o + R.length) n') E.W OF' O (by walk_at "take") r1 (by omega) hc (fun x hx => Nat.le_trans (hs x hx) (by decide)) hst0 (fun i x P hx hP _ => (mid_step tr hk0 hrow hx hP).2) (fun i P _ hP => (mid_sane hP hol5).2) (fun i x P hx hP => (mid_step tr hk0 hrow hx hP).1)).mono ?_ (fun _ _ _ z => z.elim))
          rintro v H9 hx0_; refine ex0and2 hx0_ fun y0_ y1_ => ?_; try clear hx0_; obtain rfl := y0_; refine ex2and4 y1_ fun S2 ns2 O m2 d2 r2 => ?_; try clear y1_
          obtain ⟨P2, hd, hm⟩ := mid_done tr hk0 hrow R.length 0 (Nat.zero_add _) hst0
          rw [List.drop_zero, d2] at hd
          obtain ⟨R2, hp2, hrow2⟩ := mid_end tr hk0 hrow hm
          have p2 := (congrArg Prod.fst hd).trans hp2
          obtain rfl := ready_of p2 r2 rfl
          repeat (walk_at "T")
          have hk1 : ((i + 1 : Nat) : Int) = k + 1 := by omega
          rw [hsn]
          refine ⟨⟨rfl, rfl, rfl, rfl, rfl, rfl, rfl, rfl, trivial⟩, exi5 S2 ns2 (A ++ R) (o + R.length) (n' + R.length) ⟨O.sub (.cons_cons _ (.cons _ (.cons _ (List.Sublist.refl _)))), m2.self.trans hsn, ?_, r2, ?_, ?_⟩⟩
          · rw [hk1]; exact p2
          · rw [hk1]; exact hrow2
          · rw [hk1]; exact ag_next hag hrow
        · clear O p4 r4 row0 hs4
          rintro H hx0_; refine ex5and6 hx0_ fun S R A o n' O y2_ hp' hr hrow hag => ?_; try clear hx0_
          rw [nums_len, upTo_len] at hag
          repeat (walk_at "T")
          have hk5 : (order.length : Int) ≤ ((size.toNat : Nat) : Int) := by omega
          have hA := ag_all gr hon hom hag hk5
          obtain ⟨hAJ, hAU⟩ := again_is gr hon hom hag hk5
          obtain ⟨G4, O, x4, hag4⟩ := O.layT (a := ag) (.there .here) (.there (.there (.there .here)))
          have hAl : A.length ≤ 10 := Nat.le_trans (nodup_len hag.nd fun a ha => (hom a).mpr ((hA a).mp ha)) hol5
          refine C_code ((struck_spec (n := n + 6) E.W OF' O .here (hG3.mono x4) gr.good gr.nd (by rw [upTo_len]; omega) hag4 hag.nd (fun v hv => (hA v).mp hv)).mono ?_ (fun _ _ _ z => z.elim))
          rintro v H6 hx0_; refine ex6and8 hx0_ fun st2 jd2 J2 ud2 U2 G5 y6_ O x5 hst2 hJ2 hJp2 hU2 hUp2 => ?_; try clear hx0_; obtain rfl := y6_
          repeat (walk_at "T")
          intro tq H7 hN; have O := Own.new O hN; clear hN
          have hF := O.fragAt (.tail _ (.head _))
          have sJ : SameN J2 J := same_of (by rw [hJp2, hJp]; exact hAJ) (by
            rw [← nkeys_pure, hJp, joined_led gr hon hom (upTo_sorted size)]
            unfold led
            rw [List.map_map]
            show ((npure L).map fun e => e.1).Nodup
            rw [gr.good.keys]; exact gr.nd)
          have sU : SameN U2 Us := same_perm (hUp2.trans (struckU_eq hag.nd)) (hUp.trans (struckU_eq hon)) hag.nd hon (fun v => (hA v).trans (hom v).symm) (fun v hv => hAU v ((hA v).mp hv))
          refine P_eqPair E (hF _ _ hst2) (O.get (.head _)) (hJ2.up hF) ((hJ3.mono (x4.trans x5)).up hF) sJ (hU2.up hF) ((hU3.mono (x4.trans x5)).up hF) sU (by omega) ?_
          repeat (walk_at "T")
          exact ⟨rfl, O.sub (.cons _ (.cons _ (.cons _ (.cons _ (.cons _ (List.Sublist.refl _))))))⟩
end
end
section
set_option maxRecDepth 100000
set_option Elab.async false
set_option linter.unusedVariables false
open PySem PySem.W PySem.Calls PyProof.Rows PySem.SeqAt
theorem mem_lookup {K : Frag} {a : Addr} {o : Obj} (h : K.lookup a = some o) : (a, o) ∈ K := by
  induction K with
  | nil => cases h
  | cons p r ih =>
    obtain ⟨b, ob⟩ := p
    rw [List.lookup_cons] at h
    split at h
    · rename_i e
      have e : a = b := by simpa using e
      cases h; subst e; exact List.mem_cons_self
    · exact List.mem_cons_of_mem _ (ih h)
noncomputable def notList (o : Obj) : Bool := match o.cls with
  | .type c => c != "list"
  | _ => true
noncomputable def atLaw (h : Heap) (os : OsState) (l : Addr) : Fc := { A := callerA, base := hide h [l], stk := [], os := os }
noncomputable def onlyPin (l : Addr) (p : Obj) : AHeap := upd (fun _ => none) l (.pin p)
section
variable {prog : Program} {w : World} {s₁ : Shared} {mg mb : Str → Option Value} {l : Addr} {vs : List Value} {ns : List Int} {K : Frag} {p : Obj}
theorem base_get (h : Heap) (l b : Addr) (hb : b ≠ l) : (hide h [l]).get? b = h.get? b := by
  rw [hide_get, if_neg (by simpa using hb)]
theorem law_wld (KX : K.In s₁.heap) (hK : K.all (fun q => notList q.2) = true) (Tg : s₁.heap.Ns mainGlobals mg) (Tb : s₁.heap.Ns builtinsNs mb) (bi : ∀ x : Str, x ≠ "__name__" → mb x = bootBuiltins x) (sr : s₁.heap.NoSeer)
    (hl : s₁.heap.get? l = some p) (hc : p.cls = .type "list") (hd : ∃ items n, p.data = .seq items n) : Wld K (atLaw s₁.heap s₁.os l) mg mb := by
  obtain ⟨items, n, hd⟩ := hd
  have hne : ∀ {a : Addr} {m : Str → Option Value}, s₁.heap.Ns a m → a ≠ l := by
    rintro a m ⟨o, es, ep, ho, hdd, _⟩ rfl
    rw [hl] at ho; cases ho
    rw [hd] at hdd; cases hdd
  have tr : ∀ {a : Addr} {m : Str → Option Value}, s₁.heap.Ns a m → (hide s₁.heap [l]).Ns a m := fun {a m} x => by
    have := hne x
    obtain ⟨o, es, ep, ho, r⟩ := x
    exact ⟨o, es, ep, (base_get _ _ _ this).trans ho, r⟩
  refine ⟨fun a o e => ?_, tr Tg, tr Tb, bi, ?_⟩
  · have hx := KX a o e
    refine (base_get _ _ _ ?_).trans hx
    rintro rfl
    rw [hl] at hx; cases hx
    have := List.all_eq_true.mp hK _ (mem_lookup e)
    have : notList p = true := this
    unfold notList at this
    rw [hc] at this
    exact absurd this (by decide)
  · obtain ⟨mm, ⟨o, es, ep, ho, r⟩, _⟩ := sr.mods
    show (hide s₁.heap [l]).get? sysModules ≠ none
    rw [base_get _ _ _ (hne ⟨o, es, ep, ho, r⟩), ho]
    exact nofun
theorem law_ok (nl : s₁.heap.NoLimit) (hl : s₁.heap.get? l = some p) (hd : ∃ items n, p.data = .seq items n) : (atLaw s₁.heap s₁.os l).Ok 100 := by
  obtain ⟨items, n, hd⟩ := hd
  refine ⟨rfl, (by decide : (1 + claimMargin) + 100 < 900), (by decide : 4 + 10 * 100 < 5000), ?_, rfl⟩
  obtain ⟨mc, ⟨o, es, ep, ho, hdd, r⟩, q⟩ := nl
  refine ⟨mc, ⟨o, es, ep, (base_get _ _ _ ?_).trans ho, hdd, r⟩, q⟩
  intro e
  rw [e, hl] at ho; cases ho
  rw [hd] at hdd; cases hdd
theorem law_rel (hg : s₁.gens = #[]) (hl : s₁.heap.get? l = some p) : HRel prog w (atLaw s₁.heap s₁.os l) (onlyPin l p) s₁ where
  stays b o e := by
    have e : (hide s₁.heap [l]).get? b = some o := e
    rw [hide_get] at e
    split at e
    · cases e
    · exact e
  cells a o e := by
    unfold onlyPin upd at e
    split at e
    · rename_i q; subst q; cases e; exact ⟨p, hl, rfl⟩
    · cases e
  notBase a e := by
    show (hide s₁.heap [l]).get? a = none
    rw [hide_get, if_pos]
    unfold onlyPin upd at e
    split at e
    · rename_i q; simpa using q
    · exact absurd rfl e
  frames := trivial
  frCls := fun env h => absurd h List.not_mem_nil
  gens := hg
  os := rfl
theorem law_own {B : KeyBy prog w Int} {cN cT : Addr} : Own B cN cT (onlyPin l p) [.cell l (.pin p)] := Own.new Own.nil ⟨rfl, rfl⟩
theorem law_keep {B : KeyBy prog w Int} {cN cT : Addr} {H' : AHeap} {s' : Shared} (hl : s₁.heap.get? l = some p) (R : HRel prog w (atLaw s₁.heap s₁.os l) H' s') (A : After [] [] (onlyPin l p) s₁ H' s') (O : Own B cN cT H' [.cell l (.pin p)]) :
    ∀ b o, s₁.heap.get? b = some o → s'.heap.get? b = some o := fun b o e => by
  by_cases h : b = l
  · subst h
    rw [hl] at e; cases e
    obtain ⟨o', ho', q⟩ := R.cells _ _ (O.get (.head _))
    rw [ho', show o' = _ from q]
  · obtain ⟨sl, e1, c1⟩ := A.keep b o e (by unfold onlyPin upd; rw [if_neg h]) nofun
    rw [e1, c1 nofun]
end
end
section
set_option maxRecDepth 100000
set_option Elab.async false
set_option linter.unusedVariables false
set_option maxHeartbeats 4000000
open PySem PySem.W PySem.Calls PyProof.Rows PySem.SeqAt
theorem ints_er {vs : List Value} {ns : List Int} (h : IntsAre vs ns) : vs.map er = nums ns := by
  induction h with
  | nil => rfl
  | cons n t _ ih => show vI n :: _ = vI n :: _; rw [ih]
theorem er_true {v : Value} (h : er v = .bool true) : v = .bool true := by
  cases v with
  | bool b => exact h
  | _ => cases h
theorem K1_lists (w : World) : (K1 w).all (fun q => notList q.2) = true := by rfl
theorem law_end {prog : Program} {w : World} {s₁ : Shared} {mg mb : Str → Option Value} {l : Addr} {vs : List Value} {ns : List Int} {Q E : Value → Shared → Prop}
    (KX : (K1 w).In s₁.heap) (Tg : s₁.heap.Ns mainGlobals mg) (Tb : s₁.heap.Ns builtinsNs mb) (bi : ∀ x : Str, x ≠ "__name__" → mb x = bootBuiltins x) (sr : s₁.heap.NoSeer) (nl : s₁.heap.NoLimit)
    (hL : s₁.heap.IsList l vs.toArray) (hI : IntsAre vs ns) (hlen : ns.length ≤ 63) (hg : s₁.gens = #[])
    (hQ : ∀ s', (∀ b o, s₁.heap.get? b = some o → s'.heap.get? b = some o) → s'.os = s₁.os → s'.gens = #[] → Q (.bool true) s') :
    wpAny (model prog w) callerA (call (.ref 217) [.ref l]) Q E s₁ := by
  obtain ⟨p, hp, hc, n, hd⟩ := hL
  have C := law_walk (prog := prog) (n := 88) (sc := l) (script := ns) (law_wld KX (K1_lists w) Tg Tb bi sr hp hc ⟨_, _, hd⟩) (law_ok nl hp ⟨_, _, hd⟩) law_own ⟨_, n, hc, hd, ints_er hI⟩ hlen
  refine wpAny_call (codeAny_mono (C s₁ [.ref l] rfl (law_rel hg hp)) fun r s' z => ?_)
  refine CPost.elim z (fun v H' e R A c => ?_) (fun _ _ _ _ _ _ _ _ x => x.elim)
  subst e
  obtain ⟨hv, O⟩ := c
  cases er_true hv
  exact hQ s' (law_keep hp R A O) R.os R.gens
end
end Mine
set_option maxRecDepth 100000
set_option Elab.async false
set_option linter.unusedVariables false
set_option maxHeartbeats 8000000
open PySem PySem.W PyProof.Rows PySem.SeqAt Mine
theorem PySem.Challenge.cw_ik0043_01_holds : PySem.Challenge.rw_ik0043_01.Holds := by
  refine Mine.headP.2 ?_
  unfold Mine.headP
  show _
  intro w s₀ s₁ mg mb G Y fa o pm cd doc dV kV ho hd hcd hD hmg hg args vals as hpre hlay hrd hwl hlo
  have KX := kIn_of Y
  refine Ground.open G ?_
  intro T B D TE TW
  have hfa : fa = 217 := by
    have h1 : mg "law" = some (.ref 217) := mg_of KX T.g (by rfl)
    have h2 : mg "law" = some (.ref fa) := hmg
    rw [h1] at h2
    cases h2; rfl
  subst hfa
  have sr : s₁.heap.NoSeer := T.seer (by decide +kernel)
  clear hd hcd hD hmg ho B D TE TW
  wrow_args hpre hlay hrd hwl hlo
  rename_i ns _ _ _ _ _ _ _ l vs _ hL _ _ _ hI _ hcond _
  refine law_end KX T.g T.b T.builtins sr T.nolimit hL hI (by omega) hg fun s' hk hos hgs => GoodW.toG ⟨.inl ⟨_, .bool true, [], rfl, ?_, .bool true, ?_, ?_⟩, ?_, hos, hgs⟩
  · exact raisesW_false (by wrow_none_raised)
  · wrow_post
  · exact fun _ => ⟨.nil, fun _ ha => absurd ha List.not_mem_nil⟩
  · exact hk
