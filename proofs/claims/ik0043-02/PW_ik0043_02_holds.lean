import PyProof.Rows.All
import Lean
import Wide.All
import Open.Line
import OpenK.KTop
import OpenK.KCell
import OpenK.KDict
import OpenK.KMeth
import OpenK.KOps
import OpenK.KMore
import KE.KDictLaws
import Lean
import PySem.Challenge.RW_ik0043_02
set_option Elab.async false
set_option linter.unusedVariables false
set_option bootstrap.genMatcherCode false
set_option genSizeOfSpec false
set_option compiler.extract_closed false
section
set_option Elab.async false
set_option compiler.extract_closed false
namespace Mine
open Lean PyProof.Rows
abbrev TacM := MacroM (TSyntax `tactic)
def mwFirst (l : List (TSyntax `tactic)) : TacM := do
  l.dropLast.foldrM (fun a r => `(tactic| first | $a:tactic | $r:tactic)) (l.getLastD (← `(tactic| fail)))
def mwSat (key : TSyntax `tactic) (here there : Name) : TacM := do
  let mut t ← `($(mkIdent here))
  let mut l : List (TSyntax `tactic) := []
  for _ in [0:4] do
    l := l ++ [← `(tactic| exact ⟨$t, rfl⟩)]
    t ← `($(mkIdent there) $t)
  mwFirst (l ++ [← `(tactic| (refine' ⟨?m, ?_⟩; (case m => $key:tactic); rfl))])
def mwClose (k : Char) : TacM := match k with
  | 'r' => `(tactic| rfl)
  | 'a' => `(tactic| assumption)
  | 's' => `(tactic| walk_at "sat")
  | 'm' => `(tactic| walk_at "mem")
  | 'o' => `(tactic| walk_at "own")
  | 'n' => `(tactic| walk_at "num")
  | 't' => `(tactic| walk_at "tat")
  | 'k' => `(tactic| walk_at "take")
  | 'h' => `(tactic| exact $(mkIdent `Fc.Ok.hh) (by assumption))
  | _ => `(tactic| exact List.mem_cons_self)
def mwRow (row : String) : TacM := do
  let ws := row.splitOn " "
  let w := (ws.headD "").toList
  let kinds := w.filter Char.isAlpha
  let hs ← kinds.zipIdx.mapM fun (_, i) => do pure (mkIdent (← Macro.addMacroScope (.mkSimple s!"h{i}")))
  let ps ← (w.filter (· == '.')).mapM fun _ => `((by assumption))
  let hargs ← hs.mapM fun h => `(?$h)
  let args := (ps ++ hargs).toArray
  let firsts : List (TSyntax `tactic) ← ws.tail.mapM fun n => do
    let id := mkIdent n.toName
    let t ← if n.startsWith "KF." then (if args.isEmpty then `(⟨$id, ?_⟩) else `(⟨$id $args*, ?_⟩)) else `($id $(args.push (← `(?_)))*)
    if kinds.isEmpty then `(tactic| refine $t) else `(tactic| refine' $t)
  let one ← mwFirst firsts
  let head ← if w.contains '~' then pure one else `(tactic| with_reducible $one:tactic)
  if w.contains '!' then `(tactic| ($head:tactic; intro $(mkIdent `qq) $(mkIdent `aq)))
  else
    (kinds.zip hs).foldlM (fun (a : TSyntax `tactic) (k, h) => do `(tactic| ($a:tactic; case $h:ident => $(← mwClose k):tactic))) head
def mwAll (rows : List String) : MacroM Syntax := do
  let t ← mwFirst (← rows.mapM mwRow)
  pure t
end Mine
end
section
set_option maxRecDepth 100000
set_option Elab.async false
namespace Mine
open PySem PySem.W PySem.Calls PyProof.Rows
theorem wp_if {α : Type} {M : Model} {A : Around} {E : Value → Shared → Prop} {s : Shared} {c : Bool} {a b : Sem α} {Q : α → Shared → Prop} (hc : c = true) (h : wpAny M A a Q E s) : wpAny M A (if c = true then a else b) Q E s := by
  rw [if_pos hc]; exact h
theorem bi_iter : entryFor table "iter" = some Builtin.«iter» := entryFor_of_tree (by kernel_rfl)
theorem bi_next : entryFor table "next" = some Builtin.«next» := entryFor_of_tree (by kernel_rfl)
theorem ok_iter (a : Value) : argsOk "iter" ⟨[a], []⟩ := by unfold argsOk; kernel_rfl
theorem ok_next (a : Value) : argsOk "next" ⟨[a], []⟩ := by unfold argsOk; kernel_rfl
theorem ns_no {K : Frag} {h : Heap} {N : Addr} {mg : Str → Option Value} {n : Str} {ob : Obj} {des : Array DictEntry} {ee : Nat} (X : K.In h) (G : h.Ns N mg) (e : K.lookup N = some ob) (hb : ob.data = .dict des ee) (q : nsFind des n = none) : mg n = none := by
  obtain ⟨o, es, ep, ho, hd, _, hf⟩ := G
  have q2 := X _ _ e
  rw [ho] at q2
  cases q2
  rw [hb] at hd
  cases hd
  rw [← hf]; exact q
theorem cell_of {x : Str} (names : List (Str × NameKind)) : ∀ (n : Nat) (acc : List (Str × Addr)), names.lookup x = some .cell ∨ (acc.lookup x).isSome = true → ((cellsFrom n names acc).lookup x).isSome = true := by
  induction names with
  | nil => exact fun n acc h => h.elim nofun id
  | cons p r ih =>
    obtain ⟨y, k⟩ := p
    intro n acc h
    unfold cellsFrom
    rw [List.lookup_cons] at h
    split
    · refine ih _ _ ?_
      rw [List.lookup_cons]
      cases q : x == y
      · rw [q] at h; exact h
      · exact .inr rfl
    · rename_i hk
      refine ih _ _ (h.imp (fun h => ?_) id)
      cases q : x == y
      · rw [q] at h; exact h
      · rw [q] at h
        have : k = .cell := Option.some.inj h
        subst this
        exact absurd rfl hk
theorem found_fn {K : Frag} {C f : Addr} {od : Obj} {name : Str} {g : Value} (hh : hasDictIn K C = true) (ha : findIn K (.ref C) name = some (some (.ref f))) (hg : specialIn K (.ref f) "__get__" = some (some g)) (ht : takesIn K (.ref f) = some false) (hc : copiedNames.contains name = false)
    (hl : lookIn name od = some none) : findObj K C (some od) name = some (.bind g (.ref f)) := by
  unfold hasDictIn at hh
  cases q : clsIn K C with
  | none => rw [q] at hh; cases hh
  | some cd =>
    rw [q] at hh
    have hh : cd.hasDict = true := hh
    have ho : PySem.W.ownOf cd (some od) name = some none := by
      unfold PySem.W.ownOf
      rw [hh]; exact hl
    unfold findObj
    simp only [q, ha, hg, ht, ho, hc, Option.bind_some, Bool.false_and, Bool.false_eq_true, if_false]
section
variable {M : Model} {A : Around} {E : Value → Shared → Prop} {s : Shared}
noncomputable def StarO (M : Model) (A : Around) (E : Value → Shared → Prop) (v : Value) (Q : List Value → Shared → Prop) (s : Shared) : Prop :=
  wpAny M A (notIterableAtAll v) (fun b s₂ => b = false ∧ wpAny M A (collect v) Q E s₂) E s
theorem star_more {x : Sem Value} {pos : Pos} {rest : List (Bool × Sem Value)} {Q : List Value → Shared → Prop}
    (h : wpAny M A x (fun v s₁ => StarO M A E v (fun here s₂ => wpAny M A (spliced rest) (fun vs s₃ => Q (here ++ vs) s₃) E s₂) s₁) E s) :
    wpAny M A (spliced ((true, (do let v ← x; standAt pos; pure v)) :: rest)) Q E s := by
  unfold spliced
  refine wpAny_bind (wpAny_bind (wpAny_mono h (fun v s₁ h₁ => wpAny_bind (wpAny_standAt (wpAny_pure ?_))) fun _ _ x => x))
  unfold StarO at h₁
  refine wpAny_bind (wpAny_mono h₁ (fun b s₂ h₂ => ?_) fun _ _ x => x)
  obtain ⟨rfl, h₂⟩ := h₂
  have z := wpAny_mono h₂ (fun here s₃ h₃ => (show wpAny M A (holding here (spliced rest) >>= fun r => pure (here ++ r)) Q E s₃ from
    wpAny_bind (wpAny_holding (wpAny_mono h₃ (fun vs s₄ h₄ => wpAny_pure h₄) fun _ _ x => x)))) fun _ _ x => x
  first
    | exact wpAny_bind z
    | exact z
    | exact wpAny_bind (wpAny_pure z)
theorem call_star {f : Value} {first : List Value} {pos : Pos} {Q : Value → Shared → Prop} {P : Heap → Prop} {args : List (Bool × Sem Value)} (hst : args.any (·.1) = true)
    (hk : ∀ h, P h → ∃ k, (k = Keeper.frame ∨ k = Keeper.machine ∨ k = Keeper.boundFrame) ∧ Looks M h (keeperOf f) k)
    (h : wpAny M A (evalArgs f true args []) (fun a s₁ => P s₁.heap ∧ wpAny M A (call f (first ++ a.pos) a.kw) Q E s₁) E s) : wpAny M A (callWith pos f first args []) Q E s := by
  unfold callWith
  refine wpAny_bind (wpAny_holding (wpAny_mono h (fun a s₁ ⟨hP, h₁⟩ => wpAny_bind (wpAny_standAt ?_)) fun _ _ x => x))
  obtain ⟨k, hk', L⟩ := hk _ hP
  rw [hst]
  refine wpAny_bind (L.here ?_)
  have fin : ∀ {t : Sem Value}, wpAny M A t Q E s₁ → wpAny M A (t >>= fun r => holding [r] point >>= fun _ => pure r) Q E s₁ :=
    fun ht => wpAny_bind (wpAny_mono ht (fun r s₂ hr => wpAny_bind (wpAny_holding (wpAny_point (wpAny_pure hr)))) fun _ _ x => x)
  have mk (m : Value) : wpAny M A (callMarked m f (first ++ a.pos) a.kw) Q E s₁ := by unfold callMarked; exact Calls.wpAny_keep h₁
  rcases hk' with rfl | rfl | rfl
  · exact fin (mk _)
  · dsimp only; first | exact fin (wpAny_operating h₁) | exact fin (mk _)
  · dsimp only; first | exact fin (mk _) | exact fin (wpAny_operating h₁)
end
end Mine
end
section
set_option maxRecDepth 100000
set_option Elab.async false
namespace Mine
open PySem PySem.W PySem.Calls PyProof.Rows
section
noncomputable def topAt (i : Nat) : Stmt := match PySem.Challenge.pw_ik0043_02.main.body[i]? with
  | some s => s
  | none => .Pass ⟨0, 0, 0, 0⟩
noncomputable def inCls (s : Stmt) (j : Nat) : Stmt := match s with
  | .ClassDef _ _ _ b _ _ _ _ _ _ _ => (match b[j]? with | some x => x | none => .Pass ⟨0, 0, 0, 0⟩)
  | _ => .Pass ⟨0, 0, 0, 0⟩
noncomputable def fnObj (s : Stmt) (q m : Str) (t : Nat) (d : Value) (c : Addr) : Obj := match s with
  | .FunctionDef n ps b _ _ _ sc _ _ _ => Obj.mk (.type "function") none (.func (FuncData.mk n q ps (.stmts b) sc 3 [] d .none .none (.str m t) none (.ref c) .none 0)) #[]
  | _ => Obj.mk .none none .plain #[]
noncomputable def ke (P : Params) (n : Str) (t : Nat) (v : Value) : DictEntry := DictEntry.mk (PyData.keyHash P n) (.str n t) v
noncomputable def KF2 (P : Params) : Frag := [
  (3, Obj.mk (Value.type "dict") none (Data.dict #[ke P "__name__" 165 (Value.str (Str.ofString "law_ik0043_02") 438), ke P "__doc__" 166 Value.none, ke P "__package__" 167 Value.none, ke P "__loader__" 168 (Value.builtin "__main__.__loader__#opaque"), ke P "__spec__" 169 Value.none, ke P "__annotations__" 170 (Value.ref 6), ke P "__builtins__" 171 (Value.ref 4), ke P "__file__" 173 (Value.str (Str.ofString "/claim/cut.py") 172), ke P "__cached__" 174 Value.none, ke P "_wall" 193 (Value.ref 21), ke P "_NODE_OUT" 198 (Value.int (-1) 197), ke P "_NODE_DONE" 201 (Value.int (-2) 200), ke P "_NodeInfo" 238 (Value.ref 40), ke P "CycleError" 256 (Value.ref 55), ke P "TopologicalSorter" 375 (Value.ref 137), ke P "filterfalse" 427 (Value.ref 174), ke P "_filter" 437 (Value.ref 185), ke P "_law_needs" 445 (Value.ref 190), ke P "_law_sorter" 455 (Value.ref 197), ke P "_law_told" 468 (Value.ref 204), ke P "_law_book" 474 (Value.ref 209), ke P "_law_early" 482 (Value.ref 216), ke P "law" 488 (Value.ref 221)] 23) #[]),
  (35, Obj.mk (Value.type "code") none (Data.fields #[Value.str (Str.ofString "__init__") 218, Value.str (Str.ofString "_NodeInfo.__init__") 219, Value.str (Str.ofString "/claim/cut.py") 220, Value.int 10 0, Value.int 2 0, Value.int 0 0, Value.int 0 0, Value.int 3 0, Value.ref 30, Value.bool true, Value.int 181 0, Value.ref 31, Value.none, Value.ref 32, Value.ref 33, Value.ref 34, Value.int 223 0, Value.int 10 0, Value.str (Str.ofString "/claim/cut.py") 224]) #[]),
  (36, fnObj (inCls (topAt 4) 1) "_NodeInfo.__init__" "cpy313.graphlib" 194 .none 35),
  (39, Obj.mk (Value.type "dict") none (Data.dict #[ke P "__module__" 209 (Value.str (Str.ofString "cpy313.graphlib") 194), ke P "__firstlineno__" 213 (Value.int 7 212), ke P "__slots__" 217 (Value.ref 29), ke P "__init__" 225 (Value.ref 36), ke P "__static_attributes__" 229 (Value.ref 37), ke P "node" 231 (Value.ref 41), ke P "npredecessors" 233 (Value.ref 42), ke P "successors" 235 (Value.ref 43), ke P "__doc__" 236 Value.none] 5) #[]),
  (40, Obj.mk (Value.type "type") none (Data.cls (ClassData.mk (Str.ofString "_NodeInfo") [Value.type "object"] [Value.ref 40, Value.type "object"] 39 (Str.ofString "_NodeInfo") false [Str.ofString "node", Str.ofString "npredecessors", Str.ofString "successors"] [] false none false)) #[none, none, some (Value.str (Str.ofString "_NodeInfo") 202), some (Value.str (Str.ofString "_NodeInfo") 210), some (Value.builtin "object.__new__"), some (Value.bool false)]),
  (41, Obj.mk (Value.type "member_descriptor") none (Data.fields #[Value.str (Str.ofString "node") 230, Value.ref 40, Value.builtin "proto.slot", Value.builtin "proto.slot#set", Value.int 2 0]) #[]),
  (42, Obj.mk (Value.type "member_descriptor") none (Data.fields #[Value.str (Str.ofString "npredecessors") 232, Value.ref 40, Value.builtin "proto.slot", Value.builtin "proto.slot#set", Value.int 1 0]) #[]),
  (43, Obj.mk (Value.type "member_descriptor") none (Data.fields #[Value.str (Str.ofString "successors") 234, Value.ref 40, Value.builtin "proto.slot", Value.builtin "proto.slot#set", Value.int 0 0]) #[]),
  (54, Obj.mk (Value.type "dict") none (Data.dict #[ke P "__module__" 246 (Value.str (Str.ofString "cpy313.graphlib") 194), ke P "__firstlineno__" 250 (Value.int 14 249), ke P "__static_attributes__" 251 (Value.ref 53), ke P "__weakref__" 253 (Value.ref 56), ke P "__doc__" 254 Value.none] 3) #[]),
  (55, Obj.mk (Value.type "type") none (Data.cls (ClassData.mk (Str.ofString "CycleError") [Value.type "ValueError"] [Value.ref 55, Value.type "ValueError", Value.type "Exception", Value.type "BaseException", Value.type "object"] 54 (Str.ofString "CycleError") true [] [] false none false)) #[some (Value.ref 46), none, some (Value.str (Str.ofString "CycleError") 239), some (Value.str (Str.ofString "CycleError") 247), some (Value.builtin "ValueError.__new__"), some (Value.bool true)]),
  (56, Obj.mk (Value.type "getset_descriptor") none (Data.fields #[Value.str (Str.ofString "__weakref__") 252, Value.ref 55, Value.builtin "ExceptionGroup.__weakref__", Value.none]) #[]),
  (66, Obj.mk (Value.type "tuple") none (Data.seq #[Value.none]) #[]),
  (72, Obj.mk (Value.type "code") none (Data.fields #[Value.str (Str.ofString "__init__") 269, Value.str (Str.ofString "TopologicalSorter.__init__") 270, Value.str (Str.ofString "/claim/cut.py") 271, Value.int 18 0, Value.int 2 0, Value.int 0 0, Value.int 0 0, Value.int 3 0, Value.ref 67, Value.bool true, Value.int 181 0, Value.ref 68, Value.none, Value.ref 69, Value.ref 70, Value.ref 71, Value.int 276 0, Value.int 18 0, Value.str (Str.ofString "/claim/cut.py") 277]) #[]),
  (73, fnObj (inCls (topAt 6) 0) "TopologicalSorter.__init__" "cpy313.graphlib" 194 (.ref 66) 72),
  (79, Obj.mk (Value.type "code") none (Data.fields #[Value.str (Str.ofString "_get_nodeinfo") 279, Value.str (Str.ofString "TopologicalSorter._get_nodeinfo") 280, Value.str (Str.ofString "/claim/cut.py") 281, Value.int 27 0, Value.int 2 0, Value.int 0 0, Value.int 0 0, Value.int 3 0, Value.ref 74, Value.bool true, Value.int 181 0, Value.ref 75, Value.none, Value.ref 76, Value.ref 77, Value.ref 78, Value.int 285 0, Value.int 27 0, Value.str (Str.ofString "/claim/cut.py") 286]) #[]),
  (80, fnObj (inCls (topAt 6) 1) "TopologicalSorter._get_nodeinfo" "cpy313.graphlib" 194 .none 79),
  (86, Obj.mk (Value.type "code") none (Data.fields #[Value.str (Str.ofString "add") 288, Value.str (Str.ofString "TopologicalSorter.add") 289, Value.str (Str.ofString "/claim/cut.py") 290, Value.int 32 0, Value.int 2 0, Value.int 0 0, Value.int 0 0, Value.int 7 0, Value.ref 81, Value.bool true, Value.int 181 0, Value.ref 82, Value.none, Value.ref 83, Value.ref 84, Value.ref 85, Value.int 297 0, Value.int 32 0, Value.str (Str.ofString "/claim/cut.py") 298]) #[]),
  (87, fnObj (inCls (topAt 6) 2) "TopologicalSorter.add" "cpy313.graphlib" 194 .none 86),
  (91, Obj.mk (Value.type "code") none (Data.fields #[Value.str (Str.ofString "prepare") 300, Value.str (Str.ofString "TopologicalSorter.prepare") 301, Value.str (Str.ofString "/claim/cut.py") 302, Value.int 41 0, Value.int 1 0, Value.int 0 0, Value.int 0 0, Value.int 3 0, Value.ref 88, Value.bool true, Value.int 181 0, Value.ref 89, Value.none, Value.none, Value.none, Value.ref 90, Value.int 303 0, Value.int 41 0, Value.str (Str.ofString "/claim/cut.py") 304]) #[]),
  (92, fnObj (inCls (topAt 6) 3) "TopologicalSorter.prepare" "cpy313.graphlib" 194 .none 91),
  (98, Obj.mk (Value.type "code") none (Data.fields #[Value.str (Str.ofString "get_ready") 306, Value.str (Str.ofString "TopologicalSorter.get_ready") 307, Value.str (Str.ofString "/claim/cut.py") 308, Value.int 49 0, Value.int 1 0, Value.int 0 0, Value.int 0 0, Value.int 3 0, Value.ref 93, Value.bool true, Value.int 181 0, Value.ref 94, Value.none, Value.ref 95, Value.ref 96, Value.ref 97, Value.int 313 0, Value.int 49 0, Value.str (Str.ofString "/claim/cut.py") 314]) #[]),
  (99, fnObj (inCls (topAt 6) 4) "TopologicalSorter.get_ready" "cpy313.graphlib" 194 .none 98),
  (105, Obj.mk (Value.type "code") none (Data.fields #[Value.str (Str.ofString "is_active") 316, Value.str (Str.ofString "TopologicalSorter.is_active") 317, Value.str (Str.ofString "/claim/cut.py") 318, Value.int 60 0, Value.int 1 0, Value.int 0 0, Value.int 0 0, Value.int 3 0, Value.ref 100, Value.bool true, Value.int 181 0, Value.ref 101, Value.none, Value.ref 102, Value.ref 103, Value.ref 104, Value.int 320 0, Value.int 60 0, Value.str (Str.ofString "/claim/cut.py") 321]) #[]),
  (106, fnObj (inCls (topAt 6) 5) "TopologicalSorter.is_active" "cpy313.graphlib" 194 .none 105),
  (119, Obj.mk (Value.type "code") none (Data.fields #[Value.str (Str.ofString "done") 330, Value.str (Str.ofString "TopologicalSorter.done") 331, Value.str (Str.ofString "/claim/cut.py") 332, Value.int 68 0, Value.int 1 0, Value.int 0 0, Value.int 0 0, Value.int 7 0, Value.ref 114, Value.bool true, Value.int 181 0, Value.ref 115, Value.none, Value.ref 116, Value.ref 117, Value.ref 118, Value.int 341 0, Value.int 68 0, Value.str (Str.ofString "/claim/cut.py") 342]) #[]),
  (120, fnObj (inCls (topAt 6) 7) "TopologicalSorter.done" "cpy313.graphlib" 194 .none 119),
  (126, Obj.mk (Value.type "code") none (Data.fields #[Value.str (Str.ofString "_find_cycle") 344, Value.str (Str.ofString "TopologicalSorter._find_cycle") 345, Value.str (Str.ofString "/claim/cut.py") 346, Value.int 91 0, Value.int 1 0, Value.int 0 0, Value.int 0 0, Value.int 3 0, Value.ref 121, Value.bool true, Value.int 181 0, Value.ref 122, Value.none, Value.ref 123, Value.ref 124, Value.ref 125, Value.int 354 0, Value.int 91 0, Value.str (Str.ofString "/claim/cut.py") 355]) #[]),
  (127, fnObj (inCls (topAt 6) 8) "TopologicalSorter._find_cycle" "cpy313.graphlib" 194 .none 126),
  (136, Obj.mk (Value.type "dict") none (Data.dict #[ke P "__module__" 264 (Value.str (Str.ofString "cpy313.graphlib") 194), ke P "__firstlineno__" 268 (Value.int 16 267), ke P "__init__" 278 (Value.ref 73), ke P "_get_nodeinfo" 287 (Value.ref 80), ke P "add" 299 (Value.ref 87), ke P "prepare" 305 (Value.ref 92), ke P "get_ready" 315 (Value.ref 99), ke P "is_active" 322 (Value.ref 106), ke P "__bool__" 329 (Value.ref 113), ke P "done" 343 (Value.ref 120), ke P "_find_cycle" 356 (Value.ref 127), ke P "static_order" 363 (Value.ref 134), ke P "__static_attributes__" 368 (Value.ref 135), ke P "__dict__" 370 (Value.ref 138), ke P "__weakref__" 372 (Value.ref 139), ke P "__doc__" 373 Value.none] 4) #[]),
  (137, Obj.mk (Value.type "type") none (Data.cls (ClassData.mk (Str.ofString "TopologicalSorter") [Value.type "object"] [Value.ref 137, Value.type "object"] 136 (Str.ofString "TopologicalSorter") true [] [] false none false)) #[none, none, some (Value.str (Str.ofString "TopologicalSorter") 257), some (Value.str (Str.ofString "TopologicalSorter") 265), some (Value.builtin "object.__new__"), some (Value.bool true)]),
  (138, Obj.mk (Value.type "getset_descriptor") none (Data.fields #[Value.str (Str.ofString "__dict__") 369, Value.ref 137, Value.builtin "function.__dict__", Value.builtin "function.__dict__#set"]) #[]),
  (139, Obj.mk (Value.type "getset_descriptor") none (Data.fields #[Value.str (Str.ofString "__weakref__") 371, Value.ref 137, Value.builtin "ExceptionGroup.__weakref__", Value.none]) #[]),
  (155, Obj.mk (Value.type "code") none (Data.fields #[Value.str (Str.ofString "__init__") 393, Value.str (Str.ofString "filterfalse.__init__") 394, Value.str (Str.ofString "/claim/cut.py") 395, Value.int 126 0, Value.int 3 0, Value.int 3 0, Value.int 0 0, Value.int 3 0, Value.ref 150, Value.bool true, Value.int 181 0, Value.ref 151, Value.none, Value.ref 152, Value.ref 153, Value.ref 154, Value.int 399 0, Value.int 126 0, Value.str (Str.ofString "/claim/cut.py") 400]) #[]),
  (156, fnObj (inCls (topAt 8) 1) "filterfalse.__init__" "itertools" 376 .none 155),
  (162, Obj.mk (Value.type "code") none (Data.fields #[Value.str (Str.ofString "__iter__") 402, Value.str (Str.ofString "filterfalse.__iter__") 403, Value.str (Str.ofString "/claim/cut.py") 404, Value.int 130 0, Value.int 1 0, Value.int 0 0, Value.int 0 0, Value.int 3 0, Value.ref 157, Value.bool true, Value.int 181 0, Value.ref 158, Value.none, Value.ref 159, Value.ref 160, Value.ref 161, Value.int 406 0, Value.int 130 0, Value.str (Str.ofString "/claim/cut.py") 407]) #[]),
  (163, fnObj (inCls (topAt 8) 2) "filterfalse.__iter__" "itertools" 376 .none 162),
  (169, Obj.mk (Value.type "code") none (Data.fields #[Value.str (Str.ofString "__next__") 409, Value.str (Str.ofString "filterfalse.__next__") 410, Value.str (Str.ofString "/claim/cut.py") 411, Value.int 133 0, Value.int 1 0, Value.int 0 0, Value.int 0 0, Value.int 3 0, Value.ref 164, Value.bool true, Value.int 181 0, Value.ref 165, Value.none, Value.ref 166, Value.ref 167, Value.ref 168, Value.int 415 0, Value.int 133 0, Value.str (Str.ofString "/claim/cut.py") 416]) #[]),
  (170, fnObj (inCls (topAt 8) 3) "filterfalse.__next__" "itertools" 376 .none 169),
  (173, Obj.mk (Value.type "dict") none (Data.dict #[ke P "__module__" 385 (Value.str (Str.ofString "itertools") 376), ke P "__firstlineno__" 389 (Value.int 123 388), ke P "__slots__" 392 (Value.ref 149), ke P "__init__" 401 (Value.ref 156), ke P "__iter__" 408 (Value.ref 163), ke P "__next__" 417 (Value.ref 170), ke P "__static_attributes__" 420 (Value.ref 171), ke P "_func" 422 (Value.ref 175), ke P "_it" 424 (Value.ref 176), ke P "__doc__" 425 Value.none] 4) #[]),
  (174, Obj.mk (Value.type "type") none (Data.cls (ClassData.mk (Str.ofString "filterfalse") [Value.type "object"] [Value.ref 174, Value.type "object"] 173 (Str.ofString "filterfalse") false [Str.ofString "_func", Str.ofString "_it"] [] false none false)) #[none, none, some (Value.str (Str.ofString "filterfalse") 378), some (Value.str (Str.ofString "filterfalse") 386), some (Value.builtin "object.__new__"), some (Value.bool false)]),
  (175, Obj.mk (Value.type "member_descriptor") none (Data.fields #[Value.str (Str.ofString "_func") 421, Value.ref 174, Value.builtin "proto.slot", Value.builtin "proto.slot#set", Value.int 1 0]) #[]),
  (176, Obj.mk (Value.type "member_descriptor") none (Data.fields #[Value.str (Str.ofString "_it") 423, Value.ref 174, Value.builtin "proto.slot", Value.builtin "proto.slot#set", Value.int 0 0]) #[]),
  (184, Obj.mk (Value.type "code") none (Data.fields #[Value.str (Str.ofString "_filter") 430, Value.str (Str.ofString "_filter") 431, Value.str (Str.ofString "/claim/cut.py") 432, Value.int 143 0, Value.int 2 0, Value.int 0 0, Value.int 0 0, Value.int 3 0, Value.ref 179, Value.bool true, Value.int 181 0, Value.ref 180, Value.none, Value.ref 181, Value.ref 182, Value.ref 183, Value.int 435 0, Value.int 143 0, Value.str (Str.ofString "/claim/cut.py") 436]) #[]),
  (185, fnObj (topAt 10) "_filter" "cpy313.filecmp" 428 .none 184),
  (189, Obj.mk (Value.type "code") none (Data.fields #[Value.str (Str.ofString "_law_needs") 440, Value.str (Str.ofString "_law_needs") 441, Value.str (Str.ofString "/claim/cut.py") 442, Value.int 146 0, Value.int 2 0, Value.int 0 0, Value.int 0 0, Value.int 3 0, Value.ref 186, Value.bool true, Value.int 181 0, Value.ref 187, Value.none, Value.none, Value.none, Value.ref 188, Value.int 443 0, Value.int 146 0, Value.str (Str.ofString "/claim/cut.py") 444]) #[]),
  (190, fnObj (topAt 12) "_law_needs" "law_ik0043_02" 438 .none 189),
  (196, Obj.mk (Value.type "code") none (Data.fields #[Value.str (Str.ofString "_law_sorter") 446, Value.str (Str.ofString "_law_sorter") 447, Value.str (Str.ofString "/claim/cut.py") 448, Value.int 154 0, Value.int 1 0, Value.int 0 0, Value.int 0 0, Value.int 3 0, Value.ref 191, Value.bool true, Value.int 181 0, Value.ref 192, Value.none, Value.ref 193, Value.ref 194, Value.ref 195, Value.int 453 0, Value.int 154 0, Value.str (Str.ofString "/claim/cut.py") 454]) #[]),
  (197, fnObj (topAt 13) "_law_sorter" "law_ik0043_02" 438 .none 196),
  (203, Obj.mk (Value.type "code") none (Data.fields #[Value.str (Str.ofString "_law_told") 456, Value.str (Str.ofString "_law_told") 457, Value.str (Str.ofString "/claim/cut.py") 458, Value.int 166 0, Value.int 2 0, Value.int 0 0, Value.int 0 0, Value.int 3 0, Value.ref 198, Value.bool true, Value.int 181 0, Value.ref 199, Value.none, Value.ref 200, Value.ref 201, Value.ref 202, Value.int 466 0, Value.int 166 0, Value.str (Str.ofString "/claim/cut.py") 467]) #[]),
  (204, fnObj (topAt 14) "_law_told" "law_ik0043_02" 438 .none 203),
  (208, Obj.mk (Value.type "code") none (Data.fields #[Value.str (Str.ofString "_law_book") 469, Value.str (Str.ofString "_law_book") 470, Value.str (Str.ofString "/claim/cut.py") 471, Value.int 176 0, Value.int 2 0, Value.int 0 0, Value.int 0 0, Value.int 3 0, Value.ref 205, Value.bool true, Value.int 181 0, Value.ref 206, Value.none, Value.none, Value.none, Value.ref 207, Value.int 472 0, Value.int 176 0, Value.str (Str.ofString "/claim/cut.py") 473]) #[]),
  (209, fnObj (topAt 15) "_law_book" "law_ik0043_02" 438 .none 208),
  (215, Obj.mk (Value.type "code") none (Data.fields #[Value.str (Str.ofString "_law_early") 475, Value.str (Str.ofString "_law_early") 476, Value.str (Str.ofString "/claim/cut.py") 477, Value.int 196 0, Value.int 0 0, Value.int 0 0, Value.int 0 0, Value.int 3 0, Value.ref 210, Value.bool true, Value.int 181 0, Value.ref 211, Value.none, Value.ref 212, Value.ref 213, Value.ref 214, Value.int 480 0, Value.int 196 0, Value.str (Str.ofString "/claim/cut.py") 481]) #[]),
  (216, fnObj (topAt 16) "_law_early" "law_ik0043_02" 438 .none 215),
  (220, Obj.mk (Value.type "code") none (Data.fields #[Value.str (Str.ofString "law") 483, Value.str (Str.ofString "law") 484, Value.str (Str.ofString "/claim/cut.py") 485, Value.int 203 0, Value.int 1 0, Value.int 0 0, Value.int 0 0, Value.int 3 0, Value.ref 217, Value.bool true, Value.int 181 0, Value.ref 218, Value.none, Value.none, Value.none, Value.ref 219, Value.int 486 0, Value.int 203 0, Value.str (Str.ofString "/claim/cut.py") 487]) #[]),
  (221, fnObj (topAt 17) "law" "law_ik0043_02" 438 .none 220)]
noncomputable def as2 : List Addr := [3, 35, 36, 39, 40, 41, 42, 43, 54, 55, 56, 66, 72, 73, 79, 80, 86, 87, 91, 92, 98, 99, 105, 106, 119, 120, 126, 127, 136, 137, 138, 139, 155, 156, 162, 163, 169, 170, 173, 174, 175, 176, 184, 185, 189, 190, 196, 197, 203, 204, 208, 209, 215, 216, 220, 221]
end
end Mine
end
section
set_option maxRecDepth 100000
set_option Elab.async false
namespace Mine
open PySem PySem.W PyProof.Rows PySem.SeqAt
theorem law_said : PySem.Challenge.rw_ik0043_02.wellSaid = true := by kernel_rfl
end Mine
end
section
set_option maxRecDepth 100000
set_option Elab.async false
set_option linter.unusedVariables false
set_option maxHeartbeats 8000000
namespace Mine
open PySem PySem.W PyProof.Rows PySem.SeqAt
structure Kept (P : Prop) : Prop where
  out : P
theorem hcut {A : Prop} {T : Prop} (_hc : T) (g : A) : A := g
noncomputable def headP : {P : Prop // P → PySem.Challenge.rw_ik0043_02.Holds} := by
  refine' ⟨_, fun h0 => (fun h : Kept _ => ?m) ⟨h0⟩⟩
  case m =>
    clear h0
    refine' hcut ?hc ?g
    case g =>
      refine holds_law law_said fun said => ?_
      o_head (kHook KF2 as2 (fun _ => by kernel_rfl))
      case hw => w_witness2
    case hc => exact h.out
end Mine
end
section
namespace Mine
theorem ex0and2 {a0 a1 : Prop} {P : Prop} (h : a0 ∧ a1) (k : a0 → a1 → P) : P := k h.1 h.2
theorem ex0and3 {a0 a1 a2 : Prop} {P : Prop} (h : a0 ∧ a1 ∧ a2) (k : a0 → a1 → a2 → P) : P := k h.1 h.2.1 h.2.2
theorem ex0and4 {a0 a1 a2 a3 : Prop} {P : Prop} (h : a0 ∧ a1 ∧ a2 ∧ a3) (k : a0 → a1 → a2 → a3 → P) : P := k h.1 h.2.1 h.2.2.1 h.2.2.2
theorem ex0and5 {a0 a1 a2 a3 a4 : Prop} {P : Prop} (h : a0 ∧ a1 ∧ a2 ∧ a3 ∧ a4) (k : a0 → a1 → a2 → a3 → a4 → P) : P := k h.1 h.2.1 h.2.2.1 h.2.2.2.1 h.2.2.2.2
theorem ex1and2 {t0 : Sort _} {a0 a1 : t0 → Prop} {P : Prop} (h : ∃ x0, a0 x0 ∧ a1 x0) (k : ∀ x0, a0 x0 → a1 x0 → P) : P := by obtain ⟨x0, h⟩ := h; exact k x0 h.1 h.2
theorem ex1and3 {t0 : Sort _} {a0 a1 a2 : t0 → Prop} {P : Prop} (h : ∃ x0, a0 x0 ∧ a1 x0 ∧ a2 x0) (k : ∀ x0, a0 x0 → a1 x0 → a2 x0 → P) : P := by obtain ⟨x0, h⟩ := h; exact k x0 h.1 h.2.1 h.2.2
theorem ex1and4 {t0 : Sort _} {a0 a1 a2 a3 : t0 → Prop} {P : Prop} (h : ∃ x0, a0 x0 ∧ a1 x0 ∧ a2 x0 ∧ a3 x0) (k : ∀ x0, a0 x0 → a1 x0 → a2 x0 → a3 x0 → P) : P := by obtain ⟨x0, h⟩ := h; exact k x0 h.1 h.2.1 h.2.2.1 h.2.2.2
theorem ex1and5 {t0 : Sort _} {a0 a1 a2 a3 a4 : t0 → Prop} {P : Prop} (h : ∃ x0, a0 x0 ∧ a1 x0 ∧ a2 x0 ∧ a3 x0 ∧ a4 x0) (k : ∀ x0, a0 x0 → a1 x0 → a2 x0 → a3 x0 → a4 x0 → P) : P := by obtain ⟨x0, h⟩ := h; exact k x0 h.1 h.2.1 h.2.2.1 h.2.2.2.1 h.2.2.2.2
theorem ex1and6 {t0 : Sort _} {a0 a1 a2 a3 a4 a5 : t0 → Prop} {P : Prop} (h : ∃ x0, a0 x0 ∧ a1 x0 ∧ a2 x0 ∧ a3 x0 ∧ a4 x0 ∧ a5 x0) (k : ∀ x0, a0 x0 → a1 x0 → a2 x0 → a3 x0 → a4 x0 → a5 x0 → P) : P := by obtain ⟨x0, h⟩ := h; exact k x0 h.1 h.2.1 h.2.2.1 h.2.2.2.1 h.2.2.2.2.1 h.2.2.2.2.2
theorem ex1and7 {t0 : Sort _} {a0 a1 a2 a3 a4 a5 a6 : t0 → Prop} {P : Prop} (h : ∃ x0, a0 x0 ∧ a1 x0 ∧ a2 x0 ∧ a3 x0 ∧ a4 x0 ∧ a5 x0 ∧ a6 x0) (k : ∀ x0, a0 x0 → a1 x0 → a2 x0 → a3 x0 → a4 x0 → a5 x0 → a6 x0 → P) : P := by obtain ⟨x0, h⟩ := h; exact k x0 h.1 h.2.1 h.2.2.1 h.2.2.2.1 h.2.2.2.2.1 h.2.2.2.2.2.1 h.2.2.2.2.2.2
theorem ex2and3 {t0 : Sort _} {t1 : Sort _} {a0 a1 a2 : t0 → t1 → Prop} {P : Prop} (h : ∃ x0 x1, a0 x0 x1 ∧ a1 x0 x1 ∧ a2 x0 x1) (k : ∀ x0 x1, a0 x0 x1 → a1 x0 x1 → a2 x0 x1 → P) : P := by obtain ⟨x0, x1, h⟩ := h; exact k x0 x1 h.1 h.2.1 h.2.2
theorem ex2and4 {t0 : Sort _} {t1 : Sort _} {a0 a1 a2 a3 : t0 → t1 → Prop} {P : Prop} (h : ∃ x0 x1, a0 x0 x1 ∧ a1 x0 x1 ∧ a2 x0 x1 ∧ a3 x0 x1) (k : ∀ x0 x1, a0 x0 x1 → a1 x0 x1 → a2 x0 x1 → a3 x0 x1 → P) : P := by obtain ⟨x0, x1, h⟩ := h; exact k x0 x1 h.1 h.2.1 h.2.2.1 h.2.2.2
theorem ex2and5 {t0 : Sort _} {t1 : Sort _} {a0 a1 a2 a3 a4 : t0 → t1 → Prop} {P : Prop} (h : ∃ x0 x1, a0 x0 x1 ∧ a1 x0 x1 ∧ a2 x0 x1 ∧ a3 x0 x1 ∧ a4 x0 x1) (k : ∀ x0 x1, a0 x0 x1 → a1 x0 x1 → a2 x0 x1 → a3 x0 x1 → a4 x0 x1 → P) : P := by obtain ⟨x0, x1, h⟩ := h; exact k x0 x1 h.1 h.2.1 h.2.2.1 h.2.2.2.1 h.2.2.2.2
theorem ex2and6 {t0 : Sort _} {t1 : Sort _} {a0 a1 a2 a3 a4 a5 : t0 → t1 → Prop} {P : Prop} (h : ∃ x0 x1, a0 x0 x1 ∧ a1 x0 x1 ∧ a2 x0 x1 ∧ a3 x0 x1 ∧ a4 x0 x1 ∧ a5 x0 x1) (k : ∀ x0 x1, a0 x0 x1 → a1 x0 x1 → a2 x0 x1 → a3 x0 x1 → a4 x0 x1 → a5 x0 x1 → P) : P := by obtain ⟨x0, x1, h⟩ := h; exact k x0 x1 h.1 h.2.1 h.2.2.1 h.2.2.2.1 h.2.2.2.2.1 h.2.2.2.2.2
theorem ex2and7 {t0 : Sort _} {t1 : Sort _} {a0 a1 a2 a3 a4 a5 a6 : t0 → t1 → Prop} {P : Prop} (h : ∃ x0 x1, a0 x0 x1 ∧ a1 x0 x1 ∧ a2 x0 x1 ∧ a3 x0 x1 ∧ a4 x0 x1 ∧ a5 x0 x1 ∧ a6 x0 x1) (k : ∀ x0 x1, a0 x0 x1 → a1 x0 x1 → a2 x0 x1 → a3 x0 x1 → a4 x0 x1 → a5 x0 x1 → a6 x0 x1 → P) : P := by obtain ⟨x0, x1, h⟩ := h; exact k x0 x1 h.1 h.2.1 h.2.2.1 h.2.2.2.1 h.2.2.2.2.1 h.2.2.2.2.2.1 h.2.2.2.2.2.2
theorem ex3and2 {t0 : Sort _} {t1 : Sort _} {t2 : Sort _} {a0 a1 : t0 → t1 → t2 → Prop} {P : Prop} (h : ∃ x0 x1 x2, a0 x0 x1 x2 ∧ a1 x0 x1 x2) (k : ∀ x0 x1 x2, a0 x0 x1 x2 → a1 x0 x1 x2 → P) : P := by obtain ⟨x0, x1, x2, h⟩ := h; exact k x0 x1 x2 h.1 h.2
theorem ex3and3 {t0 : Sort _} {t1 : Sort _} {t2 : Sort _} {a0 a1 a2 : t0 → t1 → t2 → Prop} {P : Prop} (h : ∃ x0 x1 x2, a0 x0 x1 x2 ∧ a1 x0 x1 x2 ∧ a2 x0 x1 x2) (k : ∀ x0 x1 x2, a0 x0 x1 x2 → a1 x0 x1 x2 → a2 x0 x1 x2 → P) : P := by obtain ⟨x0, x1, x2, h⟩ := h; exact k x0 x1 x2 h.1 h.2.1 h.2.2
theorem ex3and4 {t0 : Sort _} {t1 : Sort _} {t2 : Sort _} {a0 a1 a2 a3 : t0 → t1 → t2 → Prop} {P : Prop} (h : ∃ x0 x1 x2, a0 x0 x1 x2 ∧ a1 x0 x1 x2 ∧ a2 x0 x1 x2 ∧ a3 x0 x1 x2) (k : ∀ x0 x1 x2, a0 x0 x1 x2 → a1 x0 x1 x2 → a2 x0 x1 x2 → a3 x0 x1 x2 → P) : P := by obtain ⟨x0, x1, x2, h⟩ := h; exact k x0 x1 x2 h.1 h.2.1 h.2.2.1 h.2.2.2
theorem ex3and5 {t0 : Sort _} {t1 : Sort _} {t2 : Sort _} {a0 a1 a2 a3 a4 : t0 → t1 → t2 → Prop} {P : Prop} (h : ∃ x0 x1 x2, a0 x0 x1 x2 ∧ a1 x0 x1 x2 ∧ a2 x0 x1 x2 ∧ a3 x0 x1 x2 ∧ a4 x0 x1 x2) (k : ∀ x0 x1 x2, a0 x0 x1 x2 → a1 x0 x1 x2 → a2 x0 x1 x2 → a3 x0 x1 x2 → a4 x0 x1 x2 → P) : P := by obtain ⟨x0, x1, x2, h⟩ := h; exact k x0 x1 x2 h.1 h.2.1 h.2.2.1 h.2.2.2.1 h.2.2.2.2
theorem ex3and6 {t0 : Sort _} {t1 : Sort _} {t2 : Sort _} {a0 a1 a2 a3 a4 a5 : t0 → t1 → t2 → Prop} {P : Prop} (h : ∃ x0 x1 x2, a0 x0 x1 x2 ∧ a1 x0 x1 x2 ∧ a2 x0 x1 x2 ∧ a3 x0 x1 x2 ∧ a4 x0 x1 x2 ∧ a5 x0 x1 x2) (k : ∀ x0 x1 x2, a0 x0 x1 x2 → a1 x0 x1 x2 → a2 x0 x1 x2 → a3 x0 x1 x2 → a4 x0 x1 x2 → a5 x0 x1 x2 → P) : P := by obtain ⟨x0, x1, x2, h⟩ := h; exact k x0 x1 x2 h.1 h.2.1 h.2.2.1 h.2.2.2.1 h.2.2.2.2.1 h.2.2.2.2.2
theorem ex3and7 {t0 : Sort _} {t1 : Sort _} {t2 : Sort _} {a0 a1 a2 a3 a4 a5 a6 : t0 → t1 → t2 → Prop} {P : Prop} (h : ∃ x0 x1 x2, a0 x0 x1 x2 ∧ a1 x0 x1 x2 ∧ a2 x0 x1 x2 ∧ a3 x0 x1 x2 ∧ a4 x0 x1 x2 ∧ a5 x0 x1 x2 ∧ a6 x0 x1 x2) (k : ∀ x0 x1 x2, a0 x0 x1 x2 → a1 x0 x1 x2 → a2 x0 x1 x2 → a3 x0 x1 x2 → a4 x0 x1 x2 → a5 x0 x1 x2 → a6 x0 x1 x2 → P) : P := by obtain ⟨x0, x1, x2, h⟩ := h; exact k x0 x1 x2 h.1 h.2.1 h.2.2.1 h.2.2.2.1 h.2.2.2.2.1 h.2.2.2.2.2.1 h.2.2.2.2.2.2
theorem ex3and8 {t0 : Sort _} {t1 : Sort _} {t2 : Sort _} {a0 a1 a2 a3 a4 a5 a6 a7 : t0 → t1 → t2 → Prop} {P : Prop} (h : ∃ x0 x1 x2, a0 x0 x1 x2 ∧ a1 x0 x1 x2 ∧ a2 x0 x1 x2 ∧ a3 x0 x1 x2 ∧ a4 x0 x1 x2 ∧ a5 x0 x1 x2 ∧ a6 x0 x1 x2 ∧ a7 x0 x1 x2) (k : ∀ x0 x1 x2, a0 x0 x1 x2 → a1 x0 x1 x2 → a2 x0 x1 x2 → a3 x0 x1 x2 → a4 x0 x1 x2 → a5 x0 x1 x2 → a6 x0 x1 x2 → a7 x0 x1 x2 → P) : P := by obtain ⟨x0, x1, x2, h⟩ := h; exact k x0 x1 x2 h.1 h.2.1 h.2.2.1 h.2.2.2.1 h.2.2.2.2.1 h.2.2.2.2.2.1 h.2.2.2.2.2.2.1 h.2.2.2.2.2.2.2
theorem ex3and16 {t0 : Sort _} {t1 : Sort _} {t2 : Sort _} {a0 a1 a2 a3 a4 a5 a6 a7 a8 a9 a10 a11 a12 a13 a14 a15 : t0 → t1 → t2 → Prop} {P : Prop} (h : ∃ x0 x1 x2, a0 x0 x1 x2 ∧ a1 x0 x1 x2 ∧ a2 x0 x1 x2 ∧ a3 x0 x1 x2 ∧ a4 x0 x1 x2 ∧ a5 x0 x1 x2 ∧ a6 x0 x1 x2 ∧ a7 x0 x1 x2 ∧ a8 x0 x1 x2 ∧ a9 x0 x1 x2 ∧ a10 x0 x1 x2 ∧ a11 x0 x1 x2 ∧ a12 x0 x1 x2 ∧ a13 x0 x1 x2 ∧ a14 x0 x1 x2 ∧ a15 x0 x1 x2) (k : ∀ x0 x1 x2, a0 x0 x1 x2 → a1 x0 x1 x2 → a2 x0 x1 x2 → a3 x0 x1 x2 → a4 x0 x1 x2 → a5 x0 x1 x2 → a6 x0 x1 x2 → a7 x0 x1 x2 → a8 x0 x1 x2 → a9 x0 x1 x2 → a10 x0 x1 x2 → a11 x0 x1 x2 → a12 x0 x1 x2 → a13 x0 x1 x2 → a14 x0 x1 x2 → a15 x0 x1 x2 → P) : P := by obtain ⟨x0, x1, x2, h⟩ := h; exact k x0 x1 x2 h.1 h.2.1 h.2.2.1 h.2.2.2.1 h.2.2.2.2.1 h.2.2.2.2.2.1 h.2.2.2.2.2.2.1 h.2.2.2.2.2.2.2.1 h.2.2.2.2.2.2.2.2.1 h.2.2.2.2.2.2.2.2.2.1 h.2.2.2.2.2.2.2.2.2.2.1 h.2.2.2.2.2.2.2.2.2.2.2.1 h.2.2.2.2.2.2.2.2.2.2.2.2.1 h.2.2.2.2.2.2.2.2.2.2.2.2.2.1 h.2.2.2.2.2.2.2.2.2.2.2.2.2.2.1 h.2.2.2.2.2.2.2.2.2.2.2.2.2.2.2
theorem ex4and3 {t0 : Sort _} {t1 : Sort _} {t2 : Sort _} {t3 : Sort _} {a0 a1 a2 : t0 → t1 → t2 → t3 → Prop} {P : Prop} (h : ∃ x0 x1 x2 x3, a0 x0 x1 x2 x3 ∧ a1 x0 x1 x2 x3 ∧ a2 x0 x1 x2 x3) (k : ∀ x0 x1 x2 x3, a0 x0 x1 x2 x3 → a1 x0 x1 x2 x3 → a2 x0 x1 x2 x3 → P) : P := by obtain ⟨x0, x1, x2, x3, h⟩ := h; exact k x0 x1 x2 x3 h.1 h.2.1 h.2.2
theorem ex4and5 {t0 : Sort _} {t1 : Sort _} {t2 : Sort _} {t3 : Sort _} {a0 a1 a2 a3 a4 : t0 → t1 → t2 → t3 → Prop} {P : Prop} (h : ∃ x0 x1 x2 x3, a0 x0 x1 x2 x3 ∧ a1 x0 x1 x2 x3 ∧ a2 x0 x1 x2 x3 ∧ a3 x0 x1 x2 x3 ∧ a4 x0 x1 x2 x3) (k : ∀ x0 x1 x2 x3, a0 x0 x1 x2 x3 → a1 x0 x1 x2 x3 → a2 x0 x1 x2 x3 → a3 x0 x1 x2 x3 → a4 x0 x1 x2 x3 → P) : P := by obtain ⟨x0, x1, x2, x3, h⟩ := h; exact k x0 x1 x2 x3 h.1 h.2.1 h.2.2.1 h.2.2.2.1 h.2.2.2.2
theorem ex4and7 {t0 : Sort _} {t1 : Sort _} {t2 : Sort _} {t3 : Sort _} {a0 a1 a2 a3 a4 a5 a6 : t0 → t1 → t2 → t3 → Prop} {P : Prop} (h : ∃ x0 x1 x2 x3, a0 x0 x1 x2 x3 ∧ a1 x0 x1 x2 x3 ∧ a2 x0 x1 x2 x3 ∧ a3 x0 x1 x2 x3 ∧ a4 x0 x1 x2 x3 ∧ a5 x0 x1 x2 x3 ∧ a6 x0 x1 x2 x3) (k : ∀ x0 x1 x2 x3, a0 x0 x1 x2 x3 → a1 x0 x1 x2 x3 → a2 x0 x1 x2 x3 → a3 x0 x1 x2 x3 → a4 x0 x1 x2 x3 → a5 x0 x1 x2 x3 → a6 x0 x1 x2 x3 → P) : P := by obtain ⟨x0, x1, x2, x3, h⟩ := h; exact k x0 x1 x2 x3 h.1 h.2.1 h.2.2.1 h.2.2.2.1 h.2.2.2.2.1 h.2.2.2.2.2.1 h.2.2.2.2.2.2
theorem ex4and8 {t0 : Sort _} {t1 : Sort _} {t2 : Sort _} {t3 : Sort _} {a0 a1 a2 a3 a4 a5 a6 a7 : t0 → t1 → t2 → t3 → Prop} {P : Prop} (h : ∃ x0 x1 x2 x3, a0 x0 x1 x2 x3 ∧ a1 x0 x1 x2 x3 ∧ a2 x0 x1 x2 x3 ∧ a3 x0 x1 x2 x3 ∧ a4 x0 x1 x2 x3 ∧ a5 x0 x1 x2 x3 ∧ a6 x0 x1 x2 x3 ∧ a7 x0 x1 x2 x3) (k : ∀ x0 x1 x2 x3, a0 x0 x1 x2 x3 → a1 x0 x1 x2 x3 → a2 x0 x1 x2 x3 → a3 x0 x1 x2 x3 → a4 x0 x1 x2 x3 → a5 x0 x1 x2 x3 → a6 x0 x1 x2 x3 → a7 x0 x1 x2 x3 → P) : P := by obtain ⟨x0, x1, x2, x3, h⟩ := h; exact k x0 x1 x2 x3 h.1 h.2.1 h.2.2.1 h.2.2.2.1 h.2.2.2.2.1 h.2.2.2.2.2.1 h.2.2.2.2.2.2.1 h.2.2.2.2.2.2.2
theorem ex4and10 {t0 : Sort _} {t1 : Sort _} {t2 : Sort _} {t3 : Sort _} {a0 a1 a2 a3 a4 a5 a6 a7 a8 a9 : t0 → t1 → t2 → t3 → Prop} {P : Prop} (h : ∃ x0 x1 x2 x3, a0 x0 x1 x2 x3 ∧ a1 x0 x1 x2 x3 ∧ a2 x0 x1 x2 x3 ∧ a3 x0 x1 x2 x3 ∧ a4 x0 x1 x2 x3 ∧ a5 x0 x1 x2 x3 ∧ a6 x0 x1 x2 x3 ∧ a7 x0 x1 x2 x3 ∧ a8 x0 x1 x2 x3 ∧ a9 x0 x1 x2 x3) (k : ∀ x0 x1 x2 x3, a0 x0 x1 x2 x3 → a1 x0 x1 x2 x3 → a2 x0 x1 x2 x3 → a3 x0 x1 x2 x3 → a4 x0 x1 x2 x3 → a5 x0 x1 x2 x3 → a6 x0 x1 x2 x3 → a7 x0 x1 x2 x3 → a8 x0 x1 x2 x3 → a9 x0 x1 x2 x3 → P) : P := by obtain ⟨x0, x1, x2, x3, h⟩ := h; exact k x0 x1 x2 x3 h.1 h.2.1 h.2.2.1 h.2.2.2.1 h.2.2.2.2.1 h.2.2.2.2.2.1 h.2.2.2.2.2.2.1 h.2.2.2.2.2.2.2.1 h.2.2.2.2.2.2.2.2.1 h.2.2.2.2.2.2.2.2.2
theorem ex5and6 {t0 : Sort _} {t1 : Sort _} {t2 : Sort _} {t3 : Sort _} {t4 : Sort _} {a0 a1 a2 a3 a4 a5 : t0 → t1 → t2 → t3 → t4 → Prop} {P : Prop} (h : ∃ x0 x1 x2 x3 x4, a0 x0 x1 x2 x3 x4 ∧ a1 x0 x1 x2 x3 x4 ∧ a2 x0 x1 x2 x3 x4 ∧ a3 x0 x1 x2 x3 x4 ∧ a4 x0 x1 x2 x3 x4 ∧ a5 x0 x1 x2 x3 x4) (k : ∀ x0 x1 x2 x3 x4, a0 x0 x1 x2 x3 x4 → a1 x0 x1 x2 x3 x4 → a2 x0 x1 x2 x3 x4 → a3 x0 x1 x2 x3 x4 → a4 x0 x1 x2 x3 x4 → a5 x0 x1 x2 x3 x4 → P) : P := by obtain ⟨x0, x1, x2, x3, x4, h⟩ := h; exact k x0 x1 x2 x3 x4 h.1 h.2.1 h.2.2.1 h.2.2.2.1 h.2.2.2.2.1 h.2.2.2.2.2
theorem ex5and8 {t0 : Sort _} {t1 : Sort _} {t2 : Sort _} {t3 : Sort _} {t4 : Sort _} {a0 a1 a2 a3 a4 a5 a6 a7 : t0 → t1 → t2 → t3 → t4 → Prop} {P : Prop} (h : ∃ x0 x1 x2 x3 x4, a0 x0 x1 x2 x3 x4 ∧ a1 x0 x1 x2 x3 x4 ∧ a2 x0 x1 x2 x3 x4 ∧ a3 x0 x1 x2 x3 x4 ∧ a4 x0 x1 x2 x3 x4 ∧ a5 x0 x1 x2 x3 x4 ∧ a6 x0 x1 x2 x3 x4 ∧ a7 x0 x1 x2 x3 x4) (k : ∀ x0 x1 x2 x3 x4, a0 x0 x1 x2 x3 x4 → a1 x0 x1 x2 x3 x4 → a2 x0 x1 x2 x3 x4 → a3 x0 x1 x2 x3 x4 → a4 x0 x1 x2 x3 x4 → a5 x0 x1 x2 x3 x4 → a6 x0 x1 x2 x3 x4 → a7 x0 x1 x2 x3 x4 → P) : P := by obtain ⟨x0, x1, x2, x3, x4, h⟩ := h; exact k x0 x1 x2 x3 x4 h.1 h.2.1 h.2.2.1 h.2.2.2.1 h.2.2.2.2.1 h.2.2.2.2.2.1 h.2.2.2.2.2.2.1 h.2.2.2.2.2.2.2
theorem ex5and9 {t0 : Sort _} {t1 : Sort _} {t2 : Sort _} {t3 : Sort _} {t4 : Sort _} {a0 a1 a2 a3 a4 a5 a6 a7 a8 : t0 → t1 → t2 → t3 → t4 → Prop} {P : Prop} (h : ∃ x0 x1 x2 x3 x4, a0 x0 x1 x2 x3 x4 ∧ a1 x0 x1 x2 x3 x4 ∧ a2 x0 x1 x2 x3 x4 ∧ a3 x0 x1 x2 x3 x4 ∧ a4 x0 x1 x2 x3 x4 ∧ a5 x0 x1 x2 x3 x4 ∧ a6 x0 x1 x2 x3 x4 ∧ a7 x0 x1 x2 x3 x4 ∧ a8 x0 x1 x2 x3 x4) (k : ∀ x0 x1 x2 x3 x4, a0 x0 x1 x2 x3 x4 → a1 x0 x1 x2 x3 x4 → a2 x0 x1 x2 x3 x4 → a3 x0 x1 x2 x3 x4 → a4 x0 x1 x2 x3 x4 → a5 x0 x1 x2 x3 x4 → a6 x0 x1 x2 x3 x4 → a7 x0 x1 x2 x3 x4 → a8 x0 x1 x2 x3 x4 → P) : P := by obtain ⟨x0, x1, x2, x3, x4, h⟩ := h; exact k x0 x1 x2 x3 x4 h.1 h.2.1 h.2.2.1 h.2.2.2.1 h.2.2.2.2.1 h.2.2.2.2.2.1 h.2.2.2.2.2.2.1 h.2.2.2.2.2.2.2.1 h.2.2.2.2.2.2.2.2
theorem ex6and12 {t0 : Sort _} {t1 : Sort _} {t2 : Sort _} {t3 : Sort _} {t4 : Sort _} {t5 : Sort _} {a0 a1 a2 a3 a4 a5 a6 a7 a8 a9 a10 a11 : t0 → t1 → t2 → t3 → t4 → t5 → Prop} {P : Prop} (h : ∃ x0 x1 x2 x3 x4 x5, a0 x0 x1 x2 x3 x4 x5 ∧ a1 x0 x1 x2 x3 x4 x5 ∧ a2 x0 x1 x2 x3 x4 x5 ∧ a3 x0 x1 x2 x3 x4 x5 ∧ a4 x0 x1 x2 x3 x4 x5 ∧ a5 x0 x1 x2 x3 x4 x5 ∧ a6 x0 x1 x2 x3 x4 x5 ∧ a7 x0 x1 x2 x3 x4 x5 ∧ a8 x0 x1 x2 x3 x4 x5 ∧ a9 x0 x1 x2 x3 x4 x5 ∧ a10 x0 x1 x2 x3 x4 x5 ∧ a11 x0 x1 x2 x3 x4 x5) (k : ∀ x0 x1 x2 x3 x4 x5, a0 x0 x1 x2 x3 x4 x5 → a1 x0 x1 x2 x3 x4 x5 → a2 x0 x1 x2 x3 x4 x5 → a3 x0 x1 x2 x3 x4 x5 → a4 x0 x1 x2 x3 x4 x5 → a5 x0 x1 x2 x3 x4 x5 → a6 x0 x1 x2 x3 x4 x5 → a7 x0 x1 x2 x3 x4 x5 → a8 x0 x1 x2 x3 x4 x5 → a9 x0 x1 x2 x3 x4 x5 → a10 x0 x1 x2 x3 x4 x5 → a11 x0 x1 x2 x3 x4 x5 → P) : P := by obtain ⟨x0, x1, x2, x3, x4, x5, h⟩ := h; exact k x0 x1 x2 x3 x4 x5 h.1 h.2.1 h.2.2.1 h.2.2.2.1 h.2.2.2.2.1 h.2.2.2.2.2.1 h.2.2.2.2.2.2.1 h.2.2.2.2.2.2.2.1 h.2.2.2.2.2.2.2.2.1 h.2.2.2.2.2.2.2.2.2.1 h.2.2.2.2.2.2.2.2.2.2.1 h.2.2.2.2.2.2.2.2.2.2.2
theorem ex6and14 {t0 : Sort _} {t1 : Sort _} {t2 : Sort _} {t3 : Sort _} {t4 : Sort _} {t5 : Sort _} {a0 a1 a2 a3 a4 a5 a6 a7 a8 a9 a10 a11 a12 a13 : t0 → t1 → t2 → t3 → t4 → t5 → Prop} {P : Prop} (h : ∃ x0 x1 x2 x3 x4 x5, a0 x0 x1 x2 x3 x4 x5 ∧ a1 x0 x1 x2 x3 x4 x5 ∧ a2 x0 x1 x2 x3 x4 x5 ∧ a3 x0 x1 x2 x3 x4 x5 ∧ a4 x0 x1 x2 x3 x4 x5 ∧ a5 x0 x1 x2 x3 x4 x5 ∧ a6 x0 x1 x2 x3 x4 x5 ∧ a7 x0 x1 x2 x3 x4 x5 ∧ a8 x0 x1 x2 x3 x4 x5 ∧ a9 x0 x1 x2 x3 x4 x5 ∧ a10 x0 x1 x2 x3 x4 x5 ∧ a11 x0 x1 x2 x3 x4 x5 ∧ a12 x0 x1 x2 x3 x4 x5 ∧ a13 x0 x1 x2 x3 x4 x5) (k : ∀ x0 x1 x2 x3 x4 x5, a0 x0 x1 x2 x3 x4 x5 → a1 x0 x1 x2 x3 x4 x5 → a2 x0 x1 x2 x3 x4 x5 → a3 x0 x1 x2 x3 x4 x5 → a4 x0 x1 x2 x3 x4 x5 → a5 x0 x1 x2 x3 x4 x5 → a6 x0 x1 x2 x3 x4 x5 → a7 x0 x1 x2 x3 x4 x5 → a8 x0 x1 x2 x3 x4 x5 → a9 x0 x1 x2 x3 x4 x5 → a10 x0 x1 x2 x3 x4 x5 → a11 x0 x1 x2 x3 x4 x5 → a12 x0 x1 x2 x3 x4 x5 → a13 x0 x1 x2 x3 x4 x5 → P) : P := by obtain ⟨x0, x1, x2, x3, x4, x5, h⟩ := h; exact k x0 x1 x2 x3 x4 x5 h.1 h.2.1 h.2.2.1 h.2.2.2.1 h.2.2.2.2.1 h.2.2.2.2.2.1 h.2.2.2.2.2.2.1 h.2.2.2.2.2.2.2.1 h.2.2.2.2.2.2.2.2.1 h.2.2.2.2.2.2.2.2.2.1 h.2.2.2.2.2.2.2.2.2.2.1 h.2.2.2.2.2.2.2.2.2.2.2.1 h.2.2.2.2.2.2.2.2.2.2.2.2.1 h.2.2.2.2.2.2.2.2.2.2.2.2.2
theorem ex8and5 {t0 : Sort _} {t1 : Sort _} {t2 : Sort _} {t3 : Sort _} {t4 : Sort _} {t5 : Sort _} {t6 : Sort _} {t7 : Sort _} {a0 a1 a2 a3 a4 : t0 → t1 → t2 → t3 → t4 → t5 → t6 → t7 → Prop} {P : Prop} (h : ∃ x0 x1 x2 x3 x4 x5 x6 x7, a0 x0 x1 x2 x3 x4 x5 x6 x7 ∧ a1 x0 x1 x2 x3 x4 x5 x6 x7 ∧ a2 x0 x1 x2 x3 x4 x5 x6 x7 ∧ a3 x0 x1 x2 x3 x4 x5 x6 x7 ∧ a4 x0 x1 x2 x3 x4 x5 x6 x7) (k : ∀ x0 x1 x2 x3 x4 x5 x6 x7, a0 x0 x1 x2 x3 x4 x5 x6 x7 → a1 x0 x1 x2 x3 x4 x5 x6 x7 → a2 x0 x1 x2 x3 x4 x5 x6 x7 → a3 x0 x1 x2 x3 x4 x5 x6 x7 → a4 x0 x1 x2 x3 x4 x5 x6 x7 → P) : P := by obtain ⟨x0, x1, x2, x3, x4, x5, x6, x7, h⟩ := h; exact k x0 x1 x2 x3 x4 x5 x6 x7 h.1 h.2.1 h.2.2.1 h.2.2.2.1 h.2.2.2.2
theorem ex17and4 {t0 : Sort _} {t1 : Sort _} {t2 : Sort _} {t3 : Sort _} {t4 : Sort _} {t5 : Sort _} {t6 : Sort _} {t7 : Sort _} {t8 : Sort _} {t9 : Sort _} {t10 : Sort _} {t11 : Sort _} {t12 : Sort _} {t13 : Sort _} {t14 : Sort _} {t15 : Sort _} {t16 : Sort _} {a0 a1 a2 a3 : t0 → t1 → t2 → t3 → t4 → t5 → t6 → t7 → t8 → t9 → t10 → t11 → t12 → t13 → t14 → t15 → t16 → Prop} {P : Prop} (h : ∃ x0 x1 x2 x3 x4 x5 x6 x7 x8 x9 x10 x11 x12 x13 x14 x15 x16, a0 x0 x1 x2 x3 x4 x5 x6 x7 x8 x9 x10 x11 x12 x13 x14 x15 x16 ∧ a1 x0 x1 x2 x3 x4 x5 x6 x7 x8 x9 x10 x11 x12 x13 x14 x15 x16 ∧ a2 x0 x1 x2 x3 x4 x5 x6 x7 x8 x9 x10 x11 x12 x13 x14 x15 x16 ∧ a3 x0 x1 x2 x3 x4 x5 x6 x7 x8 x9 x10 x11 x12 x13 x14 x15 x16) (k : ∀ x0 x1 x2 x3 x4 x5 x6 x7 x8 x9 x10 x11 x12 x13 x14 x15 x16, a0 x0 x1 x2 x3 x4 x5 x6 x7 x8 x9 x10 x11 x12 x13 x14 x15 x16 → a1 x0 x1 x2 x3 x4 x5 x6 x7 x8 x9 x10 x11 x12 x13 x14 x15 x16 → a2 x0 x1 x2 x3 x4 x5 x6 x7 x8 x9 x10 x11 x12 x13 x14 x15 x16 → a3 x0 x1 x2 x3 x4 x5 x6 x7 x8 x9 x10 x11 x12 x13 x14 x15 x16 → P) : P := by obtain ⟨x0, x1, x2, x3, x4, x5, x6, x7, x8, x9, x10, x11, x12, x13, x14, x15, x16, h⟩ := h; exact k x0 x1 x2 x3 x4 x5 x6 x7 x8 x9 x10 x11 x12 x13 x14 x15 x16 h.1 h.2.1 h.2.2.1 h.2.2.2
end Mine
end
section
set_option maxRecDepth 100000
namespace Mine
theorem leT {a b c : Nat} (h : a ≤ b) (q : Nat.ble b c = true) : a ≤ c := Nat.le_trans h (Nat.le_of_ble_eq_true q)
theorem ltT {a b c : Nat} (h : a ≤ b) (q : Nat.blt b c = true) : a < c := Nat.lt_of_le_of_lt h (Nat.le_of_ble_eq_true q)
theorem om1 {K N A B L i G : Nat} (h : K + A ≤ N) (hl : i < L) (e1 : A = L - i + 1 + G) (e2 : B = L - (i + 1) + 1 + G) : K + B < N := by omega
theorem om2 {K' K N L A F : Nat} (e : N = K + F) (h : K' + (L + 2) ≤ K) (e2 : A = L - 0 + 1 + F) : K' + A ≤ N := by omega
theorem om3 {K N A B L i : Nat} (h : K + A ≤ N) (e : A = L - i + 1 + B) : K + B ≤ N := by omega
theorem om4 {i L : Nat} (h : i < L) : L - (i + 1) < L - i := by omega
theorem maxmin (i n : Nat) : max (0 : Int) (min (i : Int) (n : Int)) = ((min i n : Nat) : Int) := by omega
theorem toNatSub {a b : Nat} : (((b : Int) - a + 1 - 1) / 1).toNat = b - a := by rw [Int.ediv_one, Int.add_sub_cancel]; exact Int.toNat_sub b a
theorem om11 {t x k n : Int} (h : t ≤ 6) (h1 : x < k) (h2 : k < n) (h3 : n ≤ 5) : (t + x).toNat ≤ 9 := by omega
theorem unitsIn {u n d e : Nat} (h : u + 10 * (n + 1) < 5000) (hd : d ≤ 100) : u + 3 + 1 + min d e < 9900 := by omega
theorem om13 {a j n : Nat} (h : a ≤ min j n) (hn : n ≤ 50000) : a + (n - j) ≤ 100000 := by omega
theorem om14 {t m j z : Nat} (h1 : t ≤ m * 900) (h2 : m ≤ 1000) (h4 : z ≤ 900) : t + min j z ≤ 1000000 := by omega
theorem om15 {a b c : Nat} (h : a + b = c) : (c = 0 ↔ c = 0 ∧ a = 0) := by omega
theorem exi2 {t0 : Sort _} {t1 : Sort _} {a : t0 → t1 → Prop} (w0 : t0) (w1 : t1) (h : a w0 w1) : ∃ x0 x1, a x0 x1 := ⟨w0, w1, h⟩
theorem exi3 {t0 : Sort _} {t1 : Sort _} {t2 : Sort _} {a : t0 → t1 → t2 → Prop} (w0 : t0) (w1 : t1) (w2 : t2) (h : a w0 w1 w2) : ∃ x0 x1 x2, a x0 x1 x2 := ⟨w0, w1, w2, h⟩
theorem exi4 {t0 : Sort _} {t1 : Sort _} {t2 : Sort _} {t3 : Sort _} {a : t0 → t1 → t2 → t3 → Prop} (w0 : t0) (w1 : t1) (w2 : t2) (w3 : t3) (h : a w0 w1 w2 w3) : ∃ x0 x1 x2 x3, a x0 x1 x2 x3 := ⟨w0, w1, w2, w3, h⟩
theorem exi5 {t0 : Sort _} {t1 : Sort _} {t2 : Sort _} {t3 : Sort _} {t4 : Sort _} {a : t0 → t1 → t2 → t3 → t4 → Prop} (w0 : t0) (w1 : t1) (w2 : t2) (w3 : t3) (w4 : t4) (h : a w0 w1 w2 w3 w4) : ∃ x0 x1 x2 x3 x4, a x0 x1 x2 x3 x4 := ⟨w0, w1, w2, w3, w4, h⟩
theorem exi6 {t0 : Sort _} {t1 : Sort _} {t2 : Sort _} {t3 : Sort _} {t4 : Sort _} {t5 : Sort _} {a : t0 → t1 → t2 → t3 → t4 → t5 → Prop} (w0 : t0) (w1 : t1) (w2 : t2) (w3 : t3) (w4 : t4) (w5 : t5) (h : a w0 w1 w2 w3 w4 w5) : ∃ x0 x1 x2 x3 x4 x5, a x0 x1 x2 x3 x4 x5 := ⟨w0, w1, w2, w3, w4, w5, h⟩
theorem exi7 {t0 : Sort _} {t1 : Sort _} {t2 : Sort _} {t3 : Sort _} {t4 : Sort _} {t5 : Sort _} {t6 : Sort _} {a : t0 → t1 → t2 → t3 → t4 → t5 → t6 → Prop} (w0 : t0) (w1 : t1) (w2 : t2) (w3 : t3) (w4 : t4) (w5 : t5) (w6 : t6) (h : a w0 w1 w2 w3 w4 w5 w6) : ∃ x0 x1 x2 x3 x4 x5 x6, a x0 x1 x2 x3 x4 x5 x6 := ⟨w0, w1, w2, w3, w4, w5, w6, h⟩
end Mine
end
section
set_option maxRecDepth 100000
set_option Elab.async false
namespace Mine
open PySem PySem.W PySem.Calls PyProof.Rows
noncomputable def er : Value → Value
  | .int i _ => .int i 0
  | .float b _ => .float b 0
  | .str s _ => .str s 0
  | .bytes b _ => .bytes b 0
  | v => v
theorem er_int {v : Value} {i : Int} (h : er v = .int i 0) : ∃ t, v = .int i t := by
  cases v <;> simp [er] at h
  subst h; exact ⟨_, rfl⟩
theorem er_str {v : Value} {x : Str} (h : er v = .str x 0) : ∃ t, v = .str x t := by
  cases v <;> simp [er] at h
  subst h; exact ⟨_, rfl⟩
theorem er_bool {v : Value} {b : Bool} (h : er v = .bool b) : v = .bool b := by
  cases v <;> simp [er] at h
  subst h; rfl
theorem er_none {v : Value} (h : er v = .none) : v = .none := by
  cases v <;> simp [er] at h
  rfl
theorem er_ref {v : Value} {a : Addr} (h : er v = .ref a) : v = .ref a := by
  cases v <;> simp [er] at h
  subst h; rfl
theorem er_type {v : Value} {a : String} (h : er v = .type a) : v = .type a := by
  cases v <;> simp [er] at h
  subst h; rfl
theorem er_builtin {v : Value} {a : String} (h : er v = .builtin a) : v = .builtin a := by
  cases v <;> simp [er] at h
  subst h; rfl
inductive AO
  | list (xs : List Value)
  | tup (xs : List Value)
  | dict (es : List (Value × Value)) (n : Nat)
  | iset (ks : List Int)
  | sset (ks : List Str)
  | inst (C d : Addr)
  | ns (es : List (Str × Value))
  | slots (C d : Addr) (vs : List (Option Value))
  | iter (l : Addr) (i : Nat)
  | titer (l : Addr) (i : Nat)
  | meth (f self : Value)
  | bm (cls : String) (fn self : Value)
  | rng (a b : Int)
  | vals (d : Addr)
  | exc (cls : Value) (ta : Addr)
  | args (xs : List Value)
  | pin (o : Obj)
section
variable (prog : Program) (w : World)
noncomputable def KDict (des : Array DictEntry) (es : List (Value × Value)) : Prop :=
  (∃ kvs : List (Int × Value), KeysOf (intKind prog w) des ∧ Pairs (intKind prog w) des.toList kvs ∧ (kvs.map (·.1)).Nodup ∧ es = kvs.map fun p => (.int p.1 0, er p.2)) ∨
  (∃ kvs : List (Str × Value), KeysOf (strKind prog w) des ∧ Pairs (strKind prog w) des.toList kvs ∧ (kvs.map (·.1)).Nodup ∧ es = kvs.map fun p => (.str p.1 0, er p.2))
noncomputable def NsE : List DictEntry → List (Str × Value) → Prop
  | [], [] => True
  | e :: r, p :: q => (∃ t, e.key = .str p.1 t) ∧ er e.val = p.2 ∧ NsE r q
  | _, _ => False
noncomputable def RepO : AO → Obj → Prop
  | .list xs, o => o.cls = .type "list" ∧ o.dict = none ∧ o.slots = #[] ∧ ∃ items n, o.data = .seq items n ∧ items.toList.map er = xs
  | .tup xs, o => o.cls = .type "tuple" ∧ o.dict = none ∧ o.slots = #[] ∧ ∃ items n, o.data = .seq items n ∧ items.toList.map er = xs
  | .dict es n, o => o.ExactDict ∧ ∃ des, o.data = .dict des n ∧ KDict prog w des es
  | .iset ks, o => ∃ S, o.SetObjOf (intKind prog w) S ks.length ∧ ∀ k, S k = decide (k ∈ ks)
  | .sset ks, o => ∃ S, o.SetObjOf (strKind prog w) S ks.length ∧ ∀ k, S k = decide (k ∈ ks)
  | .inst C d, o => o = instObj C d
  | .ns es, o => ∃ des n, o = dictOf des n ∧ NsE des es
  | .slots C d vs, o => o.cls = .ref C ∧ o.dict = some d ∧ o.data = .plain ∧ o.slots.toList.map (Option.map er) = vs
  | .iter l i, o => o = { cls := .type "list_iterator", dict := none, data := .fields #[.ref l, .int i 0], slots := #[] }
  | .titer l i, o => o = { cls := .type "tuple_iterator", dict := none, data := .fields #[.ref l, .int i 0], slots := #[] }
  | .meth f self, o => o = methodObj f self
  | .bm cls fn self, o => o.cls = .type cls ∧ ∃ s', o.data = .fields #[fn, s'] ∧ er s' = self
  | .rng a b, o => ∃ t u v, o = { cls := .type "range", dict := none, data := .fields #[.int a t, .int b u, .int 1 v], slots := #[] }
  | .exc cls ta, o => o.cls = cls ∧ ∃ vs, o.data = .fields vs ∧ vs[0]? = some (.ref ta)
  | .args xs, o => o.cls = .type "tuple" ∧ ∃ items n, o.data = .seq items n ∧ items.toList.map er = xs
  | .vals d, o => o.cls = .type "dict_values" ∧ o.data = .fields #[.ref d]
  | .pin p, o => o = p
noncomputable abbrev AHeap := Addr → Option AO
noncomputable def upd (H : AHeap) (a : Addr) (o : AO) : AHeap := fun b => if b = a then some o else H b
noncomputable def KeepAt (fr : List Addr) (o : Obj) (h : Heap) (b : Addr) : Prop := ∃ sl, h.get? b = some { o with slots := sl } ∧ (b ∉ fr → sl = o.slots)
noncomputable def frAddrs (l : List Env) : List Addr := l.filterMap (·.frame)
structure Fc where
  A : Around
  base : Heap
  stk : List Env
  os : OsState
structure HRel (F : Fc) (H : AHeap) (s : Shared) : Prop where
  stays : F.base.StaysIn s.heap
  cells : ∀ a o, H a = some o → ∃ o', s.heap.get? a = some o' ∧ RepO prog w o o'
  notBase : ∀ a, H a ≠ none → F.base.get? a = none
  frames : s.heap.FunFrames F.base F.stk
  frCls : ∀ env ∈ F.stk, ∀ L, env.frame = some L → H L = none ∧ ∃ o es n, s.heap.get? L = some o ∧ o.data = .dict es n
  gens : s.gens = #[]
  os : s.os = F.os
structure After (fr own : List Addr) (H : AHeap) (s : Shared) (H' : AHeap) (s' : Shared) : Prop where
  keep : ∀ b o, s.heap.get? b = some o → H b = none → b ∉ own → KeepAt fr o s'.heap b
  alive : ∀ b, s.heap.get? b ≠ none → s'.heap.get? b ≠ none
  dom : ∀ b, H' b ≠ none → H b ≠ none ∨ s.heap.get? b = none
end
theorem KeepAt.refl {fr : List Addr} {o : Obj} {h : Heap} {b : Addr} (e : h.get? b = some o) : KeepAt fr o h b := ⟨o.slots, e, fun _ => rfl⟩
theorem After.refl (fr own : List Addr) (H : AHeap) (s : Shared) : After fr own H s H s :=
  ⟨fun _ _ e _ _ => .refl e, fun _ e => e, fun _ e => .inl e⟩
theorem After.trans {fr own : List Addr} {H H₁ H₂ : AHeap} {s s₁ s₂ : Shared} (x : After fr own H s H₁ s₁) (y : After fr own H₁ s₁ H₂ s₂) : After fr own H s H₂ s₂ where
  keep b o e hn ho := by
    obtain ⟨sl, e1, c1⟩ := x.keep b o e hn ho
    have hn1 : H₁ b = none := by
      cases q : H₁ b with
      | none => rfl
      | some z =>
        rcases x.dom b (by rw [q]; exact nofun) with h | h
        · exact absurd hn h
        · rw [e] at h; cases h
    obtain ⟨sl2, e2, c2⟩ := y.keep b _ e1 hn1 ho
    exact ⟨sl2, e2, fun hc => (c2 hc).trans (c1 hc)⟩
  alive b e := y.alive b (x.alive b e)
  dom b e := by
    rcases y.dom b e with h | h
    · exact x.dom b h
    · refine .inr ?_
      cases q : s.heap.get? b with
      | none => rfl
      | some z => exact absurd h (x.alive b (by rw [q]; exact nofun))
theorem After.forget {fr own : List Addr} {H H₁ H₂ : AHeap} {s s₁ : Shared} (x : After fr own H s H₁ s₁) (h : ∀ a o, H₂ a = some o → H₁ a = some o) : After fr own H s H₂ s₁ where
  keep := x.keep
  alive := x.alive
  dom b e := x.dom b (by
    cases q : H₂ b with
    | none => exact absurd q e
    | some z => rw [h b z q]; exact nofun)
theorem funFrames_of_data {h h' base : Heap} (k : ∀ b o, h.get? b = some o → (∀ vs, o.data ≠ .fields vs) → ∃ o', h'.get? b = some o' ∧ ∀ vs, o'.data ≠ .fields vs) {l : List Env}
    (hl : h.FunFrames base l) : h'.FunFrames base l := by
  induction l with
  | nil => trivial
  | cons env rest ih =>
    obtain ⟨hk, ⟨L, o, hf, hn, ho, hd⟩, hr⟩ := hl
    obtain ⟨o', ho', hd'⟩ := k L o ho hd
    exact ⟨hk, ⟨L, o', hf, hn, ho', hd'⟩, ih hr⟩
section
variable {prog : Program} {w : World} {F : Fc} {H H' : AHeap} {s s' : Shared}
theorem HRel.forget (R : HRel prog w F H s) (h : ∀ a o, H' a = some o → H a = some o) : HRel prog w F H' s where
  stays := R.stays
  cells a o e := R.cells a o (h a o e)
  notBase a e := R.notBase a (by
    cases q : H' a with
    | none => exact absurd q e
    | some z => rw [h a z q]; exact nofun)
  frames := R.frames
  frCls env he L hL := by
    obtain ⟨h1, h2⟩ := R.frCls env he L hL
    refine ⟨?_, h2⟩
    cases q : H' L with
    | none => rfl
    | some z => rw [h L z q] at h1; cases h1
  gens := R.gens
  os := R.os
theorem HRel.fresh (R : HRel prog w F H s) : H s.heap.objs.size = none := by
  cases q : H s.heap.objs.size with
  | none => rfl
  | some o =>
    obtain ⟨o', e, _⟩ := R.cells _ _ q
    exact absurd (Heap.lt_size e) (Nat.lt_irrefl _)
theorem HRel.none_of (R : HRel prog w F H s) {a : Addr} (e : s.heap.get? a = none) : H a = none := by
  cases q : H a with
  | none => rfl
  | some o =>
    obtain ⟨o', e', _⟩ := R.cells _ _ q
    rw [e] at e'; cases e'
theorem HRel.grow (R : HRel prog w F H s) (hk : ∀ b o, s.heap.get? b = some o → s'.heap.get? b = some o) (hg : s'.gens = s.gens) (ho : s'.os = s.os) : HRel prog w F H s' where
  stays b o e := hk b o (R.stays b o e)
  cells a o e := let ⟨o', e', r⟩ := R.cells a o e; ⟨o', hk _ _ e', r⟩
  notBase := R.notBase
  frames := R.frames.of_keeps fun b o e _ => ⟨o, hk b o e, rfl⟩
  frCls env he L hL := let ⟨h1, o, es, n, h2, h3⟩ := R.frCls env he L hL; ⟨h1, o, es, n, hk _ _ h2, h3⟩
  gens := hg.trans R.gens
  os := ho.trans R.os
theorem After.grow (fr own : List Addr) (hk : ∀ b o, s.heap.get? b = some o → s'.heap.get? b = some o) : After fr own H s H s' where
  keep b o e _ _ := .refl (hk b o e)
  alive b e := by
    cases q : s.heap.get? b with
    | none => exact absurd q e
    | some o => rw [hk b o q]; exact nofun
  dom _ e := .inl e
theorem HRel.new (R : HRel prog w F H s) (hk : ∀ b o, s.heap.get? b = some o → s'.heap.get? b = some o) (hg : s'.gens = s.gens) (ho : s'.os = s.os)
    {a : Addr} {o : AO} {o' : Obj} (hn : s.heap.get? a = none) (e : s'.heap.get? a = some o') (r : RepO prog w o o') : HRel prog w F (upd H a o) s' where
  stays b o e := hk b o (R.stays b o e)
  cells b ob eb := by
    unfold upd at eb
    by_cases h : b = a
    · subst h; rw [if_pos rfl] at eb; cases eb; exact ⟨o', e, r⟩
    · rw [if_neg h] at eb; obtain ⟨x, e', q⟩ := R.cells b ob eb; exact ⟨x, hk _ _ e', q⟩
  notBase b eb := by
    by_cases h : b = a
    · subst h
      cases q : F.base.get? b with
      | none => rfl
      | some z => rw [R.stays b z q] at hn; cases hn
    · exact R.notBase b (by unfold upd at eb; rwa [if_neg h] at eb)
  frames := R.frames.of_keeps fun b o e _ => ⟨o, hk b o e, rfl⟩
  frCls env he L hL := by
    refine ex0and2 (R.frCls env he L hL) fun h1 y1_ => ?_; obtain ⟨ol, es, n, h2, h3⟩ := y1_
    refine ⟨?_, ol, es, n, hk _ _ h2, h3⟩
    unfold upd
    rw [if_neg]; exact h1
    rintro rfl; rw [hn] at h2; cases h2
  gens := hg.trans R.gens
  os := ho.trans R.os
theorem After.new (fr own : List Addr) (hk : ∀ b o, s.heap.get? b = some o → s'.heap.get? b = some o) {a : Addr} {o : AO} (hn : s.heap.get? a = none) : After fr own H s (upd H a o) s' where
  keep b o e _ _ := .refl (hk b o e)
  alive b e := by
    cases q : s.heap.get? b with
    | none => exact absurd q e
    | some o => rw [hk b o q]; exact nofun
  dom b e := by
    unfold upd at e
    by_cases h : b = a
    · exact .inr (h ▸ hn)
    · rw [if_neg h] at e; exact .inl e
theorem HRel.set (R : HRel prog w F H s) {a : Addr} {o : AO} {o' : Obj} (ha : H a ≠ none) (hk : ∀ b ob, b ≠ a → s.heap.get? b = some ob → s'.heap.get? b = some ob) (hg : s'.gens = s.gens) (ho : s'.os = s.os)
    (e : s'.heap.get? a = some o') (r : RepO prog w o o') : HRel prog w F (upd H a o) s' where
  stays b ob eb := hk b ob (fun q => by subst q; rw [R.notBase b ha] at eb; cases eb) (R.stays b ob eb)
  cells b ob eb := by
    unfold upd at eb
    by_cases h : b = a
    · subst h; rw [if_pos rfl] at eb; cases eb; exact ⟨o', e, r⟩
    · rw [if_neg h] at eb; obtain ⟨x, e', q⟩ := R.cells b ob eb; exact ⟨x, hk _ _ h e', q⟩
  notBase b eb := by
    by_cases h : b = a
    · subst h; exact R.notBase b ha
    · exact R.notBase b (by unfold upd at eb; rwa [if_neg h] at eb)
  frames := by
    have hf := R.frames
    have hc := R.frCls
    clear R
    revert hf hc
    generalize F.stk = l
    induction l with
    | nil => intros; trivial
    | cons env rest ih =>
      rintro ⟨h1, ⟨L, ol, h2, h3, h4, h5⟩, h6⟩ hc
      refine ⟨h1, ⟨L, ol, h2, h3, hk L ol ?_ h4, h5⟩, ih h6 fun x hx => hc x (List.mem_cons_of_mem _ hx)⟩
      rintro rfl
      exact ha (hc env List.mem_cons_self L h2).1
  frCls env he L hL := by
    refine ex0and2 (R.frCls env he L hL) fun h1 y1_ => ?_; obtain ⟨ol, es, n, h2, h3⟩ := y1_
    have hne : L ≠ a := by rintro rfl; exact ha h1
    refine ⟨?_, ol, es, n, hk _ _ hne h2, h3⟩
    unfold upd
    rw [if_neg hne]; exact h1
  gens := hg.trans R.gens
  os := ho.trans R.os
theorem After.set (fr own : List Addr) {a : Addr} {o : AO} {o' : Obj} (ha : H a ≠ none) (hk : ∀ b ob, b ≠ a → s.heap.get? b = some ob → s'.heap.get? b = some ob) (e : s'.heap.get? a = some o') : After fr own H s (upd H a o) s' where
  keep b ob eb hn _ := .refl (hk b ob (fun q => by subst q; exact ha hn) eb)
  alive b eb := by
    by_cases h : b = a
    · subst h; rw [e]; exact nofun
    · cases q : s.heap.get? b with
      | none => exact absurd q eb
      | some ob => rw [hk b ob h q]; exact nofun
  dom b eb := by
    unfold upd at eb
    by_cases h : b = a
    · exact .inl (h ▸ ha)
    · rw [if_neg h] at eb; exact .inl eb
end
section
variable {prog : Program} {w : World} {F : Fc} {H H' : AHeap} {s s' : Shared}
theorem HRel.priv (R : HRel prog w F H s) {a : Addr} (ha : H a = none) (hb : F.base.get? a = none) (hk : ∀ b, b ≠ a → s'.heap.get? b = s.heap.get? b) (hg : s'.gens = s.gens) (ho : s'.os = s.os)
    {o' : Obj} (e : s'.heap.get? a = some o') (hd : ∀ vs, o'.data ≠ .fields vs) (hd2 : (∃ o es n, s.heap.get? a = some o ∧ o.data = .dict es n) → ∃ es n, o'.data = .dict es n) : HRel prog w F H s' where
  stays b ob eb := by
    have : b ≠ a := by rintro rfl; rw [hb] at eb; cases eb
    rw [hk b this]; exact R.stays b ob eb
  cells b ob eb := by
    have : b ≠ a := by rintro rfl; rw [ha] at eb; cases eb
    rw [hk b this]; exact R.cells b ob eb
  notBase := R.notBase
  frames := by
    refine funFrames_of_data (h := s.heap) (hl := R.frames) fun b o eb hnf => ?_
    by_cases h : b = a
    · subst h; exact ⟨o', e, hd⟩
    · exact ⟨o, (hk b h).trans eb, hnf⟩
  frCls env he L hL := by
    refine ex0and2 (R.frCls env he L hL) fun h1 y1_ => ?_; obtain ⟨ol, es, n, h2, h3⟩ := y1_
    refine ⟨h1, ?_⟩
    by_cases h : L = a
    · subst h
      obtain ⟨es', n', q⟩ := hd2 ⟨ol, es, n, h2, h3⟩
      exact ⟨o', es', n', e, q⟩
    · exact ⟨ol, es, n, (hk L h).trans h2, h3⟩
  gens := hg.trans R.gens
  os := ho.trans R.os
theorem After.priv {fr own : List Addr} {a : Addr} (ha : a ∈ own) (hk : ∀ b, b ≠ a → s'.heap.get? b = s.heap.get? b) {o' : Obj} (e : s'.heap.get? a = some o') : After fr own H s H s' where
  keep b ob eb _ hn := .refl ((hk b fun q => hn (q ▸ ha)).trans eb)
  alive b eb := by
    by_cases h : b = a
    · subst h; rw [e]; exact nofun
    · rw [hk b h]; exact eb
  dom _ e := .inl e
end
end Mine
end
section
set_option maxRecDepth 100000
set_option Elab.async false
namespace Mine
open PySem PySem.W PySem.Calls PyProof.Rows
class Er (α : Type) where
  e : α → α
noncomputable instance : Er Value := ⟨er⟩
noncomputable instance : Er Unit := ⟨id⟩
noncomputable instance : Er Bool := ⟨id⟩
noncomputable instance : Er Flow := ⟨fun | .ret v => .ret (er v) | f => f⟩
noncomputable instance {α : Type} [Er α] : Er (List α) := ⟨List.map Er.e⟩
noncomputable instance {α : Type} [Er α] : Er (Option α) := ⟨Option.map Er.e⟩
noncomputable instance {α β : Type} [Er α] [Er β] : Er (α × β) := ⟨fun p => (Er.e p.1, Er.e p.2)⟩
structure Fx extends Fc where
  env : Env
  own : List Addr
structure St where
  vars : List (Str × Value)
  H : AHeap
structure VRel (F : Fx) (st : St) (s : Shared) : Prop where
  loc : ∃ m, s.heap.Ns F.env.locals m ∧ ∀ x v, st.vars.lookup x = some v → F.env.kindOf x = some .local → ∃ w, m x = some w ∧ er w = v
  cel : ∀ x v, st.vars.lookup x = some v → F.env.kindOf x = some .cell → ∃ c w, F.env.cells.lookup x = some c ∧ s.heap.IsCell c (some w) ∧ er w = v
  locH : st.H F.env.locals = none
  locB : F.base.get? F.env.locals = none
  celO : ∀ x c, F.env.cells.lookup x = some c → st.H c = none ∧ c ≠ F.env.locals ∧ F.base.get? c = none ∧ ∃ v, s.heap.IsCell c v
  inj : ∀ x y c, F.env.cells.lookup x = some c → F.env.cells.lookup y = some c → x = y
  ownA : ∀ a ∈ F.own, st.H a = none ∧ ∃ o, s.heap.get? a = some o ∧ ∀ vs, o.data ≠ .fields vs
noncomputable def Rel (prog : Program) (w : World) (F : Fx) (st : St) (s : Shared) : Prop := HRel prog w F.toFc st.H s ∧ VRel F st s
noncomputable def ExcAt (base h₀ : Heap) (H : AHeap) (h : Heap) (ea : Addr) (cls : Value) (args : List Value) (fl : Option Value) : Prop :=
  ∃ oe vs ta items, h.get? ea = some oe ∧ oe.cls = cls ∧ oe.data = .fields vs ∧ vs[0]? = some (.ref ta) ∧ IsTup h ta items ∧ items.toList.map er = args ∧
    H ea = none ∧ (h₀.get? ea = none ∧ base.get? ea = none) ∧ (H ta = none ∧ h₀.get? ta = none ∧ base.get? ta = none) ∧
    ((vs[1]? = some .none ∧ fl = none) ∨ ∃ T oT ts f, vs[1]? = some (.ref T) ∧ h.get? T = some oT ∧ oT.data = .fields ts ∧ ts[3]? = some f ∧ T ≠ ea ∧ H T = none ∧ (h₀.get? T = none ∧ base.get? T = none) ∧ fl = some f)
noncomputable def okFl (L : Addr) : Option Value → Prop
  | none => True
  | some f => f = .none ∨ f = rawInt L
noncomputable def XPost (prog : Program) (w : World) (F : Fx) (X : Value → List Value → St → Prop) (H₀ : AHeap) (s₀ : Shared) (e : Value) (s' : Shared) : Prop :=
  ∃ st' ea cls args fl, e = .ref ea ∧ ExcAt F.base s₀.heap st'.H s'.heap ea cls args fl ∧ (∀ L, F.env.frame = some L → okFl L fl) ∧ Rel prog w F st' s' ∧ After (frAddrs F.stk) F.own H₀ s₀ st'.H s' ∧ X cls args st'
noncomputable def T (prog : Program) (w : World) (F : Fx) {α : Type} [Er α] (t : Sem α) (Q : α → St → Prop) (X : Value → List Value → St → Prop) (st : St) : Prop :=
  ∀ s, Rel prog w F st s → wpAny (model prog w) F.A t (fun v s' => ∃ st', Rel prog w F st' s' ∧ After (frAddrs F.stk) F.own st.H s st'.H s' ∧ Q (Er.e v) st') (XPost prog w F X st.H s) s
section
variable {prog : Program} {w : World} {F : Fx} {α β : Type} [Er α] [Er β] {st st' : St} {s s₀ : Shared} {H₀ : AHeap} {X : Value → List Value → St → Prop}
theorem ExcAt.older {base h₀ h₁ h : Heap} {H : AHeap} {ea : Addr} {cls : Value} {args : List Value} {fl : Option Value} (x : ExcAt base h₁ H h ea cls args fl) (k : ∀ b, h₀.get? b ≠ none → h₁.get? b ≠ none) : ExcAt base h₀ H h ea cls args fl := by
  have k' : ∀ b, h₁.get? b = none → h₀.get? b = none := fun b e => by
    cases q : h₀.get? b with
    | none => rfl
    | some o => exact absurd e (k b (by rw [q]; exact nofun))
  refine ex4and10 x fun oe vs ta items h1 h2 h3 h4 h5 h6 h7 h8 h9 h10 => ?_; try clear x
  refine ⟨oe, vs, ta, items, h1, h2, h3, h4, h5, h6, h7, ⟨k' _ h8.1, h8.2⟩, ⟨h9.1, k' _ h9.2.1, h9.2.2⟩, ?_⟩
  rcases h10 with h | ⟨T, oT, ts, f, a1, a2, a3, a4, a5, a6, a7, a8⟩
  · exact .inl h
  · exact .inr ⟨T, oT, ts, f, a1, a2, a3, a4, a5, a6, ⟨k' _ a7.1, a7.2⟩, a8⟩
theorem XPost.older {H : AHeap} {e : Value} {s' : Shared} (x : XPost prog w F X H s e s') (A : After (frAddrs F.stk) F.own H₀ s₀ H s) : XPost prog w F X H₀ s₀ e s' := by
  refine ex5and6 x fun st' ea cls args fl h1 h2 h3 h4 h5 h6 => ?_; try clear x
  exact ⟨st', ea, cls, args, fl, h1, h2.older A.alive, h3, h4, A.trans h5, h6⟩
theorem T.then {t : Sem α} {Q : α → St → Prop} {Q' : α → Shared → Prop} (h : T prog w F t Q X st) (R : Rel prog w F st s) (A : After (frAddrs F.stk) F.own H₀ s₀ st.H s)
    (k : ∀ v s' st', Rel prog w F st' s' → After (frAddrs F.stk) F.own H₀ s₀ st'.H s' → Q (Er.e v) st' → Q' v s') : wpAny (model prog w) F.A t Q' (XPost prog w F X H₀ s₀) s :=
  wpAny_mono (h s R) (fun v s' ⟨st', R', A', q⟩ => k v s' st' R' (A.trans A') q) fun _ _ x => x.older A
theorem T.mono {t : Sem α} {Q Q' : α → St → Prop} {X' : Value → List Value → St → Prop} (h : T prog w F t Q X st) (hq : ∀ v st', Q v st' → Q' v st') (hx : ∀ c a st', X c a st' → X' c a st') : T prog w F t Q' X' st :=
  fun s R => wpAny_mono (h s R) (fun v _ z => by obtain ⟨st', R', A', q⟩ := z; exact ⟨st', R', A', hq _ _ q⟩) fun _ _ z => by refine ex5and6 z fun st' ea cls args fl h1 h2 h3 h4 h5 h6 => ?_; try clear z; exact ⟨st', ea, cls, args, fl, h1, h2, h3, h4, h5, hx _ _ _ h6⟩
theorem T.post {t : Sem α} {Q Q' : α → St → Prop} (h : T prog w F t Q X st) (hq : ∀ v st', Q v st' → Q' v st') : T prog w F t Q' X st := h.mono hq fun _ _ _ x => x
theorem Rel.forget (R : Rel prog w F st s) (hv : ∀ x v, st'.vars.lookup x = some v → st.vars.lookup x = some v) (hH : ∀ a o, st'.H a = some o → st.H a = some o) : Rel prog w F st' s := by
  have hn : ∀ a, st.H a = none → st'.H a = none := fun a e => by
    cases q : st'.H a with
    | none => rfl
    | some o => rw [hH a o q] at e; cases e
  obtain ⟨R1, ⟨⟨m, hm, hl⟩, hc, h3, h4, h5, h6, h7⟩⟩ := R
  exact ⟨R1.forget hH, ⟨⟨m, hm, fun x v e k => hl x v (hv x v e) k⟩, fun x v e k => hc x v (hv x v e) k, hn _ h3, h4, fun x c e => let ⟨a, b⟩ := h5 x c e; ⟨hn _ a, b⟩, h6, fun a ha => let ⟨a1, b⟩ := h7 a ha; ⟨hn _ a1, b⟩⟩⟩
theorem T.drop {t : Sem α} {Q : α → St → Prop} (h : T prog w F t (fun v st₁ => ∃ st₂, (∀ x v, st₂.vars.lookup x = some v → st₁.vars.lookup x = some v) ∧ (∀ a o, st₂.H a = some o → st₁.H a = some o) ∧ Q v st₂) X st) : T prog w F t Q X st :=
  fun s R => wpAny_mono (h s R) (fun _ _ hz => ex1and3 hz fun _ R' A' hy => ex1and3 hy fun st₂ hv hH q => ⟨st₂, R'.forget hv hH, A'.forget hH, q⟩) fun _ _ x => x
theorem T.dropVars {t : Sem α} {Q : α → St → Prop} {vs : List (Str × Value)} (hv : ∀ x v, vs.lookup x = some v → st.vars.lookup x = some v) (h : T prog w F t Q X ⟨vs, st.H⟩) : T prog w F t Q X st :=
  fun s R => h s (R.forget (st' := ⟨vs, st.H⟩) hv fun _ _ e => e)
end
section
variable {prog : Program} {w : World} {F : Fx} {st : St} {s s' s₀ : Shared} {H₀ : AHeap}
theorem Rel.grow (R : Rel prog w F st s) (hk : ∀ b o, s.heap.get? b = some o → s'.heap.get? b = some o) (hg : s'.gens = s.gens) (ho : s'.os = s.os) : Rel prog w F st s' := by
  obtain ⟨R1, ⟨⟨m, hm, hl⟩, hc, h3, h4, h5, h6, h7⟩⟩ := R
  exact ⟨R1.grow hk hg ho, ⟨⟨m, hm.keeps hk, hl⟩, fun x v e k => let ⟨c, w, a, ⟨o, b, d⟩, r⟩ := hc x v e k; ⟨c, w, a, ⟨o, hk _ _ b, d⟩, r⟩, h3, h4,
    fun x c e => let ⟨a, b, d, v, o, g, r⟩ := h5 x c e; ⟨a, b, d, v, o, hk _ _ g, r⟩, h6, fun a ha => let ⟨a1, o, e, r⟩ := h7 a ha; ⟨a1, o, hk _ _ e, r⟩⟩⟩
theorem Rel.toks (R : Rel prog w F st s) {n : Nat} : Rel prog w F st { s with toks := n } := R.grow (fun _ _ e => e) rfl rfl
theorem Rel.new (R : Rel prog w F st s) (hk : ∀ b o, s.heap.get? b = some o → s'.heap.get? b = some o) (hg : s'.gens = s.gens) (ho : s'.os = s.os)
    {a : Addr} {o : AO} {o' : Obj} (hn : s.heap.get? a = none) (e : s'.heap.get? a = some o') (r : RepO prog w o o') : Rel prog w F ⟨st.vars, upd st.H a o⟩ s' := by
  obtain ⟨R1, ⟨⟨m, hm, hl⟩, hc, h3, h4, h5, h6, h7⟩⟩ := R
  have hne : ∀ b ob, s.heap.get? b = some ob → b ≠ a := fun b ob eb q => by rw [q, hn] at eb; cases eb
  refine ⟨R1.new hk hg ho hn e r, ⟨⟨m, hm.keeps hk, hl⟩, fun x v e k => let ⟨c, w, a, ⟨o, b, d⟩, r⟩ := hc x v e k; ⟨c, w, a, ⟨o, hk _ _ b, d⟩, r⟩, ?_, h4, fun x c e => ?_, h6, fun b hb => let ⟨a1, ob, eb, r⟩ := h7 b hb; ⟨by show upd st.H a o b = none; unfold upd; rw [if_neg (hne _ _ eb)]; exact a1, ob, hk _ _ eb, r⟩⟩⟩
  · refine ex3and2 hm fun ol _ _ hol _ => ?_; try clear hm
    show upd st.H a o F.env.locals = none
    unfold upd; rw [if_neg (hne _ _ hol)]; exact h3
  · refine ex0and4 (h5 x c e) fun a1 b1 d1 y3_ => ?_; obtain ⟨v, ob, g, rr⟩ := y3_
    refine ⟨?_, b1, d1, v, ob, hk _ _ g, rr⟩
    show upd st.H a o c = none
    unfold upd; rw [if_neg (hne _ _ g)]; exact a1
theorem Rel.set (R : Rel prog w F st s) {a : Addr} {o : AO} {o' : Obj} (ha : st.H a ≠ none) (hk : ∀ b ob, b ≠ a → s.heap.get? b = some ob → s'.heap.get? b = some ob) (hg : s'.gens = s.gens) (ho : s'.os = s.os)
    (e : s'.heap.get? a = some o') (r : RepO prog w o o') : Rel prog w F ⟨st.vars, upd st.H a o⟩ s' := by
  obtain ⟨R1, ⟨⟨m, hm, hl⟩, hc, h3, h4, h5, h6, h7⟩⟩ := R
  have hL : F.env.locals ≠ a := by intro q; rw [q] at h3; exact ha h3
  have hcn : ∀ x c, F.env.cells.lookup x = some c → c ≠ a := fun x c e q => by have := (h5 x c e).1; rw [q] at this; exact ha this
  refine ⟨R1.set ha hk hg ho e r, ⟨⟨m, ?_, hl⟩, fun x v e k => let ⟨c, w, a1, ⟨o, b, d⟩, r⟩ := hc x v e k; ⟨c, w, a1, ⟨o, hk _ _ (hcn x c a1) b, d⟩, r⟩, ?_, h4, fun x c e => ?_, h6, fun b hb => ?_⟩⟩
  · refine ex3and2 hm fun ol es ep hol r => ?_; try clear hm
    exact ⟨ol, es, ep, hk _ _ hL hol, r⟩
  · show upd st.H a o F.env.locals = none
    unfold upd; rw [if_neg hL]; exact h3
  · refine ex0and4 (h5 x c e) fun a1 b1 d1 y3_ => ?_; obtain ⟨v, ob, g, rr⟩ := y3_
    refine ⟨?_, b1, d1, v, ob, hk _ _ (hcn x c e) g, rr⟩
    show upd st.H a o c = none
    unfold upd; rw [if_neg (hcn x c e)]; exact a1
  · obtain ⟨a1, ob, eb, r⟩ := h7 b hb
    have q : b ≠ a := fun q => ha (q ▸ a1)
    exact ⟨by show upd st.H a o b = none; unfold upd; rw [if_neg q]; exact a1, ob, hk _ _ q eb, r⟩
end
section
variable {prog : Program} {w : World} {F : Fx} {st : St} {s : Shared}
theorem Rel.apart (R : Rel prog w F st s) {C : Addr} (hC : s.heap.get? C = none) : F.base.get? C = none ∧ C ∉ frAddrs F.stk ∧ F.env.locals ≠ C ∧ (∀ x c, F.env.cells.lookup x = some c → c ≠ C) ∧ C ∉ F.own := by
  have ne : ∀ b ob, s.heap.get? b = some ob → b ≠ C := fun b ob e q => by rw [q, hC] at e; cases e
  refine ⟨?_, fun hm => ?_, ?_, fun x c e => ?_, fun ha => ?_⟩
  · cases q : F.base.get? C with
    | none => rfl
    | some o => exact absurd rfl (ne C o (R.1.stays C o q))
  · obtain ⟨env, he, q⟩ := List.mem_filterMap.mp hm
    refine ex0and2 (R.1.frCls env he C q) fun _ y1_ => ?_; obtain ⟨oL, _, _, eL, _⟩ := y1_
    exact ne _ _ eL rfl
  · obtain ⟨m0, ⟨oL, _, _, eL, _⟩, _⟩ := R.2.loc
    exact ne _ _ eL
  · refine ex0and4 (R.2.celO x c e) fun _ _ _ y3_ => ?_; obtain ⟨_, oc, eoc, _⟩ := y3_
    exact ne _ _ eoc
  · obtain ⟨_, oa, ea, _⟩ := R.2.ownA C ha
    exact ne _ _ ea rfl
end
noncomputable def setV (vs : List (Str × Value)) (x : Str) (v : Value) : List (Str × Value) := match vs with
  | [] => [(x, v)]
  | p :: r => if p.1 = x then (x, v) :: r else p :: setV r x v
theorem setV_lookup (vs : List (Str × Value)) (x : Str) (v : Value) (y : Str) : (setV vs x v).lookup y = if y = x then some v else vs.lookup y := by
  induction vs with
  | nil =>
    show List.lookup y [(x, v)] = _
    by_cases h : y = x
    · subst h; simp [List.lookup]
    · have : (y == x) = false := by simpa using h
      simp [List.lookup, this, h]
  | cons p r ih =>
    unfold setV
    by_cases hp : p.1 = x
    · rw [if_pos hp]
      by_cases h : y = x
      · subst h; simp
      · have h1 : (y == x) = false := by simpa using h
        have h2 : (y == p.1) = false := by rw [hp]; exact h1
        simp [List.lookup, h1, h2, h]
    · rw [if_neg hp]
      obtain ⟨p1, p2⟩ := p
      by_cases hy : y = p1
      · subst hy
        simp only at hp
        simp [hp]
      · have h2 : (y == p1) = false := by simpa using hy
        simp only [List.lookup, h2]
        exact ih
section
variable {prog : Program} {w : World} {F : Fx} {st : St} {X : Value → List Value → St → Prop}
theorem T_storeL {x : Str} {v v' : Value} {Q : Unit → St → Prop} (he : er v' = v) (hk : F.env.kindOf x = some .local) (hf : F.env.scope.kind = .function) (ho : F.env.locals ∈ F.own)
    (h : Q () ⟨setV st.vars x v, st.H⟩) : T prog w F (storeName F.env x v') Q X st := by
  intro s R
  obtain ⟨R1, ⟨⟨m, hm, hl⟩, hc, h3, h4, h5, h6, h7⟩⟩ := R
  refine wpAny_storeName_local hk hm (fun h' hn hs => ?_) (by rw [hf]; rfl)
  refine ex3and4 (id hn) fun o' es' ep' ho' hd' hsk' hm' => ?_
  refine ⟨⟨setV st.vars x v, st.H⟩, ⟨?_, ⟨⟨_, hn, fun y u e k => ?_⟩, fun y u e k => ?_, h3, h4, fun y c e => ?_, h6, fun a ha => ?_⟩⟩, ?_, h⟩
  · exact R1.priv (s' := { s with heap := h', toks := s.toks + 1 }) h3 h4 hs.2 rfl rfl ho' (fun vs q => by rw [hd'] at q; cases q) fun _ => ⟨es', ep', hd'⟩
  · rw [setV_lookup] at e
    by_cases hy : y = x
    · rw [if_pos hy] at e; cases e; exact ⟨v', if_pos hy, he⟩
    · rw [if_neg hy] at e
      obtain ⟨u', a, b⟩ := hl y u e k
      exact ⟨u', (if_neg hy).trans a, b⟩
  · have hy : y ≠ x := by rintro rfl; rw [hk] at k; cases k
    rw [setV_lookup, if_neg hy] at e
    refine ex2and3 (hc y u e k) fun c u' a y3_ r => ?_; obtain ⟨o, b, d⟩ := y3_
    exact exi2 c u' ⟨a, ⟨o, (hs.2 _ (h5 y c a).2.1).trans b, d⟩, r⟩
  · refine ex0and4 (h5 y c e) fun a1 b1 d1 y3_ => ?_; obtain ⟨u, ob, g, rr⟩ := y3_
    exact ⟨a1, b1, d1, u, ob, (hs.2 _ b1).trans g, rr⟩
  · obtain ⟨a1, ob, eb, r⟩ := h7 a ha
    refine ⟨a1, ?_⟩
    by_cases q : a = F.env.locals
    · subst q; exact ⟨o', ho', fun vs z => by rw [hd'] at z; cases z⟩
    · exact ⟨ob, (hs.2 _ q).trans eb, r⟩
  · exact After.priv (s' := { s with heap := h', toks := s.toks + 1 }) ho hs.2 ho'
theorem T_storeC {x : Str} {v v' : Value} {Q : Unit → St → Prop} (he : er v' = v) (hk : F.env.kindOf x = some .cell) (hf : F.env.scope.kind = .function) (ho : ∀ c, F.env.cells.lookup x = some c → c ∈ F.own)
    (hx : (F.env.cells.lookup x).isSome = true) (h : Q () ⟨setV st.vars x v, st.H⟩) : T prog w F (storeName F.env x v') Q X st := by
  intro s R
  obtain ⟨R1, ⟨⟨m, hm, hl⟩, hc, h3, h4, h5, h6, h7⟩⟩ := R
  obtain ⟨c, hcx⟩ := Option.isSome_iff_exists.mp hx
  refine ex0and4 (h5 x c hcx) fun c1 c2 c3 y3_ => ?_; obtain ⟨v₀, hv₀⟩ := y3_
  refine wpAny_storeName_cell hf hk hcx hv₀ (fun h' hn hs => ?_)
  obtain ⟨o', ho', hd'⟩ := id hn
  refine ⟨⟨setV st.vars x v, st.H⟩, ⟨?_, ⟨⟨m, hm.sameBut hs (Ne.symm c2), fun y u e k => ?_⟩, fun y u e k => ?_, h3, h4, fun y d e => ?_, h6, fun a ha => ?_⟩⟩, ?_, h⟩
  · exact R1.priv (s' := { s with heap := h' }) c1 c3 hs.2 rfl rfl ho' (fun vs q => by rw [hd'] at q; cases q) fun ⟨o, es, n, q1, q2⟩ => by
      obtain ⟨oc, q3, q4⟩ := hv₀
      rw [q3] at q1; cases q1; rw [q4] at q2; cases q2
  · have hy : y ≠ x := by rintro rfl; rw [hk] at k; cases k
    rw [setV_lookup, if_neg hy] at e
    exact hl y u e k
  · rw [setV_lookup] at e
    by_cases hy : y = x
    · subst hy
      rw [if_pos rfl] at e; cases e
      exact exi2 c v' ⟨hcx, hn, he⟩
    · rw [if_neg hy] at e
      refine ex2and3 (hc y u e k) fun d u' a y3_ r => ?_; obtain ⟨o, b, dd⟩ := y3_
      have : d ≠ c := fun q => hy (h6 y x c (q ▸ a) hcx)
      exact exi2 d u' ⟨a, ⟨o, (hs.2 _ this).trans b, dd⟩, r⟩
  · refine ex0and4 (h5 y d e) fun a1 b1 d1 y3_ => ?_; obtain ⟨u, ob, g, rr⟩ := y3_
    refine ⟨a1, b1, d1, ?_⟩
    by_cases hq : d = c
    · subst hq; exact ⟨_, hn⟩
    · exact ⟨u, ob, (hs.2 _ hq).trans g, rr⟩
  · obtain ⟨a1, ob, eb, r⟩ := h7 a ha
    refine ⟨a1, ?_⟩
    by_cases q : a = c
    · subst q; exact ⟨o', ho', fun vs z => by rw [hd'] at z; cases z⟩
    · exact ⟨ob, (hs.2 _ q).trans eb, r⟩
  · exact After.priv (s' := { s with heap := h' }) (ho c hcx) hs.2 ho'
theorem T_nameL {x : Str} {pos : Pos} {v : Value} {Q : Value → St → Prop} (hv : st.vars.lookup x = some v) (hk : F.env.kindOf x = some .local) (hf : F.env.scope.kind = .function)
    (hd : (x == ("__debug__" : Str)) = false) (h : Q v st) : T prog w F (eval (.Name x pos) F.env) Q X st := by
  intro s R
  obtain ⟨m, hm, hl⟩ := R.2.loc
  obtain ⟨u, hu, e⟩ := hl x v hv hk
  exact wpAny_Name (wpAny_loadName_local hf hk hm hu ⟨st, R, .refl _ _ _ _, by show Q (er u) st; rw [e]; exact h⟩) hd
theorem T_nameC {x : Str} {pos : Pos} {v : Value} {Q : Value → St → Prop} (hv : st.vars.lookup x = some v) (hk : F.env.kindOf x = some .cell) (hf : F.env.scope.kind = .function)
    (hd : (x == ("__debug__" : Str)) = false) (h : Q v st) : T prog w F (eval (.Name x pos) F.env) Q X st := by
  intro s R
  refine ex2and3 (R.2.cel x v hv hk) fun c u hc hi e => ?_
  exact wpAny_Name (wpAny_loadName_cell hf hk hc hi ⟨st, R, .refl _ _ _ _, by show Q (er u) st; rw [e]; exact h⟩) hd
structure Glb (F : Fc) (mg mb : Str → Option Value) : Prop where
  g : F.base.Ns mainGlobals mg
  b : F.base.Ns builtinsNs mb
theorem T_nameG {x : Str} {pos : Pos} {v : Value} {mg mb : Str → Option Value} {Q : Value → St → Prop} (G : Glb F.toFc mg mb) (hg : F.env.globals = mainGlobals) (hv : mg x = some v) (hk : F.env.kindOf x = some .globalImplicit) (hf : F.env.scope.kind = .function)
    (hd : (x == ("__debug__" : Str)) = false) (h : Q (er v) st) : T prog w F (eval (.Name x pos) F.env) Q X st := by
  intro s R
  exact Name_function_global hf hk (loadGlobal_global (hg ▸ G.g.keeps R.1.stays) hv ⟨st, R, .refl _ _ _ _, h⟩) hd
theorem T_nameB {x : Str} {pos : Pos} {v : Value} {mg mb : Str → Option Value} {Q : Value → St → Prop} (G : Glb F.toFc mg mb) (hg : F.env.globals = mainGlobals) (hb : F.env.builtins = builtinsNs) (hn : mg x = none) (hv : mb x = some v) (hk : F.env.kindOf x = some .globalImplicit) (hf : F.env.scope.kind = .function)
    (hd : (x == ("__debug__" : Str)) = false) (h : Q (er v) st) : T prog w F (eval (.Name x pos) F.env) Q X st := by
  intro s R
  exact Name_function_global hf hk (loadGlobal_builtin (hg ▸ G.g.keeps R.1.stays) hn (hb ▸ G.b.keeps R.1.stays) hv ⟨st, R, .refl _ _ _ _, h⟩) hd
theorem T_int {i : Int} {k : Nat} {pos : Pos} {Q : Value → St → Prop} (h : Q (.int i 0) st) : T prog w F (eval (.Constant (.int i) k pos) F.env) Q X st :=
  fun _ R => wpAny_Constant_int ⟨st, R.toks, .grow _ _ fun _ _ e => e, h⟩
theorem T_str {x : Str} {k : Nat} {pos : Pos} {Q : Value → St → Prop} (h : Q (.str x 0) st) : T prog w F (eval (.Constant (.str x) k pos) F.env) Q X st :=
  fun _ R => wpAny_Constant_str ⟨st, R.toks, .grow _ _ fun _ _ e => e, h⟩
theorem T_bool {b : Bool} {k : Nat} {pos : Pos} {Q : Value → St → Prop} (h : Q (.bool b) st) : T prog w F (eval (.Constant (.bool b) k pos) F.env) Q X st :=
  fun _ R => wpAny_Constant_bool ⟨st, R, .refl _ _ _ _, h⟩
theorem T_none {k : Nat} {pos : Pos} {Q : Value → St → Prop} (h : Q .none st) : T prog w F (eval (.Constant .none k pos) F.env) Q X st :=
  fun _ R => wpAny_Constant_none ⟨st, R, .refl _ _ _ _, h⟩
end
end Mine
end
section
set_option maxRecDepth 100000
set_option Elab.async false
set_option linter.unusedVariables false
namespace Mine
open PySem PySem.W PySem.Calls PyProof.Rows
noncomputable def hide (h : Heap) : List Addr → Heap
  | [] => h
  | a :: r => (hide h r).update a fun o => { o with data := .freed }
theorem get_freed (h : Heap) (a : Addr) : (h.update a fun o => { o with data := .freed }).get? a = none := by
  cases q : (h.update a fun o => { o with data := .freed }).get? a with
  | none => rfl
  | some o =>
    exfalso
    obtain ⟨e, hf⟩ := Heap.get?_some_iff.mp q
    obtain ⟨objs, l⟩ := h
    simp only [Heap.update, Array.getElem?_modify, if_true] at e
    obtain ⟨o', _, rfl⟩ := Option.map_eq_some_iff.mp e
    exact Bool.noConfusion hf
theorem hide_get (h : Heap) (b : Addr) : ∀ l : List Addr, (hide h l).get? b = if b ∈ l then none else h.get? b
  | [] => by simp [hide]
  | a :: r => by
    unfold hide
    by_cases e : b = a
    · subst e; simp [get_freed]
    · rw [Heap.get?_update_other _ _ (Ne.symm e), hide_get h b r]
      simp [e]
section
variable {prog : Program} {w : World} {F : Fx} {st : St} {s s' s₀ : Shared} {H₀ : AHeap} {X : Value → List Value → St → Prop}
theorem After.noted {fr own : List Addr} {H : AHeap} (A : After fr own H₀ s₀ H s) (R : HRel prog w F.toFc H s') (k : ∀ b o, s.heap.get? b = some o → s₀.heap.get? b ≠ none → H b = none → KeepAt fr o s'.heap b) : After fr own H₀ s₀ H s' where
  keep b o e hn ho := by
    obtain ⟨sl, e1, c1⟩ := A.keep b o e hn ho
    have hn1 : H b = none := by
      cases q : H b with
      | none => rfl
      | some z =>
        rcases A.dom b (by rw [q]; exact nofun) with h | h
        · exact absurd hn h
        · rw [e] at h; cases h
    obtain ⟨sl2, e2, c2⟩ := k b _ e1 (by rw [e]; exact nofun) hn1
    exact ⟨sl2, e2, fun hc => (c2 hc).trans (c1 hc)⟩
  alive b e := by
    cases q : H b with
    | none =>
      cases q2 : s.heap.get? b with
      | none => exact absurd q2 (A.alive b e)
      | some o => obtain ⟨sl, e2, _⟩ := k b o q2 e q; rw [e2]; exact nofun
    | some z => obtain ⟨o', e', _⟩ := R.cells b z q; rw [e']; exact nofun
  dom := A.dom
theorem Rel.bystanders (R : Rel prog w F st s) {h' : Heap} {bad : List Addr} (hb : ∀ a ∈ bad, st.H a = none) (hbase : ∀ a ∈ bad, F.base.get? a = none)
    (hex : ∀ b o, b ∉ bad → s.heap.get? b = some o → h'.get? b = some o) (hup : ∀ b o, s.heap.get? b = some o → (∀ vs, o.data ≠ .fields vs) → ∃ sl, h'.get? b = some { o with slots := sl }) : Rel prog w F st { s with heap := h' } := by
  obtain ⟨R1, ⟨⟨m, hm, hl⟩, hc, h3, h4, h5, h6, h7⟩⟩ := R
  have hcell : ∀ c v, s.heap.IsCell c v → Heap.IsCell h' c v := fun c v ⟨o, ho, hd⟩ => by
    obtain ⟨sl, e⟩ := hup c o ho fun vs q => by rw [hd] at q; cases q
    exact ⟨_, e, hd⟩
  refine ⟨⟨?_, ?_, R1.notBase, ?_, ?_, R1.gens, R1.os⟩, ⟨⟨m, ?_, hl⟩, ?_, h3, h4, ?_, h6, fun a ha => ?_⟩⟩
  · intro b o e
    exact hex b o (fun hm => by rw [hbase b hm] at e; cases e) (R1.stays b o e)
  · intro a o e
    obtain ⟨o', e', r⟩ := R1.cells a o e
    exact ⟨o', hex a o' (fun hm => by rw [hb a hm] at e; cases e) e', r⟩
  · exact R1.frames.of_keeps fun b o e hn => let ⟨sl, q⟩ := hup b o e hn; ⟨_, q, rfl⟩
  · intro env he L hL
    refine ex0and2 (R1.frCls env he L hL) fun h1 y1_ => ?_; obtain ⟨o, es, n, h2, h3⟩ := y1_
    obtain ⟨sl, q⟩ := hup L o h2 fun vs q => by rw [h3] at q; cases q
    exact ⟨h1, exi3 _ es n ⟨q, h3⟩⟩
  · refine ex3and3 hm fun o es ep ho hd r => ?_; try clear hm
    obtain ⟨sl, q⟩ := hup _ o ho fun vs q => by rw [hd] at q; cases q
    exact ⟨_, es, ep, q, hd, r⟩
  · intro x v e k
    refine ex2and3 (hc x v e k) fun c u a b r => ?_
    exact exi2 c u ⟨a, hcell _ _ b, r⟩
  · intro x c e
    refine ex0and4 (h5 x c e) fun a b d y3_ => ?_; obtain ⟨v, g⟩ := y3_
    exact ⟨a, b, d, v, hcell _ _ g⟩
  · obtain ⟨a1, ob, eb, r⟩ := h7 a ha
    obtain ⟨sl, q⟩ := hup a ob eb r
    exact ⟨a1, _, q, r⟩
theorem HRel.frAt (R : HRel prog w F.toFc st.H s) {b : Addr} (hb : b ∈ frAddrs F.stk) : st.H b = none ∧ F.base.get? b = none ∧ ∃ o es n, s.heap.get? b = some o ∧ o.data = .dict es n := by
  obtain ⟨env, he, hf⟩ := List.mem_filterMap.mp hb
  obtain ⟨h1, r⟩ := R.frCls env he b hf
  exact ⟨h1, (R.frames.mem hb).1, r⟩
structure Flew (prog : Program) (w : World) (F : Fx) (st : St) (h₀ : Heap) (s s' : Shared) : Prop where
  rel : Rel prog w F st s'
  keep : ∀ b o, s.heap.get? b = some o → h₀.get? b ≠ none → st.H b = none → KeepAt (frAddrs F.stk) o s'.heap b
theorem Flew.refl {h₀ : Heap} (R : Rel prog w F st s) : Flew prog w F st h₀ s s := ⟨R, fun b o e _ _ => .refl e⟩
theorem Flew.trans {h₀ : Heap} {s₁ s₂ : Shared} (x : Flew prog w F st h₀ s s₁) (y : Flew prog w F st h₀ s₁ s₂) : Flew prog w F st h₀ s s₂ :=
  ⟨y.rel, fun b o e h0 hn => by
    obtain ⟨sl, e1, c1⟩ := x.keep b o e h0 hn
    obtain ⟨sl2, e2, c2⟩ := y.keep b _ e1 h0 hn
    exact ⟨sl2, e2, fun hc => (c2 hc).trans (c1 hc)⟩⟩
theorem flew_of {h₀ h' : Heap} {bad : List Addr} {e : Addr} {cls a0 fl : Value} {args : List Value} {ta : Addr} {items : Array Value} (R : Rel prog w F st s)
    (hbH : ∀ a ∈ bad, st.H a = none) (hbB : ∀ a ∈ bad, F.base.get? a = none) (hb0 : ∀ a ∈ bad, a ∉ frAddrs F.stk → h₀.get? a = none)
    (he : e ∈ bad) (hef : e ∉ frAddrs F.stk) (ha0 : a0 = .ref ta) (hta : IsTup s.heap ta items) (hargs : items.toList.map er = args) (htH : st.H ta = none ∧ h₀.get? ta = none ∧ F.base.get? ta = none)
    (h₀s : ∀ b, h₀.get? b ≠ none → s.heap.get? b ≠ none)
    (hst : (hide s.heap bad).StaysIn h') (ht : h'.TracedAtW (hide s.heap bad) e cls a0 fl)
    (hup : ∀ b o, s.heap.get? b = some o → (∀ vs, o.data ≠ .fields vs) → ∃ sl, h'.get? b = some { o with slots := sl }) :
    Flew prog w F st h₀ s { s with heap := h' } ∧ ExcAt F.base h₀ st.H h' e cls args (some fl) := by
  have hex : ∀ b o, b ∉ bad → s.heap.get? b = some o → h'.get? b = some o := fun b o hb e => hst b o (by rw [hide_get, if_neg hb]; exact e)
  refine ⟨⟨R.bystanders hbH hbB hex hup, fun b o eb h0 hn => ?_⟩, ?_⟩
  · by_cases hb : b ∈ bad
    · by_cases hf : b ∈ frAddrs F.stk
      · refine ex0and3 (HRel.frAt R.1 hf) fun _ _ y2_ => ?_; obtain ⟨o', es, n, q1, q2⟩ := y2_
        rw [eb] at q1; cases q1
        obtain ⟨sl, q⟩ := hup b o eb fun vs z => by rw [q2] at z; cases z
        exact ⟨sl, q, fun hc => absurd hf hc⟩
      · exact absurd (hb0 b hb hf) h0
    · exact .refl (hex b o hb eb)
  · refine ex5and9 ht fun oe vs T oT ts q1 y6_ q4 q5 q6 q7 q8 q9 q10 => ?_; try clear ht; obtain ⟨q2, q3⟩ := y6_
    have hta' : IsTup h' ta items := by
      refine ex1and3 hta fun o ho hc y3_ => ?_; try clear hta; obtain ⟨n, hd⟩ := y3_
      obtain ⟨sl, q⟩ := hup ta o ho fun vs z => by rw [hd] at z; cases z
      exact ⟨_, q, hc, n, hd⟩
    refine ⟨oe, vs, ta, items, q1, q2, q4, by rw [q3, ha0], hta', hargs, hbH e he, ⟨hb0 e he hef, hbB e he⟩, htH, .inr ⟨T, oT, ts, fl, q5, q8, q9, q10, q7, ?_, ⟨?_, ?_⟩, rfl⟩⟩
    · by_cases hb : T ∈ bad
      · exact hbH T hb
      · rw [hide_get, if_neg hb] at q6
        exact R.1.none_of q6
    · by_cases hb : T ∈ bad
      · refine hb0 T hb fun hf => ?_
        refine ex0and3 (HRel.frAt R.1 hf) fun _ _ y2_ => ?_; obtain ⟨o', es, n, z1, z2⟩ := y2_
        obtain ⟨sl, z⟩ := hup T o' z1 fun vs z => by rw [z2] at z; cases z
        rw [q8] at z; cases z
        rw [z2] at q9; cases q9
      · rw [hide_get, if_neg hb] at q6
        cases z : h₀.get? T with
        | none => rfl
        | some o => exact absurd q6 (h₀s T (by rw [z]; exact nofun))
    · by_cases hb : T ∈ bad
      · exact hbB T hb
      · rw [hide_get, if_neg hb] at q6
        cases z : F.base.get? T with
        | none => rfl
        | some o => rw [R.1.stays T o z] at q6; cases q6
theorem After.flew {own : List Addr} (A : After (frAddrs F.stk) own H₀ s₀ st.H s) (x : Flew prog w F st s₀.heap s s') : After (frAddrs F.stk) own H₀ s₀ st.H s' := A.noted x.rel.1 x.keep
structure Runs (F : Fx) (outer : List Env) (L : Addr) : Prop where
  stk : F.stk = F.env :: outer
  fr : F.A.frames = some F.stk
  frame : F.env.frame = some L
theorem bads {h₀ : Heap} {ea : Addr} {cls : Value} {args : List Value} {fl : Option Value} (R : Rel prog w F st s) (x : ExcAt F.base h₀ st.H s.heap ea cls args fl) :
    ea ∉ frAddrs F.stk ∧ F.base.get? ea = none := by
  refine ex4and10 x fun oe vs ta items h1 h2 h3 h4 h5 h6 h7 h8 h9 h10 => ?_; try clear x
  refine ⟨fun hf => ?_, ?_⟩
  · refine ex0and3 (HRel.frAt R.1 hf) fun _ _ y2_ => ?_; obtain ⟨o', es, n, z1, z2⟩ := y2_
    rw [h1] at z1; cases z1
    rw [z2] at h3; cases h3
  · exact h8.2
theorem note {h₀ : Heap} {outer : List Env} {L ea : Addr} {cls : Value} {args : List Value} {fl : Option Value} {Q : Unit → Shared → Prop} {E : Value → Shared → Prop}
    (U : Runs F outer L) (R : Rel prog w F st s) (x : ExcAt F.base h₀ st.H s.heap ea cls args fl) (hfl : okFl L fl) (h₀s : ∀ b, h₀.get? b ≠ none → s.heap.get? b ≠ none)
    (h : ∀ s', Flew prog w F st h₀ s s' → ExcAt F.base h₀ st.H s'.heap ea cls args (some (rawInt L)) → Q () s') : wpAny (model prog w) F.A (noteFrame (.ref ea) F.env) Q E s := by
  obtain ⟨hef, heB⟩ := bads R x
  have x' := x
  refine ex4and10 x fun oe vs ta items h1 h2 h3 h4 h5 h6 h7 h8 h9 h10 => ?_; try clear x
  have hfr : F.A.frames = some (F.env :: outer) := by rw [U.fr, U.stk]
  rcases h10 with ⟨hn, rfl⟩ | ⟨T, oT, ts, f, a1, a2, a3, a4, a5, a6, a7, rfl⟩
  · -- new
    let bad := ea :: frAddrs F.stk
    have hbH : ∀ a ∈ bad, st.H a = none := fun a ha => (List.mem_cons.mp ha).elim (fun e => e ▸ h7) fun hf => (HRel.frAt R.1 hf).1
    have hbB : ∀ a ∈ bad, F.base.get? a = none := fun a ha => (List.mem_cons.mp ha).elim (fun e => e ▸ heB) fun hf => (HRel.frAt R.1 hf).2.1
    have hb0 : ∀ a ∈ bad, a ∉ frAddrs F.stk → h₀.get? a = none := fun a ha hn => (List.mem_cons.mp ha).elim (fun e => e ▸ h8.1) fun hf => absurd hf hn
    have hst0 : (hide s.heap bad).StaysIn s.heap := fun b o e => by
      rw [hide_get] at e
      split at e
      · cases e
      · exact e
    have hff : s.heap.FunFrames (hide s.heap bad) (F.env :: outer) := by
      rw [← U.stk]
      have hf := R.1.frames
      have : ∀ l, (∀ b ∈ frAddrs l, b ∈ bad) → s.heap.FunFrames F.base l → s.heap.FunFrames (hide s.heap bad) l := by
        intro l
        induction l with
        | nil => intros; trivial
        | cons env rest ih =>
          rintro hm ⟨z1, ⟨L', o, z2, z3, z4⟩, z5⟩
          refine ⟨z1, ⟨L', o, z2, ?_, z4⟩, ih (fun b hb => hm b ?_) z5⟩
          · rw [hide_get, if_pos (hm L' (by unfold frAddrs; rw [List.filterMap_cons, z2]; exact List.mem_cons_self))]
          · unfold frAddrs at hb ⊢
            rw [List.filterMap_cons, z2]; exact List.mem_cons_of_mem _ hb
      exact this _ (fun b hb => List.mem_cons_of_mem _ hb) hf
    unfold noteFrame
    simp only [U.frame]
    refine wpAny_bind (wpAny_field h1 h3 hn ?_)
    rw [if_neg (by decide)]
    refine wpAny_entryW hfr hff U.frame h1 hst0 (by rw [hide_get, if_pos List.mem_cons_self]) h3 (Array.getElem?_eq_some_iff.mp hn).1 h4 fun h' hN => ?_
    obtain ⟨n1, n2, n3, n4⟩ := hN
    obtain ⟨q1, q2⟩ := flew_of R hbH hbB hb0 List.mem_cons_self hef rfl h5 h6 h9 h₀s n1 n3 n4
    exact h _ q1 (h2 ▸ q2)
  · have hTf : T ∉ frAddrs F.stk := fun hf => by
      refine ex0and3 (HRel.frAt R.1 hf) fun _ _ y2_ => ?_; obtain ⟨o', es, n, z1, z2⟩ := y2_
      rw [a2] at z1; cases z1
      rw [z2] at a3; cases a3
    let bad := ea :: T :: frAddrs F.stk
    have hbH : ∀ a ∈ bad, st.H a = none := fun a ha => by
      rcases List.mem_cons.mp ha with rfl | ha
      · exact h7
      · rcases List.mem_cons.mp ha with rfl | ha
        · exact a6
        · exact (HRel.frAt R.1 ha).1
    have hbB : ∀ a ∈ bad, F.base.get? a = none := fun a ha => by
      rcases List.mem_cons.mp ha with rfl | ha
      · exact heB
      · rcases List.mem_cons.mp ha with rfl | ha
        · exact a7.2
        · exact (HRel.frAt R.1 ha).2.1
    have hb0 : ∀ a ∈ bad, a ∉ frAddrs F.stk → h₀.get? a = none := fun a ha hn => by
      rcases List.mem_cons.mp ha with rfl | ha
      · exact h8.1
      · rcases List.mem_cons.mp ha with rfl | ha
        · exact a7.1
        · exact absurd ha hn
    have hst0 : (hide s.heap bad).StaysIn s.heap := fun b o e => by
      rw [hide_get] at e
      split at e
      · cases e
      · exact e
    have hff : s.heap.FunFrames (hide s.heap bad) (F.env :: outer) := by
      rw [← U.stk]
      have hf := R.1.frames
      have : ∀ l, (∀ b ∈ frAddrs l, b ∈ bad) → s.heap.FunFrames F.base l → s.heap.FunFrames (hide s.heap bad) l := by
        intro l
        induction l with
        | nil => intros; trivial
        | cons env rest ih =>
          rintro hm ⟨z1, ⟨L', o, z2, z3, z4⟩, z5⟩
          refine ⟨z1, ⟨L', o, z2, ?_, z4⟩, ih (fun b hb => hm b ?_) z5⟩
          · rw [hide_get, if_pos (hm L' (by unfold frAddrs; rw [List.filterMap_cons, z2]; exact List.mem_cons_self))]
          · unfold frAddrs at hb ⊢
            rw [List.filterMap_cons, z2]; exact List.mem_cons_of_mem _ hb
      exact this _ (fun b hb => List.mem_cons_of_mem _ (List.mem_cons_of_mem _ hb)) hf
    have heN : (hide s.heap bad).get? ea = none := by rw [hide_get, if_pos List.mem_cons_self]
    have hTN : (hide s.heap bad).get? T = none := by rw [hide_get, if_pos (List.mem_cons_of_mem _ List.mem_cons_self)]
    rcases hfl with rfl | rfl
    · refine wpAny_noteFrame_onW hfr hff U.frame ⟨oe, vs, T, oT, ts, h1, ⟨h2, h4⟩, h3, a1, hTN, a5, a2, a3, a4⟩ hst0 heN fun h' hN => ?_
      obtain ⟨n1, n2, n3, n4⟩ := hN
      obtain ⟨q1, q2⟩ := flew_of R hbH hbB hb0 List.mem_cons_self hef rfl h5 h6 h9 h₀s n1 n3 n4
      exact h _ q1 q2
    · exact wpAny_noteFrame_againW U.frame (base := hide s.heap bad) ⟨oe, vs, T, oT, ts, h1, ⟨h2, h4⟩, h3, a1, hTN, a5, a2, a3, a4⟩ (h s (.refl R) x')
theorem flight {h₀ : Heap} {ea : Addr} {cls f : Value} {args : List Value} {fr : Option Addr} {Q : Unit → Shared → Prop} {E : Value → Shared → Prop}
    (R : Rel prog w F st s) (x : ExcAt F.base h₀ st.H s.heap ea cls args (some f)) (h₀s : ∀ b, h₀.get? b ≠ none → s.heap.get? b ≠ none)
    (h : ∀ s', Flew prog w F st h₀ s s' → ExcAt F.base h₀ st.H s'.heap ea cls args (some (fr.elim .none fun f => rawInt f)) → Q () s') : wpAny (model prog w) F.A (setFlight (.ref ea) fr) Q E s := by
  refine ex4and10 x fun oe vs ta items h1 h2 h3 h4 h5 h6 h7 h8 h9 h10 => ?_; try clear x
  rcases h10 with ⟨_, z⟩ | ⟨T, oT, ts, f', a1, a2, a3, a4, a5, a6, a7, z⟩
  · cases z
  cases z
  have hsz3 : 3 < ts.size := (Array.getElem?_eq_some_iff.mp a4).1
  unfold setFlight
  refine wpAny_bind (wpAny_field h1 h3 a1 ?_)
  rw [if_pos (show (Value.ref T != Value.none) = true from by simp)]
  have other : ∀ b, b ≠ T → (s.heap.update T (Obj.mapFields (·.setIfInBounds 3 (fr.elim Value.none fun f => rawInt f)))).get? b = s.heap.get? b :=
    fun b hb => Heap.get?_update_other _ _ (Ne.symm hb)
  have hT' := Heap.get?_update_self (Obj.mapFields (·.setIfInBounds 3 (fr.elim Value.none fun f => rawInt f))) a2 (Obj.isFreed_of_fields (Obj.data_mapFields a3 _))
  have up : ∀ b o, s.heap.get? b = some o → (∀ vs, o.data ≠ .fields vs) → (s.heap.update T (Obj.mapFields (·.setIfInBounds 3 (fr.elim Value.none fun f => rawInt f)))).get? b = some o := fun b o e hn => by
    rw [other b ?_]; exact e
    rintro rfl; rw [a2] at e; cases e; exact hn _ a3
  refine wpAny_setField a2 a3 hsz3 (h _ ⟨R.bystanders (bad := [T]) (fun a ha => List.mem_singleton.mp ha ▸ a6) (fun a ha => List.mem_singleton.mp ha ▸ a7.2) (fun b o hb e => (other b fun q => hb (List.mem_singleton.mpr q)).trans e)
    (fun b o e hn => ⟨o.slots, up b o e hn⟩), fun b o e h0 hn => .refl ((other b fun q => h0 (q ▸ a7.1)).trans e)⟩ ?_)
  refine ⟨oe, vs, ta, items, (other _ (Ne.symm a5)).trans h1, h2, h3, h4, ?_, h6, h7, h8, h9, .inr ⟨T, _, _, _, a1, hT', Obj.data_mapFields a3 _, by simp [hsz3], a5, a6, a7, rfl⟩⟩
  refine ex1and3 h5 fun o ho hc y3_ => ?_; try clear h5; obtain ⟨n, hd⟩ := y3_
  exact ⟨o, up _ _ ho (fun vs q => by rw [hd] at q; cases q), hc, n, hd⟩
theorem leaves {h₀ : Heap} {outer : List Env} {L ea : Addr} {cls : Value} {args : List Value} {fl : Option Value} {Q : Unit → Shared → Prop} {E : Value → Shared → Prop}
    (U : Runs F outer L) (R : Rel prog w F st s) (x : ExcAt F.base h₀ st.H s.heap ea cls args fl) (hfl : okFl L fl) (h₀s : ∀ b, h₀.get? b ≠ none → s.heap.get? b ≠ none)
    (h : ∀ s', Flew prog w F st h₀ s s' → ExcAt F.base h₀ st.H s'.heap ea cls args (some .none) → Q () s') : wpAny (model prog w) F.A (leaving F.env (.ref ea)) Q E s := by
  unfold leaving
  refine wpAny_bind (note U R x hfl h₀s fun s₁ W x₁ => ?_)
  refine flight W.rel x₁ (fun b hb => ?_) fun s₂ W₂ x₂ => h s₂ (W.trans W₂) x₂
  cases q : st.H b with
  | none =>
    cases q2 : s.heap.get? b with
    | none => exact absurd q2 (h₀s b hb)
    | some o => obtain ⟨sl, e2, _⟩ := W.keep b o q2 hb q; rw [e2]; exact nofun
  | some z => obtain ⟨o', e', _⟩ := W.rel.1.cells b z q; rw [e']; exact nofun
theorem XPost.cameBack {outer : List Env} {L : Addr} {e : Value} (U : Runs F outer L) (x : XPost prog w F X H₀ s₀ e s') : notedBy (model prog w) F.A F.env (cameBackBy (model prog w) F.A F.env (XPost prog w F X H₀ s₀)) e s' := by
  refine ex5and6 x fun st' ea cls args fl y5_ h2 h3 h4 h5 h6 => ?_; try clear x; obtain rfl := y5_
  refine note U h4 h2 (h3 L U.frame) h5.alive fun s'' W x' => ?_
  have x'' := x'
  refine ex4and10 x' fun oe vs ta items q1 q2 q3 q4 q5 q6 q7 q8 q9 q10 => ?_; try clear x'
  rcases q10 with ⟨_, z⟩ | ⟨T, oT, ts, f', a1, a2, a3, a4, a5, a6, a7, z⟩
  · cases z
  unfold cameBackBy
  refine wpAny_bind (wpAny_field q1 q3 a1 ?_)
  rw [if_neg (show ¬ ((Value.ref T == Value.none) = true) from by simp)]
  refine flight W.rel x'' (h5.flew W).alive fun s₃ W₃ x₃ => ?_
  refine ⟨st', ea, cls, args, _, rfl, x₃, fun L' hL' => ?_, W₃.rel, (h5.flew W).flew W₃, h6⟩
  rw [hL']
  exact .inr rfl
end
end Mine
end
section
set_option maxRecDepth 100000
set_option Elab.async false
set_option linter.unusedVariables false
namespace Mine
open PySem PySem.W PySem.Calls PyProof.Rows
inductive SK
  | list | tup
  | keys (es : List (Value × Value)) (n : Nat)
  | vals (d : Addr) (es : List (Value × Value)) (n : Nat)
  | rng (a b : Int)
  | pin (o : Obj)
noncomputable def intsFrom (a : Int) (n : Nat) : List Value := (List.range n).map fun (i : Nat) => .int (a + i) 0
noncomputable def Src (st : St) (v : Value) (xs : List Value) : SK → Prop
  | .list => ∃ l, v = .ref l ∧ st.H l = some (.list xs)
  | .tup => ∃ l, v = .ref l ∧ st.H l = some (.tup xs)
  | .keys es n => ∃ d, v = .ref d ∧ st.H d = some (.dict es n) ∧ xs = es.map (·.1)
  | .vals d es n => ∃ vw, v = .ref vw ∧ st.H vw = some (.vals d) ∧ st.H d = some (.dict es n) ∧ xs = es.map (·.2)
  | .rng a b => ∃ r, v = .ref r ∧ st.H r = some (.rng a b) ∧ xs = intsFrom a (b - a).toNat ∧ -(2 ^ 60) < a ∧ a < 2 ^ 60 ∧ -(2 ^ 60) < b ∧ b < 2 ^ 60
  | .pin p => ∃ l, v = .ref l ∧ st.H l = some (.pin p) ∧ ∃ items n, p.cls = .type "list" ∧ p.data = .seq items n ∧ items.toList.map er = xs
section
variable {prog : Program} {w : World} {F : Fx} {st : St} {s s' s₀ : Shared} {H₀ : AHeap} {X : Value → List Value → St → Prop} {v : Value} {xs : List Value} {k : SK}
noncomputable def ItO (v : Value) (xs : List Value) (i : Nat) : SK → Obj → Prop
  | .list, o => o.cls = .type "list_iterator" ∧ o.data = .fields #[v, .int i 0]
  | .pin _, o => o.cls = .type "list_iterator" ∧ o.data = .fields #[v, .int i 0]
  | .tup, o => o.cls = .type "tuple_iterator" ∧ o.data = .fields #[v, .int i 0]
  | .keys es n, o => o.cls = .type "dict_keyiterator" ∧ o.data = .fields #[v, .int i 0, .int xs.length 0, .int n 0]
  | .vals d es n, o => o.cls = .type "dict_valueiterator" ∧ o.data = .fields #[.ref d, .int i 0, .int xs.length 0, .int n 0]
  | .rng a b, o => o = { cls := .type "range_iterator", dict := none, data := .fields #[rawInt (a + i), rawInt ((b - a).toNat - i : Int), rawInt 1], slots := #[] }
theorem list_at {l : Addr} (R : HRel prog w F.toFc st.H s) (h : st.H l = some (.list xs)) : ∃ items, s.heap.IsList l items ∧ items.toList.map er = xs := by
  refine ex1and5 (R.cells _ _ h) fun o ho hc _ _ y5_ => ?_; obtain ⟨items, n, hd, he⟩ := y5_
  exact ⟨items, ⟨o, ho, hc, n, hd⟩, he⟩
theorem pin_at {l : Addr} {p : Obj} (R : HRel prog w F.toFc st.H s) (h : st.H l = some (.pin p)) (hp : ∃ items n, p.cls = .type "list" ∧ p.data = .seq items n ∧ items.toList.map er = xs) : ∃ items, s.heap.IsList l items ∧ items.toList.map er = xs := by
  obtain ⟨o, ho, e⟩ := R.cells _ _ h
  refine ex2and3 hp fun items n hc hd he => ?_; try clear hp
  have e : o = p := e
  subst e
  exact ⟨items, ⟨_, ho, hc, n, hd⟩, he⟩
theorem tup_at {l : Addr} (R : HRel prog w F.toFc st.H s) (h : st.H l = some (.tup xs)) : ∃ items, s.heap.IsTuple l items ∧ items.toList.map er = xs := by
  refine ex1and5 (R.cells _ _ h) fun o ho hc _ _ y5_ => ?_; obtain ⟨items, n, hd, he⟩ := y5_
  exact ⟨items, ⟨o, ho, hc, n, hd⟩, he⟩
theorem dict_at {d : Addr} {es : List (Value × Value)} {n : Nat} (R : HRel prog w F.toFc st.H s) (h : st.H d = some (.dict es n)) :
    (∃ kvs : List (Int × Value), s.heap.DictAt (intKind prog w) d kvs n ∧ es = kvs.map fun p => (.int p.1 0, er p.2)) ∨
    (∃ kvs : List (Str × Value), s.heap.DictAt (strKind prog w) d kvs n ∧ es = kvs.map fun p => (.str p.1 0, er p.2)) := by
  refine ex1and3 (R.cells _ _ h) fun o ho hx y3_ => ?_; obtain ⟨des, hd, hk⟩ := y3_
  rcases hk with ⟨kvs, k1, k2, k3, k4⟩ | ⟨kvs, k1, k2, k3, k4⟩
  · exact .inl ⟨kvs, ⟨o, des, ho, hx, hd, k1, k2, k3⟩, k4⟩
  · exact .inr ⟨kvs, ⟨o, des, ho, hx, hd, k1, k2, k3⟩, k4⟩
theorem vals_at {d vw : Addr} (R : HRel prog w F.toFc st.H s) (h : st.H vw = some (.vals d)) : s.heap.IsValuesView vw d := by
  obtain ⟨o, ho, hc, hd⟩ := R.cells _ _ h
  exact ⟨o, ho, hc, hd⟩
noncomputable def NoSys (F : Fc) : Prop := F.base.get? sysModules ≠ none
theorem notSys {F : Fc} {H : AHeap} (R : HRel prog w F H s) (N : NoSys F) {d : Addr} (h : H d ≠ none) : (d == sysModules) = false := by
  have : d ≠ sysModules := by rintro rfl; exact N (R.notBase _ h)
  exact beq_eq_false_iff_ne.mpr this
theorem is_int {prog : Program} {w : World} {k : Int} {key : Value} (h : (intKind prog w).is k key = true) : er key = .int k 0 := by
  have h' : key.isInt k = true := h
  cases key <;> simp [Value.isInt] at h'
  subst h'; rfl
theorem is_str {prog : Program} {w : World} {k : Str} {key : Value} (h : (strKind prog w).is k key = true) : er key = .str k 0 := by
  have h' : key.isStr k = true := (strKind prog w).strs k k 0 key (strKind_is prog w k 0) ▸ h
  cases key <;> simp [Value.isStr] at h'
  rename_i x t
  have : x = k := h'
  subst this; rfl
theorem pyIter_src {Q : Value → Shared → Prop} {E : Value → Shared → Prop} {A : Around} (R : Rel prog w F st s) (hs : Src st v xs k) (N : NoSys F.toFc)
    (h : ∀ o, ItO v xs 0 k o → o.isFreed = false → Q (.ref s.heap.objs.size) { s with heap := s.heap.push o }) : wpAny (model prog w) A (pyIter v) Q E s := by
  cases k with
  | pin p =>
    obtain ⟨l, rfl, hl, hp⟩ := hs
    obtain ⟨items, hi, _⟩ := pin_at R.1 hl hp
    exact wpAny_pyIter_list hi (h _ ⟨rfl, rfl⟩ rfl)
  | list =>
    obtain ⟨l, rfl, hl⟩ := hs
    obtain ⟨items, hi, _⟩ := list_at R.1 hl
    exact wpAny_pyIter_list hi (h _ ⟨rfl, rfl⟩ rfl)
  | tup =>
    obtain ⟨l, rfl, hl⟩ := hs
    obtain ⟨items, hi, _⟩ := tup_at R.1 hl
    exact wpAny_pyIter_tuple hi (h _ ⟨rfl, rfl⟩ rfl)
  | keys es n =>
    obtain ⟨d, rfl, hd, rfl⟩ := hs
    have ns := notSys R.1 N (d := d) (by rw [hd]; exact nofun)
    rcases dict_at R.1 hd with ⟨kvs, h1, rfl⟩ | ⟨kvs, h1, rfl⟩
    · exact wpAny_pyIter_dict ns h1 (h _ ⟨rfl, by simp⟩ rfl)
    · exact wpAny_pyIter_dict ns h1 (h _ ⟨rfl, by simp⟩ rfl)
  | vals d es n =>
    refine ex1and4 hs fun vw y1_ hv hd y4_ => ?_; try clear hs; obtain rfl := y1_; obtain rfl := y4_
    have hvw := vals_at R.1 hv
    rcases dict_at R.1 hd with ⟨kvs, h1, rfl⟩ | ⟨kvs, h1, rfl⟩
    · exact wpAny_pyIter_values hvw h1 (h _ ⟨rfl, by simp⟩ rfl)
    · exact wpAny_pyIter_values hvw h1 (h _ ⟨rfl, by simp⟩ rfl)
  | rng a b =>
    refine ex1and7 hs fun r y1_ hr y3_ b1 b2 b3 b4 => ?_; try clear hs; obtain rfl := y1_; obtain rfl := y3_
    refine ex1and2 (R.1.cells _ _ hr) fun o ho y2_ => ?_; obtain ⟨t, u, v, rfl⟩ := y2_
    have hsz : Builtin.Range.rangeSize a b 1 = ((b - a).toNat : Int) := by
      unfold Builtin.Range.rangeSize
      split
      · split <;> omega
      · omega
    refine wpAny_pyIter_range ho ?_ (h _ ?_ rfl)
    · unfold Builtin.Range.small Builtin.Range.rangeFitsLong
      rw [hsz]
      simp only [Bool.and_eq_true, decide_eq_true_eq, Bool.or_eq_true, beq_iff_eq]
      refine ⟨⟨⟨⟨⟨?_, ?_⟩, ?_, ?_⟩, by decide, by decide⟩, ?_, ?_⟩, .inr ?_⟩
      all_goals (try omega)
      rw [if_pos (by decide)]
      simp only [Bool.and_eq_true, decide_eq_true_eq]
      omega
    · show ({ cls := .type "range_iterator", data := .fields #[rawInt a, rawInt (Builtin.Range.rangeSize a b 1), rawInt 1] } : Obj) = _
      rw [hsz]
      simp
theorem next_item {ia : Addr} {o : Obj} {i : Nat} {x : Value} {Q : Option Value → Shared → Prop} {E : Value → Shared → Prop} {A : Around} (R : Rel prog w F st s) (hs : Src st v xs k) (hia : s.heap.get? ia = some o) (hI : ItO v xs i k o) (hx : xs[i]? = some x)
    (h : ∀ x' h' o' tk, er x' = x → h'.get? ia = some o' → ItO v xs (i + 1) k o' → Heap.SameBut ia s.heap h' → Q (some x') { s with heap := h', toks := tk }) : wpAny (model prog w) A (pyNext (.ref ia)) Q E s := by
  have hxs := hx
  cases k with
  | pin p =>
    obtain ⟨l, rfl, hl, hp⟩ := hs
    obtain ⟨items, hi, rfl⟩ := pin_at R.1 hl hp
    rw [List.getElem?_map] at hx
    obtain ⟨x', hx', rfl⟩ := Option.map_eq_some_iff.mp hx
    refine wpAny_pyNext_list_item ⟨o, hia, hI.1, hI.2⟩ hi (by simpa using hx') fun h' ⟨o', a, b, c⟩ hsb => ?_
    exact h _ h' o' s.toks rfl a ⟨b, c⟩ hsb
  | list =>
    obtain ⟨l, rfl, hl⟩ := hs
    obtain ⟨items, hi, rfl⟩ := list_at R.1 hl
    rw [List.getElem?_map] at hx
    obtain ⟨x', hx', rfl⟩ := Option.map_eq_some_iff.mp hx
    refine wpAny_pyNext_list_item ⟨o, hia, hI.1, hI.2⟩ hi (by simpa using hx') fun h' ⟨o', a, b, c⟩ hsb => ?_
    exact h _ h' o' s.toks rfl a ⟨b, c⟩ hsb
  | tup =>
    obtain ⟨l, rfl, hl⟩ := hs
    obtain ⟨items, hi, rfl⟩ := tup_at R.1 hl
    rw [List.getElem?_map] at hx
    obtain ⟨x', hx', rfl⟩ := Option.map_eq_some_iff.mp hx
    refine wpAny_pyNext_tuple_item ⟨o, hia, hI.1, hI.2⟩ hi (by simpa using hx') fun h' ⟨o', a, b, c⟩ hsb => ?_
    exact h _ h' o' s.toks rfl a ⟨b, c⟩ hsb
  | keys es n =>
    obtain ⟨d, rfl, hd, rfl⟩ := hs
    rcases dict_at R.1 hd with ⟨kvs, h1, rfl⟩ | ⟨kvs, h1, rfl⟩
    · rw [List.getElem?_map, List.getElem?_map, Option.map_map] at hx
      obtain ⟨⟨q, u⟩, hq, rfl⟩ := Option.map_eq_some_iff.mp hx
      refine wpAny_pyNext_dict_item ⟨o, hia, hI.1, by simpa using hI.2⟩ h1 hq fun key h' hkey ⟨o', a, b, c⟩ hsb => ?_
      exact h _ h' o' s.toks (is_int hkey) a ⟨b, by simpa using c⟩ hsb
    · rw [List.getElem?_map, List.getElem?_map, Option.map_map] at hx
      obtain ⟨⟨q, u⟩, hq, rfl⟩ := Option.map_eq_some_iff.mp hx
      refine wpAny_pyNext_dict_item ⟨o, hia, hI.1, by simpa using hI.2⟩ h1 hq fun key h' hkey ⟨o', a, b, c⟩ hsb => ?_
      exact h _ h' o' s.toks (is_str hkey) a ⟨b, by simpa using c⟩ hsb
  | vals d es n =>
    refine ex1and4 hs fun vw y1_ hv hd y4_ => ?_; try clear hs; obtain rfl := y1_; obtain rfl := y4_
    obtain ⟨c1, c2⟩ := hI
    rcases dict_at R.1 hd with ⟨kvs, h1, rfl⟩ | ⟨kvs, h1, rfl⟩
    · rw [List.getElem?_map, List.getElem?_map, Option.map_map] at hx
      obtain ⟨⟨q, u⟩, hq, rfl⟩ := Option.map_eq_some_iff.mp hx
      refine wpAny_pyNext_values_item ⟨o, hia, c1, by simpa using c2⟩ h1 hq fun h' ⟨o', a, b, c⟩ hsb => ?_
      exact h _ h' o' s.toks rfl a ⟨b, by simpa using c⟩ hsb
    · rw [List.getElem?_map, List.getElem?_map, Option.map_map] at hx
      obtain ⟨⟨q, u⟩, hq, rfl⟩ := Option.map_eq_some_iff.mp hx
      refine wpAny_pyNext_values_item ⟨o, hia, c1, by simpa using c2⟩ h1 hq fun h' ⟨o', a, b, c⟩ hsb => ?_
      exact h _ h' o' s.toks rfl a ⟨b, by simpa using c⟩ hsb
  | rng a b =>
    refine ex1and7 hs fun r y1_ hr y3_ b1 b2 b3 b4 => ?_; try clear hs; obtain rfl := y1_; obtain rfl := y3_
    have hI' : o = _ := hI
    subst hI'
    have hlt : i < (b - a).toNat := by
      have := (List.getElem?_eq_some_iff.mp hx).1
      simpa [intsFrom] using this
    refine wpAny_pyNext_range_item hia (by omega) fun h' h1 hsb => ?_
    refine h _ h' _ _ ?_ h1 ?_ hsb
    · unfold intsFrom at hx
      rw [List.getElem?_map, List.getElem?_range hlt] at hx
      exact (Option.some.inj hx).symm ▸ rfl
    · have e1 : a + (i : Int) + 1 = a + ((i + 1 : Nat) : Int) := by omega
      have e2 : ((b - a).toNat : Int) - i - 1 = ((b - a).toNat : Int) - ((i + 1 : Nat) : Int) := by omega
      show ({ cls := .type "range_iterator", dict := none, data := .fields #[rawInt (a + i + 1), rawInt (((b - a).toNat : Int) - i - 1), rawInt 1], slots := #[] } : Obj) = _
      rw [e1, e2]
theorem next_done {ia : Addr} {o : Obj} {i : Nat} {Q : Option Value → Shared → Prop} {E : Value → Shared → Prop} {A : Around} (hh : A.handled = none) (R : Rel prog w F st s) (hs : Src st v xs k) (hia : s.heap.get? ia = some o) (hI : ItO v xs i k o) (hx : xs[i]? = none)
    (hle : i ≤ xs.length) (h : ∀ h', Heap.ExtBut ia s.heap h' → Q none { s with heap := h' }) : wpAny (model prog w) A (pyNext (.ref ia)) Q E s := by
  cases k with
  | pin p =>
    obtain ⟨l, rfl, hl, hp⟩ := hs
    obtain ⟨items, hi, rfl⟩ := pin_at R.1 hl hp
    exact wpAny_pyNext_list_end hh ⟨o, hia, hI.1, hI.2⟩ hi (by simpa using hx) h
  | list =>
    obtain ⟨l, rfl, hl⟩ := hs
    obtain ⟨items, hi, rfl⟩ := list_at R.1 hl
    exact wpAny_pyNext_list_end hh ⟨o, hia, hI.1, hI.2⟩ hi (by simpa using hx) h
  | tup =>
    obtain ⟨l, rfl, hl⟩ := hs
    obtain ⟨items, hi, rfl⟩ := tup_at R.1 hl
    exact wpAny_pyNext_tuple_end hh ⟨o, hia, hI.1, hI.2⟩ hi (by simpa using hx) h
  | keys es n =>
    obtain ⟨d, rfl, hd, rfl⟩ := hs
    rcases dict_at R.1 hd with ⟨kvs, h1, rfl⟩ | ⟨kvs, h1, rfl⟩
    · exact wpAny_pyNext_dict_end hh ⟨o, hia, hI.1, by simpa using hI.2⟩ h1 (by simpa using hx) h
    · exact wpAny_pyNext_dict_end hh ⟨o, hia, hI.1, by simpa using hI.2⟩ h1 (by simpa using hx) h
  | vals d es n =>
    refine ex1and4 hs fun vw y1_ hv hd y4_ => ?_; try clear hs; obtain rfl := y1_; obtain rfl := y4_
    obtain ⟨c1, c2⟩ := hI
    rcases dict_at R.1 hd with ⟨kvs, h1, rfl⟩ | ⟨kvs, h1, rfl⟩
    · exact wpAny_pyNext_values_end hh ⟨o, hia, c1, by simpa using c2⟩ h1 (by simpa using hx) h
    · exact wpAny_pyNext_values_end hh ⟨o, hia, c1, by simpa using c2⟩ h1 (by simpa using hx) h
  | rng a b =>
    refine ex1and7 hs fun r y1_ hr y3_ b1 b2 b3 b4 => ?_; try clear hs; obtain rfl := y1_; obtain rfl := y3_
    have hI' : o = _ := hI
    subst hI'
    have hlt : ¬ i < (b - a).toNat := fun h => by
      have := List.getElem?_eq_none_iff.mp hx
      simp [intsFrom] at this
      omega
    exact wpAny_pyNext_range_end hh hia (by omega) h
theorem ItO.fields {i : Nat} {o : Obj} (h : ItO v xs i k o) : ∃ vs, o.data = .fields vs := by
  cases k with
  | list => exact ⟨_, h.2⟩
  | pin p => exact ⟨_, h.2⟩
  | tup => exact ⟨_, h.2⟩
  | keys es n => exact ⟨_, h.2⟩
  | vals d es n => exact ⟨_, h.2⟩
  | rng a b => cases (show o = _ from h); exact ⟨_, rfl⟩
theorem Src.same {v : Value} (h : Src st (er v) xs k) : er v = v := by
  have : ∀ a, er v = .ref a → er v = v := fun a e => by rw [er_ref e]; rfl
  cases k with
  | list => exact let ⟨l, e, _⟩ := h; this l e
  | pin p => exact let ⟨l, e, _⟩ := h; this l e
  | tup => exact let ⟨l, e, _⟩ := h; this l e
  | keys es n => exact let ⟨l, e, _⟩ := h; this l e
  | vals d es n => exact let ⟨l, e, _⟩ := h; this l e
  | rng a b => exact let ⟨l, e, _⟩ := h; this l e
theorem Rel.hid (R : Rel prog w F st s) {ia : Addr} {o : Obj} {s' : Shared} (hia : s.heap.get? ia = some o) (hH : st.H ia = none) (hB : F.base.get? ia = none)
    (hk : Heap.ExtBut ia s.heap s'.heap) (hg : s'.gens = s.gens) (ho : s'.os = s.os) (hf : ∃ vs, o.data = .fields vs) : Rel prog w F st s' := by
  obtain ⟨fs, hfs⟩ := hf
  have := R.bystanders (h' := s'.heap) (bad := [ia]) (fun a ha => List.mem_singleton.mp ha ▸ hH) (fun a ha => List.mem_singleton.mp ha ▸ hB) (fun b o hb e => hk b o (fun q => hb (List.mem_singleton.mpr q)) e)
    (fun b ob e hn => ⟨ob.slots, hk b ob (by rintro rfl; rw [hia] at e; cases e; exact hn _ hfs) e⟩)
  exact this.grow (fun _ _ e => e) hg ho
theorem After.hid {fr own : List Addr} (A : After fr own H₀ s₀ st.H s) {ia : Addr} {s' : Shared} (hn : s₀.heap.get? ia = none) (hk : Heap.ExtBut ia s.heap s'.heap) : After fr own H₀ s₀ st.H s' where
  keep b o e h1 h2 := by
    obtain ⟨sl, e1, c1⟩ := A.keep b o e h1 h2
    exact ⟨sl, hk b _ (by rintro rfl; rw [hn] at e; cases e) e1, c1⟩
  alive b e := by
    cases q : s.heap.get? b with
    | none => exact absurd q (A.alive b e)
    | some o => rw [hk b o (by rintro rfl; exact e hn) q]; exact nofun
  dom := A.dom
end
end Mine
end
section
set_option maxRecDepth 100000
set_option Elab.async false
set_option linter.unusedVariables false
namespace Mine
open PySem PySem.W PySem.Calls PyProof.Rows
section
variable {prog : Program} {w : World} {F : Fx} {st : St} {s s' s₀ : Shared} {H₀ : AHeap} {X : Value → List Value → St → Prop}
theorem T_nil {Q : Flow → St → Prop} (h : Q .next st) : T prog w F (execs [] F.env) Q X st := fun s R => wpAny_execs_nil ⟨st, R, .refl _ _ _ _, h⟩
theorem T.absQ' {α : Type} [Er α] {t : Sem α} {Q : α → St → Prop} (h : ∀ Q' : α → St → Prop, (∀ a st', Q a st' → Q' a st') → T prog w F t Q' X st) : T prog w F t Q X st := h Q fun _ _ q => q
theorem T.absX {α : Type} [Er α] {t : Sem α} {Q : α → St → Prop} (h : ∀ X' : Value → List Value → St → Prop, (∀ c a st', X c a st' → X' c a st') → T prog w F t Q X' st) : T prog w F t Q X st := h X fun _ _ _ q => q
theorem T_cons {a : Stmt} {r : List Stmt} {Q : Flow → St → Prop} (h : T prog w F (exec a F.env) (fun f st' => match f with | .next => T prog w F (execs r F.env) Q X st' | f => Q f st') X st) :
    T prog w F (execs (a :: r) F.env) Q X st := fun s R =>
  wpAny_execs_cons (h.then R (.refl _ _ _ _) fun f s' st' R' A' q => by
    cases f with
    | next => exact T.then q R' A' fun f s' st' R' A' q => ⟨st', R', A', q⟩
    | brk => exact ⟨st', R', A', q⟩
    | cont => exact ⟨st', R', A', q⟩
    | ret v => exact ⟨st', R', A', q⟩)
theorem T_exprS {e : Expr} {pos : Pos} {Q : Flow → St → Prop} (hi : interactive F.env = false) (hs : swapsWith e none pos.line F.env = pure false) (h : T prog w F (eval e F.env) (fun _ => Q .next) X st) :
    T prog w F (exec (.Expr e pos) F.env) Q X st := fun s R => wpAny_Expr_any (h s R) hi hs
theorem T_ret {e : Expr} {pos : Pos} {Q : Flow → St → Prop} (h : T prog w F (eval e F.env) (fun v => Q (.ret v)) X st) : T prog w F (exec (.Return (some e) pos) F.env) Q X st := fun s R => wpAny_Return_some (h s R)
theorem T_break {pos : Pos} {Q : Flow → St → Prop} (h : Q .brk st) : T prog w F (exec (.Break pos) F.env) Q X st := fun s R => wpAny_Break ⟨st, R, .refl _ _ _ _, h⟩
theorem T_continue {pos : Pos} {Q : Flow → St → Prop} (h : Q .cont st) : T prog w F (exec (.Continue pos) F.env) Q X st := fun s R => wpAny_Continue ⟨st, R, .refl _ _ _ _, h⟩
theorem T_assignName {x : Str} {p pos : Pos} {value : Expr} {Q : Flow → St → Prop} (hs : swapsWith value (some (.Name x p)) pos.line F.env = pure false)
    (h : T prog w F (eval value F.env) (fun v st' => ∀ v', er v' = v → T prog w F (storeName F.env x v') (fun _ => Q .next) X st') X st) : T prog w F (exec (.Assign [.Name x p] value pos) F.env) Q X st := fun s R =>
  wpAny_Assign_Name (h.then R (.refl _ _ _ _) fun v s' st' R' A' q => (q v rfl).then R' A' fun _ s'' st'' R'' A'' q => ⟨st'', R'', A'', q⟩) hs
theorem T_assignSub {o i value : Expr} {p pos : Pos} {Q : Flow → St → Prop} (hs : swapsWith value (some (.Subscript o i p)) pos.line F.env = pure false)
    (h : T prog w F (eval value F.env) (fun v st₁ => T prog w F (eval o F.env) (fun ov st₂ => T prog w F (eval i F.env) (fun iv st₃ =>
      ∀ v' ov' iv', er v' = v → er ov' = ov → er iv' = iv → T prog w F (setItem ov' iv' v') (fun _ => Q .next) X st₃) X st₂) X st₁) X st) : T prog w F (exec (.Assign [.Subscript o i p] value pos) F.env) Q X st := fun s R =>
  wpAny_Assign_Subscript (h.then R (.refl _ _ _ _) fun v s₁ st₁ R₁ A₁ h₁ => h₁.then R₁ A₁ fun ov s₂ st₂ R₂ A₂ h₂ => h₂.then R₂ A₂ fun iv s₃ st₃ R₃ A₃ h₃ =>
    (h₃ v ov iv rfl rfl rfl).then R₃ A₃ fun _ s₄ st₄ R₄ A₄ q => ⟨st₄, R₄, A₄, q⟩) hs
theorem T_assignAttr {o value : Expr} {attr : Str} {p pos : Pos} {Q : Flow → St → Prop} (hs : swapsWith value (some (.Attribute o attr p)) pos.line F.env = pure false)
    (h : T prog w F (eval value F.env) (fun v st₁ => T prog w F (eval o F.env) (fun ov st₂ => ∀ v' ov', er v' = v → er ov' = ov → T prog w F (setAttr ov' attr v') (fun _ => Q .next) X st₂) X st₁) X st) :
    T prog w F (exec (.Assign [.Attribute o attr p] value pos) F.env) Q X st := fun s R =>
  plainObj_wpAny_Assign_Attribute (h.then R (.refl _ _ _ _) fun v s₁ st₁ R₁ A₁ h₁ => h₁.then R₁ A₁ fun ov s₂ st₂ R₂ A₂ h₂ =>
    (h₂ v ov rfl rfl).then R₂ A₂ fun _ s₄ st₄ R₄ A₄ q => ⟨st₄, R₄, A₄, q⟩) hs
theorem T_augAttr {o value : Expr} {attr : Str} {p pos : Pos} {op : Operator} {Q : Flow → St → Prop}
    (h : T prog w F (eval o F.env) (fun ov st₁ => ∀ ov', er ov' = ov → T prog w F (getAttr ov' attr true) (fun old st₂ => T prog w F (eval value F.env) (fun v st₃ => ∀ old' v', er old' = old → er v' = v →
      T prog w F (inplaceOp op old' v') (fun new st₄ => ∀ new', er new' = new → T prog w F (setAttr ov' attr new') (fun _ => Q .next) X st₄) X st₃) X st₂) X st₁) X st) :
    T prog w F (exec (.AugAssign (.Attribute o attr p) op value pos) F.env) Q X st := fun s R =>
  wpAny_AugAssign_AttributeAny (h.then R (.refl _ _ _ _) fun ov s₁ st₁ R₁ A₁ h₁ => (h₁ ov rfl).then R₁ A₁ fun old s₂ st₂ R₂ A₂ h₂ => h₂.then R₂ A₂ fun v s₃ st₃ R₃ A₃ h₃ =>
    (h₃ old v rfl rfl).then R₃ A₃ fun new s₄ st₄ R₄ A₄ h₄ => (h₄ new rfl).then R₄ A₄ fun _ s₅ st₅ R₅ A₅ q => ⟨st₅, R₅, A₅, q⟩)
theorem T_assign2 {t₁ t₂ value : Expr} {pos : Pos} {Q : Flow → St → Prop} (he : (assignEach [t₁, t₂] F.env).map (·.2) = [assign t₁ F.env, assign t₂ F.env]) (hw : swappedStores [t₁, t₂] value F.env = pure none)
    (h : T prog w F (eval value F.env) (fun v st₁ => ∀ v', er v' = v → T prog w F (assign t₁ F.env v') (fun _ st₂ => T prog w F (assign t₂ F.env v') (fun _ => Q .next) X st₂) X st₁) X st) :
    T prog w F (exec (.Assign [t₁, t₂] value pos) F.env) Q X st := fun s R =>
  wpAny_Assign_two (h.then R (.refl _ _ _ _) fun v s₁ st₁ R₁ A₁ h₁ => (h₁ v rfl).then R₁ A₁ fun _ s₂ st₂ R₂ A₂ h₂ => h₂.then R₂ A₂ fun _ s₃ st₃ R₃ A₃ q => ⟨st₃, R₃, A₃, q⟩) he hw
theorem T_assign1 {t value : Expr} {pos : Pos} {Q : Flow → St → Prop} (hs : swapsWithSole [t] value pos.line F.env = pure false) (hw : swappedStores [t] value F.env = pure none)
    (he : (assignEach [t] F.env).map (·.2) = [assign t F.env])
    (h : T prog w F (eval value F.env) (fun v st₁ => ∀ v', er v' = v → T prog w F (assign t F.env v') (fun _ => Q .next) X st₁) X st) :
    T prog w F (exec (.Assign [t] value pos) F.env) Q X st := fun s R =>
  wpAny_Assign_stores (h.then R (.refl _ _ _ _) fun v s₁ st₁ R₁ A₁ h₁ => by
    rw [he]
    exact (h₁ v rfl).then R₁ A₁ fun _ s₂ st₂ R₂ A₂ q => ⟨st₂, R₂, A₂, q⟩) hs hw
theorem T_tName {x : Str} {p : Pos} {v : Value} {Q : Unit → St → Prop} (h : T prog w F (storeName F.env x v) Q X st) : T prog w F (assign (.Name x p) F.env v) Q X st := fun s R => wpAny_assign_Name (h s R)
theorem T_tSub {o i : Expr} {p : Pos} {v : Value} {Q : Unit → St → Prop}
    (h : T prog w F (eval o F.env) (fun ov st₂ => T prog w F (eval i F.env) (fun iv st₃ => ∀ ov' iv', er ov' = ov → er iv' = iv → T prog w F (setItem ov' iv' v) Q X st₃) X st₂) X st) :
    T prog w F (assign (.Subscript o i p) F.env v) Q X st := fun s R => by
  rw [assign_Subscript]
  exact wpAny_bind (wpAny_holding (h.then R (.refl _ _ _ _) fun ov s₂ st₂ R₂ A₂ h₂ => wpAny_bind (wpAny_holding (h₂.then R₂ A₂ fun iv s₃ st₃ R₃ A₃ h₃ => wpAny_bind (wpAny_standAt (wpAny_bind (wpAny_holding
    ((h₃ ov iv rfl rfl).then R₃ A₃ fun _ s₄ st₄ R₄ A₄ q => wpAny_release ⟨st₄, R₄, A₄, q⟩))))))))
theorem T_tTuple {elts : List Expr} {k : Nat} {p : Pos} {t : Addr} {xs : List Value} {Q : Unit → St → Prop} (hh : F.A.handled = none) (ht : st.H t = some (.tup xs))
    (hn : (assignEach elts F.env).length = xs.length) (hstar : (assignEach elts F.env).findIdx? (·.1) = none)
    (h : ∀ vs, vs.map er = xs → T prog w F (assignInOrder ((assignEach elts F.env).map (·.2)) vs) Q X st) : T prog w F (assign (.Tuple elts k p) F.env (.ref t)) Q X st := fun s R => by
  obtain ⟨items, hi, he⟩ := tup_at R.1 ht
  refine wpAny_assign_Tuple hh hi (by rw [hn, ← he]; simp) hstar fun h' hx => ?_
  have hk : ∀ b o, s.heap.get? b = some o → h'.get? b = some o := fun b o e => hx b o (Nat.ne_of_lt (Heap.lt_size e)) e
  exact (h items.toList he).then (R.grow (s' := { s with heap := h' }) hk rfl rfl) (.grow _ _ hk) fun _ s₄ st₄ R₄ A₄ q => ⟨st₄, R₄, A₄, q⟩
theorem T_order0 {Q : Unit → St → Prop} (h : Q () st) : T prog w F (assignInOrder [] []) Q X st := fun s R => wpAny_pure ⟨st, R, .refl _ _ _ _, h⟩
theorem T_order {t : Value → Sem Unit} {ts : List (Value → Sem Unit)} {x : Value} {xs : List Value} {Q : Unit → St → Prop}
    (h : T prog w F (t x) (fun _ st₁ => T prog w F (assignInOrder ts xs) Q X st₁) X st) : T prog w F (assignInOrder (t :: ts) (x :: xs)) Q X st := fun s R =>
  wpAny_assignInOrder_more (h.then R (.refl _ _ _ _) fun _ s₁ st₁ R₁ A₁ h₁ => h₁.then R₁ A₁ fun _ s₂ st₂ R₂ A₂ q => ⟨st₂, R₂, A₂, q⟩)
theorem T_if {test : Expr} {body orelse : List Stmt} {pos : Pos} {Q : Flow → St → Prop}
    (h : T prog w F (isTrue test F.env (eval test F.env)) (fun b st' => if b then T prog w F (execs body F.env) Q X st' else T prog w F (execs orelse F.env) Q X st') X st) :
    T prog w F (exec (.If test body orelse pos) F.env) Q X st := fun s R =>
  wpAny_If (h.then R (.refl _ _ _ _) fun b s' st' R' A' q => by
    have q : if b = true then _ else _ := q
    cases b
    · exact T.then q R' A' fun _ s₂ st₂ R₂ A₂ q => ⟨st₂, R₂, A₂, q⟩
    · exact T.then q R' A' fun _ s₂ st₂ R₂ A₂ q => ⟨st₂, R₂, A₂, q⟩)
theorem T_ifExp {test a b : Expr} {pos : Pos} {Q : Value → St → Prop}
    (h : T prog w F (isTrue test F.env (eval test F.env)) (fun c st' => if c then T prog w F (eval a F.env) Q X st' else T prog w F (eval b F.env) Q X st') X st) :
    T prog w F (eval (.IfExp test a b pos) F.env) Q X st := fun s R =>
  wpAny_IfExp (h.then R (.refl _ _ _ _) fun b s' st' R' A' q => by
    have q : if b = true then _ else _ := q
    cases b
    · exact T.then q R' A' fun _ s₂ st₂ R₂ A₂ q => ⟨st₂, R₂, A₂, q⟩
    · exact T.then q R' A' fun _ s₂ st₂ R₂ A₂ q => ⟨st₂, R₂, A₂, q⟩)
theorem T_isCmp {l r : Expr} {op : CmpOp} {pos : Pos} {whole : Sem Value} {Q : Bool → St → Prop} (hm : behindInMarks op r = false)
    (h : T prog w F (eval l F.env) (fun a st₁ => T prog w F (eval r F.env) (fun b st₂ => ∀ a' b', er a' = a → er b' = b → T prog w F (compareOp op a' b') (fun c st₃ => ∃ t, c = .bool t ∧ Q t st₃) X st₂) X st₁) X st) :
    T prog w F (isTrue (.Compare l [op] [r] pos) F.env whole) Q X st := fun s R =>
  wpAny_isTrue_Compare1 (h.then R (.refl _ _ _ _) fun a s₁ st₁ R₁ A₁ h₁ => h₁.then R₁ A₁ fun b s₂ st₂ R₂ A₂ h₂ => (h₂ a b rfl rfl).then R₂ A₂ fun c s₃ st₃ R₃ A₃ ⟨t, e, q⟩ => by
    rw [er_bool e]
    exact wpAny_truthy_bool ⟨st₃, R₃, A₃, q⟩) hm
theorem T_cmp {l r : Expr} {op : CmpOp} {pos : Pos} {Q : Value → St → Prop} (hm : behindInMarks op r = false)
    (h : T prog w F (eval l F.env) (fun a st₁ => T prog w F (eval r F.env) (fun b st₂ => ∀ a' b', er a' = a → er b' = b → T prog w F (compareOp op a' b') Q X st₂) X st₁) X st) :
    T prog w F (eval (.Compare l [op] [r] pos) F.env) Q X st := fun s R =>
  wpAny_Compare1 (h.then R (.refl _ _ _ _) fun a s₁ st₁ R₁ A₁ h₁ => h₁.then R₁ A₁ fun b s₂ st₂ R₂ A₂ h₂ => (h₂ a b rfl rfl).then R₂ A₂ fun c s₃ st₃ R₃ A₃ q => ⟨st₃, R₃, A₃, q⟩) hm
theorem T_isNot {x : Expr} {pos : Pos} {whole : Sem Value} {Q : Bool → St → Prop} (h : T prog w F (isTrue x F.env (eval x F.env)) (fun b => Q (!b)) X st) : T prog w F (isTrue (.UnaryOp .Not x pos) F.env whole) Q X st := fun s R =>
  wpAny_isTrue_Not (h.then R (.refl _ _ _ _) fun b s₁ st₁ R₁ A₁ q => ⟨st₁, R₁, A₁, q⟩)
theorem T_isOr {vs : List Expr} {pos : Pos} {whole : Sem Value} {Q : Bool → St → Prop} (h : T prog w F (allTrue .Or vs F.env) Q X st) : T prog w F (isTrue (.BoolOp .Or vs pos) F.env whole) Q X st := fun s R => wpAny_isTrue_BoolOp (h s R)
theorem T_or0 {Q : Bool → St → Prop} (h : Q false st) : T prog w F (allTrue .Or [] F.env) Q X st := fun s R => wpAny_allTrue_Or_nil ⟨st, R, .refl _ _ _ _, h⟩
theorem T_or1 {x : Expr} {r : List Expr} {Q : Bool → St → Prop} (h : T prog w F (isTrue x F.env (eval x F.env)) (fun b st' => if b then Q true st' else T prog w F (allTrue .Or r F.env) Q X st') X st) : T prog w F (allTrue .Or (x :: r) F.env) Q X st := fun s R =>
  wpAny_allTrue_Or_cons (h.then R (.refl _ _ _ _) fun b s' st' R' A' q => by
    have q : if b = true then _ else _ := q
    cases b
    · exact T.then q R' A' fun _ s₂ st₂ R₂ A₂ q => ⟨st₂, R₂, A₂, q⟩
    · exact ⟨st', R', A', q⟩)
theorem T_isVal {e : Expr} {whole : Sem Value} {Q : Bool → St → Prop} (he : isTrue e F.env whole = (do let v ← whole; standAt e.pos; holding [v] (truthy v)))
    (h : T prog w F whole (fun v st' => ∀ v', er v' = v → T prog w F (truthy v') Q X st') X st) : T prog w F (isTrue e F.env whole) Q X st := fun s R =>
  wpAny_isTrue_value (h.then R (.refl _ _ _ _) fun v s₁ st₁ R₁ A₁ h₁ => (h₁ v rfl).then R₁ A₁ fun _ s₂ st₂ R₂ A₂ q => ⟨st₂, R₂, A₂, q⟩) he
theorem T_binop {l r : Expr} {op : Operator} {pos : Pos} {Q : Value → St → Prop}
    (h : T prog w F (eval l F.env) (fun a st₁ => T prog w F (eval r F.env) (fun b st₂ => ∀ a' b', er a' = a → er b' = b → T prog w F (binaryOp op a' b') Q X st₂) X st₁) X st) :
    T prog w F (eval (.BinOp l op r pos) F.env) Q X st := fun s R =>
  wpAny_BinOp (h.then R (.refl _ _ _ _) fun a s₁ st₁ R₁ A₁ h₁ => h₁.then R₁ A₁ fun b s₂ st₂ R₂ A₂ h₂ => (h₂ a b rfl rfl).then R₂ A₂ fun c s₃ st₃ R₃ A₃ q => ⟨st₃, R₃, A₃, q⟩)
theorem T_unop {x : Expr} {op : UnaryOp} {pos : Pos} {Q : Value → St → Prop} (h : T prog w F (eval x F.env) (fun a st₁ => ∀ a', er a' = a → T prog w F (unaryOp op a') Q X st₁) X st) :
    T prog w F (eval (.UnaryOp op x pos) F.env) Q X st := fun s R =>
  wpAny_UnaryOp (h.then R (.refl _ _ _ _) fun a s₁ st₁ R₁ A₁ h₁ => (h₁ a rfl).then R₁ A₁ fun c s₃ st₃ R₃ A₃ q => ⟨st₃, R₃, A₃, q⟩)
theorem T_walrus {t value : Expr} {pos : Pos} {Q : Value → St → Prop} (h : T prog w F (eval value F.env) (fun v st₁ => ∀ v', er v' = v → T prog w F (assign t F.env v') (fun _ => Q v) X st₁) X st) :
    T prog w F (eval (.NamedExpr t value pos) F.env) Q X st := fun s R =>
  wpAny_NamedExpr (h.then R (.refl _ _ _ _) fun v s₁ st₁ R₁ A₁ h₁ => (h₁ v rfl).then R₁ A₁ fun _ s₃ st₃ R₃ A₃ q => ⟨st₃, R₃, A₃, q⟩)
theorem T_for {target iter : Expr} {body orelse : List Stmt} {pos : Pos} {Q : Flow → St → Prop} {outer : List Env} {L : Addr} (U : Runs F outer L) (hh : F.A.handled = none) (N : NoSys F.toFc)
    (hs : ∀ x, foldedSetIterable iter F.env x = pure x) (ht : ∀ v, letOwnedTupleGo target v = fun _ => pure ())
    (h : T prog w F (eval iter F.env) (fun v st₁ => ∃ xs k, ∃ I : Nat → St → Prop, Src st₁ v xs k ∧ I 0 st₁ ∧ (∀ i st', I i st' → Src st' v xs k) ∧
      (∀ i x st' x', xs[i]? = some x → I i st' → er x' = x → T prog w F (assign target F.env x') (fun _ st₂ => T prog w F (execs body F.env) (fun f st₃ => match f with
        | .next => I (i + 1) st₃ | .cont => I (i + 1) st₃ | .brk => Q .next st₃ | .ret v => Q (.ret v) st₃) X st₂) X st') ∧
      (∀ st', I xs.length st' → T prog w F (execs orelse F.env) Q X st')) X st) :
    T prog w F (exec (.For target iter body orelse pos) F.env) Q X st := by
  intro s R
  refine wpAny_For (h.then R (.refl _ _ _ _) fun v s₁ st₁ R₁ A₁ hv => ?_) hs
  refine ex3and5 hv fun xs k I hsrc hI0 hIs hstep hend => ?_; try clear hv
  have hsame := hsrc.same
  have hsrc' : Src st₁ v xs k := hsame ▸ hsrc
  refine pyIter_src R₁ hsrc' N fun o₀ hito hfr => ?_
  have hia0 := Heap.get?_push_size s₁.heap hfr
  have grow : ∀ b ob, s₁.heap.get? b = some ob → (s₁.heap.push o₀).get? b = some ob := fun b ob e => Heap.get?_push_of_some _ e
  have hfresh1 : s₁.heap.get? s₁.heap.objs.size = none := Heap.get?_none_of_le (Nat.le_refl _)
  have hfresh : s.heap.get? s₁.heap.objs.size = none := by
    cases q : s.heap.get? s₁.heap.objs.size with
    | none => rfl
    | some ob => exact absurd hfresh1 (A₁.alive _ (by rw [q]; exact nofun))
  have hB : F.base.get? s₁.heap.objs.size = none := by
    cases q : F.base.get? s₁.heap.objs.size with
    | none => rfl
    | some ob => rw [R₁.1.stays _ _ q] at hfresh1; cases hfresh1
  generalize hiaE : s₁.heap.objs.size = ia at *
  refine ex0and5 (R₁.apart hfresh1) fun _ hiaF _ _ hown => ?_
  refine codeAny_forLoop (fun n s' => ∃ i st' o, n = xs.length - i ∧ i ≤ xs.length ∧ I i st' ∧ Rel prog w F st' s' ∧ After (frAddrs F.stk) F.own st.H s st'.H s' ∧ s'.heap.get? ia = some o ∧ ItO v xs i k o ∧ st'.H ia = none) ?_ xs.length
    ⟨0, st₁, o₀, by omega, Nat.zero_le _, hI0, R₁.grow (s' := { s₁ with heap := s₁.heap.push o₀ }) grow rfl rfl, A₁.trans (.grow _ _ grow), hia0, hito, R₁.1.none_of hfresh1⟩ (fun v' => congrFun (ht _) v')
  rintro n s' hx0_; refine ex3and8 hx0_ fun i st' o y3_ hile hI R' A' hia hit hH => ?_; try clear hx0_; obtain rfl := y3_
  have hsi : Src st' v xs k := hsame ▸ hIs i st' hI
  have hfl := hit.fields
  cases hx : xs[i]? with
  | none =>
    have hi : i = xs.length := by have := List.getElem?_eq_none_iff.mp hx; omega
    subst hi
    refine next_done hh R' hsi hia hit hx hile fun h' hext => ?_
    have R2 := R'.hid (s' := { s' with heap := h' }) hia hH hB hext rfl rfl hfl
    have A2 := After.hid (s' := { s' with heap := h' }) A' hfresh hext
    exact wpAny_mono ((hend st' hI).then R2 A2 fun f s₃ st₃ R₃ A₃ q => ⟨st₃, R₃, A₃, q⟩) (fun _ _ z => z) fun e s₃ x => XPost.cameBack U x
  | some x =>
    have hi : i < xs.length := (List.getElem?_eq_some_iff.mp hx).1
    refine next_item R' hsi hia hit hx fun x' h' o' tk hx' hia' hit' hsb => ?_
    have R2 := R'.hid (s' := { s' with heap := h', toks := tk }) hia hH hB hsb.extBut rfl rfl hfl
    have A2 := After.hid (s' := { s' with heap := h', toks := tk }) A' hfresh hsb.extBut
    refine wpAny_mono ((hstep i x st' x' hx hI hx').then R2 (.refl _ F.own _ _) fun _ s₃ st₃ R₃ A₃ hb => ?_) (fun _ _ z => z) fun e s₃ x => XPost.cameBack U (x.older A2)
    refine wpAny_mono (T.then hb R₃ A₃ fun f s₄ st₄ R₄ A₄ q => ?_) (fun _ _ z => z) fun e s₃ x => XPost.cameBack U (x.older A2)
    have A5 := A2.trans A₄
    have inv : I (i + 1) st₄ → ∃ m, m < xs.length - i ∧ ∃ i st' o, m = xs.length - i ∧ i ≤ xs.length ∧ I i st' ∧ Rel prog w F st' s₄ ∧ After (frAddrs F.stk) F.own st.H s st'.H s₄ ∧ s₄.heap.get? ia = some o ∧ ItO v xs i k o ∧ st'.H ia = none := fun hI4 => by
      obtain ⟨sl, e1, c1⟩ := A₄.keep ia o' hia' hH hown
      have hsl := c1 hiaF
      refine ⟨xs.length - (i + 1), om4 (by assumption), i + 1, st₄, o', rfl, by assumption, hI4, R₄, A5, ?_, hit', ?_⟩
      · rw [e1, hsl]
      · cases q : st₄.H ia with
        | none => rfl
        | some z =>
          rcases A₄.dom ia (by rw [q]; exact nofun) with h | h
          · exact absurd hH h
          · rw [show ({ s' with heap := h', toks := tk } : Shared).heap.get? ia = some o' from hia'] at h; cases h
    cases f with
    | next => exact inv q
    | cont => exact inv q
    | brk => exact ⟨st₄, R₄, A5, q⟩
    | ret v => exact ⟨st₄, R₄, A5, q⟩
theorem T_while {test : Expr} {body orelse : List Stmt} {pos : Pos} {Q : Flow → St → Prop} {outer : List Env} {L : Addr} (U : Runs F outer L) (I : Nat → St → Prop) (n : Nat) (h0 : I n st)
    (hstep : ∀ n st', I n st' → T prog w F (isTrue test F.env (eval test F.env)) (fun b st₂ => if b then T prog w F (execs body F.env) (fun f st₃ => match f with
        | .next => ∃ m, m < n ∧ I m st₃ | .cont => ∃ m, m < n ∧ I m st₃ | .brk => Q .next st₃ | .ret v => Q (.ret v) st₃) X st₂ else T prog w F (execs orelse F.env) Q X st₂) X st') :
    T prog w F (exec (.While test body orelse pos) F.env) Q X st := by
  intro s R
  refine wpAny_While (codeAny_whileLoop (fun n s' => ∃ st', I n st' ∧ Rel prog w F st' s' ∧ After (frAddrs F.stk) F.own st.H s st'.H s') ?_ n ⟨st, h0, R, .refl _ _ _ _⟩)
  rintro n s' ⟨st', hI, R', A'⟩
  refine wpAny_mono ((hstep n st' hI).then R' A' fun b s₂ st₂ R₂ A₂ hb => ?_) (fun _ _ z => z) fun e s₃ x => XPost.cameBack U x
  have hb : if b = true then _ else _ := hb
  cases b
  · rw [if_neg (by decide)] at hb
    refine wpAny_mono (T.then hb R₂ A₂ fun f s₄ st₄ R₄ A₄ q => ?_) (fun _ _ z => z) fun e s₃ x => XPost.cameBack U x
    exact ⟨st₄, R₄, A₄, q⟩
  · rw [if_pos rfl] at hb
    refine wpAny_mono (T.then hb R₂ A₂ fun f s₄ st₄ R₄ A₄ q => ?_) (fun _ _ z => z) fun e s₃ x => XPost.cameBack U x
    cases f with
    | next => obtain ⟨m, hm, hI⟩ := q; exact ⟨m, hm, st₄, hI, R₄, A₄⟩
    | cont => obtain ⟨m, hm, hI⟩ := q; exact ⟨m, hm, st₄, hI, R₄, A₄⟩
    | brk => exact ⟨st₄, R₄, A₄, q⟩
    | ret v => exact ⟨st₄, R₄, A₄, q⟩
end
end Mine
end
section
set_option maxRecDepth 100000
set_option Elab.async false
set_option linter.unusedVariables false
namespace Mine
open PySem PySem.W PySem.Calls PyProof.Rows
section
variable {prog : Program} {w : World} {F : Fx} {st : St} {s s' s₀ : Shared} {H₀ H H' : AHeap} {X : Value → List Value → St → Prop}
theorem KeepAt.ns {h h' : Heap} {a : Addr} {m : Str → Option Value} (hn : h.Ns a m) (k : ∀ o, h.get? a = some o → KeepAt fr o h' a) : h'.Ns a m := by
  refine ex3and3 hn fun o es ep ho hd r => ?_; try clear hn
  obtain ⟨sl, e, _⟩ := k o ho
  exact ⟨_, es, ep, e, hd, r⟩
theorem KeepAt.cell {h h' : Heap} {a : Addr} {v : Option Value} (hn : h.IsCell a v) (k : ∀ o, h.get? a = some o → KeepAt fr o h' a) : h'.IsCell a v := by
  obtain ⟨o, ho, hd⟩ := hn
  obtain ⟨sl, e, _⟩ := k o ho
  exact ⟨_, e, hd⟩
theorem VRel.back {fr own' : List Addr} (V : VRel F st s) (A : After fr own' st.H s H' s') (hL : F.env.locals ∉ own') (hc : ∀ x c, F.env.cells.lookup x = some c → c ∉ own') (ho : ∀ a ∈ F.own, a ∉ own') : VRel F ⟨st.vars, H'⟩ s' := by
  obtain ⟨⟨m, hm, hl⟩, hcel, h3, h4, h5, h6, h7⟩ := V
  have hn : ∀ b ob, s.heap.get? b = some ob → st.H b = none → H' b = none := fun b ob e h => by
    cases q : H' b with
    | none => rfl
    | some z =>
      rcases A.dom b (by rw [q]; exact nofun) with h' | h'
      · exact absurd h h'
      · rw [e] at h'; cases h'
  refine ex3and2 (id hm) fun oL esL epL hoL rL => ?_
  refine ⟨⟨m, KeepAt.ns hm fun o e => A.keep _ o e h3 hL, hl⟩, fun x v e k => ?_, hn _ _ hoL h3, h4, fun x c e => ?_, h6, fun a ha => ?_⟩
  · refine ex2and3 (hcel x v e k) fun c u a b r => ?_
    exact exi2 c u ⟨a, KeepAt.cell b fun o e => A.keep _ o e (h5 x c a).1 (hc x c a), r⟩
  · refine ex0and4 (h5 x c e) fun a1 b1 d1 y3_ => ?_; obtain ⟨v, hv⟩ := y3_
    obtain ⟨oc, hoc, hdc⟩ := id hv
    exact ⟨hn _ _ hoc a1, b1, d1, v, KeepAt.cell hv fun o e' => A.keep _ o e' a1 (hc x c e)⟩
  · obtain ⟨a1, ob, eb, r⟩ := h7 a ha
    obtain ⟨sl, e, _⟩ := A.keep a ob eb a1 (ho a ha)
    exact ⟨hn _ _ eb a1, _, e, r⟩
theorem After.inner {fr own own' : List Addr} (A : After fr own H₀ s₀ H s) (B : After fr own' H s H' s') (hf : ∀ b ∈ own', s₀.heap.get? b = none) : After fr own H₀ s₀ H' s' where
  keep b o e hn ho := by
    obtain ⟨sl, e1, c1⟩ := A.keep b o e hn ho
    have hn1 : H b = none := by
      cases q : H b with
      | none => rfl
      | some z =>
        rcases A.dom b (by rw [q]; exact nofun) with h | h
        · exact absurd hn h
        · rw [e] at h; cases h
    obtain ⟨sl2, e2, c2⟩ := B.keep b _ e1 hn1 (fun hm => by rw [hf b hm] at e; cases e)
    exact ⟨sl2, e2, fun hc => (c2 hc).trans (c1 hc)⟩
  alive b e := B.alive b (A.alive b e)
  dom b e := by
    rcases B.dom b e with h | h
    · exact A.dom b h
    · refine .inr ?_
      cases q : s₀.heap.get? b with
      | none => rfl
      | some z => exact absurd h (A.alive b (by rw [q]; exact nofun))
theorem Rel.quiet (R : Rel prog w F st s) {C : Addr} {h' : Heap} (hH : st.H C = none) (hB : F.base.get? C = none) (hs : Heap.SameBut C s.heap h') (hfr : C ∉ frAddrs F.stk) (hL : F.env.locals ≠ C)
    (hce : ∀ x c, F.env.cells.lookup x = some c → c ≠ C) (ho : C ∉ F.own) : Rel prog w F st { s with heap := h' } := by
  have neH : ∀ b, st.H b ≠ none → b ≠ C := fun b e q => by rw [q, hH] at e; exact e rfl
  have hB' : ∀ b ob, F.base.get? b = some ob → b ≠ C := fun b ob e q => by rw [q, hB] at e; cases e
  obtain ⟨R1, ⟨⟨m, hm, hl⟩, hcel, h3, h4, h5, h6, h7⟩⟩ := R
  have frq : ∀ l, (∀ env ∈ l, env.frame ≠ some C) → s.heap.FunFrames F.base l → Heap.FunFrames h' F.base l := by
    intro l
    induction l with
    | nil => intros; trivial
    | cons env rest ih =>
      rintro hcl ⟨z1, ⟨L, o, z2, z3, z4, z5⟩, z6⟩
      have : L ≠ C := fun q => hcl env List.mem_cons_self (q ▸ z2)
      exact ⟨z1, ⟨L, o, z2, z3, (hs.2 _ this).trans z4, z5⟩, ih (fun e he => hcl e (List.mem_cons_of_mem _ he)) z6⟩
  refine ⟨⟨fun b o e => (hs.2 b (hB' b o e)).trans (R1.stays b o e), fun a o e => ?_, R1.notBase, frq _ (fun env he q => hfr (List.mem_filterMap.mpr ⟨env, he, q⟩)) R1.frames, fun env he L hL => ?_, R1.gens, R1.os⟩, ⟨⟨m, hm.sameBut hs hL, hl⟩, fun x v e k => ?_, h3, h4, fun x c e => ?_, h6, fun a ha => ?_⟩⟩
  · obtain ⟨o', e', r⟩ := R1.cells a o e
    exact ⟨o', (hs.2 a (neH a (by rw [e]; exact nofun))).trans e', r⟩
  · refine ex0and2 (R1.frCls env he L hL) fun z1 y1_ => ?_; obtain ⟨o, es, n, z2, z3⟩ := y1_
    exact ⟨z1, exi3 o es n ⟨(hs.2 _ (fun q => hfr (List.mem_filterMap.mpr ⟨env, he, q ▸ hL⟩))).trans z2, z3⟩⟩
  · refine ex2and3 (hcel x v e k) fun c u a y3_ r => ?_; obtain ⟨o, b, d⟩ := y3_
    exact exi2 c u ⟨a, ⟨o, (hs.2 _ (hce x c a)).trans b, d⟩, r⟩
  · refine ex0and4 (h5 x c e) fun a1 b1 d1 y3_ => ?_; obtain ⟨v, o, b, d⟩ := y3_
    exact ⟨a1, b1, d1, v, o, (hs.2 _ (hce x c e)).trans b, d⟩
  · obtain ⟨a1, ob, eb, r⟩ := h7 a ha
    exact ⟨a1, ob, (hs.2 _ (fun q => ho (q ▸ ha))).trans eb, r⟩
theorem Rel.aside {st₀ : St} (R₀ : Rel prog w F st₀ s₀) (R : Rel prog w F st s) {C : Addr} {h' : Heap} (hC : s₀.heap.get? C = none) (hH : st.H C = none) (hs : Heap.SameBut C s.heap h') : Rel prog w F st { s with heap := h' } :=
  let ⟨a, b, c, d, e⟩ := R₀.apart hC
  R.quiet hH a hs b c d e
theorem After.aside {fr own : List Addr} (A : After fr own H₀ s₀ H s) {C : Addr} {h' : Heap} (hC : s₀.heap.get? C = none) (hs : Heap.SameBut C s.heap h') : After fr own H₀ s₀ H { s with heap := h' } where
  keep b o e hn ho := by
    obtain ⟨sl, e1, c1⟩ := A.keep b o e hn ho
    exact ⟨sl, (hs.2 b (fun q => by rw [q, hC] at e; cases e)).trans e1, c1⟩
  alive b e := by
    show h'.get? b ≠ none
    rw [hs.2 b (fun q => e (q ▸ hC))]
    exact A.alive b e
  dom := A.dom
noncomputable def Clos (env : Env) : List (Str × Addr) → Prop
  | [] => True
  | p :: r => env.cells.lookup p.1 = some p.2 ∧ Clos env r
theorem Clos.at {env : Env} : ∀ {cl : List (Str × Addr)}, Clos env cl → ∀ x c, cl.lookup x = some c → env.cells.lookup x = some c := by
  intro cl
  induction cl with
  | nil => intro _ x c e; cases e
  | cons p r ih =>
    rintro ⟨h1, h2⟩ x c e
    obtain ⟨y, d⟩ := p
    by_cases q : x = y
    · subst q; simp only [List.lookup, beq_self_eq_true] at e; cases e; exact h1
    · have : (x == y) = false := by simpa using q
      simp only [List.lookup, this] at e
      exact ih h2 x c e
noncomputable abbrev cfx (F : Fx) (scope : Scope) (cl : List (Str × Addr)) (C : Addr) : Fx := { F with env := compEnvC scope cl C F.env, own := [C] }
noncomputable def Cap (vars : List (Str × Value)) (env : Env) (scope : Scope) (cl : List (Str × Addr)) : List (Str × Value) → Prop
  | [] => True
  | (x, v) :: r => (vars.lookup x = some v ∧ env.kindOf x = some .cell ∧ (relabel scope env).names.lookup x = some .cell ∧ cl.lookup x = env.cells.lookup x) ∧ Cap vars env scope cl r
theorem Cap.at {vars : List (Str × Value)} {env : Env} {scope : Scope} {cl : List (Str × Addr)} : ∀ {cv : List (Str × Value)}, Cap vars env scope cl cv → ∀ x v, cv.lookup x = some v →
    vars.lookup x = some v ∧ env.kindOf x = some .cell ∧ (relabel scope env).names.lookup x = some .cell ∧ cl.lookup x = env.cells.lookup x := by
  intro cv
  induction cv with
  | nil => intro _ x v e; cases e
  | cons p r ih =>
    obtain ⟨y, u⟩ := p
    intro h x v e
    have h1 := h.1
    have h2 := h.2
    clear h
    by_cases q : x = y
    · subst q; simp only [List.lookup, beq_self_eq_true] at e; cases e; exact h1
    · have : (x == y) = false := by simpa using q
      simp only [List.lookup, this] at e
      exact ih h2 x v e
theorem comp_enter {scope : Scope} {cl : List (Str × Addr)} {cv : List (Str × Value)} {C : Addr} {h' : Heap} (R : Rel prog w F st s) (hcl : Clos F.env cl) (hcv : Cap st.vars F.env scope cl cv)
    (hC : s.heap.get? C = none) (hkeep : ∀ b o, s.heap.get? b = some o → h'.get? b = some o) (hns : h'.Ns C fun _ => none) {tk : Nat} : Rel prog w (cfx F scope cl C) ⟨cv, st.H⟩ { s with heap := h', toks := tk } := by
  have R' := R.grow (s' := { s with heap := h', toks := tk }) hkeep rfl rfl
  refine ⟨R'.1, ⟨⟨_, hns, fun x v e k => ?_⟩, fun x v e k => ?_, R.1.none_of hC, ?_, fun x c e => ?_, fun x y c e1 e2 => ?_, fun a ha => ?_⟩⟩
  · have := (hcv.at x v e).2.2.1
    have k' : (relabel scope F.env).names.lookup x = some .local := k
    rw [this] at k'; cases k'
  · obtain ⟨a1, a2, a3, a4⟩ := hcv.at x v e
    refine ex2and3 (R'.2.cel x v a1 a2) fun c u b1 b2 b3 => ?_
    exact exi2 c u ⟨by show cl.lookup x = _; rw [a4]; exact b1, b2, b3⟩
  · cases q : F.base.get? C with
    | none => exact q
    | some o => rw [R.1.stays C o q] at hC; cases hC
  · have e' := hcl.at x c e
    obtain ⟨z1, z2, z3, z4⟩ := R'.2.celO x c e'
    refine ex0and4 (R.2.celO x c e') fun _ _ _ y3_ => ?_; obtain ⟨_, oc, eoc, _⟩ := y3_
    exact ⟨z1, (fun q => by have q : c = C := q; rw [q, hC] at eoc; cases eoc), z3, z4⟩
  · exact R.2.inj x y c (hcl.at x c e1) (hcl.at y c e2)
  · obtain rfl := List.mem_singleton.mp ha
    refine ex3and3 hns fun o es ep ho hd _ => ?_; try clear hns
    exact ⟨R.1.none_of hC, o, ho, fun vs q => by rw [hd] at q; cases q⟩
noncomputable abbrev NoX : Value → List Value → St → Prop := fun _ _ _ => False
theorem noXp {e : Value} {H₀ : AHeap} {E : Prop} (x : XPost prog w F NoX H₀ s₀ e s') : E := by
  refine ex5and6 x fun _ _ _ _ _ _ _ _ _ _ h => ?_; try clear x
  exact False.elim h
theorem T.thenN {α : Type} [Er α] {t : Sem α} {Q : α → St → Prop} {Q' : α → Shared → Prop} {E : Value → Shared → Prop} (h : T prog w F t Q NoX st) (R : Rel prog w F st s) (A : After (frAddrs F.stk) F.own H₀ s₀ st.H s)
    (k : ∀ v s' st', Rel prog w F st' s' → After (frAddrs F.stk) F.own H₀ s₀ st'.H s' → Q (Er.e v) st' → Q' v s') : wpAny (model prog w) F.A t Q' E s :=
  wpAny_mono (h.then R A k) (fun _ _ z => z) fun _ _ x => noXp x
noncomputable def tests (ifs : List Expr) (env : Env) : Sem Bool := forIn ifs true fun c r => if r = true then do let ok ← isTrue c env (eval c env); pure (ForInStep.yield ok) else pure (ForInStep.yield r)
theorem T_tests0 {Q : Bool → St → Prop} (h : Q true st) : T prog w F (tests [] F.env) Q X st := fun s R => wpAny_tests_nil ⟨st, R, .refl _ _ _ _, h⟩
theorem T_tests1 {c : Expr} {Q : Bool → St → Prop} (h : T prog w F (isTrue c F.env (eval c F.env)) Q X st) : T prog w F (tests [c] F.env) Q X st := fun s R => wpAny_tests_one (h s R)
theorem Rel.claim {st₁ : St} {s₁ : Shared} (R₁ : Rel prog w F st₁ s₁) (R : Rel prog w F st s) {D : Addr} {ao : AO} {o : Obj} (hD : s₁.heap.get? D = none) (hDx : s.heap.get? D = some o) (hr : RepO prog w ao o) : Rel prog w F ⟨st.vars, upd st.H D ao⟩ s := by
  have hne : ∀ b ob, s₁.heap.get? b = some ob → b ≠ D := fun b ob e q => by rw [q, hD] at e; cases e
  have hu : ∀ b ob, s₁.heap.get? b = some ob → st.H b = none → upd st.H D ao b = none := fun b ob e h => by unfold upd; rw [if_neg (hne _ _ e)]; exact h
  refine ⟨⟨R.1.stays, fun a oa e => ?_, fun a e => ?_, R.1.frames, fun env he L hL => ?_, R.1.gens, R.1.os⟩, ?_⟩
  · have e : upd st.H D ao a = some oa := e
    unfold upd at e
    by_cases q : a = D
    · subst q; rw [if_pos rfl] at e; cases e; exact ⟨_, hDx, hr⟩
    · rw [if_neg q] at e; exact R.1.cells a oa e
  · have e : upd st.H D ao a ≠ none := e
    unfold upd at e
    by_cases q : a = D
    · subst q
      cases q2 : F.base.get? a with
      | none => rfl
      | some ob => rw [R₁.1.stays _ _ q2] at hD; cases hD
    · rw [if_neg q] at e; exact R.1.notBase a e
  · obtain ⟨f1, f2⟩ := R.1.frCls env he L hL
    refine ex0and2 (R₁.1.frCls env he L hL) fun _ y1_ => ?_; obtain ⟨oL, es, n, eL, _⟩ := y1_
    exact ⟨hu _ _ eL f1, f2⟩
  · obtain ⟨v1, v2, v3, v4, v5, v6, v7⟩ := R.2
    obtain ⟨m0, ⟨oL, _, _, eL, _⟩, _⟩ := R₁.2.loc
    refine ⟨v1, v2, hu _ _ eL v3, v4, fun y c e => ?_, v6, fun a ha => ?_⟩
    · obtain ⟨q1, q2⟩ := v5 y c e
      refine ex0and4 (R₁.2.celO y c e) fun _ _ _ y3_ => ?_; obtain ⟨_, oc, eoc, _⟩ := y3_
      exact ⟨hu _ _ eoc q1, q2⟩
    · obtain ⟨q1, q2⟩ := v7 a ha
      obtain ⟨_, oa, ea, _⟩ := R₁.2.ownA a ha
      exact ⟨hu _ _ ea q1, q2⟩
theorem After.claim {fr own : List Addr} (A : After fr own H₀ s₀ H s) {D : Addr} {ao : AO} (hD : s₀.heap.get? D = none) : After fr own H₀ s₀ (upd H D ao) s where
  keep := A.keep
  alive := A.alive
  dom b e := by
    unfold upd at e
    by_cases q : b = D
    · exact .inr (q ▸ hD)
    · rw [if_neg q] at e; exact A.dom b e
theorem Rel.ne {own : List Addr} (R : Rel prog w F st s) {C : Addr} (hC : s.heap.get? C = none) (ho : own = [C]) : F.env.locals ∉ own ∧ (∀ x c, F.env.cells.lookup x = some c → c ∉ own) ∧ ∀ a ∈ F.own, a ∉ own := by
  subst ho
  refine ⟨fun hm => ?_, fun y c e hm => ?_, fun a ha hm => ?_⟩
  · obtain ⟨m, ⟨oL, _, _, eL, _⟩, _⟩ := R.2.loc
    rw [List.mem_singleton.mp hm, hC] at eL; cases eL
  · refine ex0and4 (R.2.celO y c e) fun _ _ _ y3_ => ?_; obtain ⟨_, oc, eoc, _⟩ := y3_
    rw [List.mem_singleton.mp hm, hC] at eoc; cases eoc
  · obtain ⟨_, oa, ea, _⟩ := R.2.ownA a ha
    rw [List.mem_singleton.mp hm, hC] at ea; cases ea
theorem comp_back {st₁ : St} {s₁ : Shared} {scope : Scope} {cl : List (Str × Addr)} {cv : List (Str × Value)} {C : Addr} (R₁ : Rel prog w F st₁ s₁) (hC : s₁.heap.get? C = none) (R : Rel prog w (cfx F scope cl C) ⟨cv, H⟩ s) (A : After (frAddrs F.stk) [C] st₁.H s₁ H s) : Rel prog w F ⟨st₁.vars, H⟩ s := by
  obtain ⟨n1, n2, n3⟩ := R₁.ne hC rfl
  exact ⟨R.1, R₁.2.back A n1 n2 n3⟩
noncomputable def Handed (prog : Program) (w : World) (F : Fx) (Q : Value → St → Prop) (X : Value → List Value → St → Prop) (u : Option (Value → Sem Unit)) (a : Addr) (st : St) : Prop := match u with
  | none => Q (.ref a) st
  | some u => T prog w F (u (.ref a)) (fun _ => Q .none) X st
theorem comp_end {st₁ : St} {s₁ : Shared} {scope : Scope} {cl : List (Str × Addr)} {cv : List (Str × Value)} {C D : Addr} {ao : AO} {o : Obj} {Q : Value → St → Prop} {u : Option (Value → Sem Unit)} (R₁ : Rel prog w F st₁ s₁) (A₁ : After (frAddrs F.stk) F.own H₀ s₀ st₁.H s₁) (hC : s₁.heap.get? C = none)
    (hD : s₁.heap.get? D = none) (hCD : C ≠ D) (R : Rel prog w (cfx F scope cl C) ⟨cv, H⟩ s) (A : After (frAddrs F.stk) [C] st₁.H s₁ H s) (hDx : s.heap.get? D = some o) (hr : RepO prog w ao o) (hHC : H C = none) (h : Handed prog w F Q X u D ⟨st₁.vars, upd H D ao⟩) :
    compPost (model prog w) F.A (XPost prog w F X H₀ s₀) u (fun v s' => ∃ st', Rel prog w F st' s' ∧ After (frAddrs F.stk) F.own H₀ s₀ st'.H s' ∧ Q (Er.e v) st') (.ref D) C (.ok .next) s := by
  have nul0 : ∀ a, s₁.heap.get? a = none → s₀.heap.get? a = none := fun a ha => by
    cases q : s₀.heap.get? a with
    | none => rfl
    | some ob => exact absurd ha (A₁.alive _ (by rw [q]; exact nofun))
  have RF := comp_back R₁ hC R A
  have RL := R₁.claim RF hD hDx hr
  have AL := (A₁.inner A (fun b hb => by obtain rfl := List.mem_singleton.mp hb; exact nul0 _ hC)).claim (ao := ao) (nul0 _ hD)
  have hUC : upd H D ao C = none := by unfold upd; rw [if_neg hCD]; exact hHC
  obtain ⟨mC, hmC, _⟩ := R.2.loc
  cases u with
  | none => exact ⟨mC, hmC, fun h'' hs'' => ⟨_, R₁.aside RL hC hUC hs'', AL.aside (nul0 _ hC) hs'', h⟩⟩
  | some u =>
    have h' : T prog w F (u (.ref D)) (fun _ => Q .none) X ⟨st₁.vars, upd H D ao⟩ := h
    refine wpAny_mono (h'.then RL (.refl _ _ _ _) fun _ s₃ st₃ R₃ A₃ q => ?_) (fun _ _ z => z) fun e s₃ x => x.older AL
    refine ex3and2 (id hmC) fun oC esC epC hoC rC => ?_
    obtain ⟨n1, n2, n3⟩ := R₁.ne hC rfl
    have hown : C ∉ F.own := fun ha => n3 C ha List.mem_cons_self
    refine ⟨mC, KeepAt.ns hmC fun o e => A₃.keep _ o e hUC hown, fun h'' hs'' => ⟨st₃, R₁.aside R₃ hC ?_ hs'', (AL.trans A₃).aside (nul0 _ hC) hs'', q⟩⟩
    cases z : st₃.H C with
    | none => rfl
    | some zz =>
      rcases A₃.dom C (by rw [z]; exact nofun) with h' | h'
      · exact absurd hUC h'
      · rw [show s.heap.get? C = some oC from hoC] at h'; cases h'
theorem comp_start {st₁ : St} {s₁ : Shared} {scope : Scope} {cl : List (Str × Addr)} {cv : List (Str × Value)} {o₀ oD : Obj} {h₁ : Heap} (R₁ : Rel prog w F st₁ s₁) (hcl : Clos F.env cl) (hcv : Cap st₁.vars F.env scope cl cv) (hf₀ : o₀.isFreed = false) (hfD : oD.isFreed = false)
    (hns : h₁.Ns ((s₁.heap.push o₀).push oD).objs.size fun x => (List.reverse ([] : List (Str × Value))).lookup x) (hsb : Heap.SameBut ((s₁.heap.push o₀).push oD).objs.size (((s₁.heap.push o₀).push oD).push { cls := .type "dict", data := .dict #[] }) h₁) {tk : Nat} :
    ∃ ia D C, ia = s₁.heap.objs.size ∧ D = (s₁.heap.push o₀).objs.size ∧ C = ((s₁.heap.push o₀).push oD).objs.size ∧ ia ≠ D ∧ ia ≠ C ∧ C ≠ D ∧ s₁.heap.get? ia = none ∧ s₁.heap.get? D = none ∧ s₁.heap.get? C = none ∧
      h₁.get? ia = some o₀ ∧ h₁.get? D = some oD ∧ Rel prog w (cfx F scope cl C) ⟨cv, st₁.H⟩ { s₁ with heap := h₁, toks := tk } ∧ After (frAddrs F.stk) [C] st₁.H s₁ st₁.H { s₁ with heap := h₁, toks := tk } ∧ st₁.H ia = none ∧ st₁.H D = none ∧ st₁.H C = none := by
  have z2 : (s₁.heap.push o₀).objs.size = s₁.heap.objs.size + 1 := Heap.size_push ..
  have z3 : ((s₁.heap.push o₀).push oD).objs.size = s₁.heap.objs.size + 2 := by rw [Heap.size_push, z2]
  have nul : ∀ a, s₁.heap.objs.size ≤ a → s₁.heap.get? a = none := fun a ha => Heap.get?_none_of_le ha
  have hI1 := nul s₁.heap.objs.size (Nat.le_refl _)
  have hD1 := nul (s₁.heap.push o₀).objs.size (by omega)
  have hC1 := nul ((s₁.heap.push o₀).push oD).objs.size (by omega)
  have up1 : ∀ b o, b ≠ ((s₁.heap.push o₀).push oD).objs.size → ((s₁.heap.push o₀).push oD).get? b = some o → h₁.get? b = some o := fun b o hb e => by
    rw [hsb.2 b hb]; exact Heap.get?_push_of_some _ e
  have keep1 : ∀ b o, s₁.heap.get? b = some o → h₁.get? b = some o := fun b o e => up1 b o (fun q => by rw [q, hC1] at e; cases e) (Heap.get?_push_of_some _ (Heap.get?_push_of_some _ e))
  exact exi3 _ _ _ ⟨rfl, rfl, rfl, by omega, by omega, by omega, hI1, hD1, hC1, up1 _ _ (by omega) (Heap.get?_push_of_some _ (Heap.get?_push_size _ hf₀)), up1 _ _ (by omega) (Heap.get?_push_size _ hfD), comp_enter R₁ hcl hcv hC1 keep1 hns, .grow (s' := { s₁ with heap := h₁, toks := tk }) _ _ keep1, R₁.1.none_of hI1, R₁.1.none_of hD1, R₁.1.none_of hC1⟩
theorem kindOf_comp {scope : Scope} {cl : List (Str × Addr)} {C : Addr} {x : Str} (hx : scope.names.lookup x = some .local) : (cfx F scope cl C).env.kindOf x = some .local := lookup_relabel_local hx
theorem pyIter_it {v : Value} {xs : List Value} {k : SK} {i : Nat} {ia : Addr} {o : Obj} {A : Around} {Q : Value → Shared → Prop} {E : Value → Shared → Prop} {st₁ : St} (hs : Src st₁ v xs k) (R : Rel prog w F st s) (hia : s.heap.get? ia = some o) (hI : ItO v xs i k o) (h : Q (.ref ia) s) :
    wpAny (model prog w) A (pyIter (.ref ia)) Q E s := by
  cases k with
  | pin p => obtain ⟨l, rfl, _⟩ := hs; exact wpAny_pyIter_listiter ⟨o, hia, hI.1, hI.2⟩ h
  | list => obtain ⟨l, rfl, _⟩ := hs; exact wpAny_pyIter_listiter ⟨o, hia, hI.1, hI.2⟩ h
  | tup => obtain ⟨l, rfl, _⟩ := hs; exact wpAny_pyIter_tupleiter ⟨o, hia, hI.1, hI.2⟩ h
  | keys es n => obtain ⟨l, rfl, _⟩ := hs; exact wpAny_pyIter_keyiter ⟨o, hia, hI.1, hI.2⟩ h
  | vals d es n => exact wpAny_pyIter_valiter ⟨o, hia, hI.1, hI.2⟩ h
  | rng a b => cases (show o = _ from hI); exact wpAny_pyIter_rangeiter hia h
theorem line3 {a i n : Nat} (h1 : a ≤ i) (h2 : i ≤ n) (h3 : n ≤ 1000000) : a ≤ sizeLine := by rw [sizeLine_eq]; omega
theorem line2 {a : Nat} (h1 : a ≤ 1000000) : a ≤ sizeLine := by rw [sizeLine_eq]; omega
theorem T_listCore {elt iter : Expr} {x : Str} {px : Pos} {ifs : List Expr} {scope : Scope} {cl : List (Str × Addr)} {pos : Pos} (cv : List (Str × Value)) {Q : Value → St → Prop} (u : Option (Value → Sem Unit))
    (hclos : closureFor scope F.env = pure cl) (hcl : Clos F.env cl) (hcell : ∀ y ∈ scope.names, y.2 ≠ .cell) (hkind : scope.kind = .function)
    (hnames : ∀ y ∈ scope.names, y.2 = .local → scope.names.lookup y.1 = some .local) (hx : scope.names.lookup x = some .local) (hs : ∀ x, foldedSetIterable iter F.env x = pure x)
    (hh : F.A.handled = none) (N : NoSys F.toFc)
    (h : T prog w F (eval iter F.env) (fun v st₁ => Cap st₁.vars F.env scope cl cv ∧ ∃ xs k, ∃ I : Nat → List Value → AHeap → Prop, Src st₁ v xs k ∧ xs.length ≤ 1000000 ∧ I 0 [] st₁.H ∧ (∀ i acc H vs, I i acc H → Src ⟨vs, H⟩ v xs k) ∧
      (∀ i acc H, I i acc H → acc.length ≤ i) ∧
      (∀ C i x' acc H, xs[i]? = some x' → I i acc H → T prog w (cfx F scope cl C) (tests ifs (cfx F scope cl C).env) (fun ok st₂ => if ok then T prog w (cfx F scope cl C) (eval elt (cfx F scope cl C).env) (fun y st₃ => I (i + 1) (acc ++ [y]) st₃.H ∧ ∀ z u, cv.lookup z = some u → st₃.vars.lookup z = some u) NoX st₂
        else I (i + 1) acc st₂.H ∧ ∀ z u, cv.lookup z = some u → st₂.vars.lookup z = some u) NoX ⟨setV cv x x', H⟩) ∧
      (∀ acc H a, I xs.length acc H → H a = none → Handed prog w F Q X u a ⟨st₁.vars, upd H a (.list acc)⟩)) X st) :
    T prog w F (comprehension (.ListComp elt [⟨.Name x px, iter, ifs, 0⟩] scope pos) scope F.env (firstIterPos [⟨.Name x px, iter, ifs, 0⟩] pos) (newList []) false (eval iter F.env) u) Q X st := by
  intro s R
  refine wpAny_comprehension_free rfl hs hclos hkind hnames (h.then R (.refl _ _ _ _) fun v s₁ st₁ R₁ A₁ hv => ?_)
  refine ex0and2 hv fun hcv y1_ => ?_; try clear hv; obtain ⟨xs, k, I, hsrc, hlen, hI0, hIs, hIl, hstep, hend⟩ := y1_
  have hsame : Er.e v = v := Src.same hsrc
  rw [hsame] at hsrc hIs
  refine pyIter_src R₁ hsrc N fun o₀ hito hfr => ?_
  refine wpAny_newObj_type (wpAny_newFunctionEnv hcell (by intro y hy; simp at hy) (fun h₁ hns₁ hsb₁ => ?_) hkind) (by size_fits)
  dsimp only at hns₁ hsb₁ ⊢
  refine ex3and16 (comp_start (tk := s₁.toks) R₁ hcl hcv hfr rfl hns₁ hsb₁) fun ia D C eI eD eC hID hIC hCD hI1 hD1 hC1 hia hDa R0 A0 hHI0 hHD0 hHC0 => ?_
  rw [← eI, ← eD, ← eC]
  have hB : F.base.get? ia = none := by
    cases q : F.base.get? ia with
    | none => rfl
    | some ob => rw [R₁.1.stays _ _ q] at hI1; cases hI1
  let Inv : Nat → Shared → Prop := fun n s' => ∃ i acc H o ys ep, n = xs.length - i ∧ i ≤ xs.length ∧ I i acc H ∧ Rel prog w (cfx F scope cl C) ⟨cv, H⟩ s' ∧ After (frAddrs F.stk) [C] st₁.H s₁ H s' ∧
    s'.heap.get? ia = some o ∧ ItO v xs i k o ∧ H ia = none ∧ s'.heap.get? D = some { cls := .type "list", dict := none, data := .seq ys ep, slots := #[] } ∧ ys.toList.map er = acc ∧ H D = none ∧ H C = none
  have start : Inv xs.length { s₁ with heap := h₁, toks := s₁.toks } :=
    ⟨0, [], st₁.H, o₀, #[], 0, (Nat.sub_zero _).symm, Nat.zero_le _, hI0, R0, A0, hia, hito, hHI0, hDa, rfl, hHD0, hHC0⟩
  have loop : ∀ n s', Inv n s' → codeAny (model prog w) F.A (.compLoop (.ListComp elt [⟨.Name x px, iter, ifs, 0⟩] scope pos) 0 (.ref ia) (.ref D) (compEnvC scope cl C F.env))
      (compPost (model prog w) F.A (XPost prog w F X st.H s) u (fun v s' => ∃ st', Rel prog w F st' s' ∧ After (frAddrs F.stk) F.own st.H s st'.H s' ∧ Q (Er.e v) st') (.ref D) C) s' := by
    intro n s' hInv
    refine codeAny_compLoop_tests Inv ?_ n hInv
    clear hInv n s'
    rintro n s' hx0_; refine ex6and12 hx0_ fun i acc H o ys ep y6_ hile hI R' A' hia' hit hHI hDx hys hHD hHC => ?_; try clear hx0_; obtain rfl := y6_
    have hsi : Src ⟨cv, H⟩ v xs k := hIs i acc H cv hI
    have hfl := hit.fields
    cases hxi : xs[i]? with
    | none =>
      have hi : i = xs.length := Nat.le_antisymm hile (List.getElem?_eq_none_iff.mp hxi)
      subst hi
      refine next_done hh R' hsi hia' hit hxi hile fun h' hext => ?_
      have R2 := R'.hid (s' := { s' with heap := h' }) hia' hHI hB hext rfl rfl hfl
      have A2 := After.hid (s' := { s' with heap := h' }) (st := ⟨cv, H⟩) A' hI1 hext
      exact comp_end R₁ A₁ hC1 hD1 hCD R2 A2 (ao := .list acc) (hext D _ (Ne.symm hID) hDx) ⟨rfl, rfl, rfl, ys, ep, rfl, hys⟩ hHC (hend acc H D hI hHD)
    | some x' =>
      have hi : i < xs.length := (List.getElem?_eq_some_iff.mp hxi).1
      refine next_item R' hsi hia' hit hxi fun x₀ h' o' tk hx' hia2 hit2 hsb => ?_
      have R2 := R'.hid (s' := { s' with heap := h', toks := tk }) hia' hHI hB hsb.extBut rfl rfl hfl
      have A2 := After.hid (s' := { s' with heap := h', toks := tk }) (st := ⟨cv, H⟩) A' hI1 hsb.extBut
      have hD2 : ({ s' with heap := h', toks := tk } : Shared).heap.get? D = _ := hsb.extBut D _ (Ne.symm hID) hDx
      have hDown : D ∉ [C] := fun hm => hCD (List.mem_singleton.mp hm).symm
      have hIown : ia ∉ [C] := fun hm => hIC (List.mem_singleton.mp hm)
      have hst : T prog w (cfx F scope cl C) (storeName (cfx F scope cl C).env x x₀) (fun _ st => st = ⟨setV cv x x', H⟩) NoX ⟨cv, H⟩ :=
        T_storeL hx' (kindOf_comp hx) (by show (relabel scope F.env).kind = _; exact hkind) List.mem_cons_self rfl
      refine wpAny_assign_Name (hst.thenN (F := cfx F scope cl C) R2 (.refl _ _ _ _) fun _ s₃ st₃ R₃ A₃ e₃ => ?_)
      subst e₃
      have fin : ∀ (st₅ : St) (s₅ : Shared) (acc' : List Value), Rel prog w (cfx F scope cl C) st₅ s₅ → After (frAddrs F.stk) [C] st₁.H s₁ st₅.H s₅ → s₅.heap.get? ia = some o' → st₅.H ia = none → st₅.H D = none → st₅.H C = none → I (i + 1) acc' st₅.H → (∀ z u, cv.lookup z = some u → st₅.vars.lookup z = some u) →
          ∀ ys' ep', s₅.heap.get? D = some { cls := .type "list", dict := none, data := .seq ys' ep', slots := #[] } → ys'.toList.map er = acc' → ∃ m, m < xs.length - i ∧ Inv m s₅ := by
        intro st₅ s₅ acc' R5 A5 h1 h2 h3 h4 hI5 hv5 ys' ep' hD5 hys'
        exact ⟨xs.length - (i + 1), Nat.sub_lt_sub_left hi (Nat.lt_succ_self i), i + 1, acc', st₅.H, o', ys', ep', rfl, hi, hI5, R5.forget (st' := ⟨cv, st₅.H⟩) hv5 fun _ _ e => e, A5, h1, hit2, h2, hD5, hys', h3, h4⟩
      obtain ⟨mC, ⟨oC, _, _, eC2, _⟩, _⟩ := R2.2.loc
      have still : ∀ (st₅ : St) (s₅ : Shared), After (frAddrs F.stk) [C] H { s' with heap := h', toks := tk } st₅.H s₅ → s₅.heap.get? ia = some o' ∧ st₅.H ia = none ∧ st₅.H D = none ∧ st₅.H C = none ∧ s₅.heap.get? D = some { cls := .type "list", dict := none, data := .seq ys ep, slots := #[] } := by
        intro st₅ s₅ A5
        obtain ⟨sl, e1, c1⟩ := A5.keep ia o' hia2 hHI hIown
        have hsl := c1 (R₁.apart hI1).2.1
        have dn : ∀ b ob, ({ s' with heap := h', toks := tk } : Shared).heap.get? b = some ob → H b = none → st₅.H b = none := fun b ob e hb => by
          cases q : st₅.H b with
          | none => rfl
          | some z =>
            rcases A5.dom b (by rw [q]; exact nofun) with h | h
            · exact absurd hb h
            · rw [e] at h; cases h
        obtain ⟨sl2, e2, c2⟩ := A5.keep D _ hD2 hHD hDown
        exact ⟨by rw [e1, hsl], dn _ _ hia2 hHI, dn _ _ hD2 hHD, dn _ _ eC2 hHC, by rw [e2, c2 (R₁.apart hD1).2.1]⟩
      refine (hstep C i x' acc H hxi hI).thenN (F := cfx F scope cl C) R₃ A₃ fun ok s₄ st₄ R₄ A₄ hok => ?_
      have hok : if ok = true then _ else _ := hok
      cases ok with
      | false =>
        rw [if_neg (by decide)] at hok
        rw [if_neg (by decide)]
        refine ex0and5 (still _ _ A₄) fun t1 t2 t3 t4 t5 => ?_
        exact fin st₄ s₄ acc R₄ (A2.trans A₄) t1 t2 t3 t4 hok.1 hok.2 ys ep t5 hys
      | true =>
        rw [if_pos rfl] at hok
        rw [if_pos rfl]
        refine T.thenN (F := cfx F scope cl C) hok R₄ A₄ fun y s₅ st₅ R₅ A₅ hy => ?_
        refine ex0and5 (still _ _ A₅) fun t1 t2 t3 t4 t5 => ?_
        have hsz : ys.size ≤ sizeLine := by
          have := hIl i acc H hI
          rw [← hys, List.length_map, Array.length_toList] at this
          exact line3 this hile hlen
        refine wpAny_list_append_plain ⟨ep, t5⟩ (fun h₆ hl₆ hs₆ => ?_) hsz
        obtain ⟨ep', hD6⟩ := hl₆
        refine ex0and5 (R₁.apart hD1) fun b1 b2 b3 b4 b5 => ?_
        have R6 : Rel prog w (cfx F scope cl C) st₅ { s₅ with heap := h₆ } := R₅.quiet t3 b1 hs₆ b2 hCD (fun x c e => b4 x c (hcl.at x c e)) hDown
        exact fin st₅ { s₅ with heap := h₆ } (acc ++ [Er.e y]) R6 ((A2.trans A₅).aside hD1 hs₆) ((hs₆.2 ia hID).trans t1) t2 t3 t4 hy.1 hy.2 (ys.push y) ep' hD6 (by rw [Array.toList_push, List.map_append, hys]; rfl)
  exact codeAny_compStart_list (loop _ _ start) (pyIter_it hsrc R0 hia hito (loop _ _ start))
theorem T_dictCore {kx vx iter : Expr} {x : Str} {px : Pos} {ifs : List Expr} {scope : Scope} {cl : List (Str × Addr)} {pos : Pos} (cv : List (Str × Value)) {Q : Value → St → Prop} (u : Option (Value → Sem Unit))
    (hclos : closureFor scope F.env = pure cl) (hcl : Clos F.env cl) (hcell : ∀ y ∈ scope.names, y.2 ≠ .cell) (hkind : scope.kind = .function)
    (hnames : ∀ y ∈ scope.names, y.2 = .local → scope.names.lookup y.1 = some .local) (hx : scope.names.lookup x = some .local) (hs : ∀ x, foldedSetIterable iter F.env x = pure x)
    (hh : F.A.handled = none) (N : NoSys F.toFc)
    (h : T prog w F (eval iter F.env) (fun v st₁ => Cap st₁.vars F.env scope cl cv ∧ ∃ xs k, ∃ I : Nat → List (Int × Value) → AHeap → Prop, Src st₁ v xs k ∧ xs.length ≤ 1000000 ∧ I 0 [] st₁.H ∧ (∀ i acc H vs, I i acc H → Src ⟨vs, H⟩ v xs k) ∧
      (∀ i acc H, I i acc H → acc.length ≤ i) ∧
      (∀ C i x' acc H, xs[i]? = some x' → I i acc H → T prog w (cfx F scope cl C) (tests ifs (cfx F scope cl C).env) (fun ok st₂ => if ok then T prog w (cfx F scope cl C) (eval kx (cfx F scope cl C).env) (fun kv st₃ => T prog w (cfx F scope cl C) (eval vx (cfx F scope cl C).env) (fun y st₄ => ∃ q, kv = .int q 0 ∧ (∀ p ∈ acc, p.1 ≠ q) ∧ I (i + 1) (acc ++ [(q, y)]) st₄.H ∧ ∀ z u, cv.lookup z = some u → st₄.vars.lookup z = some u) NoX st₃) NoX st₂
        else I (i + 1) acc st₂.H ∧ ∀ z u, cv.lookup z = some u → st₂.vars.lookup z = some u) NoX ⟨setV cv x x', H⟩) ∧
      (∀ acc H a n, I xs.length acc H → H a = none → Handed prog w F Q X u a ⟨st₁.vars, upd H a (.dict (acc.map fun p => (.int p.1 0, p.2)) n)⟩)) X st) :
    T prog w F (comprehension (.DictComp kx vx [⟨.Name x px, iter, ifs, 0⟩] scope pos) scope F.env (firstIterPos [⟨.Name x px, iter, ifs, 0⟩] pos) newDict false (eval iter F.env) u) Q X st := by
  intro s R
  refine wpAny_comprehension_free rfl hs hclos hkind hnames (h.then R (.refl _ _ _ _) fun v s₁ st₁ R₁ A₁ hv => ?_)
  refine ex0and2 hv fun hcv y1_ => ?_; try clear hv; obtain ⟨xs, k, I, hsrc, hlen, hI0, hIs, hIl, hstep, hend⟩ := y1_
  have hsame : Er.e v = v := Src.same hsrc
  rw [hsame] at hsrc hIs
  refine pyIter_src R₁ hsrc N fun o₀ hito hfr => ?_
  refine wpAny_newObj_type (wpAny_newFunctionEnv hcell (by intro y hy; simp at hy) (fun h₁ hns₁ hsb₁ => ?_) hkind) (by size_fits)
  dsimp only at hns₁ hsb₁ ⊢
  refine ex3and16 (comp_start (tk := s₁.toks) R₁ hcl hcv hfr rfl hns₁ hsb₁) fun ia D C eI eD eC hID hIC hCD hI1 hD1 hC1 hia hDa R0 A0 hHI0 hHD0 hHC0 => ?_
  rw [← eI, ← eD, ← eC]
  have hB : F.base.get? ia = none := by
    cases q : F.base.get? ia with
    | none => rfl
    | some ob => rw [R₁.1.stays _ _ q] at hI1; cases hI1
  let Inv : Nat → Shared → Prop := fun n s' => ∃ i acc H o kvs ep, n = xs.length - i ∧ i ≤ xs.length ∧ I i acc H ∧ Rel prog w (cfx F scope cl C) ⟨cv, H⟩ s' ∧ After (frAddrs F.stk) [C] st₁.H s₁ H s' ∧
    s'.heap.get? ia = some o ∧ ItO v xs i k o ∧ H ia = none ∧ s'.heap.DictAt (intKind prog w) D kvs ep ∧ kvs.map (fun p => (p.1, er p.2)) = acc ∧ H D = none ∧ H C = none
  have start : Inv xs.length { s₁ with heap := h₁, toks := s₁.toks } :=
    ⟨0, [], st₁.H, o₀, [], 0, (Nat.sub_zero _).symm, Nat.zero_le _, hI0, R0, A0, hia, hito, hHI0, ⟨_, #[], hDa, ⟨rfl, rfl, rfl⟩, rfl, fun e he => by simp at he, .nil, List.nodup_nil⟩, rfl, hHD0, hHC0⟩
  have loop : ∀ n s', Inv n s' → codeAny (model prog w) F.A (.compLoop (.DictComp kx vx [⟨.Name x px, iter, ifs, 0⟩] scope pos) 0 (.ref ia) (.ref D) (compEnvC scope cl C F.env))
      (compPost (model prog w) F.A (XPost prog w F X st.H s) u (fun v s' => ∃ st', Rel prog w F st' s' ∧ After (frAddrs F.stk) F.own st.H s st'.H s' ∧ Q (Er.e v) st') (.ref D) C) s' := by
    intro n s' hInv
    refine codeAny_compLoop_testsD Inv ?_ n hInv
    clear hInv n s'
    rintro n s' hx0_; refine ex6and12 hx0_ fun i acc H o kvs ep y6_ hile hI R' A' hia' hit hHI hDx hys hHD hHC => ?_; try clear hx0_; obtain rfl := y6_
    have hsi : Src ⟨cv, H⟩ v xs k := hIs i acc H cv hI
    have hfl := hit.fields
    cases hxi : xs[i]? with
    | none =>
      have hi : i = xs.length := Nat.le_antisymm hile (List.getElem?_eq_none_iff.mp hxi)
      subst hi
      refine next_done hh R' hsi hia' hit hxi hile fun h' hext => ?_
      have R2 := R'.hid (s' := { s' with heap := h' }) hia' hHI hB hext rfl rfl hfl
      have A2 := After.hid (s' := { s' with heap := h' }) (st := ⟨cv, H⟩) A' hI1 hext
      refine ex2and6 hDx fun oD des d1 d2 d3 d4 d5 d6 => ?_; try clear hDx
      exact comp_end R₁ A₁ hC1 hD1 hCD R2 A2 (ao := .dict (acc.map fun p => (.int p.1 0, p.2)) ep) (hext D _ (Ne.symm hID) d1) ⟨d2, des, d3, .inl ⟨kvs, d4, d5, d6, by rw [← hys, List.map_map]; rfl⟩⟩ hHC (hend acc H D ep hI hHD)
    | some x' =>
      have hi : i < xs.length := (List.getElem?_eq_some_iff.mp hxi).1
      refine next_item R' hsi hia' hit hxi fun x₀ h' o' tk hx' hia2 hit2 hsb => ?_
      have R2 := R'.hid (s' := { s' with heap := h', toks := tk }) hia' hHI hB hsb.extBut rfl rfl hfl
      have A2 := After.hid (s' := { s' with heap := h', toks := tk }) (st := ⟨cv, H⟩) A' hI1 hsb.extBut
      have hD2 : ({ s' with heap := h', toks := tk } : Shared).heap.DictAt (intKind prog w) D kvs ep := hDx.at' fun o e => hsb.extBut D o (Ne.symm hID) e
      have hDown : D ∉ [C] := fun hm => hCD (List.mem_singleton.mp hm).symm
      have hIown : ia ∉ [C] := fun hm => hIC (List.mem_singleton.mp hm)
      have hst : T prog w (cfx F scope cl C) (storeName (cfx F scope cl C).env x x₀) (fun _ st => st = ⟨setV cv x x', H⟩) NoX ⟨cv, H⟩ :=
        T_storeL hx' (kindOf_comp hx) (by show (relabel scope F.env).kind = _; exact hkind) List.mem_cons_self rfl
      refine wpAny_assign_Name (hst.thenN (F := cfx F scope cl C) R2 (.refl _ _ _ _) fun _ s₃ st₃ R₃ A₃ e₃ => ?_)
      subst e₃
      have fin : ∀ (st₅ : St) (s₅ : Shared) (acc' : List (Int × Value)), Rel prog w (cfx F scope cl C) st₅ s₅ → After (frAddrs F.stk) [C] st₁.H s₁ st₅.H s₅ → s₅.heap.get? ia = some o' → st₅.H ia = none → st₅.H D = none → st₅.H C = none → I (i + 1) acc' st₅.H → (∀ z u, cv.lookup z = some u → st₅.vars.lookup z = some u) →
          ∀ kvs' ep', s₅.heap.DictAt (intKind prog w) D kvs' ep' → kvs'.map (fun p => (p.1, er p.2)) = acc' → ∃ m, m < xs.length - i ∧ Inv m s₅ := by
        intro st₅ s₅ acc' R5 A5 h1 h2 h3 h4 hI5 hv5 kvs' ep' hD5 hys'
        exact ⟨xs.length - (i + 1), Nat.sub_lt_sub_left hi (Nat.lt_succ_self i), i + 1, acc', st₅.H, o', kvs', ep', rfl, hi, hI5, R5.forget (st' := ⟨cv, st₅.H⟩) hv5 fun _ _ e => e, A5, h1, hit2, h2, hD5, hys', h3, h4⟩
      obtain ⟨mC, ⟨oC, _, _, eC2, _⟩, _⟩ := R2.2.loc
      have still : ∀ (st₅ : St) (s₅ : Shared), After (frAddrs F.stk) [C] H { s' with heap := h', toks := tk } st₅.H s₅ → s₅.heap.get? ia = some o' ∧ st₅.H ia = none ∧ st₅.H D = none ∧ st₅.H C = none ∧ s₅.heap.DictAt (intKind prog w) D kvs ep := by
        intro st₅ s₅ A5
        obtain ⟨sl, e1, c1⟩ := A5.keep ia o' hia2 hHI hIown
        have hsl := c1 (R₁.apart hI1).2.1
        have dn : ∀ b ob, ({ s' with heap := h', toks := tk } : Shared).heap.get? b = some ob → H b = none → st₅.H b = none := fun b ob e hb => by
          cases q : st₅.H b with
          | none => rfl
          | some z =>
            rcases A5.dom b (by rw [q]; exact nofun) with h | h
            · exact absurd hb h
            · rw [e] at h; cases h
        obtain ⟨oD, des, d1, dr⟩ := hD2
        obtain ⟨sl2, e2, c2⟩ := A5.keep D _ d1 hHD hDown
        exact ⟨by rw [e1, hsl], dn _ _ hia2 hHI, dn _ _ d1 hHD, dn _ _ eC2 hHC, ⟨oD, des, by rw [e2, c2 (R₁.apart hD1).2.1], dr⟩⟩
      refine (hstep C i x' acc H hxi hI).thenN (F := cfx F scope cl C) R₃ A₃ fun ok s₄ st₄ R₄ A₄ hok => ?_
      have hok : if ok = true then _ else _ := hok
      cases ok with
      | false =>
        rw [if_neg (by decide)] at hok
        rw [if_neg (by decide)]
        refine ex0and5 (still _ _ A₄) fun t1 t2 t3 t4 t5 => ?_
        exact fin st₄ s₄ acc R₄ (A2.trans A₄) t1 t2 t3 t4 hok.1 hok.2 kvs ep t5 hys
      | true =>
        rw [if_pos rfl] at hok
        rw [if_pos rfl]
        refine T.thenN (F := cfx F scope cl C) hok R₄ A₄ fun kv s₅' st₅' R₅' A₅' hy' => ?_
        refine T.thenN (F := cfx F scope cl C) hy' R₅' A₅' fun y s₅ st₅ R₅ A₅ hy => ?_
        refine ex1and4 hy fun q hq hnew hI5 hv5 => ?_; try clear hy
        obtain ⟨tq, rfl⟩ := er_int hq
        refine ex0and5 (still _ _ A₅) fun t1 t2 t3 t4 t5 => ?_
        have hsz : kvs.length ≤ sizeLine := by
          have := hIl i acc H hI
          rw [← hys, List.length_map] at this
          exact line3 this hile hlen
        refine wpAny_dictSet_pairs (knd := intKind prog w) (k := q) (intKind_is _ _ _ _) t5.dictOf (fun h₆ hm₆ hs₆ => ?_) hsz
        obtain ⟨ep', hD6⟩ := hm₆.dictAt
        have hst : stored kvs q y = kvs ++ [(q, y)] := by
          unfold stored
          rw [if_neg]
          simp only [List.any_eq_true, decide_eq_true_eq, not_exists, not_and]
          intro p hp he
          exact hnew (p.1, er p.2) (by rw [← hys]; exact List.mem_map.mpr ⟨p, hp, rfl⟩) he
        rw [hst] at hD6
        refine ex0and5 (R₁.apart hD1) fun b1 b2 b3 b4 b5 => ?_
        have R6 : Rel prog w (cfx F scope cl C) st₅ { s₅ with heap := h₆, toks := s₅.toks + 1 } := (R₅.quiet t3 b1 hs₆ b2 hCD (fun x c e => b4 x c (hcl.at x c e)) hDown).toks
        have A6 : After (frAddrs F.stk) [C] st₁.H s₁ st₅.H { s₅ with heap := h₆, toks := s₅.toks + 1 } := ((A2.trans A₅).aside hD1 hs₆).trans (.grow (s' := { s₅ with heap := h₆, toks := s₅.toks + 1 }) _ _ fun _ _ e => e)
        exact fin st₅ { s₅ with heap := h₆, toks := s₅.toks + 1 } (acc ++ [(q, Er.e y)]) R6 A6 ((hs₆.2 ia hID).trans t1) t2 t3 t4 hI5 hv5 (kvs ++ [(q, y)]) ep' hD6 (by rw [List.map_append, hys]; rfl)
  exact codeAny_compStart_dict (loop _ _ start) (pyIter_it hsrc R0 hia hito (loop _ _ start))
theorem T_listComp {elt iter : Expr} {x : Str} {px : Pos} {ifs : List Expr} {scope : Scope} {pos : Pos} {Q : Value → St → Prop}
    (h : T prog w F (comprehension (.ListComp elt [⟨.Name x px, iter, ifs, 0⟩] scope pos) scope F.env (firstIterPos [⟨.Name x px, iter, ifs, 0⟩] pos) (newList []) false (eval iter F.env) none) Q X st) :
    T prog w F (eval (.ListComp elt [⟨.Name x px, iter, ifs, 0⟩] scope pos) F.env) Q X st := fun s R => by
  rw [eval_ListComp]; exact h s R
theorem T_dictComp {kx vx iter : Expr} {x : Str} {px : Pos} {ifs : List Expr} {scope : Scope} {pos : Pos} {Q : Value → St → Prop}
    (h : T prog w F (comprehension (.DictComp kx vx [⟨.Name x px, iter, ifs, 0⟩] scope pos) scope F.env (firstIterPos [⟨.Name x px, iter, ifs, 0⟩] pos) newDict false (eval iter F.env) none) Q X st) :
    T prog w F (eval (.DictComp kx vx [⟨.Name x px, iter, ifs, 0⟩] scope pos) F.env) Q X st := fun s R => by
  rw [arm_eval_DictComp]; exact h s R
theorem T_assignList {elt iter : Expr} {x y : Str} {px py : Pos} {ifs : List Expr} {scope : Scope} {pos spos : Pos} {Q : Flow → St → Prop}
    (hsw : swapsWith (.ListComp elt [⟨.Name x px, iter, ifs, 0⟩] scope pos) (some (.Name y py)) spos.line F.env = pure true)
    (h : T prog w F (comprehension (.ListComp elt [⟨.Name x px, iter, ifs, 0⟩] scope pos) scope F.env (firstIterPos [⟨.Name x px, iter, ifs, 0⟩] pos) (newList []) false (eval iter F.env) (some (assign (.Name y py) F.env))) (fun _ => Q .next) X st) :
    T prog w F (exec (.Assign [.Name y py] (.ListComp elt [⟨.Name x px, iter, ifs, 0⟩] scope pos) spos) F.env) Q X st := fun s R => by
  rw [exec_Assign_Name_used _ _ _ _ hsw]
  refine wpAny_bind (wpAny_standAt (wpAny_bind ?_))
  exact wpAny_bind (wpAny_mono (h s R) (fun _ _ q => wpAny_pure (wpAny_pure q)) fun _ _ e => e)
end
end Mine
end
section
set_option maxRecDepth 100000
set_option Elab.async false
set_option linter.unusedVariables false
namespace Mine
open PySem PySem.W PySem.Calls PyProof.Rows
section
variable {prog : Program} {w : World} {s s' s₀ : Shared} {H₀ H H' : AHeap} {st : St}
structure Fc.Ok (n : Nat) (F : Fc) : Prop where
  fr : F.A.frames = some F.stk
  depth : F.A.depth + n < 900
  units : F.A.units + 10 * n < 5000
  lim : F.base.NoLimit
  hh : F.A.handled = none
noncomputable def CPost (prog : Program) (w : World) (F : Fc) (H : AHeap) (s : Shared) (Q : Value → AHeap → Prop) (X : Value → List Value → AHeap → Prop) (r : Result) (s' : Shared) : Prop := match r with
  | .ok (.ret v) => ∃ H', HRel prog w F H' s' ∧ After (frAddrs F.stk) [] H s H' s' ∧ Q (er v) H'
  | .ok _ => False
  | .error e => ∃ H' ea cls args, e = .ref ea ∧ ExcAt F.base s.heap H' s'.heap ea cls args (some .none) ∧ HRel prog w F H' s' ∧ After (frAddrs F.stk) [] H s H' s' ∧ X cls args H'
noncomputable def Calls (prog : Program) (w : World) (F : Fc) (f : Value) (args : List Value) (H : AHeap) (Q : Value → AHeap → Prop) (X : Value → List Value → AHeap → Prop) : Prop :=
  ∀ s args', args'.map er = args → HRel prog w F H s → codeAny (model prog w) F.A (.call f ⟨args', []⟩) (CPost prog w F H s Q X) s
theorem CPost.elim {F : Fc} {s s' : Shared} {Q : Value → AHeap → Prop} {X : Value → List Value → AHeap → Prop} {r : Result} {P : Prop} (z : CPost prog w F H s Q X r s')
    (k1 : ∀ v H', r = .ok (.ret v) → HRel prog w F H' s' → After (frAddrs F.stk) [] H s H' s' → Q (er v) H' → P)
    (k2 : ∀ H' ea cls args, r = .error (.ref ea) → ExcAt F.base s.heap H' s'.heap ea cls args (some .none) → HRel prog w F H' s' → After (frAddrs F.stk) [] H s H' s' → X cls args H' → P) : P := by
  cases r with
  | ok f => cases f with
    | ret v => obtain ⟨H', a, b, c⟩ := z; exact k1 v H' rfl a b c
    | _ => exact False.elim z
  | error e => refine ex4and5 z fun H' ea cls args y4_ x a b q => ?_; try clear z; obtain rfl := y4_; exact k2 H' ea cls args rfl x a b q
theorem Calls.mono {F : Fc} {f : Value} {args : List Value} {Q Q' : Value → AHeap → Prop} {X X' : Value → List Value → AHeap → Prop} (h : Calls prog w F f args H Q X) (hq : ∀ v H, Q v H → Q' v H) (hx : ∀ c a H, X c a H → X' c a H) : Calls prog w F f args H Q' X' := by
  intro s args' ha R
  refine codeAny_mono (h s args' ha R) fun r s' z => ?_
  refine CPost.elim z (fun v H' e a b c => ?_) (fun H' ea cls args e a c d x => ?_) <;> subst e
  · exact ⟨H', a, b, hq _ _ c⟩
  · exact ⟨H', ea, cls, args, rfl, a, c, d, hx _ _ _ x⟩
theorem After.wider {fr fr' own own' : List Addr} (A : After fr own H₀ s₀ H s) (B : After fr' own' H s H' s') (hf : ∀ b ∈ own', s₀.heap.get? b = none) (hr : ∀ b ∈ fr', b ∈ fr ∨ s₀.heap.get? b = none) : After fr own H₀ s₀ H' s' where
  keep b o e hn ho := by
    obtain ⟨sl, e1, c1⟩ := A.keep b o e hn ho
    have hn1 : H b = none := by
      cases q : H b with
      | none => rfl
      | some z =>
        rcases A.dom b (by rw [q]; exact nofun) with h | h
        · exact absurd hn h
        · rw [e] at h; cases h
    obtain ⟨sl2, e2, c2⟩ := B.keep b _ e1 hn1 (fun hm => by rw [hf b hm] at e; cases e)
    refine ⟨sl2, e2, fun hc => (c2 fun hm => ?_).trans (c1 hc)⟩
    rcases hr b hm with h | h
    · exact hc h
    · rw [e] at h; cases h
  alive b e := B.alive b (A.alive b e)
  dom b e := by
    rcases B.dom b e with h | h
    · exact A.dom b h
    · refine .inr ?_
      cases q : s₀.heap.get? b with
      | none => rfl
      | some z => exact absurd h (A.alive b (by rw [q]; exact nofun))
theorem T_code {F : Fx} {f : Value} {args args' : List Value} {Q : Value → St → Prop} {X : Value → List Value → St → Prop} (ha : args'.map er = args)
    (h : Calls prog w F.toFc f args st.H (fun v H' => Q v ⟨st.vars, H'⟩) (fun c a H' => X c a ⟨st.vars, H'⟩)) : T prog w F (call f args') Q X st := by
  intro s R
  refine wpAny_call (codeAny_mono (h s args' ha R.1) fun r s' z => ?_)
  refine CPost.elim z (fun v H' e a b c => ?_) (fun H' ea cls args e b c d x => ?_) <;> subst e
  · refine ⟨⟨st.vars, H'⟩, ⟨a, R.2.back b (by simp) (by simp) (by simp)⟩, ?_, c⟩
    exact (After.refl _ _ _ s).wider b (by simp) fun b hb => .inl hb
  · exact ⟨⟨st.vars, H'⟩, ea, cls, args, some .none, rfl, b, fun L _ => .inl rfl, ⟨c, R.2.back d (by simp) (by simp) (by simp)⟩, (After.refl _ _ _ s).wider d (by simp) fun b hb => .inl hb, x⟩
structure FdOk (base : Heap) (f : Addr) (fd : FuncData) (body : List Stmt) : Prop where
  at_ : ∃ o, base.get? f = some o ∧ o.data = .func fd
  co : fd.scope.isCoroutine = false
  gen : fd.scope.isGenerator = false
  body : fd.body = .stmts body
  code : base.CodeRec fd.code fd.qualname
  clos : fd.closure = []
  kind : fd.scope.kind = .function
  nodup : ((cellsFrom 0 fd.scope.names []).map (·.1)).Nodup
noncomputable abbrev fenv (f : Addr) (fd : FuncData) (L : Addr) : Env :=
  { scope := fd.scope, locals := L, globals := fd.globals, cells := cellsFrom (L + 1) fd.scope.names [], qual := fd.qualname ++ ".<locals>.", func := some f, code := fd.code, frame := some L, builtins := fd.builtins }
noncomputable abbrev ffx (F : Fc) (f : Addr) (fd : FuncData) (L : Addr) : Fx :=
  { A := F.A.deeper (fenv f fd L), base := F.base, stk := fenv f fd L :: F.stk, os := F.os, env := fenv f fd L, own := L :: (fenv f fd L).cells.map (·.2) }
theorem ffx_runs {F : Fc} {n : Nat} (O : F.Ok n) (f : Addr) (fd : FuncData) (L : Addr) : Runs (ffx F f fd L) F.stk L := ⟨rfl, by show F.A.frames.map _ = _; rw [O.fr]; rfl, rfl⟩
theorem ffx_ok {F : Fc} {n : Nat} (O : F.Ok (n + 1)) (f : Addr) (fd : FuncData) (L : Addr) : (ffx F f fd L).toFc.Ok n :=
  ⟨by show F.A.frames.map _ = _; rw [O.fr]; rfl, by show F.A.depth + 1 + n < 900; have := O.depth; omega, by show F.A.units + 3 + 10 * n < 5000; have := O.units; omega, O.lim, O.hh⟩
theorem bindL_at {kindOf : Str → Option NameKind} {x : Str} (hk : kindOf x = some .local) : ∀ (binds : List (Str × Value)) (m : Str → Option Value), (binds.map (·.1)).Nodup → ∀ v, binds.lookup x = some v → bindL kindOf binds m x = some v := by
  intro binds
  induction binds with
  | nil => intro m _ v e; cases e
  | cons p r ih =>
    obtain ⟨n, u⟩ := p
    intro m hn v e
    have hn' : (r.map (·.1)).Nodup ∧ n ∉ r.map (·.1) := by
      have := hn; rw [List.map_cons, List.nodup_cons] at this; exact ⟨this.2, this.1⟩
    by_cases q : x = n
    · subst q
      simp only [List.lookup, beq_self_eq_true] at e; cases e
      unfold bindL
      rw [if_pos hk]
      have : ∀ (l : List (Str × Value)) (m' : Str → Option Value), x ∉ l.map (·.1) → m' x = some u → bindL kindOf l m' x = some u := by
        intro l
        induction l with
        | nil => intro m' _ h; exact h
        | cons p l ih =>
          intro m' hx h
          obtain ⟨y, z⟩ := p
          unfold bindL
          rw [List.map_cons, List.mem_cons, not_or] at hx
          refine ih _ hx.2 ?_
          split
          · show (if x = y then _ else _) = _
            rw [if_neg hx.1]; exact h
          · exact h
      exact this r _ hn'.2 (by show (if x = x then _ else _) = _; rw [if_pos rfl])
    · have : (x == n) = false := by simpa using q
      simp only [List.lookup, this] at e
      unfold bindL
      exact ih _ hn'.1 v e
theorem bindC_at {kindOf : Str → Option NameKind} {x : Str} (hk : kindOf x = some .cell) : ∀ (binds : List (Str × Value)) (m : Str → Option Value), (binds.map (·.1)).Nodup → ∀ v, binds.lookup x = some v → bindC kindOf binds m x = some v := by
  intro binds
  induction binds with
  | nil => intro m _ v e; cases e
  | cons p r ih =>
    obtain ⟨n, u⟩ := p
    intro m hn v e
    have hn' : (r.map (·.1)).Nodup ∧ n ∉ r.map (·.1) := by
      have := hn; rw [List.map_cons, List.nodup_cons] at this; exact ⟨this.2, this.1⟩
    by_cases q : x = n
    · subst q
      simp only [List.lookup, beq_self_eq_true] at e; cases e
      unfold bindC
      rw [if_neg (by rw [hk]; decide)]
      have : ∀ (l : List (Str × Value)) (m' : Str → Option Value), x ∉ l.map (·.1) → m' x = some u → bindC kindOf l m' x = some u := by
        intro l
        induction l with
        | nil => intro m' _ h; exact h
        | cons p l ih =>
          intro m' hx h
          obtain ⟨y, z⟩ := p
          unfold bindC
          rw [List.map_cons, List.mem_cons, not_or] at hx
          refine ih _ hx.2 ?_
          split
          · exact h
          · show (if x = y then _ else _) = _
            rw [if_neg hx.1]; exact h
      exact this r _ hn'.2 (by show (if x = x then _ else _) = _; rw [if_pos rfl])
    · have : (x == n) = false := by simpa using q
      simp only [List.lookup, this] at e
      unfold bindC
      exact ih _ hn'.1 v e
theorem lookup_er {binds : List (Str × Value)} {x : Str} {v : Value} (h : (binds.map fun p => (p.1, er p.2)).lookup x = some v) : ∃ u, binds.lookup x = some u ∧ er u = v := by
  induction binds with
  | nil => cases h
  | cons p r ih =>
    obtain ⟨y, u⟩ := p
    by_cases q : x = y
    · subst q
      simp only [List.map_cons, List.lookup, beq_self_eq_true] at h ⊢
      cases h; exact ⟨u, rfl, rfl⟩
    · have : (x == y) = false := by simpa using q
      simp only [List.map_cons, List.lookup, this] at h ⊢
      exact ih h
theorem lookup_mem {α : Type} {l : List (Str × α)} {x : Str} {c : α} (h : l.lookup x = some c) : (x, c) ∈ l := by
  induction l with
  | nil => cases h
  | cons p r ih =>
    obtain ⟨y, u⟩ := p
    by_cases q : x = y
    · subst q
      simp only [List.lookup, beq_self_eq_true] at h
      cases h; exact List.mem_cons_self
    · have : (x == y) = false := by simpa using q
      simp only [List.lookup, this] at h
      exact List.mem_cons_of_mem _ (ih h)
theorem HRel.pop {F : Fc} {env : Env} {A : Around} (R : HRel prog w { A := A, base := F.base, stk := env :: F.stk, os := F.os } H s) : HRel prog w F H s :=
  ⟨R.stays, R.cells, R.notBase, R.frames.2.2, fun e he L hL => R.frCls e (List.mem_cons_of_mem _ he) L hL, R.gens, R.os⟩
noncomputable def Binds (prog : Program) (w : World) (F : Fc) (fd : FuncData) (args : List Value) (H : AHeap) (B : List (Str × Value) → AHeap → Prop) : Prop :=
  ∀ s args', args'.map er = args → HRel prog w F H s → ∀ (E : Value → Shared → Prop), wpAny (model prog w) F.A.in1 (bindArgs fd ⟨args', []⟩)
    (fun binds s₁ => ∃ H₁, HRel prog w F H₁ s₁ ∧ After (frAddrs F.stk) [] H s H₁ s₁ ∧ B (binds.map fun p => (p.1, er p.2)) H₁) E s
theorem Binds.pure {F : Fc} {fd : FuncData} {args : List Value} {names : List Str} {B : List (Str × Value) → AHeap → Prop} (hb : ∀ args', args'.map er = args → bindArgs fd ⟨args', []⟩ = Pure.pure (names.zip args'))
    (h : B (names.zip args) H) : Binds prog w F fd args H B := by
  intro s args' ha R E
  rw [hb args' ha]
  refine wpAny_pure ⟨H, R, .refl _ _ _ _, ?_⟩
  subst ha
  rw [List.zip_map_right] at h
  exact h
noncomputable def kindOk (sc : Scope) (binds : List (Str × Value)) : Prop := ∀ x ∈ binds, sc.names.lookup x.1 = some .local ∨ sc.names.lookup x.1 = some .cell
theorem cellsFrom_some' {x : Str} : ∀ (names : List (Str × NameKind)) (n : Nat) (acc : List (Str × Addr)), names.lookup x = some .cell → ((cellsFrom n names acc).lookup x).isSome = true := fun names n acc h => cell_of names n acc (.inl h)
theorem Calls.def {F : Fc} {n : Nat} {f : Addr} {fd : FuncData} {body : List Stmt} {args : List Value} {Q : Value → AHeap → Prop} {X : Value → List Value → AHeap → Prop} {B : List (Str × Value) → AHeap → Prop}
    (D : FdOk F.base f fd body) (O : F.Ok (n + 1)) (hb : Binds prog w F fd args H B)
    (h : ∀ L vs H₁, B vs H₁ → (vs.map (·.1)).Nodup ∧ kindOk fd.scope vs ∧
      T prog w (ffx F f fd L) (execs body (fenv f fd L)) (fun fl st' => Q (match fl with | .ret v => v | _ => .none) st'.H) (fun c a st' => X c a st'.H) ⟨vs, H₁⟩) :
    Calls prog w F (.ref f) args H Q X := by
  intro s args' ha R
  obtain ⟨o, ho, hd⟩ := D.at_
  refine codeAny_call_function (by have := O.depth; show F.A.depth < 1000; omega) (R.stays _ _ ho) hd D.co D.gen D.body (D.code.keeps R.stays) (wpAny_mono (hb s args' ha R _) (fun binds s₁ ⟨H₁, R₁, A₁, hB⟩ => ?_) fun _ _ z => z)
  rw [D.clos]
  have hh := fun L => h L _ H₁ hB
  have hkind : ∀ m, ∀ x ∈ binds, fd.scope.names.lookup x.1 = some .local ∨ (fd.scope.names.lookup x.1 = some .cell ∧ ((cellsFrom m fd.scope.names []).lookup x.1).isSome = true) := fun m x hx => by
    rcases (hh 0).2.1 (x.1, er x.2) (List.mem_map.mpr ⟨x, hx, rfl⟩) with q | q
    · exact .inl q
    · exact .inr ⟨q, cellsFrom_some' _ _ _ q⟩
  refine wpAny_newFunctionEnv_cells D.kind (hkind _) fun env he s₂ x => ?_
  have he' : env = fenv f fd s₁.heap.objs.size := he
  subst he'
  clear he
  generalize hL : s₁.heap.objs.size = L at *
  have hL1 : s₁.heap.get? L = none := Heap.get?_none_of_le (Nat.le_of_eq hL)
  have hk₂ := x.toInCall.keep
  obtain ⟨h₂, tk₂, hs₂⟩ := x.toInCall.same
  subst hs₂
  refine ⟨(O.lim.keeps R₁.stays).keeps hk₂, codeAny_func ?_⟩
  have hcl : ∀ y c, (fenv f fd L).cells.lookup y = some c → s₁.heap.get? c = none ∧ c ≠ L := fun y c e => by
    have := x.above y c (lookup_mem e)
    refine ⟨Heap.get?_none_of_le ?_, fun q => ?_⟩
    · have : L < c := this
      rw [hL]; exact Nat.le_of_lt this
    · have : L < c := this
      rw [q] at this; exact Nat.lt_irrefl _ this
  have hbase : ∀ c, s₁.heap.get? c = none → F.base.get? c = none := fun c e => by
    cases q : F.base.get? c with
    | none => rfl
    | some ob => rw [R₁.stays _ _ q] at e; cases e
  have R₂ : HRel prog w F H₁ { s₁ with heap := h₂, toks := tk₂ } := R₁.grow hk₂ rfl rfl
  have A₂ : After (frAddrs F.stk) [] H s H₁ { s₁ with heap := h₂, toks := tk₂ } := A₁.trans (.grow _ _ hk₂)
  have hns := x.toInCall.ns
  have hnd : (binds.map (·.1)).Nodup := by have := (hh 0).1; rw [List.map_map] at this; exact this
  refine ex3and3 (id hns) fun oL esL epL hoL hdL rL => ?_
  have RF : HRel prog w (ffx F f fd L).toFc H₁ { s₁ with heap := h₂, toks := tk₂ } :=
    ⟨R₂.stays, R₂.cells, R₂.notBase, ⟨by show fd.scope.kind ≠ .module; rw [D.kind]; decide, ⟨L, oL, rfl, hbase L hL1, hoL, fun vs q => by rw [hdL] at q; cases q⟩, R₂.frames⟩, fun e he L' hL' => by
      rcases List.mem_cons.mp he with rfl | he
      · have : L = L' := Option.some.inj hL'
        subst this
        exact ⟨R₁.none_of hL1, exi3 oL esL epL ⟨hoL, hdL⟩⟩
      · exact R₂.frCls e he L' hL', R₂.gens, R₂.os⟩
  have VF : VRel (ffx F f fd L) ⟨binds.map fun p => (p.1, er p.2), H₁⟩ { s₁ with heap := h₂, toks := tk₂ } := by
    refine ⟨⟨_, hns, fun y v e k => ?_⟩, fun y v e k => ?_, R₁.none_of hL1, hbase L hL1, fun y c e => ?_, fun y z c e1 e2 => ?_, fun a ha => ?_⟩
    · obtain ⟨u, hu, rfl⟩ := lookup_er e
      exact ⟨u, bindL_at k binds _ hnd u hu, rfl⟩
    · obtain ⟨u, hu, rfl⟩ := lookup_er e
      obtain ⟨c, hc⟩ := Option.isSome_iff_exists.mp (cellsFrom_some' fd.scope.names (L + 1) [] k)
      exact exi2 c u ⟨hc, bindC_at k binds _ hnd u hu ▸ x.cell y c hc, rfl⟩
    · obtain ⟨q1, q2⟩ := hcl y c e
      exact ⟨R₁.none_of q1, q2, hbase c q1, _, x.cell y c e⟩
    · exact name_of_addr x.apart (lookup_mem e1) (lookup_mem e2)
    · rcases List.mem_cons.mp ha with rfl | ha
      · exact ⟨R₁.none_of hL1, oL, hoL, fun vs q => by rw [hdL] at q; cases q⟩
      · obtain ⟨⟨y, c⟩, hm, rfl⟩ := List.mem_map.mp ha
        have hlk : (fenv f fd L).cells.lookup y = some c := lookup_of_mem_nodup (cellsFrom_names fd.scope.names 0 (L + 1) [] [] rfl ▸ D.nodup) hm
        obtain ⟨q1, q2⟩ := hcl y c hlk
        obtain ⟨oc, hoc, hdc⟩ := x.cell y c hlk
        exact ⟨R₁.none_of q1, oc, hoc, fun vs q => by rw [hdc] at q; cases q⟩
  have freshs : ∀ c, s₁.heap.get? c = none → s.heap.get? c = none := fun c e => by
    cases q : s.heap.get? c with
    | none => rfl
    | some ob => exact absurd e (A₁.alive c (by rw [q]; exact nofun))
  have hown : ∀ b ∈ (ffx F f fd L).own, s.heap.get? b = none := fun b hb => by
    rcases List.mem_cons.mp hb with rfl | hb
    · exact freshs _ hL1
    · obtain ⟨⟨y, c⟩, hm, rfl⟩ := List.mem_map.mp hb
      exact freshs _ (hcl y c (lookup_of_mem_nodup (cellsFrom_names fd.scope.names 0 (L + 1) [] [] rfl ▸ D.nodup) hm)).1
  have hfr : ∀ b ∈ frAddrs (ffx F f fd L).stk, b ∈ frAddrs F.stk ∨ s.heap.get? b = none := fun b hb => by
    have : b = L ∨ b ∈ frAddrs F.stk := List.mem_cons.mp hb
    rcases this with rfl | hb
    · exact .inr (freshs _ hL1)
    · exact .inl hb
  refine wpAny_mono ((hh L).2.2 { s₁ with heap := h₂, toks := tk₂ } ⟨RF, VF⟩) (fun fl s₃ ⟨st₃, R₃, A₃, q⟩ => ?_) fun e s₃ x => ?_
  · refine ⟨st₃.H, HRel.pop (A := (ffx F f fd L).A) R₃.1, A₂.wider A₃ hown hfr, ?_⟩
    cases fl <;> exact q
  · refine ex5and6 x fun st₃ ea cls as fl y5_ hx hfl R₃ A₃ q => ?_; try clear x; obtain rfl := y5_
    refine leaves (ffx_runs O f fd L) R₃ hx (hfl L rfl) A₃.alive fun s₄ W x₄ => ?_
    have A₄ := A₃.flew W
    refine ⟨st₃.H, ea, cls, as, rfl, ?_, HRel.pop (A := (ffx F f fd L).A) W.rel.1, A₂.wider A₄ hown hfr, q⟩
    exact x₄.older A₂.alive
end
end Mine
end
section
set_option maxRecDepth 100000
set_option Elab.async false
set_option linter.unusedVariables false
namespace Mine
open PySem PySem.W PySem.Calls PyProof.Rows Builtin Builtin.ObjectAttr Builtin.Getset_descriptor
theorem isStr_iff {k : Value} {x y : Str} {t : Tok} (h : k = .str x t) : k.isStr y = true ↔ y = x := by
  subst h
  show (x == y) = true ↔ _
  rw [beq_iff_eq]; exact eq_comm
theorem NsE.refKey {es : List DictEntry} : ∀ {l : List (Str × Value)}, NsE es l → es.any (·.refKey) = false := by
  induction es with
  | nil => intro l h; rfl
  | cons e r ih => intro l h; cases l with
   | nil => exact False.elim h
   | cons p q =>
    obtain ⟨⟨t, h1⟩, _, h3⟩ := h
    rw [List.any_cons, ih h3, Bool.or_false]
    show e.refKey = false
    unfold DictEntry.refKey; rw [h1]
theorem NsE.get {es : List DictEntry} : ∀ {l : List (Str × Value)}, NsE es l → ∀ name, match l.lookup name with
    | some v => ∃ u, getL name es = some (some u) ∧ er u = v
    | none => getL name es = some none := by
  induction es with
  | nil => intro l h name; cases l with
    | nil => rfl
    | cons _ _ => exact False.elim h
  | cons e r ih => intro l h name; cases l with
   | nil => exact False.elim h
   | cons p q =>
    obtain ⟨x, v⟩ := p
    obtain ⟨⟨t, h1⟩, h2, h3⟩ := h
    have ih := ih h3 name
    by_cases hx : name = x
    · subst hx
      simp only [List.lookup, beq_self_eq_true]
      refine ⟨e.val, ?_, h2⟩
      unfold getL
      rw [List.find?_cons_of_pos (p := fun x : DictEntry => x.key.isStr name) ((isStr_iff h1).mpr rfl)]
    · have hb : (name == x) = false := by simpa using hx
      simp only [List.lookup, hb]
      have hf : e.key.isStr name = false := by
        cases z : e.key.isStr name with
        | false => rfl
        | true => exact absurd ((isStr_iff h1).mp z) hx
      have hk : e.refKey = false := by unfold DictEntry.refKey; rw [h1]
      have e1 : getL name (e :: r) = getL name r := by
        unfold getL
        rw [List.find?_cons_of_neg (p := fun x : DictEntry => x.key.isStr name) (by rw [hf]; decide), List.any_cons, hk, Bool.false_or]
      rw [e1]; exact ih
theorem NsE.put (name : Str) (hsh : Int) (tk : Tok) (v : Value) {es : List DictEntry} : ∀ {l : List (Str × Value)}, NsE es l → NsE (putL name hsh (.str name tk) v es) (setV l name (er v)) := by
  induction es with
  | nil => intro l h; cases l with
    | nil => exact ⟨⟨tk, rfl⟩, rfl, trivial⟩
    | cons _ _ => exact False.elim h
  | cons e r ih => intro l h; cases l with
   | nil => exact False.elim h
   | cons p q =>
    obtain ⟨x, u⟩ := p
    obtain ⟨⟨t, h1⟩, h2, h3⟩ := h
    unfold putL setV
    by_cases hx : name = x
    · subst hx
      rw [if_pos ((isStr_iff h1).mpr rfl), if_pos rfl]
      exact ⟨⟨t, h1⟩, rfl, h3⟩
    · rw [if_neg (fun z => hx ((isStr_iff h1).mp z)), if_neg (fun z => hx (Eq.symm z))]
      exact ⟨⟨t, h1⟩, h2, ih h3⟩
theorem NsE.length : ∀ {es : List DictEntry} {l : List (Str × Value)}, NsE es l → es.length = l.length
  | [], [], _ => rfl
  | e :: r, p :: q, ⟨_, _, h3⟩ => by rw [List.length_cons, List.length_cons, NsE.length h3]
theorem handed_er {v : Value} : handedIn (er v) = handedIn v := by cases v <;> rfl
section
variable {prog : Program} {w : World} {F : Fx} {st : St} {s s' s₀ : Shared} {H₀ : AHeap} {X : Value → List Value → St → Prop} {K : Frag} {x C d : Addr} {name : Str} {v : Value} {Q : Value → St → Prop}
theorem KinS (KX : K.In F.base) (R : HRel prog w F.toFc st.H s) : K.In s.heap := KX.keeps R.stays
theorem inst_at (R : HRel prog w F.toFc st.H s) {es : List (Str × Value)} (hx : st.H x = some (.inst C d)) (hd : st.H d = some (.ns es)) :
    ∃ des n, InstAt s.heap x (instObj C d) C (some (dictOf des n)) ∧ NsE des es ∧ s.heap.get? d = some (dictOf des n) := by
  obtain ⟨o, ho, hr⟩ := R.cells _ _ hx
  refine ex1and2 (R.cells _ _ hd) fun od hod y2_ => ?_; obtain ⟨des, n, rfl, hn⟩ := y2_
  have hr : o = instObj C d := hr
  subst hr
  exact exi2 des n ⟨⟨ho, rfl, rfl, hod⟩, hn, hod⟩
theorem slots_at (R : HRel prog w F.toFc st.H s) {es : List (Str × Value)} {vs : List (Option Value)} (hx : st.H x = some (.slots C d vs)) (hd : st.H d = some (.ns es)) :
    ∃ ox des n, InstAt s.heap x ox C (some (dictOf des n)) ∧ NsE des es ∧ ox.slots.toList.map (Option.map er) = vs ∧ ox.data = .plain ∧ ox.dict = some d := by
  refine ex1and5 (R.cells _ _ hx) fun o ho h1 h2 h3 h4 => ?_
  refine ex1and2 (R.cells _ _ hd) fun od hod y2_ => ?_; obtain ⟨des, n, rfl, hn⟩ := y2_
  exact exi3 o des n ⟨⟨ho, h1, by unfold notCls; rw [h3], by rw [h2]; exact hod⟩, hn, h4, h3, h2⟩
theorem T_getA {es : List (Str × Value)} {attr : Option Value} {expr : Bool} (KX : K.In F.base) (hx : st.H x = some (.inst C d)) (hd : st.H d = some (.ns es)) (hl : es.lookup name = some v) (hv : handedIn v = true)
    (hg : plainGet K C name = true) (hh : hasDictIn K C = true) (ha : findIn K (.ref C) name = some attr) (hn : noGet K attr = true) (h : Q v st) : T prog w F (getAttr (.ref x) name expr) Q X st := by
  intro s R
  refine ex2and3 (inst_at R.1 hx hd) fun des n I hns _ => ?_
  have hz := hns.get name
  rw [hl] at hz
  obtain ⟨u, hu, rfl⟩ := hz
  exact get_value (KinS KX R.1) I (plainGet_of hg).1 (findObj_own hh ha hn (by rw [lookIn_dict]; exact hu)) (by rw [← handed_er]; exact hv) ⟨st, R.toks, .grow _ _ fun _ _ e => e, h⟩
theorem T_getS {es : List (Str × Value)} {vs : List (Option Value)} {p i : Nat} {expr : Bool} (KX : K.In F.base) (hx : st.H x = some (.slots C d vs)) (hd : st.H d = some (.ns es)) (hl : vs[i]? = some (some v)) (hv : handedIn v = true)
    (hg : plainGet K C name = true) (hc : isClsIn K C = true) (ha : findIn K (.ref C) name = some (some (.ref p))) (hn : specialIn K (.ref p) "__get__" = some (some (.builtin "member_descriptor.__get__"))) (ht : takesIn K (.ref p) = some true)
    (hp : slotIn K p C = some i) (h : Q v st) : T prog w F (getAttr (.ref x) name expr) Q X st := by
  intro s R
  refine ex3and4 (slots_at R.1 hx hd) fun ox des n I hns hsl _ => ?_
  have KS := KinS KX R.1
  rw [← hsl, List.getElem?_map] at hl
  obtain ⟨u, hu, hue⟩ := Option.map_eq_some_iff.mp hl
  obtain ⟨u', rfl, rfl⟩ := Option.map_eq_some_iff.mp hue
  refine get_bind KS I (plainGet_of hg).1 (findObj_data hc ha hn ht) (plainGet_of hg).2 (wpAny_call (slot_get (s := { s with toks := s.toks + 1 }) KS I hp ?_ (handed_on (by rw [← handed_er]; exact hv) ⟨st, R.toks, .grow _ _ fun _ _ e => e, h⟩)))
  rw [← Array.getElem?_toList, hu]; rfl
theorem setV_length (es : List (Str × Value)) (name : Str) (v : Value) : (setV es name v).length ≤ es.length + 1 := by
  induction es with
  | nil => exact Nat.le_refl _
  | cons p r ih =>
    unfold setV
    split
    · simp
    · rw [List.length_cons, List.length_cons]; omega
theorem osa_ns {R : Result → Shared → Prop} {A : Around} {ox : Obj} {des : List DictEntry} {n : Nat} {es : List (Str × Value)} {tk : Tok} (KS : K.In s.heap) (I : InstAt s.heap x ox C (some (dictOf des n))) (hox : ox.dict = some d) (hns : NsE des es) (D : s.heap.get? d = some (dictOf des n)) (hz : es.length < 1000)
    (hp : plainOver K C = true) (ht : takerIn K C name = some none) (hh : hasDictIn K C = true)
    (h : ∀ hsh, R (.ok (.ret .none)) { s with heap := s.heap.update d (Obj.putName name hsh (.str name s.toks) v), toks := s.toks + 1 }) :
    codeAny (model prog w) A (.call (.builtin "object.__setattr__") ⟨[.ref x, .str name tk, v], []⟩) R s := by
  refine osa_open KS I hp ht fun b => ?_
  obtain ⟨cd, hc, hd'⟩ := any_some hh
  have put := putName_dict name (PyData.keyHash w.params name) (.str name s.toks) v des n
  have D' := Heap.get?_update_self (Obj.putName name (PyData.keyHash w.params name) (.str name s.toks) v) D (by rw [put]; rfl)
  rw [put] at D'
  obtain ⟨hx, hcl, hn, -⟩ := I
  obtain ⟨oc, odi, oda, osl⟩ := ox
  dsimp only at hcl hox
  subst hcl hox
  refine wpAny_bind (wpAny_pure (wpAny_bind (wpAny_bind (wpAny_loadPart hx (wpAny_bind ((looks_clsIn KS hc).here ?_))))))
  rw [hd']
  refine wpAny_pure (a := some d) (wpAny_bind (wpAny_pure (wpAny_bind ?_)))
  unfold nsSet
  refine wpAny_bind (wpAny_bind (wpAny_askSetting (wpAny_pure (wpAny_bind (wpAny_mkText (wpAny_bind (wpAny_loadPart D ?_)))))))
  dsimp only
  have c : aRefKeyMayBeTheName name des.toArray = false := by
    rw [aRefKeyMayBeTheName_at, ← Array.any_toList, ← Array.any_toList]
    show (!_ && des.any _) = false
    rw [hns.refKey, Bool.and_false]
  rw [c]
  refine wpAny_updatePart D ?_
  refine wpAny_bind (wpAny_lookBehind D' (pastItsLine_dict ?_) ?_)
  · have e := (NsE.put name (PyData.keyHash w.params name) s.toks v hns).length
    have hb := setV_length es name (er v)
    rw [List.size_toArray, e, sizeLine_eq]; omega
  · exact wpAny_pure (h _)
theorem T_setA {es : List (Str × Value)} {v' : Value} {Q : Unit → St → Prop} (KX : K.In F.base) (hx : st.H x = some (.inst C d)) (hd : st.H d = some (.ns es)) (he : er v' = v) (hz : es.length < 1000)
    (hs : findIn K (.ref C) "__setattr__" = some (some (.builtin "object.__setattr__"))) (hp : plainOver K C = true) (ht : takerIn K C name = some none) (hh : hasDictIn K C = true)
    (h : Q () ⟨st.vars, upd st.H d (.ns (setV es name v))⟩) : T prog w F (setAttr (.ref x) name v') Q X st := by
  intro s R
  refine ex2and3 (inst_at R.1 hx hd) fun des n I hns D => ?_
  have KS := KinS KX R.1
  refine set_plain KS I hs (osa_ns (s := { s with toks := s.toks + 1 }) KS I rfl hns D hz hp ht hh fun hsh => ?_)
  have put := putName_dict name hsh (.str name (s.toks + 1)) v' des n
  have D' := Heap.get?_update_self (Obj.putName name hsh (.str name (s.toks + 1)) v') D (by rw [put]; rfl)
  rw [put] at D'
  have nd : st.H d ≠ none := by rw [hd]; exact nofun
  have hk : ∀ b ob, b ≠ d → s.heap.get? b = some ob → (s.heap.update d (Obj.putName name hsh (.str name (s.toks + 1)) v')).get? b = some ob := fun b ob hb e => by
    rw [Heap.get?_update_other _ _ (Ne.symm hb)]; exact e
  refine ⟨_, ?_, ?_, h⟩
  · refine Rel.set R nd hk rfl rfl D' ?_
    exact ⟨_, _, rfl, he ▸ NsE.put name _ _ v' hns⟩
  · exact After.set _ _ nd hk D'
noncomputable def setSlot (vs : List (Option Value)) (i : Nat) (v : Value) : List (Option Value) := (vs ++ List.replicate (i + 1 - vs.length) none).set i (some v)
theorem slot_set' {ox : Obj} {od : Option Obj} {v : Value} {p i : Nat} {R : Result → Shared → Prop} {A : Around} (X : K.In s.heap) (I : InstAt s.heap x ox C od)
    (hp : slotIn K p C = some i) (hi : i < 1000)
    (h : R (.ok (.ret .none)) { s with heap := s.heap.update x fun o => { o with slots := (o.slots ++ Array.replicate (i + 1 - o.slots.size) none).setIfInBounds i (some v) } }) :
    codeAny (model prog w) A (.call (.builtin "member_descriptor.__set__") ⟨[.ref p, .ref x, v], []⟩) R s := by
  refine ex8and5 (slot_of X hp) fun n tn owner behind tb d sl cd ho hc hm hb y12_ => ?_; obtain rfl := y12_
  obtain ⟨hh, g, dr, t, os⟩ := s
  have L0 := I.type (M := model prog w)
  have L1 := looks_mroIn (M := model prog w) X hm
  have L2 : Looks (model prog w) hh (Slots.slotNamesOf (.ref C)) cd.slotNames := (looks_clsIn X hc).andThen .now
  have hx := I.at_
  dsimp only at ho hx L0 L1
  have f0 := looks_field (M := model prog w) ho 0 (v := .str n tn) rfl
  have f1 := looks_field (M := model prog w) ho 1 (v := owner) rfl
  have f3 := looks_field (M := model prog w) ho 3 (v := .builtin "proto.slot#set") rfl
  have f4 := looks_field (M := model prog w) ho 4 (v := .int behind tb) rfl
  refine codeAny_call_builtin KF.slot_mset.plain KF.entry_mset (KF.slot_mset.check _ _ _ _ _ _ _ _ ⟨_, ho, rfl⟩ (KF.args_mset _ _ _) ?_)
  unfold Builtin.«member_descriptor.__set__» descrSet descrStoreThrough descrCheckInstance descrNameAndClass isInstance
  have f5 : Looks (model prog w) hh (descrItself (.ref p)) [.ref p] := ((Looks.ld (part := none) ho).andThen .now).andThen (Looks.of_pure (by kernel_rfl))
  repeat lk
  refine ⟨Code.quiet_builtin _ (by decide +kernel), codeAny_builtin KF.entry_slotset ?_⟩
  unfold Builtin.«proto.slot#set» Slots.target
  repeat lk
  rw [if_neg hb]
  refine wpAny_pure (wpAny_bind ?_)
  unfold setSlotAt
  dsimp only
  rw [if_neg (by rw [sizeLine_eq]; omega)]
  exact wpAny_updatePart hx (wpAny_pure h)
theorem T_setS {es : List (Str × Value)} {vs : List (Option Value)} {p i : Nat} {v' : Value} {Q : Unit → St → Prop} (KX : K.In F.base) (hx : st.H x = some (.slots C d vs)) (hd : st.H d = some (.ns es)) (he : er v' = v)
    (hs : findIn K (.ref C) "__setattr__" = some (some (.builtin "object.__setattr__"))) (hp : plainOver K C = true) (ht : takerIn K C name = some (some (.ref p))) (hT : typeIn K (.ref p) = some (.type "member_descriptor")) (hi : slotIn K p C = some i) (hz : i < 1000)
    (h : Q () ⟨st.vars, upd st.H x (.slots C d (setSlot vs i v))⟩) : T prog w F (setAttr (.ref x) name v') Q X st := by
  intro s R
  refine ex3and5 (slots_at R.1 hx hd) fun ox des n I hns hsl hpl hdt => ?_
  have KS := KinS KX R.1
  refine set_plain KS I hs (osa_descr (s := { s with toks := s.toks + 1 }) KF.slot_mset KS I hp ht hT (slot_set' (s := { s with toks := s.toks + 1 }) KS I hi hz ?_))
  have nx : st.H x ≠ none := by rw [hx]; exact nofun
  have D' := Heap.get?_update_self (fun o : Obj => { o with slots := (o.slots ++ Array.replicate (i + 1 - o.slots.size) none).setIfInBounds i (some v') }) I.at_ (by show Obj.isFreed _ = false; obtain ⟨c, dd, dt, sl⟩ := ox; subst hpl; rfl)
  have hk : ∀ b ob, b ≠ x → s.heap.get? b = some ob → (s.heap.update x fun o => { o with slots := (o.slots ++ Array.replicate (i + 1 - o.slots.size) none).setIfInBounds i (some v') }).get? b = some ob := fun b ob hb e => by
    rw [Heap.get?_update_other _ _ (Ne.symm hb)]; exact e
  refine ⟨_, ?_, ?_, h⟩
  · refine Rel.set R nx hk rfl rfl D' ⟨I.cls, hdt, hpl, ?_⟩
    unfold setSlot
    simp only [Array.toList_setIfInBounds, Array.toList_append, Array.toList_replicate, List.map_set, List.map_append, List.map_replicate]
    rw [hsl, ← hsl, List.length_map, Array.length_toList]
    simp [he]
  · exact After.set _ _ nx hk D'
theorem T_method {es : List (Str × Value)} {f : Addr} {pl : Sem Bool} {Q : Value × List Value → St → Prop} (KX : K.In F.base) (hx : st.H x = some (.inst C d)) (hd : st.H d = some (.ns es)) (hl : es.lookup name = none)
    (hg : plainGet K C name = true) (hf : findIn K (.ref C) name = some (some (.ref f))) (ht : isFn K (.ref f) = true) (h : Q (.ref f, [.ref x]) st) : T prog w F (getMethod (.ref x) name pl) Q X st := by
  intro s R
  refine ex2and3 (inst_at R.1 hx hd) fun des n I hns _ => ?_
  have hz := hns.get name
  rw [hl] at hz
  exact method_fn (KinS KX R.1) I (plainGet_of hg).1 (plainGet_of hg).2 hf (beq_iff_eq.mp ht) (by have hz : getL name des = some none := hz; show Option.map _ (lookIn name (dictOf des n)) = _; rw [lookIn_dict, hz]; rfl) ⟨st, R, .refl _ _ _ _, h⟩
theorem T_bound {es : List (Str × Value)} {f : Addr} {expr : Bool} (KX : K.In F.base) (hx : st.H x = some (.inst C d)) (hd : st.H d = some (.ns es)) (hl : es.lookup name = none)
    (hg : plainGet K C name = true) (hh : hasDictIn K C = true) (ha : findIn K (.ref C) name = some (some (.ref f))) (hf : isFn K (.ref f) = true)
    (hgf : specialIn K (.ref f) "__get__" = some (some (.builtin "function.__get__"))) (ht : takesIn K (.ref f) = some false) (hc : copiedNames.contains name = false)
    (h : ∀ a, st.H a = none → Q (.ref a) ⟨st.vars, upd st.H a (.meth (.ref f) (.ref x))⟩) : T prog w F (getAttr (.ref x) name expr) Q X st := by
  intro s R
  refine ex2and3 (inst_at R.1 hx hd) fun des n I hns _ => ?_
  have hz := hns.get name
  rw [hl] at hz
  have KS := KinS KX R.1
  have hnull : s.heap.get? s.heap.objs.size = none := Heap.get?_none_of_le (Nat.le_refl _)
  refine get_bind KS I (plainGet_of hg).1 (found_fn hh ha hgf ht hc (by rw [lookIn_dict]; exact hz)) (plainGet_of hg).2
    (wpAny_call (fn_get (s := { s with toks := s.toks + 1 }) KS (beq_iff_eq.mp hf) (handed_on rfl ⟨_, ?_, ?_, h s.heap.objs.size R.1.fresh⟩)))
  · exact R.new (s' := { s with heap := s.heap.push (methodObj (.ref f) (.ref x)), toks := s.toks + 1 }) (fun b o e => Heap.get?_push_of_some _ e) rfl rfl hnull (Heap.get?_push_size _ rfl) rfl
  · exact .new (s' := { s with heap := s.heap.push (methodObj (.ref f) (.ref x)), toks := s.toks + 1 }) _ _ (fun b o e => Heap.get?_push_of_some _ e) hnull
end
end Mine
end
section
set_option maxRecDepth 100000
set_option Elab.async false
set_option linter.unusedVariables false
namespace Mine
open PySem PySem.W PySem.Calls PyProof.Rows
section
variable {prog : Program} {w : World} {F : Fx} {st : St} {s s' s₀ : Shared} {H₀ : AHeap} {X : Value → List Value → St → Prop} {K : Frag} {Q : Value → St → Prop} {pos : Pos}
theorem T_sp0 {Q : List Value → St → Prop} (h : Q [] st) : T prog w F (spliced []) Q X st := fun s R => spliced_nil ⟨st, R, .refl _ _ _ _, h⟩
theorem T_sp1 {t : Sem Value} {rest : List (Bool × Sem Value)} {Q : List Value → St → Prop}
    (h : T prog w F t (fun v st₁ => T prog w F (spliced rest) (fun vs => Q (v :: vs)) X st₁) X st) : T prog w F (spliced ((false, t) :: rest)) Q X st := fun s R =>
  spliced_cons (h.then R (.refl _ _ _ _) fun v s₁ st₁ R₁ A₁ h₁ => h₁.then R₁ A₁ fun vs s₂ st₂ R₂ A₂ q => ⟨st₂, R₂, A₂, q⟩)
noncomputable def Spread (st : St) (v : Value) (xs : List Value) : Prop := ∃ a, v = .ref a ∧ (st.H a = some (.list xs) ∨ st.H a = some (.tup xs)) ∧ xs.length ≤ 1000000
theorem starOf {v v' : Value} {xs : List Value} {Q : List Value → Shared → Prop} {E : Value → Shared → Prop} (R : Rel prog w F st s) (h : Spread st v xs) (he : er v' = v)
    (k : ∀ vs h', vs.map er = xs → (∀ b o, s.heap.get? b = some o → h'.get? b = some o) → Q vs { s with heap := h' }) : StarO (model prog w) F.A E v' Q s := by
  obtain ⟨a, rfl, hl, hn⟩ := h
  have hv := er_ref he
  subst hv
  have both : ∀ (T : String) (o : Obj) (its : Array Value) (n : Nat), (T = "list" ∨ T = "tuple") → s.heap.get? a = some o → o.cls = .type T → o.data = .seq its n → its.toList.map er = xs → StarO (model prog w) F.A E (.ref a) Q s := by
    intro T o its n hT ho hc hd hx
    have hsz : its.size ≤ sizeLine := by
      have : its.size = xs.length := by rw [← hx, List.length_map, Array.length_toList]
      rw [sizeLine_eq]; omega
    have z : wpAny (model prog w) F.A (collect (.ref a)) Q E s := wpAny_collect_seq a hT ho hc hd (fun h' hk => k _ h' hx hk) hsz
    have hT' : s.TypeIs (.ref a) T := ⟨o, ho, hc⟩
    unfold StarO notIterableAtAll
    rcases hT with rfl | rfl
    · exact wpAny_bind (wpAny_specialOf hT' PySem.F.slot_list_iter.lookup (wpAny_pure ⟨rfl, z⟩))
    · exact wpAny_bind (wpAny_specialOf hT' PySem.F.slot_tuple_iter.lookup (wpAny_pure ⟨rfl, z⟩))
  rcases hl with hl | hl
  · refine ex1and5 (R.1.cells _ _ hl) fun o ho hc _ _ y5_ => ?_; obtain ⟨its, n, hd, hx⟩ := y5_
    exact both "list" o its n (.inl rfl) ho hc hd hx
  · refine ex1and5 (R.1.cells _ _ hl) fun o ho hc _ _ y5_ => ?_; obtain ⟨its, n, hd, hx⟩ := y5_
    exact both "tuple" o its n (.inr rfl) ho hc hd hx
noncomputable abbrev starTree (t : Sem Value) (pos : Pos) : Sem Value := do let v ← t; standAt pos; pure v
theorem T_spS {t : Sem Value} {rest : List (Bool × Sem Value)} {Q : List Value → St → Prop}
    (h : T prog w F t (fun v st₁ => ∃ xs, Spread st₁ v xs ∧ T prog w F (spliced rest) (fun vs => Q (xs ++ vs)) X st₁) X st) : T prog w F (spliced ((true, starTree t pos) :: rest)) Q X st := fun s R =>
  star_more (h.then R (.refl _ _ _ _) fun v s₁ st₁ R₁ A₁ ⟨xs, hs, h₁⟩ => starOf R₁ hs rfl fun vs h' hx hk =>
    h₁.then (R₁.grow (s' := { s₁ with heap := h' }) hk rfl rfl) (A₁.trans (.grow _ _ hk)) fun us s₂ st₂ R₂ A₂ q => ⟨st₂, R₂, A₂, by
      show Q ((vs ++ us).map er) st₂
      rw [List.map_append, hx]; exact q⟩)
theorem T_list {elts : List Expr} {trees : List (Bool × Sem Value)} (ht : backTo pos (starEach elts F.env) = trees)
    (h : T prog w F (spliced trees) (fun vs st₁ => vs.length ≤ 1000000 ∧ ∀ a, st₁.H a = none → Q (.ref a) ⟨st₁.vars, upd st₁.H a (.list vs)⟩) X st) : T prog w F (eval (.List elts pos) F.env) Q X st := by
  subst ht
  intro s R
  refine wpAny_List_spliced (h.then R (.refl _ _ _ _) fun vs s₁ st₁ R₁ A₁ ⟨hn, q⟩ => ?_)
  have hnull : s₁.heap.get? s₁.heap.objs.size = none := Heap.get?_none_of_le (Nat.le_refl _)
  refine ⟨by
    have : (Er.e vs : List Value).length = vs.length := List.length_map _
    rw [sizeLine_eq]; omega, _, R₁.new (s' := { s₁ with heap := s₁.heap.push { cls := .type "list", data := .seq vs.toArray } }) (fun b o e => Heap.get?_push_of_some _ e) rfl rfl hnull (Heap.get?_push_size _ rfl) (o := .list (vs.map er)) ⟨rfl, rfl, rfl, vs.toArray, 0, rfl, rfl⟩,
    A₁.trans (.new (s' := { s₁ with heap := s₁.heap.push { cls := .type "list", data := .seq vs.toArray } }) _ _ (fun b o e => Heap.get?_push_of_some _ e) hnull), q s₁.heap.objs.size R₁.1.fresh⟩
theorem T_tuple {elts : List Expr} {k : Nat} {trees : List (Bool × Sem Value)} (ht : backTo pos (starEach elts F.env) = trees)
    (h : T prog w F (spliced trees) (fun vs st₁ => vs.length ≤ 1000000 ∧ ∀ a, st₁.H a = none → Q (.ref a) ⟨st₁.vars, upd st₁.H a (.tup vs)⟩) X st) : T prog w F (eval (.Tuple elts k pos) F.env) Q X st := by
  subst ht
  intro s R
  refine wpAny_Tuple_spliced (h.then R (.refl _ _ _ _) fun vs s₁ st₁ R₁ A₁ ⟨hn, q⟩ => ?_)
  have hnull : s₁.heap.get? s₁.heap.objs.size = none := Heap.get?_none_of_le (Nat.le_refl _)
  refine ⟨by
    have : (Er.e vs : List Value).length = vs.length := List.length_map _
    rw [sizeLine_eq]; omega, _, R₁.new (s' := { s₁ with heap := s₁.heap.push { cls := .type "tuple", data := .seq vs.toArray } }) (fun b o e => Heap.get?_push_of_some _ e) rfl rfl hnull (Heap.get?_push_size _ rfl) (o := .tup (vs.map er)) ⟨rfl, rfl, rfl, vs.toArray, 0, rfl, rfl⟩,
    A₁.trans (.new (s' := { s₁ with heap := s₁.heap.push { cls := .type "tuple", data := .seq vs.toArray } }) _ _ (fun b o e => Heap.get?_push_of_some _ e) hnull), q s₁.heap.objs.size R₁.1.fresh⟩
noncomputable def Keeps (prog : Program) (w : World) (F : Fx) (f : Value) (st : St) : Prop := ∀ s, HRel prog w F.toFc st.H s → ∃ k, (k = Keeper.frame ∨ k = Keeper.machine ∨ k = Keeper.boundFrame) ∧ Looks (model prog w) s.heap (keeperOf f) k
theorem Keeps.k {f : Value} (KX : K.In F.base) (hk : keepIn K f = true) : Keeps prog w F f st := fun s R => keeps_K hk _ (KX.keeps R.stays)
theorem Keeps.builtin {id : String} : Keeps prog w F (.builtin id) st := fun s R => ⟨.machine, .inr (.inl rfl), .now⟩
theorem Keeps.type {id : String} : Keeps prog w F (.type id) st := fun s R => ⟨.machine, .inr (.inl rfl), .now⟩
theorem Keeps.meth {a f : Addr} {self : Value} (KX : K.In F.base) (ha : st.H a = some (.meth (.ref f) self)) (hf : fnIn K f = true) : Keeps prog w F (.ref a) st := fun s R => by
  obtain ⟨o, ho, hr⟩ := R.cells _ _ ha
  have hr : o = methodObj (.ref f) self := hr
  subst hr
  exact keeps_M hf _ ⟨ho, KX.keeps R.stays⟩
theorem Keeps.bm {a : Addr} {cls : String} {fn self : Value} (ha : st.H a = some (.bm cls fn self)) (hc : cls = "builtin_function_or_method" ∨ cls = "method-wrapper") : Keeps prog w F (.ref a) st := fun s R => by
  refine ex1and3 (R.cells _ _ ha) fun o ho hr y3_ => ?_; obtain ⟨s', hd, _⟩ := y3_
  refine ⟨.machine, .inr (.inl rfl), ?_⟩
  obtain ⟨c, d, dt, sl⟩ := o
  have hr : c = .type cls := hr
  have hd : dt = _ := hd
  subst hr hd
  refine (Looks.ld (part := none) ho).andThen ?_
  rcases hc with rfl | rfl <;> exact .now
noncomputable abbrev KeptBy (prog : Program) (w : World) (f : Value) (hp : Heap) : Prop := ∃ k, (k = Keeper.frame ∨ k = Keeper.machine ∨ k = Keeper.boundFrame) ∧ Looks (model prog w) hp (keeperOf f) k
theorem T_call0 {f : Value} {first : List Value} (hk : Keeps prog w F f st) (h : T prog w F (call f first) Q X st) : T prog w F (callWith pos f first [] []) Q X st := by
  intro s R
  refine callWith_of (P := KeptBy prog w f) rfl (fun _ x => x) (evalArgs_nil3 ⟨hk s R.1, ?_⟩)
  rw [List.append_nil]
  exact h s R
theorem T_callP {f : Value} {first : List Value} {t : Sem Value} {r : List (Bool × Sem Value)} (hplain : r.any (·.1) = false)
    (h : T prog w F (spliced ((false, t) :: r)) (fun vs st₁ => Keeps prog w F f st₁ ∧ ∀ vs', vs'.map er = vs → T prog w F (call f (first ++ vs')) Q X st₁) X st) : T prog w F (callWith pos f first ((false, t) :: r) []) Q X st := by
  intro s R
  refine callWith_of (P := KeptBy prog w f) (by show ((false || r.any (·.1)) || false) = false; rw [hplain]; rfl) (fun _ x => x) (evalArgs_plain ?_)
  exact h.then R (.refl _ _ _ _) fun vs s₁ st₁ R₁ A₁ ⟨hk, h₁⟩ => ⟨hk s₁ R₁.1, (h₁ vs rfl).then R₁ A₁ fun v s₂ st₂ R₂ A₂ q => ⟨st₂, R₂, A₂, q⟩⟩
theorem T_callS {f : Value} {first : List Value} {t : Sem Value} {r : List (Bool × Sem Value)} (hst : r.any (·.1) = true)
    (h : T prog w F (spliced ((false, t) :: r)) (fun vs st₁ => Keeps prog w F f st₁ ∧ ∀ vs', vs'.map er = vs → T prog w F (call f (first ++ vs')) Q X st₁) X st) : T prog w F (callWith pos f first ((false, t) :: r) []) Q X st := by
  intro s R
  refine call_star (P := KeptBy prog w f) (by show (false || r.any (·.1)) = true; rw [hst]; rfl) (fun _ x => x) (evalArgs_plain ?_)
  exact h.then R (.refl _ _ _ _) fun vs s₁ st₁ R₁ A₁ ⟨hk, h₁⟩ => ⟨hk s₁ R₁.1, (h₁ vs rfl).then R₁ A₁ fun v s₂ st₂ R₂ A₂ q => ⟨st₂, R₂, A₂, q⟩⟩
theorem T_callName {id : Str} {p : Pos} {args : List Expr} {trees : List (Bool × Sem Value)} (ht : backTo pos (starEach args F.env) = trees)
    (h : T prog w F (eval (.Name id p) F.env) (fun f st₁ => ∀ f', er f' = f → T prog w F (callWith pos f' [] trees []) Q X st₁) X st) : T prog w F (eval (.Call (.Name id p) args [] pos) F.env) Q X st := by
  subst ht
  exact fun s R => wpAny_Call_NameR (h.then R (.refl _ _ _ _) fun f s₁ st₁ R₁ A₁ h₁ => (h₁ f rfl).then R₁ A₁ fun v s₂ st₂ R₂ A₂ q => ⟨st₂, R₂, A₂, q⟩)
theorem T_callMeth {o : Expr} {name : Str} {apos : Pos} {args : List Expr} {pl : Sem Bool} {trees : List (Bool × Sem Value)} (ht : backTo pos (starEach args F.env) = trees)
    (he : eval (.Call (.Attribute o name apos) args [] pos) F.env = (do
      let ov ← eval o F.env
      standAt apos.atName
      let (f, first) ← holding [ov] (getMethod ov name pl)
      callWith pos f first (backTo pos (starEach args F.env)) []))
    (h : T prog w F (eval o F.env) (fun ov st₁ => ∀ ov', er ov' = ov → T prog w F (getMethod ov' name pl) (fun fx st₂ => ∀ f' first', er f' = fx.1 → first'.map er = fx.2 → T prog w F (callWith pos f' first' trees []) Q X st₂) X st₁) X st) :
    T prog w F (eval (.Call (.Attribute o name apos) args [] pos) F.env) Q X st := by
  subst ht
  exact fun s R => MethodCall_ (h.then R (.refl _ _ _ _) fun ov s₁ st₁ R₁ A₁ h₁ => (h₁ ov rfl).then R₁ A₁ fun fx s₂ st₂ R₂ A₂ h₂ =>
    (h₂ fx.1 fx.2 rfl rfl).then R₂ A₂ fun v s₃ st₃ R₃ A₃ q => ⟨st₃, R₃, A₃, q⟩) he
theorem T_callMethS {o : Expr} {name : Str} {apos : Pos} {args : List Expr} {trees : List (Bool × Sem Value)} (ht : backTo pos (starEach args F.env) = trees)
    (he : eval (.Call (.Attribute o name apos) args [] pos) F.env = (do
      let ov ← eval o F.env
      standAt apos.atName
      let (f, first) ← holding [ov] (do pure (← getAttr ov name true, []))
      callWith pos f first (backTo pos (starEach args F.env)) []))
    (h : T prog w F (eval o F.env) (fun ov st₁ => ∀ ov', er ov' = ov → T prog w F (getAttr ov' name true) (fun f st₂ => ∀ f', er f' = f → T prog w F (callWith pos f' [] trees []) Q X st₂) X st₁) X st) :
    T prog w F (eval (.Call (.Attribute o name apos) args [] pos) F.env) Q X st := by
  subst ht
  intro s R
  rw [he]
  refine wpAny_bind (h.then R (.refl _ _ _ _) fun ov s₁ st₁ R₁ A₁ h₁ => wpAny_bind (wpAny_standAt (wpAny_bind (wpAny_holding (wpAny_bind ((h₁ ov rfl).then R₁ A₁ fun f s₂ st₂ R₂ A₂ h₂ => wpAny_pure ?_))))))
  exact (h₂ f rfl).then R₂ A₂ fun v s₃ st₃ R₃ A₃ q => ⟨st₃, R₃, A₃, q⟩
theorem T_callAny {func : Expr} {args : List Expr} {trees : List (Bool × Sem Value)} (ht : backTo pos (starEach args F.env) = trees)
    (he : eval (.Call func args [] pos) F.env = (do callWith pos (← eval func F.env) [] (backTo pos (starEach args F.env)) []))
    (h : T prog w F (eval func F.env) (fun f st₁ => ∀ f', er f' = f → T prog w F (callWith pos f' [] trees []) Q X st₁) X st) : T prog w F (eval (.Call func args [] pos) F.env) Q X st := by
  subst ht
  intro s R
  rw [he]
  exact wpAny_bind (h.then R (.refl _ _ _ _) fun f s₁ st₁ R₁ A₁ h₁ => (h₁ f rfl).then R₁ A₁ fun v s₂ st₂ R₂ A₂ q => ⟨st₂, R₂, A₂, q⟩)
theorem T_attr {value : Expr} {attr : Str} (he : eval (.Attribute value attr pos) F.env = (do
      let o ← eval value F.env
      standAt pos.atName
      let r ← holding [o] (getAttr o attr true)
      letTemporaryGo value o r
      pure r))
    (h : T prog w F (eval value F.env) (fun ov st₁ => ∀ ov', er ov' = ov → T prog w F (getAttr ov' attr true) Q X st₁) X st) : T prog w F (eval (.Attribute value attr pos) F.env) Q X st := fun s R =>
  Attribute_any_ (h.then R (.refl _ _ _ _) fun ov s₁ st₁ R₁ A₁ h₁ => (h₁ ov rfl).then R₁ A₁ fun v s₂ st₂ R₂ A₂ q => ⟨st₂, R₂, A₂, q⟩) he
noncomputable def Sub (st : St) (v : Value) : Prop := ∃ a, v = .ref a ∧ ((∃ xs, st.H a = some (.list xs)) ∨ (∃ xs, st.H a = some (.tup xs)) ∨ ∃ es n, st.H a = some (.dict es n))
theorem subscripted_ops (slice : Expr) (o i : Value) : ∃ ops, subscripted slice false o i = operate ops (getItem o i) := by
  cases slice
  case Slice a b c p => cases c <;> exact ⟨_, rfl⟩
  all_goals exact ⟨_, rfl⟩
theorem tail_any {value slice : Expr} {o i : Value} {T id : String} {A : Around} {E : Value → Shared → Prop} {Q : Value → Shared → Prop} (hT : s.TypeIs o T)
    (hl : typeLookup (.type T) "__getitem__" = pure (some (.builtin id))) (h : wpAny (model prog w) A (getItem o i) Q E s) : wpAny (model prog w) A (subscriptTail value slice o i) Q E s := by
  obtain ⟨ops, hs⟩ := subscripted_ops slice o i
  unfold subscriptTail
  refine wpAny_bind ?_
  rw [getitemInPython_of_ne hT.not_modules]
  refine wpAny_bind (wpAny_specialOf hT hl ?_)
  have fin : wpAny (model prog w) A (subscripted slice false o i) (fun r s₃ => wpAny (model prog w) A (letTemporaryGo value o r >>= fun _ => pure r) Q E s₃) E s := by
    rw [hs]
    exact wpAny_operating (wpAny_mono h (fun r s₃ h₃ => wpAny_bind (wpAny_letTemporaryGo (wpAny_pure h₃))) fun _ _ x => x)
  first
    | exact wpAny_pure (wpAny_bind fin)
    | exact wpAny_bind (wpAny_pure (wpAny_bind fin))
    | exact wpAny_bind fin
theorem tail_sub {value slice : Expr} {o i : Value} {E : Value → Shared → Prop} {Q : Value → Shared → Prop} (R : HRel prog w F.toFc st.H s) (ho : Sub st o)
    (h : wpAny (model prog w) F.A (getItem o i) Q E s) : wpAny (model prog w) F.A (subscriptTail value slice o i) Q E s := by
  obtain ⟨a, rfl, ⟨xs, ha⟩ | ⟨xs, ha⟩ | ⟨es, n, ha⟩⟩ := ho
  · obtain ⟨ob, hob, hc, _⟩ := R.cells _ _ ha
    exact tail_any (T := "list") ⟨ob, hob, hc⟩ list_getitem_lookup h
  · obtain ⟨ob, hob, hc, _⟩ := R.cells _ _ ha
    exact tail_any (T := "tuple") ⟨ob, hob, hc⟩ PySem.F.slot_tuple_getitem.lookup h
  · obtain ⟨ob, hob, hx, _⟩ := R.cells _ _ ha
    exact tail_any (T := "dict") ⟨ob, hob, hx.1⟩ PySem.F.slot_dict_getitem.lookup h
theorem T_sub {value slice : Expr}
    (h : T prog w F (eval value F.env) (fun ov st₁ => T prog w F (eval slice F.env) (fun iv st₂ => Sub st₂ ov ∧ ∀ ov' iv', er ov' = ov → er iv' = iv → T prog w F (getItem ov' iv') Q X st₂) X st₁) X st) :
    T prog w F (eval (.Subscript value slice pos) F.env) Q X st := fun s R =>
  Subscript_ (h.then R (.refl _ _ _ _) fun ov s₁ st₁ R₁ A₁ h₁ => h₁.then R₁ A₁ fun iv s₂ st₂ R₂ A₂ ⟨hs, h₂⟩ => by
    have hov : Er.e ov = ov := by obtain ⟨a, ha, _⟩ := hs; rw [er_ref ha]; rfl
    rw [hov] at hs
    exact tail_sub R₂.1 hs ((h₂ ov iv rfl rfl).then R₂ A₂ fun v s₃ st₃ R₃ A₃ q => ⟨st₃, R₃, A₃, q⟩))
noncomputable def IsInt : Value → Option Int → Prop
  | .none, none => True
  | .int i _, some j => i = j
  | _, _ => False
theorem isPart_of {v : Value} {i : Option Int} (h : IsInt (er v) i) : IsPart v i := by
  cases v <;> cases i <;> first | exact h.elim | skip
  · exact .none
  · have h : _ = _ := h
    subst h; exact .int _ _
noncomputable def pickL (xs : List Value) (lo hi st : Option Int) : List Value := (sliceRange (sliceBounds lo hi st xs.length).1 (sliceBounds lo hi st xs.length).2.1 (sliceBounds lo hi st xs.length).2.2).filterMap (xs[·]?)
theorem pickL_er (items : Array Value) (lo hi st : Option Int) : (slicePick items lo hi st).toList.map er = pickL (items.toList.map er) lo hi st := by
  unfold slicePick pickL
  simp only [List.length_map, Array.length_toList]
  rw [List.map_filterMap]
  congr 1
  funext i
  rw [List.getElem?_map, Array.getElem?_toList]
theorem T_slice {value : Expr} {lo hi stp : Option Expr} {p : Pos}
    (h : T prog w F (eval value F.env) (fun ov st₁ => T prog w F (evalPart lo F.env) (fun lv st₂ => T prog w F (evalPart hi F.env) (fun hv st₃ => T prog w F (evalPart stp F.env) (fun sv st₄ =>
      ∃ a xs l u k, ov = .ref a ∧ st₄.H a = some (.list xs) ∧ xs.length ≤ 1000000 ∧ IsInt lv l ∧ IsInt hv u ∧ IsInt sv k ∧ k ≠ some 0 ∧ ∀ b, st₄.H b = none → Q (.ref b) ⟨st₄.vars, upd st₄.H b (.list (pickL xs l u k))⟩) X st₃) X st₂) X st₁) X st) :
    T prog w F (eval (.Subscript value (.Slice lo hi stp p) pos) F.env) Q X st := by
  intro s R
  refine Subscript_ (h.then R (.refl _ _ _ _) fun ov s₁ st₁ R₁ A₁ h₁ => wpAny_Slice (h₁.then R₁ A₁ fun lv s₂ st₂ R₂ A₂ h₂ => h₂.then R₂ A₂ fun hv s₃ st₃ R₃ A₃ h₃ => h₃.then R₃ A₃ fun sv s₄ st₄ R₄ A₄ h₄ => ?_))
  refine ex5and8 h₄ fun a xs l u k hov ha hn hl hu hk h0 q => ?_; try clear h₄
  have hov := er_ref hov
  subst hov
  have grow : ∀ b o, s₄.heap.get? b = some o → (s₄.heap.push { cls := .type "slice", data := .fields #[lv, hv, sv] }).get? b = some o := fun b o e => Heap.get?_push_of_some _ e
  have R₅ : Rel prog w F st₄ { s₄ with heap := s₄.heap.push { cls := .type "slice", data := .fields #[lv, hv, sv] } } := R₄.grow grow rfl rfl
  obtain ⟨items, hi, he⟩ := list_at R₅.1 ha
  have hnull := Heap.get?_none_of_le (h := s₄.heap.push { cls := .type "slice", data := .fields #[lv, hv, sv] }) (Nat.le_refl _)
  have up : ∀ b o, (s₄.heap.push { cls := .type "slice", data := .fields #[lv, hv, sv] }).get? b = some o → ((s₄.heap.push { cls := .type "slice", data := .fields #[lv, hv, sv] }).push { cls := .type "list", data := .seq (slicePick items l u k) }).get? b = some o := fun b o e => Heap.get?_push_of_some _ e
  refine tail_sub R₅.1 ⟨a, rfl, .inl ⟨xs, ha⟩⟩ (wpAny_getItem_list_slice hi (Heap.IsSliceOf.new ..) (isPart_of hl) (isPart_of hu) (isPart_of hk) h0 ⟨⟨st₄.vars, upd st₄.H _ (.list (pickL xs l u k))⟩, R₅.new (s' := { s₄ with heap := (s₄.heap.push { cls := .type "slice", data := .fields #[lv, hv, sv] }).push { cls := .type "list", data := .seq (slicePick items l u k) } }) up rfl rfl hnull (Heap.get?_push_size _ rfl) ⟨rfl, rfl, rfl, _, _, rfl, by rw [pickL_er, he]⟩, ?_, q _ R₅.1.fresh⟩ (by
    have : items.size = xs.length := by rw [← he, List.length_map, Array.length_toList]
    rw [sizeLine_eq]; omega))
  exact (A₄.trans (.grow (s' := { s₄ with heap := s₄.heap.push { cls := .type "slice", data := .fields #[lv, hv, sv] } }) _ _ grow)).trans (.new (s' := { s₄ with heap := (s₄.heap.push { cls := .type "slice", data := .fields #[lv, hv, sv] }).push { cls := .type "list", data := .seq (slicePick items l u k) } }) _ _ up hnull)
theorem T_partN (h : Q .none st) : T prog w F (evalPart none F.env) Q X st := fun s R => evalPart_none_step ⟨st, R, .refl _ _ _ _, h⟩
theorem T_partS {e : Expr} (h : T prog w F (eval e F.env) Q X st) : T prog w F (evalPart (some e) F.env) Q X st := fun s R => evalPart_some_step (h s R)
end
end Mine
end
section
set_option maxRecDepth 100000
set_option Elab.async false
set_option linter.unusedVariables false
namespace Mine
open PySem PySem.W PySem.Calls PyProof.Rows
noncomputable abbrev vI (i : Int) : Value := .int i 0
noncomputable abbrev vS (x : Str) : Value := .str x 0
noncomputable abbrev nums (ns : List Int) : List Value := ns.map vI
section
variable {prog : Program} {w : World} {F : Fx} {st : St} {s s' s₀ : Shared} {H₀ : AHeap} {X : Value → List Value → St → Prop} {K : Frag} {Q : Value → St → Prop} {pos : Pos} {a' b' : Value} {a b : Int}
theorem T_addI (ha : er a' = vI a) (hb : er b' = vI b) (h : Q (vI (a + b)) st) : T prog w F (binaryOp .Add a' b') Q X st := fun s R => by
  obtain ⟨t, rfl⟩ := er_int ha
  obtain ⟨u, rfl⟩ := er_int hb
  exact PySem.P.add_int ⟨st, R.toks, .grow _ _ fun _ _ e => e, h⟩
theorem T_subI (ha : er a' = vI a) (hb : er b' = vI b) (h : Q (vI (a - b)) st) : T prog w F (binaryOp .Sub a' b') Q X st := fun s R => by
  obtain ⟨t, rfl⟩ := er_int ha
  obtain ⟨u, rfl⟩ := er_int hb
  exact PySem.P.sub_int ⟨st, R.toks, .grow _ _ fun _ _ e => e, h⟩
theorem T_mulI (ha : er a' = vI a) (hb : er b' = vI b) (hm : IntMulOk a b) (h : Q (vI (a * b)) st) : T prog w F (binaryOp .Mult a' b') Q X st := fun s R => by
  obtain ⟨t, rfl⟩ := er_int ha
  obtain ⟨u, rfl⟩ := er_int hb
  exact PySem.P.mul_int ⟨st, R.toks, .grow _ _ fun _ _ e => e, h⟩ hm
theorem T_divI (ha : er a' = vI a) (hb : er b' = vI b) (h0 : b ≠ 0) (hs : b.natAbs < 1073741824) (h : Q (vI (a.fdiv b)) st) : T prog w F (binaryOp .FloorDiv a' b') Q X st := fun s R => by
  obtain ⟨t, rfl⟩ := er_int ha
  obtain ⟨u, rfl⟩ := er_int hb
  exact PyProof.Rows.floordiv_int h0 ⟨st, R.toks, .grow _ _ fun _ _ e => e, h⟩ (.inl (PyProof.noPylong_small hs))
theorem T_modI (ha : er a' = vI a) (hb : er b' = vI b) (h0 : b ≠ 0) (h : Q (vI (a.fmod b)) st) : T prog w F (binaryOp .Mod a' b') Q X st := fun s R => by
  obtain ⟨t, rfl⟩ := er_int ha
  obtain ⟨u, rfl⟩ := er_int hb
  exact PyProof.Rows.mod_int' h0 ⟨st, R.toks, .grow _ _ fun _ _ e => e, h⟩
theorem T_powI (ha : er a' = vI a) (hb : er b' = vI b) (h0 : 0 ≤ b) (hsz : (Builtin.Int.intBits a : Int) * b ≤ 2 ^ 27) (h : Q (vI (a ^ b.toNat)) st) : T prog w F (binaryOp .Pow a' b') Q X st := fun s R => by
  obtain ⟨t, rfl⟩ := er_int ha
  obtain ⟨u, rfl⟩ := er_int hb
  exact PyProof.Rows.pow_int h0 hsz ⟨st, R.toks, .grow _ _ fun _ _ e => e, h⟩
theorem T_negI (ha : er a' = vI a) (h : Q (vI (-a)) st) : T prog w F (unaryOp .USub a') Q X st := fun s R => by
  obtain ⟨t, rfl⟩ := er_int ha
  exact PySem.P.neg_int ⟨st, R.toks, .grow _ _ fun _ _ e => e, h⟩
theorem T_iaddI (ha : er a' = vI a) (hb : er b' = vI b) (h : Q (vI (a + b)) st) : T prog w F (inplaceOp .Add a' b') Q X st := fun s R => by
  obtain ⟨t, rfl⟩ := er_int ha
  obtain ⟨u, rfl⟩ := er_int hb
  exact PySem.P.iadd_int ⟨st, R.toks, .grow _ _ fun _ _ e => e, h⟩
theorem T_isubI (ha : er a' = vI a) (hb : er b' = vI b) (h : Q (vI (a - b)) st) : T prog w F (inplaceOp .Sub a' b') Q X st := fun s R => by
  obtain ⟨t, rfl⟩ := er_int ha
  obtain ⟨u, rfl⟩ := er_int hb
  exact PySem.P.isub_int ⟨st, R.toks, .grow _ _ fun _ _ e => e, h⟩
theorem T_eqI (ha : er a' = vI a) (hb : er b' = vI b) (h : Q (.bool (a == b)) st) : T prog w F (compareOp .Eq a' b') Q X st := fun s R => by
  obtain ⟨t, rfl⟩ := er_int ha
  obtain ⟨u, rfl⟩ := er_int hb
  exact PySem.P.eq_int ⟨st, R, .refl _ _ _ _, h⟩
theorem T_neI (ha : er a' = vI a) (hb : er b' = vI b) (h : Q (.bool (a != b)) st) : T prog w F (compareOp .NotEq a' b') Q X st := fun s R => by
  obtain ⟨t, rfl⟩ := er_int ha
  obtain ⟨u, rfl⟩ := er_int hb
  exact PySem.P.ne_int ⟨st, R, .refl _ _ _ _, h⟩
theorem T_ltI (ha : er a' = vI a) (hb : er b' = vI b) (h : Q (.bool (decide (a < b))) st) : T prog w F (compareOp .Lt a' b') Q X st := fun s R => by
  obtain ⟨t, rfl⟩ := er_int ha
  obtain ⟨u, rfl⟩ := er_int hb
  exact PySem.P.lt_int ⟨st, R, .refl _ _ _ _, h⟩
theorem T_gtI (ha : er a' = vI a) (hb : er b' = vI b) (h : Q (.bool (decide (a > b))) st) : T prog w F (compareOp .Gt a' b') Q X st := fun s R => by
  obtain ⟨t, rfl⟩ := er_int ha
  obtain ⟨u, rfl⟩ := er_int hb
  exact PySem.P.gt_int ⟨st, R, .refl _ _ _ _, h⟩
theorem T_geI (ha : er a' = vI a) (hb : er b' = vI b) (h : Q (.bool (decide (a ≥ b))) st) : T prog w F (compareOp .GtE a' b') Q X st := fun s R => by
  obtain ⟨t, rfl⟩ := er_int ha
  obtain ⟨u, rfl⟩ := er_int hb
  exact PySem.P.ge_int ⟨st, R, .refl _ _ _ _, h⟩
theorem T_isNone {v : Value} (ha : er a' = v) (hb : er b' = .none) (h : Q (.bool (v == .none)) st) : T prog w F (compareOp .Is a' b') Q X st := fun s R => by
  rw [er_none hb]
  refine is_none ⟨st, R, .refl _ _ _ _, ?_⟩
  subst ha
  have : (a' == Value.none) = (er a' == Value.none) := by cases a' <;> rfl
  show Q (.bool (a' == .none)) st
  rw [this]; exact h
theorem T_isntNone {v : Value} (ha : er a' = v) (hb : er b' = .none) (h : Q (.bool (!(v == .none))) st) : T prog w F (compareOp .IsNot a' b') Q X st := fun s R => by
  rw [er_none hb]
  refine isNot_none ⟨st, R, .refl _ _ _ _, ?_⟩
  subst ha
  have : (a' == Value.none) = (er a' == Value.none) := by cases a' <;> rfl
  show Q (.bool (!(a' == .none))) st
  rw [this]; exact h
theorem T_truthB {c : Bool} {Q : Bool → St → Prop} (ha : er a' = .bool c) (h : Q c st) : T prog w F (truthy a') Q X st := fun s R => by
  rw [er_bool ha]
  exact wpAny_truthy_bool ⟨st, R, .refl _ _ _ _, h⟩
theorem T_truthL {l : Addr} {xs : List Value} {Q : Bool → St → Prop} (ha : er a' = .ref l) (hl : st.H l = some (.list xs)) (hn : xs.length ≤ 1000000) (h : Q (!xs.isEmpty) st) : T prog w F (truthy a') Q X st := fun s R => by
  rw [er_ref ha]
  obtain ⟨items, hi, he⟩ := list_at R.1 hl
  have hs : items.size = xs.length := by rw [← he, List.length_map, Array.length_toList]
  refine wpAny_truthy_list hi (by omega) ⟨st, R.toks, .grow _ _ fun _ _ e => e, ?_⟩
  show Q (!items.isEmpty) st
  have : items.isEmpty = xs.isEmpty := by
    rw [← he]
    cases q : items.toList with
    | nil => rw [Array.isEmpty_iff.mpr (Array.toList_eq_nil_iff.mp q)]; rfl
    | cons x r =>
      rw [Array.isEmpty_eq_false_iff.mpr (fun z => by rw [z] at q; cases q)]; rfl
  rw [this]; exact h
theorem T_truthN {Q : Bool → St → Prop} (ha : er a' = .none) (h : Q false st) : T prog w F (truthy a') Q X st := fun s R => by
  rw [er_none ha]
  exact truthy_none ⟨st, R, .refl _ _ _ _, h⟩
theorem T_itemL {l : Addr} {xs : List Value} {i : Int} {x : Value} (ha : er a' = .ref l) (hb : er b' = vI i) (hl : st.H l = some (.list xs)) (h0 : 0 ≤ i) (hx : xs[i.toNat]? = some x) (hn : i < 1000000) (h : Q x st) : T prog w F (getItem a' b') Q X st := fun s R => by
  rw [er_ref ha]
  obtain ⟨t, rfl⟩ := er_int hb
  obtain ⟨items, hi, he⟩ := list_at R.1 hl
  rw [← he, List.getElem?_map] at hx
  obtain ⟨x', hx', rfl⟩ := Option.map_eq_some_iff.mp hx
  exact wpAny_getItem_list hi h0 (by omega) (by simpa using hx') ⟨st, R, .refl _ _ _ _, h⟩
theorem T_itemLast {l : Addr} {xs : List Value} {x : Value} (ha : er a' = .ref l) (hb : er b' = vI (-1)) (hl : st.H l = some (.list (xs ++ [x]))) (hn : xs.length < 1000000) (h : Q x st) : T prog w F (getItem a' b') Q X st := fun s R => by
  rw [er_ref ha]
  obtain ⟨t, rfl⟩ := er_int hb
  obtain ⟨items, hi, he⟩ := list_at R.1 hl
  have hs : items.size = xs.length + 1 := by
    have : (items.toList.map er).length = (xs ++ [x]).length := by rw [he]
    simpa using this
  have hx : (items.toList.map er)[xs.length]? = some x := by rw [he]; simp
  rw [List.getElem?_map] at hx
  obtain ⟨x', hx', rfl⟩ := Option.map_eq_some_iff.mp hx
  exact wpAny_getItem_list_neg hi (by omega) (by omega) (by omega) (by
    have : ((-1 : Int) + items.size).toNat = xs.length := by omega
    rw [this]; simpa using hx') ⟨st, R, .refl _ _ _ _, h⟩
end
end Mine
end
section
set_option maxRecDepth 100000
set_option Elab.async false
set_option linter.unusedVariables false
namespace Mine
open PySem PySem.W PySem.Calls PyProof.Rows PySem.SeqAt
mutual
noncomputable def Rd (H : AHeap) : PyData → Value → Prop
  | .none, v => v = .none
  | .bool b, v => v = .bool b
  | .int i, v => v = vI i
  | .str x, v => v = vS x
  | .list ds, v => ∃ a xs, v = .ref a ∧ H a = some (.list xs) ∧ RdAll H ds xs
  | .tuple ds, v => ∃ a xs, v = .ref a ∧ H a = some (.tup xs) ∧ RdAll H ds xs
  | .dict _, _ => False
noncomputable def RdAll (H : AHeap) : List PyData → List Value → Prop
  | [], [] => True
  | d :: ds, v :: vs => Rd H d v ∧ RdAll H ds vs
  | _, _ => False
end
section
variable {prog : Program} {w : World} {F : Fx} {st : St} {s s' s₀ : Shared} {H₀ H : AHeap} {X : Value → List Value → St → Prop} {K : Frag} {Q : Value → St → Prop} {pos : Pos} {a' b' : Value}
mutual
theorem Rd.reads (R : HRel prog w F.toFc H s) : ∀ {d : PyData} {v : Value}, Rd H d (er v) → ∃ as, Reads s.heap v d as
  | .none, v, h => by rw [er_none h]; exact ⟨_, .none⟩
  | .bool b, v, h => by rw [er_bool h]; exact ⟨_, .bool b⟩
  | .int i, v, h => by obtain ⟨t, rfl⟩ := er_int h; exact ⟨_, .int i t⟩
  | .str x, v, h => by obtain ⟨t, rfl⟩ := er_str h; exact ⟨_, .str x t⟩
  | .list ds, v, h => by
    refine ex2and3 h fun a xs hv ha hd => ?_; try clear h
    rw [er_ref hv]
    refine ex1and5 (R.cells _ _ ha) fun o ho hc _ _ y5_ => ?_; obtain ⟨items, n, hdt, he⟩ := y5_
    obtain ⟨as, ha⟩ := RdAll.reads R (ds := ds) (vs := items.toList) (he ▸ hd)
    exact ⟨_, .list ho hc hdt ha⟩
  | .tuple ds, v, h => by
    refine ex2and3 h fun a xs hv ha hd => ?_; try clear h
    rw [er_ref hv]
    refine ex1and5 (R.cells _ _ ha) fun o ho hc _ _ y5_ => ?_; obtain ⟨items, n, hdt, he⟩ := y5_
    obtain ⟨as, ha⟩ := RdAll.reads R (ds := ds) (vs := items.toList) (he ▸ hd)
    exact ⟨_, .tuple ho hc hdt ha⟩
  | .dict _, v, h => h.elim
theorem RdAll.reads (R : HRel prog w F.toFc H s) : ∀ {ds : List PyData} {vs : List Value}, RdAll H ds (vs.map er) → ∃ as, ReadsAll s.heap vs ds as
  | [], [], _ => ⟨_, .nil⟩
  | d :: ds, v :: vs, h => by
    have h : Rd H d (er v) ∧ RdAll H ds (vs.map er) := h
    obtain ⟨as, ha⟩ := Rd.reads R h.1
    obtain ⟨bs, hb⟩ := RdAll.reads R h.2
    exact ⟨_, .cons ha hb⟩
  | [], _ :: _, h => h.elim
  | _ :: _, [], h => h.elim
end
theorem RdAll.nums (H : AHeap) : ∀ ns : List Int, RdAll H (ns.map .int) (nums ns)
  | [] => trivial
  | _ :: r => ⟨rfl, RdAll.nums H r⟩
theorem eqvAll_nums : ∀ ns ms : List Int, PyData.eqvAll (ns.map .int) (ms.map .int) = (ns == ms)
  | [], [] => rfl
  | [], _ :: _ => rfl
  | _ :: _, [] => rfl
  | a :: r, b :: q => by
    show (PyData.eqv (.int a) (.int b) && PyData.eqvAll (r.map .int) (q.map .int)) = _
    rw [eqvAll_nums r q]; rfl
theorem lay_nums : ∀ ns : List Int, PyData.canLayAll0 (ns.map .int) = true
  | [] => rfl
  | _ :: r => lay_nums r
theorem depth_nums : ∀ ns : List Int, PyData.depthAll (ns.map .int) = 0
  | [] => rfl
  | _ :: r => by show max 0 (PyData.depthAll (r.map .int)) = 0; rw [depth_nums r]; rfl
theorem T_eqD {da db : PyData} (ha : Rd st.H da (er a')) (hb : Rd st.H db (er b')) (ca : da.canLay0 = true) (cb : db.canLay0 = true) (hu : F.A.units + min da.depth db.depth < cLine) (h : Q (.bool (PyData.eqv da db)) st) : T prog w F (compareOp .Eq a' b') Q X st := fun s R => by
  obtain ⟨as, ra⟩ := Rd.reads R.1 ha
  obtain ⟨bs, rb⟩ := Rd.reads R.1 hb
  exact compareEq_reads ra rb ca cb hu ⟨st, R, .refl _ _ _ _, h⟩
theorem T_neD {da db : PyData} (ha : Rd st.H da (er a')) (hb : Rd st.H db (er b')) (ca : da.canLay0 = true) (cb : db.canLay0 = true) (hu : F.A.units + min da.depth db.depth < cLine) (h : Q (.bool (!PyData.eqv da db)) st) : T prog w F (compareOp .NotEq a' b') Q X st := fun s R => by
  obtain ⟨as, ra⟩ := Rd.reads R.1 ha
  obtain ⟨bs, rb⟩ := Rd.reads R.1 hb
  exact compareNe_reads ra rb ca cb hu ⟨st, R, .refl _ _ _ _, h⟩
theorem T_inD {d : PyData} {ds : List PyData} (ha : Rd st.H d (er a')) (hb : Rd st.H (.list ds) (er b')) (ca : d.canLay0 = true) (cb : PyData.canLayAll0 ds = true) (hu : F.A.units + 1 + min (PyData.depthAll ds) d.depth < cLine) (h : Q (.bool (ds.any fun y => PyData.eqv y d)) st) : T prog w F (compareOp .In a' b') Q X st := fun s R => by
  obtain ⟨as, ra⟩ := Rd.reads R.1 ha
  obtain ⟨bs, rb⟩ := Rd.reads R.1 hb
  exact in_list_reads rb ra cb ca hu ⟨st, R, .refl _ _ _ _, h⟩
theorem T_notInD {d : PyData} {ds : List PyData} (ha : Rd st.H d (er a')) (hb : Rd st.H (.list ds) (er b')) (ca : d.canLay0 = true) (cb : PyData.canLayAll0 ds = true) (hu : F.A.units + 1 + min (PyData.depthAll ds) d.depth < cLine) (h : Q (.bool (!ds.any fun y => PyData.eqv y d)) st) : T prog w F (compareOp .NotIn a' b') Q X st := fun s R => by
  obtain ⟨as, ra⟩ := Rd.reads R.1 ha
  obtain ⟨bs, rb⟩ := Rd.reads R.1 hb
  exact notIn_list_reads rb ra cb ca hu ⟨st, R, .refl _ _ _ _, h⟩
theorem any_nums (i : Int) (ns : List Int) : ((ns.map PyData.int).any fun y => PyData.eqv y (.int i)) = decide (i ∈ ns) := by
  rw [List.any_map]
  induction ns with
  | nil => rfl
  | cons a r ih =>
    rw [List.any_cons, ih]
    show ((a == i) || _) = _
    by_cases e : a = i
    · subst e; simp
    · have : (a == i) = false := by simpa using e
      rw [this]; simp [Ne.symm e]
theorem T_inI {i : Int} {ns : List Int} {l : Addr} (ha : er a' = vI i) (hb : er b' = .ref l) (hl : st.H l = some (.list (nums ns))) (hu : F.A.units < 9000) (h : Q (.bool (decide (i ∈ ns))) st) : T prog w F (compareOp .In a' b') Q X st :=
  T_inD (d := .int i) (ds := ns.map .int) ha ⟨l, _, hb, hl, RdAll.nums _ ns⟩ rfl (lay_nums ns) (by rw [depth_nums]; show _ + 1 + min 0 0 < 9900; omega) (by rw [any_nums]; exact h)
theorem T_notInI {i : Int} {ns : List Int} {l : Addr} (ha : er a' = vI i) (hb : er b' = .ref l) (hl : st.H l = some (.list (nums ns))) (hu : F.A.units < 9000) (h : Q (.bool (!decide (i ∈ ns))) st) : T prog w F (compareOp .NotIn a' b') Q X st :=
  T_notInD (d := .int i) (ds := ns.map .int) ha ⟨l, _, hb, hl, RdAll.nums _ ns⟩ rfl (lay_nums ns) (by rw [depth_nums]; show _ + 1 + min 0 0 < 9900; omega) (by rw [any_nums]; exact h)
theorem plain_at {l : Addr} {xs : List Value} (R : HRel prog w F.toFc H s) (hl : H l = some (.list xs)) : ∃ items n, s.heap.get? l = some { cls := .type "list", dict := none, data := .seq items n, slots := #[] } ∧ items.toList.map er = xs := by
  refine ex1and5 (R.cells _ _ hl) fun o ho hc hd hs y5_ => ?_; obtain ⟨items, n, hdt, he⟩ := y5_
  obtain ⟨c, d, dt, sl⟩ := o
  cases hc; cases hd; cases hs; cases hdt
  exact exi2 items n ⟨ho, he⟩
theorem list_put {l : Addr} {xs ys : List Value} {h' : Heap} {tk : Nat} (R : Rel prog w F st s) (hl : st.H l = some (.list xs)) {items : Array Value} {n : Nat} (e : h'.get? l = some { cls := .type "list", dict := none, data := .seq items n, slots := #[] }) (he : items.toList.map er = ys) (hs : Heap.SameBut l s.heap h') :
    Rel prog w F ⟨st.vars, upd st.H l (.list ys)⟩ { s with heap := h', toks := tk } ∧ After (frAddrs F.stk) F.own st.H s (upd st.H l (.list ys)) { s with heap := h', toks := tk } := by
  have nl : st.H l ≠ none := by rw [hl]; exact nofun
  have hk : ∀ b ob, b ≠ l → s.heap.get? b = some ob → h'.get? b = some ob := fun b ob hb e => (hs.2 b hb).trans e
  exact ⟨R.set (s' := { s with heap := h', toks := tk }) nl hk rfl rfl e ⟨rfl, rfl, rfl, items, n, rfl, he⟩, After.set (s' := { s with heap := h', toks := tk }) _ _ nl hk e⟩
theorem len_of {items : Array Value} {xs : List Value} (he : items.toList.map er = xs) : items.size = xs.length := by rw [← he, List.length_map, Array.length_toList]
theorem T_append {l : Addr} {xs : List Value} {x x' : Value} (hl : st.H l = some (.list xs)) (hx : er x' = x) (hn : xs.length ≤ 1000000) (h : Q .none ⟨st.vars, upd st.H l (.list (xs ++ [x]))⟩) : T prog w F (call (.builtin "list.append") [.ref l, x']) Q X st := fun s R => by
  obtain ⟨items, n, ho, he⟩ := plain_at R.1 hl
  refine wpAny_list_append_plain ⟨n, ho⟩ (fun h' ⟨n', hl'⟩ hs => ?_) (by have := len_of he; rw [sizeLine_eq]; omega)
  obtain ⟨R', A'⟩ := list_put (tk := s.toks) R hl hl' (ys := xs ++ [x]) (by rw [Array.toList_push, List.map_append, he, ← hx]; rfl) hs
  exact ⟨_, R', A', h⟩
theorem update_at {h : Heap} {l : Addr} {items : Array Value} {n : Nat} (ho : h.get? l = some { cls := .type "list", dict := none, data := .seq items n, slots := #[] }) (f : Array Value → Array Value) :
    ∃ n', (h.update l (Obj.mapSeq f)).get? l = some { cls := .type "list", dict := none, data := .seq (f items) n', slots := #[] } := ⟨_, Heap.get?_update_self _ ho rfl⟩
theorem T_clear {l : Addr} {xs : List Value} (hl : st.H l = some (.list xs)) (hn : xs.length ≤ 1000000) (h : Q .none ⟨st.vars, upd st.H l (.list [])⟩) : T prog w F (call (.builtin "list.clear") [.ref l]) Q X st := fun s R => by
  obtain ⟨items, n, ho, he⟩ := plain_at R.1 hl
  refine call_meets PySem.F.slot_list_clear ⟨_, ho, rfl⟩ PySem.F.entry_list_clear (PySem.F.args_list_clear_1 _) (AutoSeq1.list_clear_list_0 l items n (by have := len_of he; rw [sizeLine_eq]; omega)) ⟨ho, ?_⟩
  obtain ⟨n', e⟩ := update_at ho fun _ => #[]
  obtain ⟨R', A'⟩ := list_put (tk := s.toks) R hl e (ys := []) rfl (Heap.SameBut.update ..)
  exact ⟨_, R', A', h⟩
theorem T_pop {l : Addr} {xs : List Value} {x : Value} (hl : st.H l = some (.list (xs ++ [x]))) (hn : xs.length ≤ 100000) (h : Q x ⟨st.vars, upd st.H l (.list xs)⟩) : T prog w F (callWith pos (.builtin "list.pop") [.ref l] [] []) Q X st := fun s R => by
  obtain ⟨items, n, ho, he⟩ := plain_at R.1 hl
  have hs1 : items.size = xs.length + 1 := by rw [len_of he]; simp
  have hx : (items.toList.map er)[xs.length]? = some x := by rw [he]; simp
  rw [List.getElem?_map] at hx
  obtain ⟨x', hx', rfl⟩ := Option.map_eq_some_iff.mp hx
  refine P.pop_list (y := x') ho (by rw [hs1]; simpa using hx') ?_ (by rw [sizeLine_eq]; omega)
  obtain ⟨n', e⟩ := update_at ho fun xs => xs.eraseIdxIfInBounds (items.size - 1)
  obtain ⟨R', A'⟩ := list_put (tk := s.toks) R hl e (ys := xs) (by
    have : items.size - 1 = xs.length := by omega
    rw [this]
    have e2 : (items.eraseIdxIfInBounds xs.length).toList = items.toList.eraseIdx xs.length := by simp
    rw [e2, List.eraseIdx_eq_take_drop_succ, List.map_append, List.map_take, List.map_drop, he]
    simp) (Heap.SameBut.update ..)
  exact ⟨_, R', A', h⟩
theorem T_addL {l b : Addr} {xs ys : List Value} (ha : er a' = .ref l) (hb' : er b' = .ref b) (hl : st.H l = some (.list xs)) (hb : st.H b = some (.list ys)) (hn : xs.length + ys.length ≤ 1000000) (h : ∀ c, st.H c = none → Q (.ref c) ⟨st.vars, upd st.H c (.list (xs ++ ys))⟩) : T prog w F (binaryOp .Add a' b') Q X st := fun s R => by
  rw [er_ref ha, er_ref hb']
  obtain ⟨items, n, ho, he⟩ := plain_at R.1 hl
  obtain ⟨it2, n2, ho2, he2⟩ := plain_at R.1 hb
  have hs1 := len_of he
  have hs2 := len_of he2
  refine PySem.concat_meets ⟨_, ho, rfl⟩ ⟨_, ho2, rfl⟩ noFill_list_add seq_list_add PySem.F.slot_list_add PySem.F.entry_list_add (PySem.F.args_list_add_2 _ _) (AutoSeq1.list___add___list_list_0 l items n b it2 n2 (by rw [sizeLine_eq]; omega)) ⟨ho, ho2, ?_⟩
  have hnull : s.heap.get? s.heap.objs.size = none := Heap.get?_none_of_le (Nat.le_refl _)
  refine ⟨_, R.new (s' := { s with heap := s.heap.push { cls := .type "list", data := .seq (items ++ it2) }, toks := s.toks }) (fun b o e => Heap.get?_push_of_some _ e) rfl rfl hnull (Heap.get?_push_size _ rfl) (o := .list (xs ++ ys)) ⟨rfl, rfl, rfl, items ++ it2, 0, rfl, by rw [Array.toList_append, List.map_append, he, he2]⟩, ?_, h s.heap.objs.size R.1.fresh⟩
  exact .new (s' := { s with heap := s.heap.push { cls := .type "list", data := .seq (items ++ it2) }, toks := s.toks }) _ _ (fun b o e => Heap.get?_push_of_some _ e) hnull
end
end Mine
end
section
set_option maxRecDepth 100000
set_option Elab.async false
set_option linter.unusedVariables false
namespace Mine
open PySem PySem.W PySem.Calls PyProof.Rows PySem.SeqAt
structure KeyBy (prog : Program) (w : World) (κ : Type) [DecidableEq κ] where
  knd : KeyKind prog w κ
  val : κ → Value
  is : ∀ k v, er v = val k → knd.is k v = true
  scan : ∀ k v, er v = val k → v.scannable = true
  rep : ∀ des kvs, KeysOf knd des → Pairs knd des.toList kvs → (kvs.map (·.1)).Nodup → KDict prog w des (kvs.map fun p => (val p.1, er p.2))
  un : ∀ des kvs, KDict prog w des (kvs.map fun p => (val p.1, p.2)) → ∃ kvs', KeysOf knd des ∧ Pairs knd des.toList kvs' ∧ (kvs'.map (·.1)).Nodup ∧ kvs'.map (fun p => (p.1, er p.2)) = kvs
  aset : List κ → AO
  srep : ∀ ks o S, o.SetObjOf knd S ks.length → (∀ k, S k = decide (k ∈ ks)) → RepO prog w (aset ks) o
  sun : ∀ ks o, RepO prog w (aset ks) o → ∃ S, o.SetObjOf knd S ks.length ∧ ∀ k, S k = decide (k ∈ ks)
theorem noKeys {prog : Program} {w : World} {κ κ' : Type} [DecidableEq κ] [DecidableEq κ'] {knd : KeyKind prog w κ} {knd' : KeyKind prog w κ'} {des : Array DictEntry} (hp : Pairs knd des.toList []) : KeysOf knd' des ∧ Pairs knd' des.toList [] := by
  have : des.toList = [] := by generalize des.toList = l at hp; cases hp; rfl
  rw [this]
  have e : des = #[] := Array.toList_eq_nil_iff.mp this
  subst e
  exact ⟨fun e he => by simp at he, .nil⟩
noncomputable def KI (prog : Program) (w : World) : KeyBy prog w Int where
  knd := intKind prog w
  val := vI
  is k v h := by obtain ⟨t, rfl⟩ := er_int h; exact intKind_is _ _ _ _
  scan k v h := by obtain ⟨t, rfl⟩ := er_int h; rfl
  rep des kvs a b c := .inl ⟨kvs, a, b, c, rfl⟩
  un des kvs h := by
    rcases h with ⟨l, a, b, c, e⟩ | ⟨l, a, b, c, e⟩
    · refine ⟨l, a, b, c, ?_⟩
      clear a b c
      induction kvs generalizing l with
      | nil => cases l with | nil => rfl | cons _ _ => cases e
      | cons p r ih =>
        cases l with
        | nil => cases e
        | cons q l =>
          rw [List.map_cons, List.map_cons] at e
          injection e with e1 e2
          injection e1 with e3 e4
          injection e3 with e5
          rw [List.map_cons, ih l e2, ← e4, ← e5]
    · cases kvs with
      | nil =>
        cases l with
        | nil => obtain ⟨x, y⟩ := noKeys (knd' := intKind prog w) b; exact ⟨[], x, y, List.nodup_nil, rfl⟩
        | cons _ _ => cases e
      | cons p r =>
        cases l with
        | nil => cases e
        | cons q l =>
          rw [List.map_cons, List.map_cons] at e
          injection e with e1 e2
          injection e1 with e3 e4
          cases e3
  aset := .iset
  srep ks o S h1 h2 := ⟨S, h1, h2⟩
  sun ks o h := h
section
variable {prog : Program} {w : World} {F : Fx} {st : St} {s s' s₀ : Shared} {H₀ H : AHeap} {X : Value → List Value → St → Prop} {K : Frag} {Q : Value → St → Prop} {pos : Pos} {a' b' : Value}
variable {κ : Type} [DecidableEq κ] (B : KeyBy prog w κ) {d : Addr} {n : Nat} {kvs : List (κ × Value)} {k : κ} {key : Value}
noncomputable abbrev dE (B : KeyBy prog w κ) (kvs : List (κ × Value)) : List (Value × Value) := kvs.map fun p => (B.val p.1, p.2)
theorem dict_by (R : HRel prog w F.toFc H s) (hd : H d = some (.dict (dE B kvs) n)) : ∃ kvs', s.heap.DictAt B.knd d kvs' n ∧ kvs'.map (fun p => (p.1, er p.2)) = kvs := by
  refine ex1and3 (R.cells _ _ hd) fun o ho hx y3_ => ?_; obtain ⟨des, hdt, hk⟩ := y3_
  refine ex1and4 (B.un des kvs hk) fun kvs' a b c e => ?_
  exact ⟨kvs', ⟨o, des, ho, hx, hdt, a, b, c⟩, e⟩
theorem valueAt_er (kvs' : List (κ × Value)) (k : κ) : (valueAt kvs' k).map er = valueAt (kvs'.map fun p => (p.1, er p.2)) k := by
  unfold valueAt
  induction kvs' with
  | nil => rfl
  | cons p r ih =>
    rw [List.map_cons, List.find?_cons, List.find?_cons]
    by_cases e : p.1 = k
    · simp [e]
    · simp only [e, decide_false]; exact ih
theorem stored_er (kvs' : List (κ × Value)) (k : κ) (v : Value) : (stored kvs' k v).map (fun p => (p.1, er p.2)) = stored (kvs'.map fun p => (p.1, er p.2)) k (er v) := by
  unfold stored
  rw [List.any_map]
  have : ((fun kv : κ × Value => decide (kv.1 = k)) ∘ fun p : κ × Value => (p.1, er p.2)) = fun kv => decide (kv.1 = k) := rfl
  rw [this]
  split
  · rw [List.map_map, List.map_map]
    refine List.map_congr_left fun p _ => ?_
    show (if p.1 = k then (p.1, v) else p).map id er = if p.1 = k then (p.1, er v) else (p.1, er p.2)
    split <;> rfl
  · rw [List.map_append]; rfl
theorem without_er (kvs' : List (κ × Value)) (k : κ) : (without kvs' k).map (fun p => (p.1, er p.2)) = without (kvs'.map fun p => (p.1, er p.2)) k := by
  unfold without
  rw [List.filter_map]; rfl
theorem dict_put {h' : Heap} {tk : Nat} {es : List (Value × Value)} {kvs' : List (κ × Value)} (R : Rel prog w F st s) (hd : st.H d = some (.dict es n)) (hm : h'.DictOf B.knd d kvs') (hs : Heap.SameBut d s.heap h') :
    ∃ n', Rel prog w F ⟨st.vars, upd st.H d (.dict (dE B (kvs'.map fun p => (p.1, er p.2))) n')⟩ { s with heap := h', toks := tk } ∧ After (frAddrs F.stk) F.own st.H s (upd st.H d (.dict (dE B (kvs'.map fun p => (p.1, er p.2))) n')) { s with heap := h', toks := tk } := by
  refine ex3and6 hm fun o des ep ho hx hdt h1 h2 h3 => ?_; try clear hm
  have nl : st.H d ≠ none := by rw [hd]; exact nofun
  have hk : ∀ b ob, b ≠ d → s.heap.get? b = some ob → h'.get? b = some ob := fun b ob hb e => (hs.2 b hb).trans e
  refine ⟨ep, R.set (s' := { s with heap := h', toks := tk }) nl hk rfl rfl ho ⟨hx, des, hdt, ?_⟩, After.set (s' := { s with heap := h', toks := tk }) _ _ nl hk ho⟩
  have := B.rep des kvs' h1 h2 h3
  unfold dE
  rw [List.map_map]
  exact this
theorem T_setD {v' v : Value} {Q : Unit → St → Prop} (ha : er a' = .ref d) (hk : er key = B.val k) (hv : er v' = v) (hd : st.H d = some (.dict (dE B kvs) n)) (hn : kvs.length ≤ 1000000)
    (h : ∀ n', Q () ⟨st.vars, upd st.H d (.dict (dE B (stored kvs k v)) n')⟩) : T prog w F (setItem a' key v') Q X st := fun s R => by
  rw [er_ref ha]
  obtain ⟨kvs', hD, he⟩ := dict_by B R.1 hd
  have hl : kvs'.length = kvs.length := by rw [← he, List.length_map]
  refine wpAny_setItem_pairs (B.is k key hk) hD.dictOf (fun h' hm hs => ?_) (by rw [sizeLine_eq]; omega)
  obtain ⟨n', R', A'⟩ := dict_put B (tk := s.toks + 1) R hd hm hs
  rw [stored_er, he, hv] at R' A'
  exact ⟨_, R', A', h n'⟩
theorem T_getD {v : Value} (ha : er a' = .ref d) (hk : er key = B.val k) (hd : st.H d = some (.dict (dE B kvs) n)) (hv : valueAt kvs k = some v) (h : Q v st) : T prog w F (getItem a' key) Q X st := fun s R => by
  rw [er_ref ha]
  obtain ⟨kvs', hD, he⟩ := dict_by B R.1 hd
  rw [← he, ← valueAt_er] at hv
  obtain ⟨v', hv', rfl⟩ := Option.map_eq_some_iff.mp hv
  exact wpAny_getItem_of (B.is k key hk) hD.dictOf.mapOf hv' ⟨st, R.toks, .grow _ _ fun _ _ e => e, h⟩
theorem T_dget (N : NoSys F.toFc) (hk : er key = B.val k) (hd : st.H d = some (.dict (dE B kvs) n)) (h : Q ((valueAt kvs k).getD .none) st) : T prog w F (call (.builtin "dict.get") [.ref d, key]) Q X st := fun s R => by
  obtain ⟨kvs', hD, he⟩ := dict_by B R.1 hd
  refine call_meetsIn PySem.F.slot_dict_get hD.dictOf.typeIs PySem.F.entry_dict_get (PySem.F.args_dict_get_2 _ _) (meets_dict_get B.knd d (B.is k key hk) (notSys R.1 N (by rw [hd]; exact nofun))) ⟨_, hD.dictOf.mapOf, st, R.toks, .grow _ _ fun _ _ e => e, ?_⟩
  have : er ((valueAt kvs' k).getD .none) = (valueAt kvs k).getD .none := by
    rw [← he, ← valueAt_er]
    cases valueAt kvs' k <;> rfl
  show Q (er _) st
  rw [this]; exact h
theorem T_inDict (N : NoSys F.toFc) (hk : er key = B.val k) (ha : er a' = .ref d) (hd : st.H d = some (.dict (dE B kvs) n)) (h : Q (.bool (valueAt kvs k).isSome) st) : T prog w F (compareOp .In key a') Q X st := fun s R => by
  rw [er_ref ha]
  obtain ⟨kvs', hD, he⟩ := dict_by B R.1 hd
  refine wpAny_in_of (B.is k key hk) (notSys R.1 N (by rw [hd]; exact nofun)) hD.dictOf.mapOf ⟨st, R.toks, .grow _ _ fun _ _ e => e, ?_⟩
  rw [← he, ← valueAt_er, Option.isSome_map] at h; exact h
theorem T_notInDict (N : NoSys F.toFc) (hk : er key = B.val k) (ha : er a' = .ref d) (hd : st.H d = some (.dict (dE B kvs) n)) (h : Q (.bool (!(valueAt kvs k).isSome)) st) : T prog w F (compareOp .NotIn key a') Q X st := fun s R => by
  rw [er_ref ha]
  obtain ⟨kvs', hD, he⟩ := dict_by B R.1 hd
  refine wpAny_notIn_of (B.is k key hk) (notSys R.1 N (by rw [hd]; exact nofun)) hD.dictOf.mapOf ⟨st, R.toks, .grow _ _ fun _ _ e => e, ?_⟩
  rw [← he, ← valueAt_er, Option.isSome_map] at h; exact h
theorem T_delD {Q : Unit → St → Prop} (ha : er a' = .ref d) (hk : er key = B.val k) (hd : st.H d = some (.dict (dE B kvs) n)) (hv : (valueAt kvs k).isSome = true) (hn : kvs.length ≤ 1000000)
    (h : ∀ n', Q () ⟨st.vars, upd st.H d (.dict (dE B (without kvs k)) n')⟩) : T prog w F (delItem a' key) Q X st := fun s R => by
  rw [er_ref ha]
  obtain ⟨kvs', hD, he⟩ := dict_by B R.1 hd
  have hl : kvs'.length = kvs.length := by rw [← he, List.length_map]
  rw [← he, ← valueAt_er, Option.isSome_map] at hv
  refine wpAny_delItem_slot hD.dictOf.typeIs (by decide) PySem.F.slot_dict_delitem (call_meetsIn PySem.F.slot_dict_delitem hD.dictOf.typeIs PySem.F.entry_dict_delitem (PySem.F.args_dict_delitem_2 _ _) (meets_dict_delitem_pairs B.knd d (B.is k key hk)) ⟨kvs', hD.dictOf, by rw [sizeLine_eq]; omega, hv, fun h' hm hs => ?_⟩)
  obtain ⟨n', R', A'⟩ := dict_put B (tk := s.toks + 1) R hd hm hs
  rw [without_er, he] at R' A'
  exact ⟨_, R', A', h n'⟩
theorem T_values (N : NoSys F.toFc) (hd : st.H d = some (.dict (dE B kvs) n)) (h : ∀ a, st.H a = none → Q (.ref a) ⟨st.vars, upd st.H a (.vals d)⟩) : T prog w F (call (.builtin "dict.values") [.ref d]) Q X st := fun s R => by
  obtain ⟨kvs', hD, he⟩ := dict_by B R.1 hd
  have hnull : s.heap.get? s.heap.objs.size = none := Heap.get?_none_of_le (Nat.le_refl _)
  refine call_meetsIn PySem.F.slot_dict_values hD.dictOf.typeIs PySem.F.entry_dict_values (PySem.F.args_dict_values_1 _) (meets_dict_values B.knd d (notSys R.1 N (by rw [hd]; exact nofun))) ⟨⟨_, hD.dictOf⟩, ?_⟩
  exact ⟨_, R.new (s' := { s with heap := s.heap.push { cls := .type "dict_values", data := .fields #[.ref d] } }) (fun b o e => Heap.get?_push_of_some _ e) rfl rfl hnull (Heap.get?_push_size _ rfl) (o := .vals d) ⟨rfl, rfl⟩,
    .new (s' := { s with heap := s.heap.push { cls := .type "dict_values", data := .fields #[.ref d] } }) _ _ (fun b o e => Heap.get?_push_of_some _ e) hnull, h _ R.1.fresh⟩
theorem T_dict0 (h : ∀ a, st.H a = none → Q (.ref a) ⟨st.vars, upd st.H a (.dict [] 0)⟩) : T prog w F (eval (.Dict [] [] pos) F.env) Q X st := fun s R => by
  have hnull : s.heap.get? s.heap.objs.size = none := Heap.get?_none_of_le (Nat.le_refl _)
  exact wpAny_Dict_empty ⟨_, R.new (s' := { s with heap := s.heap.push { cls := .type "dict", data := .dict #[] } }) (fun b o e => Heap.get?_push_of_some _ e) rfl rfl hnull (Heap.get?_push_size _ rfl) (o := .dict [] 0) ⟨⟨rfl, rfl, rfl⟩, #[], rfl, .inl ⟨[], fun e he => by simp at he, .nil, List.nodup_nil, rfl⟩⟩,
    .new (s' := { s with heap := s.heap.push { cls := .type "dict", data := .dict #[] } }) _ _ (fun b o e => Heap.get?_push_of_some _ e) hnull, h _ R.1.fresh⟩
theorem set_by {ks : List κ} (R : HRel prog w F.toFc H s) (hd : H d = some (B.aset ks)) (hn : ks.length ≤ 1000) : ∃ S, s.heap.SetOf B.knd d S ks.length ∧ ∀ k, S k = decide (k ∈ ks) := by
  obtain ⟨o, ho, hr⟩ := R.cells _ _ hd
  obtain ⟨S, h1, h2⟩ := B.sun ks o hr
  refine ex0and2 h1 fun hex y1_ => ?_; try clear h1; obtain ⟨es, ep, t, q1, q2, q3, q4, q5⟩ := y1_
  exact ⟨S, ⟨o, es, ep, t, ho, hex, q1, q2, q3, by rw [q4]; exact Nat.lt_of_le_of_lt hn (by decide), q5, q4⟩, h2⟩
theorem T_inSet {ks : List κ} (hk : er key = B.val k) (ha : er a' = .ref d) (hd : st.H d = some (B.aset ks)) (hn : ks.length ≤ 1000) (h : Q (.bool (decide (k ∈ ks))) st) : T prog w F (compareOp .In key a') Q X st := fun s R => by
  rw [er_ref ha]
  obtain ⟨S, hS, e⟩ := set_by B R.1 hd hn
  exact wpAny_inSet_of (B.is k key hk) (B.scan k key hk) hS ⟨st, R.toks, .grow _ _ fun _ _ e => e, by rw [e]; exact h⟩
theorem T_setAdd {ks : List κ} (hk : er key = B.val k) (hd : st.H d = some (B.aset ks)) (hnew : k ∉ ks) (hn : ks.length ≤ 1000) (h : Q .none ⟨st.vars, upd st.H d (B.aset (ks ++ [k]))⟩) : T prog w F (call (.builtin "set.add") [.ref d, key]) Q X st := fun s R => by
  obtain ⟨S, hS, e⟩ := set_by B R.1 hd hn
  refine call_set_add (B.is k key hk) (B.scan k key hk) hS (Nat.lt_of_le_of_lt (Nat.succ_le_succ hn) (by decide)) fun h' hs hS' => ?_
  have hf : S k = false := by rw [e]; simpa using hnew
  refine ex4and8 hS' fun o es ep t ho hex q1 q2 q3 q4 q5 q6 => ?_; try clear hS'
  have nl : st.H d ≠ none := by rw [hd]; exact nofun
  have hkp : ∀ b ob, b ≠ d → s.heap.get? b = some ob → h'.get? b = some ob := fun b ob hb e => (hs.2 b hb).trans e
  refine ⟨_, R.set (s' := { s with heap := h', toks := s.toks + 1 }) nl hkp rfl rfl ho (B.srep (ks ++ [k]) o _ ⟨hex, es, ep, t, q1, q2, q3, ?_, q5⟩ fun k' => ?_), After.set (s' := { s with heap := h', toks := s.toks + 1 }) _ _ nl hkp ho, h⟩
  · rw [q6, hf]; simp
  · rw [e]
    simp only [List.mem_append, List.mem_singleton, Bool.decide_or]
theorem setObjOf_fresh' (led : Bool) : Obj.SetObjOf B.knd { cls := .type "set", dict := none, data := .set #[] 0 (.fresh 0 0 led) } (fun _ => false) 0 :=
  ⟨⟨rfl, rfl, rfl⟩, #[], 0, _, rfl, fun e he => by simp at he, fun k => by simp, rfl, by rfl⟩
theorem T_setNew (h : ∀ a, st.H a = none → Q (.ref a) ⟨st.vars, upd st.H a (B.aset [])⟩) : T prog w F (call (.type "set") []) Q X st := fun s R => by
  have hnull : s.heap.get? s.heap.objs.size = none := Heap.get?_none_of_le (Nat.le_refl _)
  refine call_set_0 fun led => ?_
  exact ⟨_, R.new (s' := { s with heap := s.heap.push { cls := .type "set", dict := none, data := .set #[] 0 (.fresh 0 0 led) } }) (fun b o e => Heap.get?_push_of_some _ e) rfl rfl hnull (Heap.get?_push_size _ rfl) (B.srep [] _ (fun _ => false) (setObjOf_fresh' B led) fun k => by simp),
    .new (s' := { s with heap := s.heap.push { cls := .type "set", dict := none, data := .set #[] 0 (.fresh 0 0 led) } }) _ _ (fun b o e => Heap.get?_push_of_some _ e) hnull, h _ R.1.fresh⟩
end
end Mine
end
section
set_option maxRecDepth 100000
set_option Elab.async false
set_option linter.unusedVariables false
namespace Mine
open PySem PySem.W PySem.Calls PyProof.Rows PySem.SeqAt
section
variable {prog : Program} {w : World} {F : Fx} {st : St} {s s' s₀ : Shared} {H₀ H : AHeap} {X : Value → List Value → St → Prop} {K : Frag} {Q : Value → St → Prop} {pos : Pos} {a' b' : Value}
theorem intsAre_of : ∀ {vs : List Value} {ns : List Int}, vs.map er = nums ns → IntsAre vs ns
  | [], [], _ => .nil
  | v :: vs, n :: ns, h => by
    rw [List.map_cons, nums, List.map_cons] at h
    injection h with h1 h2
    obtain ⟨t, rfl⟩ := er_int h1
    exact .cons n t (intsAre_of h2)
  | [], _ :: _, h => nomatch h
  | _ :: _, [], h => nomatch h
theorem of_intsAre : ∀ {vs : List Value} {ns : List Int}, IntsAre vs ns → vs.map er = nums ns := by
  intro vs ns h
  induction h with
  | nil => rfl
  | cons n t _ ih => rw [List.map_cons, ih]; rfl
theorem ints_at {l : Addr} {ns : List Int} (R : HRel prog w F.toFc H s) (hl : H l = some (.list (nums ns))) : ∃ vs : List Value, s.heap.IsList l vs.toArray ∧ IntsAre vs ns := by
  refine ex1and5 (R.cells _ _ hl) fun o ho hc _ _ y5_ => ?_; obtain ⟨items, n, hd, he⟩ := y5_
  exact ⟨items.toList, ⟨o, ho, hc, n, by rw [hd]⟩, intsAre_of he⟩
theorem Rel.hup (R : Rel prog w F st s) {h' : Heap} {tk : Nat} (hk : ∀ b o, s.heap.get? b = some o → h'.get? b = some o) : Rel prog w F st { s with heap := h', toks := tk } ∧ After (frAddrs F.stk) F.own st.H s st.H { s with heap := h', toks := tk } :=
  ⟨R.grow hk rfl rfl, .grow _ _ hk⟩
theorem T_len {l : Addr} {xs : List Value} (hl : st.H l = some (.list xs)) (hn : xs.length ≤ 1000000) (h : Q (vI xs.length) st) : T prog w F (call (.builtin "len") [.ref l]) Q X st := fun s R => by
  obtain ⟨items, hi, he⟩ := list_at R.1 hl
  have hs := len_of he
  refine PySem.Calls.call_len_list hi (by omega) ⟨st, R.toks, .grow _ _ fun _ _ e => e, ?_⟩
  show Q (.int items.size 0) st
  rw [hs]; exact h
theorem T_lenT {l : Addr} {xs : List Value} (hl : st.H l = some (.tup xs)) (hn : xs.length ≤ 1000000) (h : Q (vI xs.length) st) : T prog w F (call (.builtin "len") [.ref l]) Q X st := fun s R => by
  obtain ⟨items, hi, he⟩ := tup_at R.1 hl
  have hs := len_of he
  refine PyProof.Rows.len_tuple hi (by omega) ⟨st, R.toks, .grow _ _ fun _ _ e => e, ?_⟩
  show Q (.int items.size 0) st
  rw [hs]; exact h
theorem T_range {n : Int} (ha : er a' = vI n) (h : ∀ a, st.H a = none → Q (.ref a) ⟨st.vars, upd st.H a (.rng 0 n)⟩) : T prog w F (call (.type "range") [a']) Q X st := fun s R => by
  obtain ⟨t, rfl⟩ := er_int ha
  have hnull : s.heap.get? s.heap.objs.size = none := Heap.get?_none_of_le (Nat.le_refl _)
  refine call_range_1 ⟨_, R.new (s' := { s with heap := s.heap.push { cls := .type "range", data := .fields #[.int 0 s.toks, .int n t, .int 1 (s.toks + 1)] }, toks := s.toks + 1 + 1 }) (fun b o e => Heap.get?_push_of_some _ e) rfl rfl hnull (Heap.get?_push_size _ rfl) (o := .rng 0 n) ⟨_, _, _, rfl⟩, ?_, h _ R.1.fresh⟩
  exact .new (s' := { s with heap := s.heap.push { cls := .type "range", data := .fields #[.int 0 s.toks, .int n t, .int 1 (s.toks + 1)] }, toks := s.toks + 1 + 1 }) _ _ (fun b o e => Heap.get?_push_of_some _ e) hnull
theorem T_sum {l : Addr} {ns : List Int} (hh : F.A.handled = none) (hl : st.H l = some (.list (nums ns))) (h : Q (vI ns.sum) st) : T prog w F (call (.builtin "sum") [.ref l]) Q X st := fun s R => by
  obtain ⟨vs, hv, hi⟩ := ints_at R.1 hl
  obtain ⟨xs, e⟩ := hi.allInts.items
  have hns : ns = xs.toList.map (·.1) := by rw [← hi.numsOf, ← nums_intItems, ← e]
  rw [e] at hv
  refine sum_intListG hh hv fun h' tk t' hk => ?_
  obtain ⟨R', A'⟩ := R.hup (tk := tk) hk
  refine ⟨st, R', A', ?_⟩
  show Q (.int _ 0) st
  rw [preSum_eq, List.take_of_length_le (by simp), ← hns]; exact h
theorem T_sorted {l : Addr} {ns : List Int} (hl : st.H l = some (.list (nums ns)) ∨ st.H l = some (.tup (nums ns))) (h64 : ns.length < 64) (h : ∀ a ns', st.H a = none → ns'.Perm ns → ns'.Pairwise (· ≤ ·) → Q (.ref a) ⟨st.vars, upd st.H a (.list (nums ns'))⟩) : T prog w F (call (.builtin "sorted") [.ref l]) Q X st := fun s R => by
  have both : ∀ (T : String) (o : Obj) (its : Array Value) (n : Nat), (T = "list" ∨ T = "tuple") → s.heap.get? l = some o → o.cls = .type T → o.data = .seq its n → its.toList.map er = nums ns →
      wpAny (model prog w) F.A (call (.builtin "sorted") [.ref l]) (fun v s' => ∃ st', Rel prog w F st' s' ∧ After (frAddrs F.stk) F.own st.H s st'.H s' ∧ Q (Er.e v) st') (XPost prog w F X st.H s) s := by
    intro T o its n hT ho hc hd hx
    have hsz : its.toList.length = ns.length := by
      have : (its.toList.map er).length = (nums ns).length := by rw [hx]
      simpa using this
    have hI := intsAre_of hx
    refine Calls.call_function_entry kind_sorted plain_sorted entry_sorted (args_sorted1 _) ?_
    unfold Builtin.«sorted»
    refine wpAny_bind (m := checkCount "sorted" 1 1 _) (wpAny_pure ?_)
    refine wpAny_bind (wpAny_collect_seq l hT ho hc hd (fun h' hk => ?_) (by rw [sizeLine_eq]; rw [Array.length_toList] at hsz; omega))
    refine wpAny_bind (wpAny_newList ?_ (by rw [sizeLine_eq]; omega))
    have hnull : h'.get? h'.objs.size = none := Heap.get?_none_of_le (Nat.le_refl _)
    have hnull0 : s.heap.get? h'.objs.size = none := by
      cases q : s.heap.get? h'.objs.size with
      | none => rfl
      | some z => rw [hk _ _ q] at hnull; cases hnull
    have hoL : (h'.push (seqObj "list" its.toList.toArray 0)).get? h'.objs.size = some (seqObj "list" its.toList.toArray 0) := Heap.get?_push_size _ rfl
    show wpAny _ _ _ _ _ { s with heap := h'.push (seqObj "list" its.toList.toArray 0) }
    refine wpAny_bind (wpAny_holding (wpAny_call_entry slot_list_sort ⟨_, hoL, rfl⟩ entry_list_sort (list_sort_tree hoL hI (by omega) fun out ns' a1 a2 a3 => ⟨_, rfl, ?_⟩) (args_list_sort _)))
    refine wpAny_pure ⟨_, rfl, ?_⟩
    obtain ⟨e, he⟩ := sortedHeap_at (vs := its.toList) (out := out) hoL
    have up : ∀ b o, s.heap.get? b = some o → (sortedHeap (h'.push (seqObj "list" its.toList.toArray 0)) h'.objs.size its.toList out).get? b = some o := fun b o eb => by
      have hb := hk b o eb
      have hlt := Heap.lt_size hb
      rw [sortedHeap_old (Nat.ne_of_lt hlt) (by rw [Heap.size_push]; exact Nat.lt_succ_of_lt hlt)]
      exact Heap.get?_push_of_some _ hb
    exact ⟨_, R.new (s' := { s with heap := sortedHeap (h'.push (seqObj "list" its.toList.toArray 0)) h'.objs.size its.toList out }) up rfl rfl hnull0 he (o := .list (nums ns')) ⟨rfl, rfl, rfl, out, e, rfl, of_intsAre a1⟩,
      .new (s' := { s with heap := sortedHeap (h'.push (seqObj "list" its.toList.toArray 0)) h'.objs.size its.toList out }) _ _ up hnull0, h _ ns' (R.1.none_of hnull0) a2 a3⟩
  rcases hl with hl | hl
  · refine ex1and5 (R.1.cells _ _ hl) fun o ho hc _ _ y5_ => ?_; obtain ⟨its, n, hd, hx⟩ := y5_
    exact both "list" o its n (.inl rfl) ho hc hd hx
  · refine ex1and5 (R.1.cells _ _ hl) fun o ho hc _ _ y5_ => ?_; obtain ⟨its, n, hd, hx⟩ := y5_
    exact both "tuple" o its n (.inr rfl) ho hc hd hx
theorem T_tupleOf {l : Addr} {xs : List Value} (hl : st.H l = some (.list xs)) (hn : xs.length ≤ 1000000) (h : ∀ a, st.H a = none → Q (.ref a) ⟨st.vars, upd st.H a (.tup xs)⟩) : T prog w F (call (.type "tuple") [.ref l]) Q X st := fun s R => by
  obtain ⟨items, hi, he⟩ := list_at R.1 hl
  refine call_tuple_list hi (fun h' hk => ?_) (by have := len_of he; rw [sizeLine_eq]; omega)
  have hnull : h'.get? h'.objs.size = none := Heap.get?_none_of_le (Nat.le_refl _)
  have hnull0 : s.heap.get? h'.objs.size = none := by
    cases q : s.heap.get? h'.objs.size with
    | none => rfl
    | some z => rw [hk _ _ q] at hnull; cases hnull
  have up : ∀ b o, s.heap.get? b = some o → (h'.push { cls := .type "tuple", data := .seq items }).get? b = some o := fun b o e => Heap.get?_push_of_some _ (hk _ _ e)
  exact ⟨_, R.new (s' := { s with heap := h'.push { cls := .type "tuple", data := .seq items } }) up rfl rfl hnull0 (Heap.get?_push_size _ rfl) (o := .tup xs) ⟨rfl, rfl, rfl, items, 0, rfl, he⟩,
    .new (s' := { s with heap := h'.push { cls := .type "tuple", data := .seq items } }) _ _ up hnull0, h _ (R.1.none_of hnull0)⟩
theorem T_typeL {l : Addr} {xs : List Value} (hl : st.H l = some (.list xs)) (h : Q (.type "list") st) : T prog w F (call (.type "type") [.ref l]) Q X st := fun s R => by
  obtain ⟨o, ho, hc, _⟩ := R.1.cells _ _ hl
  exact call_type_of (Tx := "list") ⟨o, ho, hc⟩ (by decide) ⟨st, R, .refl _ _ _ _, h⟩
theorem T_strI {i : Int} (ha : er a' = vI i) (hn : i.natAbs < 2 ^ 40) (h : Q (vS (Str.ofString (toString i))) st) : T prog w F (call (.type "str") [a']) Q X st := fun s R => by
  obtain ⟨t, rfl⟩ := er_int ha
  refine PySem.P.str_of_int ?_ ⟨st, R.toks, .grow _ _ fun _ _ e => e, h⟩
  by_cases h0 : i.natAbs = 0
  · rw [h0]; decide +kernel
  · have : i.natAbs.log2 < 40 := (Nat.log2_lt h0).mpr hn
    omega
theorem T_addS {x y : Str} (ha : er a' = vS x) (hb : er b' = vS y) (hn : x.length + y.length ≤ 100000) (h : Q (vS (x ++ y)) st) : T prog w F (binaryOp .Add a' b') Q X st := fun s R => by
  obtain ⟨t, rfl⟩ := er_str ha
  obtain ⟨u, rfl⟩ := er_str hb
  exact PyProof.Rows.add_str (fun t' tk => ⟨st, R.grow (fun _ _ e => e) rfl rfl, .grow _ _ fun _ _ e => e, h⟩) (by rw [sizeLine_eq]; omega)
end
end Mine
end
section
set_option maxRecDepth 100000
set_option Elab.async false
set_option linter.unusedVariables false
namespace Mine
open PySem PySem.W PySem.Calls PyProof.Rows PySem.SeqAt Builtin Builtin.ObjectAttr
section
variable {prog : Program} {w : World} {M : Model} {A : Around} {E : Value → Shared → Prop} {s : Shared}
theorem slot_wdget : Slot "wrapper_descriptor" "__get__" "wrapper_descriptor.__get__" :=
  .of (owner := "wrapper_descriptor") (n := "__get__") (by rw [typeLookup_type, builtinLookup_eq_fast]; kernel_rfl) (by decide +kernel) (by decide +kernel) (by decide +kernel)
    (by first | exact .inl (by decide +kernel) | exact .inr (by decide +kernel)) (by rw [isSubtype_type]; kernel_rfl)
theorem entry_wdget : entryFor table "wrapper_descriptor.__get__" = some Builtin.«wrapper_descriptor.__get__» := entryFor_of_tree (by kernel_rfl)
theorem args_wdget (a b c : Value) : argsOk "wrapper_descriptor.__get__" ⟨[a, b, c], []⟩ := by unfold argsOk; kernel_rfl
theorem type_lc : typeOf (.builtin "list.__contains__") = pure (.type "wrapper_descriptor") := by show builtinType _ = _; rw [builtinType_eq_fast]; kernel_rfl
theorem type_ln : typeOf (.builtin "list_iterator.__next__") = pure (.type "wrapper_descriptor") := by show builtinType _ = _; rw [builtinType_eq_fast]; kernel_rfl
theorem sub_li : isSubtype (.type "list_iterator") (.type "list_iterator") = pure true := by rw [isSubtype_type]; kernel_rfl
theorem inst_named {l : Addr} {o : Obj} {T U : String} {Q : Bool → Shared → Prop} (ho : s.heap.get? l = some o) (hc : o.cls = .type T) (hs : isSubtype (.type T) (.type T) = pure true) (hU : U = T) (h : Q true s) : wpAny M A (isInstance (.ref l) (.type U)) Q E s := by
  subst hU
  unfold isInstance
  refine wpAny_bind (wpAny_typeOf (T := U) ⟨o, ho, hc⟩ ?_)
  rw [hs]; exact wpAny_pure h
theorem run_wdget {l : Addr} {o : Obj} {T : String} {id : String} {P : Fin → Shared → Prop} (ho : s.heap.get? l = some o) (hc : o.cls = .type T) (hs : isSubtype (.type T) (.type T) = pure true)
    (hid : (id = "list.__contains__" ∧ T = "list") ∨ (id = "list_iterator.__next__" ∧ T = "list_iterator"))
    (h : P (.done (.ret (.ref s.heap.objs.size))) { s with heap := s.heap.push { cls := .type "method-wrapper", data := .fields #[.builtin id, .ref l] } }) :
    wpAny M A (Builtin.«wrapper_descriptor.__get__» ⟨[.builtin id, .ref l, .type T], []⟩) P E s := by
  unfold Builtin.«wrapper_descriptor.__get__»
  rcases hid with ⟨rfl, rfl⟩ | ⟨rfl, rfl⟩
  · refine wpAny_bind (wpAny_of_eq (a := (.builtin "list.__contains__", some (.ref l), some (.type "list"))) (by first | rfl | kernel_rfl) ?_)
    dsimp only
    refine wpAny_bind ?_
    refine wpAny_bind (wpAny_pure ?_)
    refine wpAny_bind (inst_named ho hc hs (by kernel_rfl) ?_)
    refine wpAny_pure ?_
    exact wpAny_bind (wpAny_newObj_type (wpAny_pure h))
  · refine wpAny_bind (wpAny_of_eq (a := (.builtin "list_iterator.__next__", some (.ref l), some (.type "list_iterator"))) (by first | rfl | kernel_rfl) ?_)
    dsimp only
    refine wpAny_bind ?_
    refine wpAny_bind (wpAny_pure ?_)
    refine wpAny_bind (inst_named ho hc hs (by kernel_rfl) ?_)
    refine wpAny_pure ?_
    exact wpAny_bind (wpAny_newObj_type (wpAny_pure h))
theorem looks_wd {h : Heap} {id : String} (ht : typeOf (.builtin id) = pure (.type "wrapper_descriptor")) : Looks M h (getOf (some (.builtin id))) (some (.builtin "wrapper_descriptor.__get__")) ∧ Looks M h (takesStores (.builtin id)) false := by
  have L0 : Looks M h (typeOf (.builtin id)) (.type "wrapper_descriptor") := Looks.of_pure ht
  have e1 : findIn [] (.type "wrapper_descriptor") "__get__" = some (some (.builtin "wrapper_descriptor.__get__")) := by decide +kernel
  have e2 : findIn [] (.type "wrapper_descriptor") "__set__" = some none := by decide +kernel
  have e3 : findIn [] (.type "wrapper_descriptor") "__delete__" = some none := by decide +kernel
  have X : Frag.In [] h := fun a o e => by cases e
  refine ⟨L0.andThen (looks_findIn X e1), ?_⟩
  have s2 : Looks M h (specialOf (.builtin id) "__set__") none := L0.andThen (looks_findIn X e2)
  have s3 : Looks M h (specialOf (.builtin id) "__delete__") none := L0.andThen (looks_findIn X e3)
  unfold takesStores
  refine s2.andThen ?_
  rw [if_neg (by decide)]
  exact s3.andThen .now
theorem run_oga {l : Addr} {o : Obj} {T id : String} {name : Str} {u : Tok} {P : Fin → Shared → Prop} (ho : s.heap.get? l = some o) (hc : o.cls = .type T) (hd : o.dict = none) (hncls : notCls o = true) (hs : isSubtype (.type T) (.type T) = pure true)
    (hid : (id = "list.__contains__" ∧ T = "list") ∨ (id = "list_iterator.__next__" ∧ T = "list_iterator")) (ht : typeOf (.builtin id) = pure (.type "wrapper_descriptor")) (hl : typeLookup (.type T) name = pure (some (.builtin id)))
    (hcp : copiedNames.contains name = false) (hnd : typeHasDict (.type T) = false)
    (h : P (.done (.ret (.ref s.heap.objs.size))) { s with heap := s.heap.push { cls := .type "method-wrapper", data := .fields #[.builtin id, .ref l] } }) :
    wpAny (model prog w) A (Builtin.«object.__getattribute__» ⟨[.ref l, .str name u], []⟩) P E s := by
  obtain ⟨Lg, Lt⟩ := looks_wd (M := model prog w) (h := s.heap) ht
  obtain ⟨c, dct, dt, sl⟩ := o
  dsimp only at hc hd
  subst hc hd
  unfold Builtin.«object.__getattribute__»
  refine wpAny_bind (wpAny_of_eq (a := (.ref l, [.str name u])) (by first | rfl | kernel_rfl) ?_)
  dsimp only
  refine wpAny_bind (wpAny_pure ?_)
  refine wpAny_bind (wpAny_typeOf (T := T) ⟨_, ho, rfl⟩ ?_)
  refine wpAny_bind ?_
  unfold find
  refine wpAny_bind (wpAny_of_eq hl ?_)
  refine wpAny_bind (Lg.here ?_)
  refine wpAny_bind ?_
  unfold dataDescriptor?
  refine wpAny_bind (Lt.here ?_)
  refine wpAny_pure ?_
  dsimp only
  unfold ownThenClass
  refine wpAny_bind ?_
  unfold inOwnDict Builtin.ObjectAttr.ownDict
  dsimp only
  refine wpAny_bind ?_
  refine wpAny_bind (wpAny_loadPart ho ?_)
  have nx : ∀ {R : Option Addr → Shared → Prop}, R none s → wpAny (model prog w) A (instanceDict l false) R E s := fun hr => by
    unfold instanceDict
    refine wpAny_bind (wpAny_loadPart ho ?_)
    exact wpAny_pure hr
  have rest : ∀ {R : Option Addr → Shared → Prop}, R none s → wpAny (model prog w) A (match dt with | .cls c => pure (some c.ns) | _ => instanceDict l false) R E s := fun hr => by
    cases dt <;> first | exact nx hr | cases hncls
  refine rest ?_
  refine wpAny_pure ?_
  dsimp only
  unfold copiedAttributeGuard
  dsimp only
  have hcp' : (["__module__", "__name__", "__qualname__", "__doc__", "__annotations__"] : List Str).contains name = false := hcp
  rw [hcp']
  refine wpAny_bind ?_
  refine wpAny_pure ?_
  unfold byTheClass
  refine wpAny_bind (wpAny_rule (wpAny_pure ?_))
  dsimp only
  unfold bindTo
  dsimp only
  refine wpAny_bind (wpAny_holding (wpAny_call_entry slot_wdget ht entry_wdget (run_wdget ho rfl hs hid ?_) (args_wdget _ _ _)))
  exact ⟨_, rfl, wpAny_pure h⟩
theorem getAttr_bm {l : Addr} {o : Obj} {T id ga : String} {name : Str} {Q : Value → Shared → Prop} (ho : s.heap.get? l = some o) (hc : o.cls = .type T) (hd : o.dict = none) (hncls : notCls o = true) (hs : isSubtype (.type T) (.type T) = pure true)
    (hid : (id = "list.__contains__" ∧ T = "list") ∨ (id = "list_iterator.__next__" ∧ T = "list_iterator")) (ht : typeOf (.builtin id) = pure (.type "wrapper_descriptor")) (hl : typeLookup (.type T) name = pure (some (.builtin id)))
    (hcp : copiedNames.contains name = false) (hnd : typeHasDict (.type T) = false) (sg : Slot T "__getattribute__" ga) (eg : entryFor table ga = some Builtin.«object.__getattribute__») (ag : ∀ a b, argsOk ga ⟨[a, b], []⟩)
    (h : Q (.ref s.heap.objs.size) { s with heap := s.heap.push { cls := .type "method-wrapper", data := .fields #[.builtin id, .ref l] }, toks := s.toks + 1 }) :
    wpAny (model prog w) A (getAttr (.ref l) name true) Q E s := by
  unfold getAttr getAttrBy
  refine wpAny_bind (wpAny_mkText ?_)
  refine wpAny_holding ?_
  have hT : Shared.TypeIs { s with toks := s.toks + 1 } (.ref l) T := ⟨o, ho, hc⟩
  refine wpAny_bind (wpAny_typeOf hT ?_)
  refine wpAny_bind (wpAny_of_eq sg.lookup ?_)
  dsimp only
  rw [if_neg (by show ¬ ((false && _) = true); rw [Bool.false_and]; decide)]
  unfold getAttrByItsOwn
  refine wpAny_bind (wpAny_pure ?_)
  refine wpAny_bind (wpAny_attempt (wpAny_holding ?_))
  unfold callGetattribute
  rw [if_neg (by show ¬ ((true && false) = true); decide)]
  unfold boundAndCalled
  rw [sg.bind]
  refine wpAny_bind (wpAny_pure ?_)
  refine wpAny_call_entry sg hT eg (run_oga ho hc hd hncls hs hid ht hl hcp hnd ⟨_, rfl, ?_⟩) (ag _ _)
  exact wpAny_pure h
end
end Mine
end
section
set_option maxRecDepth 100000
set_option Elab.async false
set_option linter.unusedVariables false
namespace Mine
open PySem PySem.W PySem.Calls PyProof.Rows PySem.SeqAt Builtin Builtin.ObjectAttr
noncomputable def del (H : AHeap) (a : Addr) : AHeap := fun b => if b = a then none else H b
theorem del_sub {H : AHeap} {a : Addr} : ∀ b o, del H a b = some o → H b = some o := fun b o e => by
  unfold del at e
  split at e
  · cases e
  · exact e
theorem del_self {H : AHeap} {a : Addr} : del H a a = none := by unfold del; rw [if_pos rfl]
section
variable {prog : Program} {w : World} {F : Fx} {st : St} {s s' s₀ : Shared} {H₀ H : AHeap} {X : Value → List Value → St → Prop} {K : Frag} {Q : Value → St → Prop} {pos : Pos} {a' b' : Value}
theorem Rel.lose (R : Rel prog w F st s) {it : Addr} {o o' : Obj} {h' : Heap} (hi : st.H it ≠ none) (ho : s.heap.get? it = some o) (hf : ∃ vs, o.data = .fields vs) (hs : Heap.SameBut it s.heap h') (ho' : h'.get? it = some o') {tk : Nat} :
    Rel prog w F ⟨st.vars, del st.H it⟩ { s with heap := h', toks := tk } ∧ After (frAddrs F.stk) F.own st.H s (del st.H it) { s with heap := h', toks := tk } := by
  have R1 := R.forget (st' := ⟨st.vars, del st.H it⟩) (fun _ _ e => e) del_sub
  refine ⟨R1.hid (s' := { s with heap := h', toks := tk }) ho del_self (R.1.notBase _ hi) (fun b ob hb e => (hs.2 b hb).trans e) rfl rfl hf, ?_⟩
  refine ⟨fun b ob e hn _ => ?_, fun b e => ?_, fun b e => .inl fun z => e ?_⟩
  · have : b ≠ it := fun q => hi (q ▸ hn)
    exact .refl ((hs.2 b this).trans e)
  · show h'.get? b ≠ none
    by_cases q : b = it
    · subst q; rw [ho']; exact nofun
    · rw [hs.2 b q]; exact e
  · cases q : del st.H it b with
    | none => rfl
    | some o => rw [del_sub _ _ q] at z; cases z
structure NewE (h h' : Heap) (e : Addr) (cls : Value) (args : List Value) : Prop where
  keeps : ∀ b o, h.get? b = some o → h'.get? b = some o
  new : h.get? e = none
  there : ∃ oe vs t ot n, h'.get? e = some oe ∧ oe.cls = cls ∧ oe.data = .fields vs ∧ vs[0]? = some (.ref t) ∧ vs[1]? = some .none ∧ h.get? t = none ∧ h'.get? t = some ot ∧ ot.cls = .type "tuple" ∧ ot.data = .seq args.toArray n
theorem NewE.of {h h' : Heap} {e : Addr} {cls : Value} {args : List Value} (M : Heap.MadeExcOf h h' e cls args) : NewE h h' e cls args :=
  ⟨M.keeps, M.new, let ⟨t, h1, h2, h3⟩ := M.there; ⟨_, _, t, _, 0, h1, rfl, rfl, rfl, rfl, h2, h3, rfl, rfl⟩⟩
theorem xpost_new {h' : Heap} {e : Addr} {cls : Value} {args' args : List Value} {tk : Nat} (R : Rel prog w F st s) (M : NewE s.heap h' e cls args') (ha : args'.map er = args) (x : X cls args st) :
    XPost prog w F X st.H s (.ref e) { s with heap := h', toks := tk } := by
  refine ex5and9 M.there fun oe vs t ot n h1 h2 h3 h4 h5 h6 h7 h8 h9 => ?_
  have R' := R.grow (s' := { s with heap := h', toks := tk }) M.keeps rfl rfl
  have hb : F.base.get? e = none := by
    cases q : F.base.get? e with
    | none => rfl
    | some o => have := R.1.stays _ _ q; rw [M.new] at this; cases this
  have hbt : F.base.get? t = none := by
    cases q : F.base.get? t with
    | none => rfl
    | some o => have := R.1.stays _ _ q; simp_all
  exact ⟨st, e, cls, args, none, rfl, ⟨oe, vs, t, args'.toArray, h1, h2, h3, h4, ⟨ot, h7, h8, n, h9⟩, ha, R.1.none_of M.new, ⟨M.new, hb⟩, ⟨R.1.none_of h6, h6, hbt⟩, .inl ⟨h5, rfl⟩⟩, fun _ _ => trivial, R', .grow _ _ M.keeps, x⟩
section
variable {A : Around} {E : Value → Shared → Prop}
theorem raise_stop {α : Type} {Q : α → Shared → Prop} (hh : A.handled = none) (h : ∀ h' e, NewE s.heap h' e (.type "StopIteration") [] → E (.ref e) { s with heap := h' }) :
    wpAny (model prog w) A (newExc (.type "StopIteration") [] >>= fun e => (raiseNew e : Sem α)) Q E s := by
  refine wpAny_bind ?_
  simp only [newExc, newTuple]
  refine wpAny_bind (wpAny_newObj_type ?_ (by size_fits))
  refine wpAny_bind (m := firstArgMember _ _) (wpAny_of_eq (a := Value.none) (by first | rfl | (simp only [firstArgMember]; rfl)) ?_)
  refine wpAny_newObj_type ?_ (by size_fits)
  simp only [raiseNew]
  refine wpAny_bind (wpAny_handled ?_)
  rw [hh]
  refine wpAny_bind (wpAny_pure (wpAny_throw (h _ _ ⟨fun b o e => Heap.get?_push_of_some _ (Heap.get?_push_of_some _ e), ?_, ?_⟩)))
  · exact Heap.get?_none_of_le (by simp)
  · refine exi5 _ _ s.heap.objs.size _ 0 ⟨Heap.get?_push_size _ rfl, rfl, rfl, rfl, rfl, Heap.get?_none_of_le (Nat.le_refl _), Heap.get?_push_of_some _ (Heap.get?_push_size _ rfl), rfl, rfl⟩
structure ItAt (h : Heap) (it : Addr) (o : Obj) (l : Addr) (i : Nat) (T : String) (items : Array Value) : Prop where
  at_ : h.get? it = some o
  cls : o.cls = .type (T ++ "_iterator")
  data : o.data = .fields #[.ref l, .int i 0]
  src : ∃ ol n, h.get? l = some ol ∧ ol.data = .seq items n
theorem next_body {it l : Addr} {o : Obj} {i : Nat} {T : String} {items : Array Value} {P : Fin → Shared → Prop} (hh : A.handled = none) (I : ItAt s.heap it o l i T items) {B : Builtin}
    (hB : (B = Builtin.«list_iterator.__next__») ∨ (B = Builtin.«tuple_iterator.__next__»))
    (hsome : ∀ x h', items[i]? = some x → h'.get? it = some { o with data := .fields #[.ref l, .int (i + 1 : Nat) 0] } → Heap.SameBut it s.heap h' → P (.done (.ret x)) { s with heap := h' })
    (hnone : ∀ o' h1 h' e, items[i]? = none → h1.get? it = some o' → Heap.SameBut it s.heap h1 → NewE h1 h' e (.type "StopIteration") [] → E (.ref e) { s with heap := h' }) :
    wpAny (model prog w) A (B ⟨[.ref it], []⟩) P E s := by
  obtain ⟨ho, hc, hd, ol, n, hol, hdl⟩ := I
  obtain ⟨oc, od, odt, osl⟩ := o
  dsimp only at hd
  subst hd
  have hd : (⟨oc, od, .fields #[.ref l, .int i 0], osl⟩ : Obj).data = .fields #[.ref l, .int i 0] := rfl
  have up : (s.heap.update it (Obj.mapFields (·.setIfInBounds 1 (rawInt (i + 1))))).get? it = some ⟨oc, od, .fields #[.ref l, .int (i + 1 : Nat) 0], osl⟩ := by
    rw [Heap.get?_update_self _ ho (Obj.isFreed_of_fields (Obj.data_mapFields hd _))]
    simp [Obj.mapFields, rawInt]
  rcases hB with rfl | rfl
  · refine wpAny_bind (m := field (.ref it) 0) (wpAny_field ho hd (x := .ref l) rfl ?_)
    show wpAny _ _ (if (Value.ref l == Value.none) = true then _ else _) _ _ s
    rw [if_neg (show ¬ ((Value.ref l == Value.none) = true) from Bool.false_ne_true)]
    show wpAny _ _ (field (.ref it) 1 >>= _) _ _ s
    refine wpAny_bind (wpAny_field ho hd (x := .int i 0) rfl ?_)
    show wpAny _ _ (seqItems? (.ref l) >>= _) _ _ s
    refine wpAny_bind (wpAny_seqItems hol hdl ?_)
    simp only [Int.toNat_natCast]
    cases hx : items[i]? with
    | some x =>
      refine wpAny_bind (wpAny_setField ho hd (by simp) (wpAny_pure (hsome x _ hx up (Heap.SameBut.update ..))))
    | none =>
      refine wpAny_bind (wpAny_rule (wpAny_bind (wpAny_setField ho hd (by simp) ?_)))
      exact raise_stop (s := { s with heap := _ }) hh fun h' e N => hnone _ _ h' e hx (Heap.get?_update_self _ ho (Obj.isFreed_of_fields (Obj.data_mapFields hd _))) (Heap.SameBut.update ..) N
  · refine wpAny_bind (m := field (.ref it) 0) (wpAny_field ho hd (x := .ref l) rfl ?_)
    show wpAny _ _ (if (Value.ref l == Value.none) = true then _ else _) _ _ s
    rw [if_neg (show ¬ ((Value.ref l == Value.none) = true) from Bool.false_ne_true)]
    show wpAny _ _ (field (.ref it) 1 >>= _) _ _ s
    refine wpAny_bind (wpAny_field ho hd (x := .int i 0) rfl ?_)
    show wpAny _ _ (seqItems? (.ref l) >>= _) _ _ s
    refine wpAny_bind (wpAny_seqItems hol hdl ?_)
    simp only [Int.toNat_natCast]
    cases hx : items[i]? with
    | some x =>
      refine wpAny_bind (wpAny_setField ho hd (by simp) (wpAny_pure (hsome x _ hx up (Heap.SameBut.update ..))))
    | none =>
      refine wpAny_bind (wpAny_rule (wpAny_bind (wpAny_setField ho hd (by simp) ?_)))
      exact raise_stop (s := { s with heap := _ }) hh fun h' e N => hnone _ _ h' e hx (Heap.get?_update_self _ ho (Obj.isFreed_of_fields (Obj.data_mapFields hd _))) (Heap.SameBut.update ..) N
end
end
end Mine
end
section
set_option maxRecDepth 100000
set_option Elab.async false
set_option linter.unusedVariables false
namespace Mine
open PySem PySem.W PySem.Calls PyProof.Rows PySem.SeqAt Builtin Builtin.ObjectAttr
section
variable {prog : Program} {w : World} {F : Fx} {st : St} {s s' s₀ : Shared} {H₀ H : AHeap} {X : Value → List Value → St → Prop} {K : Frag} {Q : Value → St → Prop} {pos : Pos} {a' b' : Value}
noncomputable abbrev listIter (l : Addr) (i : Nat) : Obj := { cls := .type "list_iterator", dict := none, data := .fields #[.ref l, .int i 0], slots := #[] }
noncomputable abbrev tupIter (l : Addr) (i : Nat) : Obj := { cls := .type "tuple_iterator", dict := none, data := .fields #[.ref l, .int i 0], slots := #[] }
noncomputable def ItIs (H : AHeap) (it l : Addr) (i : Nat) (xs : List Value) : Prop := (H it = some (.iter l i) ∧ H l = some (.list xs)) ∨ (H it = some (.titer l i) ∧ H l = some (.tup xs))
noncomputable def itT (H : AHeap) (it : Addr) : Bool := match H it with
  | some (.titer _ _) => true
  | _ => false
noncomputable def itUp (H : AHeap) (it l : Addr) (i : Nat) : AHeap := upd H it (bif itT H it then .titer l i else .iter l i)
theorem itUp_l {H : AHeap} {it a l : Addr} {b i : Nat} (h : H it = some (.iter a b)) : itUp H it l i = upd H it (.iter l i) := by
  have e : itT H it = false := by unfold itT; rw [h]
  unfold itUp; rw [e]; rfl
theorem itUp_t {H : AHeap} {it a l : Addr} {b i : Nat} (h : H it = some (.titer a b)) : itUp H it l i = upd H it (.titer l i) := by
  have e : itT H it = true := by unfold itT; rw [h]
  unfold itUp; rw [e]; rfl
theorem step_it {it l : Addr} {i : Nat} {xs : List Value} {A : Around} {P : Fin → Shared → Prop} {E : Value → Shared → Prop} (hh : A.handled = none) (R : Rel prog w F st s) (I : ItIs st.H it l i xs)
    (hsome : ∀ x h', xs[i]? = some (er x) → Rel prog w F ⟨st.vars, itUp st.H it l (i + 1)⟩ { s with heap := h' } → After (frAddrs F.stk) F.own st.H s (itUp st.H it l (i + 1)) { s with heap := h' } → P (.done (.ret x)) { s with heap := h' })
    (hnone : ∀ h' e, xs[i]? = none → XPost prog w F (fun c a st' => c = .type "StopIteration" ∧ a = [] ∧ st' = ⟨st.vars, del st.H it⟩) st.H s (.ref e) { s with heap := h' } → E (.ref e) { s with heap := h' }) :
    ∃ T B, s.TypeIs (.ref it) T ∧ ((T = "list_iterator" ∧ B = Builtin.«list_iterator.__next__») ∨ (T = "tuple_iterator" ∧ B = Builtin.«tuple_iterator.__next__»)) ∧ wpAny (model prog w) A (B ⟨[.ref it], []⟩) P E s := by
  have fin0 : ∀ {o : Obj}, st.H it ≠ none → s.heap.get? it = some o → (∃ vs, o.data = .fields vs) → ∀ o' h1 h' e, xs[i]? = none → h1.get? it = some o' → Heap.SameBut it s.heap h1 → NewE h1 h' e (.type "StopIteration") [] → E (.ref e) { s with heap := h' } := by
    intro o hne ho hf o' h1 h' e hx e1 hs N
    obtain ⟨R1, A1⟩ := R.lose (tk := s.toks) hne ho hf hs e1
    exact hnone h' e hx ((xpost_new (s := { s with heap := h1 }) (tk := s.toks) R1 N rfl ⟨rfl, rfl, rfl⟩).older A1)
  rcases I with ⟨h1, h2⟩ | ⟨h1, h2⟩
  · obtain ⟨o, ho, rfl⟩ := R.1.cells _ _ h1
    obtain ⟨items, ⟨ol, hol, hcl, n, hdl⟩, he⟩ := list_at R.1 h2
    have hne : st.H it ≠ none := by rw [h1]; exact nofun
    have e0 : xs[i]? = items[i]?.map er := by rw [← he, List.getElem?_map, Array.getElem?_toList]
    refine exi2 ("list_iterator") _ ⟨⟨_, ho, rfl⟩, .inl ⟨rfl, rfl⟩, next_body hh (T := "list") ⟨ho, rfl, rfl, ol, n, hol, hdl⟩ (.inl rfl) (fun x h' hx e4 hs => ?_) fun o' h1' h' e hx => fin0 hne ho ⟨_, rfl⟩ o' h1' h' e (by rw [e0, hx]; rfl)⟩
    have hk : ∀ b ob, b ≠ it → s.heap.get? b = some ob → h'.get? b = some ob := fun b ob hb e => (hs.2 b hb).trans e
    have hu : itUp st.H it l (i + 1) = upd st.H it (.iter l (i + 1)) := itUp_l h1
    rw [hu] at hsome
    exact hsome x h' (by rw [e0, hx]; rfl) (R.set (s' := { s with heap := h' }) hne hk rfl rfl e4 rfl) (After.set (s' := { s with heap := h' }) _ _ hne hk e4)
  · obtain ⟨o, ho, rfl⟩ := R.1.cells _ _ h1
    obtain ⟨items, ⟨ol, hol, hcl, n, hdl⟩, he⟩ := tup_at R.1 h2
    have hne : st.H it ≠ none := by rw [h1]; exact nofun
    have e0 : xs[i]? = items[i]?.map er := by rw [← he, List.getElem?_map, Array.getElem?_toList]
    refine exi2 ("tuple_iterator") _ ⟨⟨_, ho, rfl⟩, .inr ⟨rfl, rfl⟩, next_body hh (T := "tuple") ⟨ho, rfl, rfl, ol, n, hol, hdl⟩ (.inr rfl) (fun x h' hx e4 hs => ?_) fun o' h1' h' e hx => fin0 hne ho ⟨_, rfl⟩ o' h1' h' e (by rw [e0, hx]; rfl)⟩
    have hk : ∀ b ob, b ≠ it → s.heap.get? b = some ob → h'.get? b = some ob := fun b ob hb e => (hs.2 b hb).trans e
    have hu : itUp st.H it l (i + 1) = upd st.H it (.titer l (i + 1)) := itUp_t h1
    rw [hu] at hsome
    exact hsome x h' (by rw [e0, hx]; rfl) (R.set (s' := { s with heap := h' }) hne hk rfl rfl e4 rfl) (After.set (s' := { s with heap := h' }) _ _ hne hk e4)
theorem T_next {it l : Addr} {i : Nat} {xs : List Value} (hh : F.A.handled = none) (I : ItIs st.H it l i xs)
    (hsome : ∀ x, xs[i]? = some x → Q x ⟨st.vars, itUp st.H it l (i + 1)⟩) (hnone : xs[i]? = none → X (.type "StopIteration") [] ⟨st.vars, del st.H it⟩) : T prog w F (call (.builtin "next") [.ref it]) Q X st := fun s R => by
  refine call_function_entry (by decide +kernel) (by decide +kernel) bi_next (ok_next _) ?_
  unfold Builtin.«next»
  refine wpAny_bind (m := someArgs "next" 1 2 _) (wpAny_of_eq (a := [Value.ref it]) (by first | rfl | kernel_rfl) ?_)
  obtain ⟨T, B, hT, hTB, hB⟩ := step_it (A := F.A.in1.in1) (P := fun fin s' => ∃ v, fin = .done (.ret v) ∧ ∃ st', Rel prog w F st' s' ∧ After (frAddrs F.stk) F.own st.H s st'.H s' ∧ Q (Er.e v) st') (E := XPost prog w F X st.H s) hh R I
    (fun x h' hx R' A' => ⟨x, rfl, _, R', A', hsome _ hx⟩)
    (fun h' e hx z => by refine ex5and8 z fun st' ea cls args fl q1 q2 q3 q4 q5 q6 q7 q8 => ?_; try clear z; exact ⟨st', ea, cls, args, fl, q1, q2, q3, q4, q5, by subst q6 q7 q8; exact hnone hx⟩)
  rcases hTB with ⟨rfl, rfl⟩ | ⟨rfl, rfl⟩
  · refine wpAny_bind (wpAny_specialOf hT slot_listiter_next.lookup ?_)
    dsimp only [Option.isNone]
    refine wpAny_bind (wpAny_callSpecial?_slot (name := Str.ofString "__next__") hT slot_listiter_next (wpAny_call_entry slot_listiter_next hT entry_listiter_next ?_ (args_listiter_next _)))
    exact wpAny_mono hB (fun fin s' ⟨v, e, q⟩ => ⟨v, e, wpAny_pure ⟨v, rfl, q⟩⟩) fun _ _ x => x
  · refine wpAny_bind (wpAny_specialOf hT PySem.F.slot_tuple_iterator_next.lookup ?_)
    dsimp only [Option.isNone]
    refine wpAny_bind (wpAny_callSpecial?_slot (name := Str.ofString "__next__") hT PySem.F.slot_tuple_iterator_next (wpAny_call_entry PySem.F.slot_tuple_iterator_next hT PySem.F.entry_tuple_iterator_next ?_ (PySem.F.args_tuple_iterator_next_1 _)))
    exact wpAny_mono hB (fun fin s' ⟨v, e, q⟩ => ⟨v, e, wpAny_pure ⟨v, rfl, q⟩⟩) fun _ _ x => x
theorem T_iterL {l : Addr} {xs : List Value} (N : NoSys F.toFc) (hl : st.H l = some (.list xs)) (h : ∀ a, st.H a = none → Q (.ref a) ⟨st.vars, upd st.H a (.iter l 0)⟩) : T prog w F (call (.builtin "iter") [.ref l]) Q X st := fun s R => by
  obtain ⟨items, hi, he⟩ := list_at R.1 hl
  refine call_function_entry (by decide +kernel) (by decide +kernel) bi_iter (ok_iter _) ?_
  unfold Builtin.«iter»
  refine wpAny_bind (m := someArgs "iter" 1 2 _) (wpAny_of_eq (a := [Value.ref l]) (by first | rfl | kernel_rfl) ?_)
  show wpAny _ _ (pyIter (.ref l) >>= _) _ _ _
  have hnull : s.heap.get? s.heap.objs.size = none := Heap.get?_none_of_le (Nat.le_refl _)
  refine wpAny_bind (wpAny_pyIter_list hi (wpAny_pure ⟨_, rfl, _, R.new (s' := { s with heap := s.heap.push (listIter l 0) }) (fun b o e => Heap.get?_push_of_some _ e) rfl rfl hnull (Heap.get?_push_size _ rfl) (o := .iter l 0) rfl, ?_, h _ R.1.fresh⟩))
  exact .new (s' := { s with heap := s.heap.push (listIter l 0) }) _ _ (fun b o e => Heap.get?_push_of_some _ e) hnull
theorem T_iterT {l : Addr} {xs : List Value} (N : NoSys F.toFc) (hl : st.H l = some (.tup xs)) (h : ∀ a, st.H a = none → Q (.ref a) ⟨st.vars, upd st.H a (.titer l 0)⟩) : T prog w F (call (.builtin "iter") [.ref l]) Q X st := fun s R => by
  obtain ⟨items, hi, he⟩ := tup_at R.1 hl
  refine call_function_entry (by decide +kernel) (by decide +kernel) bi_iter (ok_iter _) ?_
  unfold Builtin.«iter»
  refine wpAny_bind (m := someArgs "iter" 1 2 _) (wpAny_of_eq (a := [Value.ref l]) (by first | rfl | kernel_rfl) ?_)
  show wpAny _ _ (pyIter (.ref l) >>= _) _ _ _
  have hnull : s.heap.get? s.heap.objs.size = none := Heap.get?_none_of_le (Nat.le_refl _)
  refine wpAny_bind (wpAny_pyIter_tuple hi (wpAny_pure ⟨_, rfl, _, R.new (s' := { s with heap := s.heap.push (tupIter l 0) }) (fun b o e => Heap.get?_push_of_some _ e) rfl rfl hnull (Heap.get?_push_size _ rfl) (o := .titer l 0) rfl, ?_, h _ R.1.fresh⟩))
  exact .new (s' := { s with heap := s.heap.push (tupIter l 0) }) _ _ (fun b o e => Heap.get?_push_of_some _ e) hnull
theorem slot_liga : Slot "list_iterator" "__getattribute__" "object.__getattribute__" :=
  .of (owner := "object") (n := "__getattribute__") (by rw [typeLookup_type, builtinLookup_eq_fast]; kernel_rfl) (by decide +kernel) (by decide +kernel) (by decide +kernel)
    (by first | exact .inl (by decide +kernel) | exact .inr (by decide +kernel)) (by rw [isSubtype_type]; kernel_rfl)
theorem entry_liga : entryFor table "object.__getattribute__" = some Builtin.«object.__getattribute__» := entryFor_of_tree (by kernel_rfl)
theorem args_liga (a b : Value) : argsOk "object.__getattribute__" ⟨[a, b], []⟩ := by unfold argsOk; kernel_rfl
theorem sub_ll : isSubtype (.type "list") (.type "list") = pure true := by rw [isSubtype_type]; kernel_rfl
theorem bm_new {l : Addr} {id : String} {h : ∀ a, st.H a = none → Q (.ref a) ⟨st.vars, upd st.H a (.bm "method-wrapper" (.builtin id) (.ref l))⟩} (R : Rel prog w F st s) :
    ∃ st', Rel prog w F st' { s with heap := s.heap.push { cls := .type "method-wrapper", data := .fields #[.builtin id, .ref l] }, toks := s.toks + 1 } ∧ After (frAddrs F.stk) F.own st.H s st'.H { s with heap := s.heap.push { cls := .type "method-wrapper", data := .fields #[.builtin id, .ref l] }, toks := s.toks + 1 } ∧ Q (.ref s.heap.objs.size) st' := by
  have hnull : s.heap.get? s.heap.objs.size = none := Heap.get?_none_of_le (Nat.le_refl _)
  exact ⟨_, R.new (s' := { s with heap := s.heap.push { cls := .type "method-wrapper", data := .fields #[.builtin id, .ref l] }, toks := s.toks + 1 }) (fun b o e => Heap.get?_push_of_some _ e) rfl rfl hnull (Heap.get?_push_size _ rfl) (o := .bm "method-wrapper" (.builtin id) (.ref l)) ⟨rfl, _, rfl, rfl⟩,
    .new (s' := { s with heap := s.heap.push { cls := .type "method-wrapper", data := .fields #[.builtin id, .ref l] }, toks := s.toks + 1 }) _ _ (fun b o e => Heap.get?_push_of_some _ e) hnull, h _ R.1.fresh⟩
theorem T_getIn {l : Addr} {xs : List Value} (hl : st.H l = some (.list xs)) (h : ∀ a, st.H a = none → Q (.ref a) ⟨st.vars, upd st.H a (.bm "method-wrapper" (.builtin "list.__contains__") (.ref l))⟩) : T prog w F (getAttr (.ref l) "__contains__" true) Q X st := fun s R => by
  obtain ⟨items, n, ho, he⟩ := plain_at R.1 hl
  exact getAttr_bm ho rfl rfl rfl sub_ll (.inl ⟨rfl, rfl⟩) type_lc PySem.F.slot_list_contains.lookup (by decide +kernel) (by decide +kernel) PySem.F.slot_list_getattribute am_entry_list_getattribute PySem.F.args_list_getattribute_2 (bm_new (h := h) R)
theorem T_getNext {it l : Addr} {i : Nat} (hi : st.H it = some (.iter l i)) (h : ∀ a, st.H a = none → Q (.ref a) ⟨st.vars, upd st.H a (.bm "method-wrapper" (.builtin "list_iterator.__next__") (.ref it))⟩) : T prog w F (getAttr (.ref it) "__next__" true) Q X st := fun s R => by
  obtain ⟨o, ho, rfl⟩ := R.1.cells _ _ hi
  exact getAttr_bm ho rfl rfl rfl sub_li (.inr ⟨rfl, rfl⟩) type_ln slot_listiter_next.lookup (by decide +kernel) (by decide +kernel) slot_liga entry_liga args_liga (bm_new (h := h) R)
end
end Mine
end
section
set_option maxRecDepth 100000
set_option Elab.async false
set_option linter.unusedVariables false
namespace Mine
open PySem PySem.W PySem.Calls PyProof.Rows PySem.SeqAt Builtin Builtin.ObjectAttr
section
variable {prog : Program} {w : World} {F : Fx} {st : St} {s s' s₀ : Shared} {H₀ H : AHeap} {X : Value → List Value → St → Prop} {K : Frag} {Q : Value → St → Prop} {pos : Pos} {a' b' : Value}
theorem check_lc (l : Addr) (x : Value) : checkBoundCall "list.__contains__" ⟨[.ref l, x], []⟩ = pure () := by first | kernel_rfl | rfl
theorem check_ln (l : Addr) : checkBoundCall "list_iterator.__next__" ⟨[.ref l], []⟩ = pure () := by first | kernel_rfl | rfl
theorem call_wrapper {A : Around} {E : Value → Shared → Prop} {b : Addr} {ob : Obj} {id : String} {self : Value} {args : List Value} {B : Builtin} {Q : Value → Shared → Prop} (ho : s.heap.get? b = some ob) (hc : ob.cls = .type "method-wrapper") (hd : ob.data = .fields #[.builtin id, self])
    (ck : checkBoundCall id ⟨self :: args, []⟩ = pure ()) (hp : plainId id = true) (hb : entryFor table id = some B)
    (h : wpAny (model prog w) A.in1 (B ⟨self :: args, []⟩) (fun fin s' => match fin with | .done f => wants Q E (.ok f) s' | .again c' => c'.quiet = true ∧ codeAny (model prog w) A c' (wants Q E) s') (fun e s' => wants Q E (.error e) s') s) :
    wpAny (model prog w) A (call (.ref b) args) Q E s := by
  obtain ⟨oc, od, odt, osl⟩ := ob
  dsimp only at hc hd
  subst hc hd
  refine wpAny_call (codeAny_of_tree ?_)
  show wpAny _ A.in1 (callAny (.ref b) ⟨args, []⟩) _ _ s
  simp only [callAny]
  refine wpAny_bind (wpAny_load ho ?_)
  simp only [show (Value.type "method-wrapper" == Value.type "method" || Value.type "method-wrapper" == Value.type "builtin_function_or_method" || Value.type "method-wrapper" == Value.type "method-wrapper") = true by decide, if_true]
  refine wp_if (by decide) ?_
  refine wpAny_bind (wpAny_of_eq (a := ()) ck ?_)
  refine wpAny_bind (wpAny_pure (wpAny_pure ?_))
  refine ⟨plainId_quiet hp _, codeAny_builtin hb ?_⟩
  rw [Around.under_plainId hp]
  exact h
theorem T_callIn {b l : Addr} {x' : Value} {d : PyData} {ds : List PyData} (hb : st.H b = some (.bm "method-wrapper" (.builtin "list.__contains__") (.ref l))) (hx : Rd st.H d (er x')) (hl : Rd st.H (.list ds) (.ref l)) (ca : d.canLay0 = true) (cb : PyData.canLayAll0 ds = true)
    (hu : F.A.units + 1 + min (PyData.depthAll ds) d.depth < cLine) (h : Q (.bool (ds.any fun y => PyData.eqv y d)) st) : T prog w F (call (.ref b) [x']) Q X st := fun s R => by
  refine ex1and3 (R.1.cells _ _ hb) fun ob hob hc y3_ => ?_; obtain ⟨s', hd, hs⟩ := y3_
  have hs := er_ref hs
  subst hs
  obtain ⟨bs, rx⟩ := Rd.reads R.1 hx
  refine ex2and3 hl fun l' xs e hlx hrd => ?_; try clear hl
  cases e
  obtain ⟨items, n, ho, he⟩ := plain_at R.1 hlx
  obtain ⟨as, rs⟩ := RdAll.reads R.1 (ds := ds) (vs := items.toList) (by rw [he]; exact hrd)
  refine call_wrapper hob hc hd (check_lc _ _) PySem.F.slot_list_contains.plain PySem.F.entry_list_contains ?_
  refine list_containsAt l items n none #[] x' _ prog w F.A _ s ⟨ho, items_eqAt rs rx cb ca hu, ?_⟩
  rw [any_by_data rs cb]
  exact ⟨st, R, .refl _ _ _ _, h⟩
theorem T_callNext {b it l : Addr} {i : Nat} {xs : List Value} (hh : F.A.handled = none) (hb : st.H b = some (.bm "method-wrapper" (.builtin "list_iterator.__next__") (.ref it))) (hi : st.H it = some (.iter l i)) (hl : st.H l = some (.list xs))
    (hsome : ∀ x, xs[i]? = some x → Q x ⟨st.vars, upd st.H it (.iter l (i + 1))⟩) (hnone : xs[i]? = none → X (.type "StopIteration") [] ⟨st.vars, del st.H it⟩) : T prog w F (call (.ref b) []) Q X st := fun s R => by
  refine ex1and3 (R.1.cells _ _ hb) fun ob hob hc y3_ => ?_; obtain ⟨s', hd, hs⟩ := y3_
  have hs := er_ref hs
  subst hs
  refine call_wrapper hob hc hd (check_ln _) slot_listiter_next.plain entry_listiter_next ?_
  have hu : itUp st.H it l (i + 1) = upd st.H it (.iter l (i + 1)) := itUp_l hi
  obtain ⟨T, B, hT, hTB, hB⟩ := step_it (A := F.A.in1) (P := fun fin s' => match fin with | .done f => wants (fun v s' => ∃ st', Rel prog w F st' s' ∧ After (frAddrs F.stk) F.own st.H s st'.H s' ∧ Q (Er.e v) st') (XPost prog w F X st.H s) (.ok f) s' | .again c' => c'.quiet = true ∧ codeAny (model prog w) F.A c' (wants (fun v s' => ∃ st', Rel prog w F st' s' ∧ After (frAddrs F.stk) F.own st.H s st'.H s' ∧ Q (Er.e v) st') (XPost prog w F X st.H s)) s')
    (E := fun e s' => wants (fun v s' => ∃ st', Rel prog w F st' s' ∧ After (frAddrs F.stk) F.own st.H s st'.H s' ∧ Q (Er.e v) st') (XPost prog w F X st.H s) (.error e) s') hh R (.inl ⟨hi, hl⟩)
    (fun x h' hx R' A' => ⟨_, R', A', hu ▸ hsome _ hx⟩)
    (fun h' e hx hz => ex5and8 hz fun st' ea cls args fl q1 q2 q3 q4 q5 q6 q7 q8 => ⟨st', ea, cls, args, fl, q1, q2, q3, q4, q5, by subst q6 q7 q8; exact hnone hx⟩)
  rcases hTB with ⟨rfl, rfl⟩ | ⟨rfl, rfl⟩
  · exact hB
  · obtain ⟨o, ho, rfl⟩ := R.1.cells _ _ hi
    obtain ⟨o2, ho2, hc2⟩ := hT
    rw [ho] at ho2
    cases ho2
    exact absurd (show Value.type "list_iterator" = Value.type "tuple_iterator" from hc2) (by decide)
end
end Mine
end
section
set_option maxRecDepth 100000
set_option Elab.async false
set_option linter.unusedVariables false
namespace Mine
open PySem PySem.W PySem.Calls PyProof.Rows PySem.SeqAt
structure OwnExc (C : Addr) (bmB : List Value) (newId : String) (h : Heap) : Prop where
  obj : ∃ bm N nm q bs hdct sn sub ab col dd k0 k1 k2 k3 k5 mN, h.get? C = some (excClassObj nm q C N bs bm hdct sn sub ab col dd k0 k1 k2 k3 k5 newId) ∧ h.Ns N mN ∧ mN "__init__" = none ∧ OwnTail h bmB bm
theorem OwnTail.keeps' {h h' : Heap} {bmB tl : List Value} (T : OwnTail h bmB tl) (k : ∀ b o, h.get? b = some o → h'.get? b = some o) : OwnTail h' bmB tl := by
  induction T with
  | base => exact .base
  | own a b c _ ih => exact .own (k _ _ a) (b.keeps k) c ih
noncomputable abbrev marked (F : Fx) (ea : Addr) : Fx := { F with A := F.A.mark (some (.ref ea)) }
section
variable {prog : Program} {w : World} {F : Fx} {st : St} {s s' s₀ : Shared} {H₀ H : AHeap} {X : Value → List Value → St → Prop} {K : Frag} {pos : Pos}
theorem T_raiseB {cls newId initId : String} (FC : ExcCallFacts cls newId initId) (FR : ExcRaiseFacts cls) {x : Str} {np cpos : Pos} {e₀ : Expr} {Q : Flow → St → Prop} (hh : F.A.handled = none)
    (he : starEach [e₀] F.env = [(false, eval e₀ F.env)])
    (h : T prog w F (eval (.Name x np) F.env) (fun f st₁ => f = .type cls ∧ T prog w F (eval e₀ F.env) (fun v st₂ => X (.type cls) [v] st₂) X st₁) X st) :
    T prog w F (exec (.Raise (some (.Call (.Name x np) [e₀] [] cpos)) none pos) F.env) Q X st := fun s R =>
  Raise_madeB FC FR hh (h.then R (.refl _ _ _ _) fun f s₁ st₁ R₁ A₁ ⟨hf, h₁⟩ => ⟨er_type hf, by
    rw [he]
    refine spliced_cons (h₁.then R₁ A₁ fun v s₂ st₂ R₂ A₂ q => ?_)
    refine spliced_nil ⟨by rw [sizeLine_eq]; exact Nat.le_of_ble_eq_true rfl, fun h' e M => ?_⟩
    exact XPost.older (xpost_new (s := s₂) (tk := s₂.toks) R₂ ⟨M.keeps, M.new, let ⟨t, h1, h2, h3⟩ := M.there; ⟨_, _, t, _, 0, h1, rfl, rfl, rfl, rfl, h2, h3, rfl, rfl⟩⟩ rfl q) A₂⟩) he rfl
theorem T_raiseOwn {C : Addr} {B newId initId : String} {bmB : List Value} (FB : ExcBaseFacts B newId initId bmB) (O : OwnExc C bmB newId F.base) {x : Str} {np cpos : Pos} {args : List Expr} {t : Sem Value} {trees : List (Bool × Sem Value)} {Q : Flow → St → Prop} (hh : F.A.handled = none)
    (ht : backTo cpos (starEach args F.env) = (false, t) :: trees) (hplain : trees.any (·.1) = false)
    (h : T prog w F (eval (.Name x np) F.env) (fun f st₁ => f = .ref C ∧ T prog w F (spliced ((false, t) :: trees)) (fun vs st₂ => vs.length ≤ 1000 ∧ X (.ref C) vs st₂) X st₁) X st) :
    T prog w F (exec (.Raise (some (.Call (.Name x np) args [] cpos)) none pos) F.env) Q X st := fun s R => by
  refine ex17and4 O.obj fun bm N nm q bs hdct sn sub ab col dd k0 k1 k2 k3 k5 mN hC hN hi OT => ?_
  refine wpAny_Raise_call_subT FB (nm := nm) (q := q) (N := N) (bs := bs) (hdct := hdct) (sn := sn) (sub := sub) (ab := ab) (col := col) (dd := dd) (k0 := k0) (k1 := k1) (k2 := k2) (k3 := k3) (k5 := k5) (OT.hasType FB.hasBase) hh (by rw [ht]; show (false || trees.any (·.1)) = false; rw [hplain]; rfl) hi (h.then R (.refl _ _ _ _) fun f s₁ st₁ R₁ A₁ ⟨hf, h₁⟩ => ⟨er_ref hf, ?_⟩)
  rw [ht]
  refine Calls.evalArgs_plain (h₁.then R₁ A₁ fun vs s₂ st₂ R₂ A₂ ⟨hl, q⟩ => ⟨rfl, ?_, R₂.1.stays _ _ hC, hN.keeps R₂.1.stays, OwnTail.keeps' OT R₂.1.stays, fun h' e M => ?_⟩)
  · have hl' : (List.map er vs).length ≤ 1000 := hl
    rw [List.length_map] at hl'
    show vs.length ≤ sizeLine
    rw [sizeLine_eq]; omega
  · exact XPost.older (xpost_new (s := s₂) (tk := s₂.toks) R₂ (.of M) rfl q) A₂
noncomputable def Caught (prog : Program) (w : World) (F : Fx) (hs : List ExceptHandler) (cls : Value) (args : List Value) (Q : Flow → St → Prop) (X : Value → List Value → St → Prop) (st : St) : Prop :=
  ∀ s ea H₀ s₀, Rel prog w F st s → ExcAt F.base s₀.heap st.H s.heap ea cls args (some .none) → (∃ st₀, Rel prog w F st₀ s₀) → After (frAddrs F.stk) F.own H₀ s₀ st.H s →
    wpAny (model prog w) F.A (handleBy (.ref ea) F.env hs) (fun f s' => ∃ st', Rel prog w F st' s' ∧ After (frAddrs F.stk) F.own H₀ s₀ st'.H s' ∧ Q (Er.e f) st') (XPost prog w F X H₀ s₀) s
theorem T_try {body orelse : List Stmt} {h₀ : ExceptHandler} {hs : List ExceptHandler} {Q : Flow → St → Prop} {outer : List Env} {L : Addr} (U : Runs F outer L)
    (h : T prog w F (execs body F.env) (fun f st₁ => match f with | .next => T prog w F (execs orelse F.env) Q X st₁ | f => Q f st₁) (fun cls args st₁ => Caught prog w F (h₀ :: hs) cls args Q X st₁) st) :
    T prog w F (exec (.Try body (h₀ :: hs) orelse [] pos) F.env) Q X st := fun s R => by
  refine wpAny_Try_except (wpAny_mono (h s R) (fun f s₁ ⟨st₁, R₁, A₁, q⟩ => ?_) fun e s₁ x => ?_)
  · cases f with
    | next => exact T.then q R₁ A₁ fun f s₂ st₂ R₂ A₂ q => ⟨st₂, R₂, A₂, q⟩
    | brk => exact ⟨st₁, R₁, A₁, q⟩
    | cont => exact ⟨st₁, R₁, A₁, q⟩
    | ret v => exact ⟨st₁, R₁, A₁, q⟩
  · refine ex5and6 x fun st₁ ea cls args fl y5_ x1 x2 R₁ A₁ q => ?_; try clear x; obtain rfl := y5_
    refine note U R₁ x1 (x2 L U.frame) A₁.alive fun s₂ W x₂ => ?_
    have A₂ := A₁.flew W
    refine flight W.rel x₂ A₂.alive fun s₃ W₃ x₃ => ?_
    exact q s₃ ea st.H s W₃.rel x₃ ⟨st, R⟩ (A₂.flew W₃)
theorem Rel.marked (R : Rel prog w F st s) (ea : Addr) : Rel prog w (marked F ea) st s := ⟨⟨R.1.stays, R.1.cells, R.1.notBase, R.1.frames, R.1.frCls, R.1.gens, R.1.os⟩, ⟨R.2.loc, R.2.cel, R.2.locH, R.2.locB, R.2.celO, R.2.inj, R.2.ownA⟩⟩
theorem Rel.unmarked {ea : Addr} (R : Rel prog w (Mine.marked F ea) st s) : Rel prog w F st s := ⟨⟨R.1.stays, R.1.cells, R.1.notBase, R.1.frames, R.1.frCls, R.1.gens, R.1.os⟩, ⟨R.2.loc, R.2.cel, R.2.locH, R.2.locB, R.2.celO, R.2.inj, R.2.ownA⟩⟩
theorem land {ea : Addr} {cls : Value} {args : List Value} {Q : Unit → Shared → Prop} {E : Value → Shared → Prop} (R : Rel prog w F st s) (x : ExcAt F.base s₀.heap st.H s.heap ea cls args (some .none)) (al : ∀ b, s₀.heap.get? b ≠ none → s.heap.get? b ≠ none)
    (h : ∀ s', Flew prog w F st s₀.heap s s' → Q () s') : wpAny (model prog w) (F.A.mark (some (.ref ea))) (setFlight (.ref ea) none) Q E s :=
  flight (F := marked F ea) (R.marked ea) x al fun s' W _ => h s' ⟨W.rel.unmarked, W.keep⟩
noncomputable def Evals (prog : Program) (w : World) (F : Fx) (t : Expr) (c : Value) (st : St) : Prop := ∀ A s (Q : Value → Shared → Prop) (E : Value → Shared → Prop), Rel prog w F st s → Q c s → wpAny (model prog w) A (eval t F.env) Q E s
theorem Evals.nameB {x : Str} {p : Pos} {v : Value} {mg mb : Str → Option Value} (G : Glb F.toFc mg mb) (hg : F.env.globals = mainGlobals) (hb : F.env.builtins = builtinsNs) (hn : mg x = none) (hv : mb x = some v) (hk : F.env.kindOf x = some .globalImplicit) (hf : F.env.scope.kind = .function)
    (hd : (x == ("__debug__" : Str)) = false) : Evals prog w F (.Name x p) v st := fun A s Q E R h =>
  Name_function_global hf hk (loadGlobal_builtin (hg ▸ G.g.keeps R.1.stays) hn (hb ▸ G.b.keeps R.1.stays) hv h) hd
theorem Evals.nameG {x : Str} {p : Pos} {v : Value} {mg mb : Str → Option Value} (G : Glb F.toFc mg mb) (hg : F.env.globals = mainGlobals) (hv : mg x = some v) (hk : F.env.kindOf x = some .globalImplicit) (hf : F.env.scope.kind = .function)
    (hd : (x == ("__debug__" : Str)) = false) : Evals prog w F (.Name x p) v st := fun A s Q E R h =>
  Name_function_global hf hk (loadGlobal_global (hg ▸ G.g.keeps R.1.stays) hv h) hd
theorem suite_end {ea : Addr} {cls : Value} {args : List Value} {suite : List Stmt} {Q : Flow → St → Prop} {E : Value → Shared → Prop} (x : ExcAt F.base s₀.heap st.H s.heap ea cls args (some .none)) (R : Rel prog w F st s) (A : After (frAddrs F.stk) F.own H₀ s₀ st.H s)
    (h : T prog w (marked F ea) (execs suite F.env) Q NoX st) :
    wpAny (model prog w) (F.A.mark (some (.ref ea))) (setFlight (.ref ea) none) (fun _ s₂ => wpAny (model prog w) (F.A.mark (some (.ref ea))) (execs suite F.env) (fun f s' => ∃ st', Rel prog w F st' s' ∧ After (frAddrs F.stk) F.own H₀ s₀ st'.H s' ∧ Q (Er.e f) st') E s₂) E s := by
  refine land R x A.alive fun s₂ W => ?_
  exact h.thenN (F := marked F ea) (W.rel.marked ea) (A.flew W) fun f s₃ st₃ R₃ A₃ q => ⟨st₃, R₃.unmarked, A₃, q⟩
theorem Caught.builtin {Xc Tc : String} {args : List Value} {t : Expr} {b₀ : Stmt} {suite : List Stmt} {hpos : Pos} {rest : List ExceptHandler} {Q : Flow → St → Prop}
    (hexc : isSubtype (.type Tc) (.type "BaseException") = pure true) (hnt : isSubtype (.type ((Manifest.find? Tc).elim "type" fun x => x.metatype)) (.type "tuple") = pure false)
    (hsub : isSubtype (.type Xc) (.type Tc) = pure true) (ht : Evals prog w F t (.type Tc) st)
    (h : ∀ ea, T prog w (marked F ea) (execs (b₀ :: suite) F.env) Q NoX st) :
    Caught prog w F (.ExceptHandler (some t) none (b₀ :: suite) hpos :: rest) (.type Xc) args Q X st := by
  intro s ea H₀ s₀ R x hR₀ A
  refine wpAny_handleBy_builtin hexc hnt hsub (b := true) (ht _ _ _ _ R ⟨rfl, ?_, suite_end x R A (h ea)⟩)
  refine ex4and3 x fun oe vs ta items h1 h2 _ => ?_; try clear x
  exact ⟨oe, h1, h2⟩
theorem Caught.own {C : Addr} {bmB : List Value} {newId : String} (O : OwnExc C bmB newId F.base) (hbase : bmB.contains (.type "BaseException") = true) {args : List Value} {t : Expr} {b₀ : Stmt} {suite : List Stmt} {hpos : Pos} {rest : List ExceptHandler} {Q : Flow → St → Prop}
    (ht : Evals prog w F t (.ref C) st) (h : ∀ ea, T prog w (marked F ea) (execs (b₀ :: suite) F.env) Q NoX st) :
    Caught prog w F (.ExceptHandler (some t) none (b₀ :: suite) hpos :: rest) (.ref C) args Q X st := by
  intro s ea H₀ s₀ R x hR₀ A
  refine ex17and4 O.obj fun bm N nm q bs hdct sn sub ab col dd k0 k1 k2 k3 k5 mN hC hN hi OT => ?_
  refine wpAny_handleBy_cons (codeAny_handlers_test (ht _ _ _ _ R ?_)) (by intro q; cases q)
  have z := suite_end (E := (notedBy (model prog w) (F.A.mark (some (.ref ea))) F.env (cameBackBy (model prog w) F.A F.env (XPost prog w F X H₀ s₀)))) x R A (h ea)
  refine ex4and3 x fun oe vs ta items h1 h2 _ => ?_; try clear x
  obtain ⟨hh, g, d, tk, os⟩ := s
  exact wpAny_excMatches_sub_self (R.1.stays _ _ hC) h1 h2 (OT.hasType hbase) (codeAny_handlers_suite z)
noncomputable def dropV (vs : List (Str × Value)) (n : Str) : List (Str × Value) := vs.filter fun p => !(p.1 == n)
theorem dropV_lookup (vs : List (Str × Value)) (n x : Str) : (dropV vs n).lookup x = if x = n then none else vs.lookup x := by
  induction vs with
  | nil => simp [dropV]
  | cons p r ih =>
    obtain ⟨y, v⟩ := p
    unfold dropV at ih ⊢
    rw [List.filter_cons]
    by_cases hy : y = n
    · subst hy
      simp only [beq_self_eq_true, Bool.not_true, Bool.false_eq_true, if_false]
      rw [ih]
      by_cases hx : x = y
      · simp [hx]
      · have : (x == y) = false := by simpa using hx
        simp [hx, List.lookup, this]
    · have e1 : (y == n) = false := by simpa using hy
      simp only [e1, Bool.not_false, if_true]
      by_cases hx : x = y
      · subst hx; simp [List.lookup, hy]
      · have : (x == y) = false := by simpa using hx
        simp only [List.lookup, this]
        exact ih
theorem Rel.claim2 {st₁ : St} {s₁ : Shared} (R₁ : Rel prog w F st₁ s₁) {ea : Addr} {cls : Value} {args : List Value} {fl : Option Value} (R : Rel prog w F st s) (x : ExcAt F.base s₁.heap st.H s.heap ea cls args fl) :
    ∃ ta, ta ≠ ea ∧ st.H ta = none ∧ st.H ea = none ∧ s₁.heap.get? ta = none ∧ s₁.heap.get? ea = none ∧ Rel prog w F ⟨st.vars, upd (upd st.H ta (.args args)) ea (.exc cls ta)⟩ s := by
  refine ex4and10 x fun oe vs ta items h1 h2 h3 h4 y8_ h6 h7 h8 h9 h10 => ?_; try clear x; obtain ⟨ot, ho, hc, n, hd⟩ := y8_
  have hne : ta ≠ ea := by
    rintro rfl
    rw [h1] at ho; cases ho
    rw [h3] at hd; cases hd
  have Ra := R₁.claim R (ao := .args args) h9.2.1 ho ⟨hc, items, n, hd, h6⟩
  have Rb := R₁.claim Ra (ao := .exc cls ta) h8.1 h1 ⟨h2, vs, h3, h4⟩
  exact ⟨ta, hne, h9.1, h7, h9.2.1, h8.1, Rb⟩
theorem Caught.builtinAs {Xc Tc : String} {args : List Value} {t : Expr} {n : Str} {b₀ : Stmt} {suite : List Stmt} {hpos : Pos} {rest : List ExceptHandler} {Q : Flow → St → Prop}
    (hexc : isSubtype (.type Tc) (.type "BaseException") = pure true) (hnt : isSubtype (.type ((Manifest.find? Tc).elim "type" fun x => x.metatype)) (.type "tuple") = pure false)
    (hsub : isSubtype (.type Xc) (.type Tc) = pure true) (ht : Evals prog w F t (.type Tc) st) (hk : F.env.kindOf n = some .local) (hf : F.env.scope.kind = .function) (hown : F.env.locals ∈ F.own)
    (h : ∀ ea ta, ta ≠ ea → st.H ta = none → st.H ea = none → T prog w (marked F ea) (execs (b₀ :: suite) F.env) (fun f st' => Q f ⟨dropV st'.vars n, st'.H⟩) NoX ⟨setV st.vars n (.ref ea), upd (upd st.H ta (.args args)) ea (.exc (.type Xc) ta)⟩) :
    Caught prog w F (.ExceptHandler (some t) (some n) (b₀ :: suite) hpos :: rest) (.type Xc) args Q X st := by
  intro s ea H₀ s₀ R x ⟨st₀, R₀⟩ A
  have hT : s.TypeIs (.ref ea) Xc := by refine ex4and3 (id x) fun oe vs ta items h1 h2 _ => ?_; exact ⟨oe, h1, h2⟩
  refine wpAny_handleBy_builtin_as hexc hnt hsub (b := true) (ht _ _ _ _ R ⟨rfl, hT, ?_⟩)
  rw [if_pos rfl]
  have x' := id x
  refine flight (F := marked F ea) (R.marked ea) x A.alive fun s₂ W x₂ => ?_
  have W' : Flew prog w F st s₀.heap s s₂ := ⟨W.rel.unmarked, W.keep⟩
  have A₂ := A.flew W'
  refine ex1and6 (R₀.claim2 W'.rel x₂) fun ta hne hta hea n1 n2 RC => ?_
  have A₃ : After (frAddrs F.stk) F.own H₀ s₀ (upd (upd st.H ta (.args args)) ea (.exc (.type Xc) ta)) s₂ := (A₂.claim (ao := .args args) n1).claim (ao := .exc (.type Xc) ta) n2
  have hst : T prog w (marked F ea) (storeName (marked F ea).env n (.ref ea)) (fun _ st' => st' = ⟨setV st.vars n (.ref ea), upd (upd st.H ta (.args args)) ea (.exc (.type Xc) ta)⟩) NoX ⟨st.vars, upd (upd st.H ta (.args args)) ea (.exc (.type Xc) ta)⟩ :=
    T_storeL rfl hk hf hown rfl
  refine hst.thenN (F := marked F ea) (RC.marked ea) A₃ fun _ s₃ st₃ R₃ A₄ e₃ => ?_
  subst e₃
  refine T.thenN (F := marked F ea) (h ea ta hne hta hea) R₃ A₄ fun f s₄ st₄ R₄ A₅ q => ?_
  obtain ⟨m, hm, hl⟩ := R₄.2.loc
  have R₄' := R₄.unmarked
  refine wpAny_nameGoes_keeps hk hm (by rw [hf]; rfl) fun h' v hn hs => ?_
  refine ex3and4 (id hn) fun o' es' ep' ho' hd' hsk' hm' => ?_
  obtain ⟨R1, ⟨_, hc, h3, h4, h5, h6, h7⟩⟩ := R₄'
  refine ⟨⟨dropV st₄.vars n, st₄.H⟩, ⟨?_, ⟨⟨_, hn, fun y u e k => ?_⟩, fun y u e k => ?_, h3, h4, fun y c e => ?_, h6, fun a ha => ?_⟩⟩, ?_, q⟩
  · exact R1.priv (s' := { s₄ with heap := h', toks := s₄.toks + 1 }) h3 h4 hs.2 rfl rfl ho' (fun vs q => by rw [hd'] at q; cases q) fun _ => ⟨es', ep', hd'⟩
  · have e : (dropV st₄.vars n).lookup y = some u := e
    rw [dropV_lookup] at e
    by_cases hy : y = n
    · rw [if_pos hy] at e; cases e
    · rw [if_neg hy] at e
      obtain ⟨u', a, b⟩ := hl y u e k
      exact ⟨u', (if_neg hy).trans a, b⟩
  · have e : (dropV st₄.vars n).lookup y = some u := e
    have hy : y ≠ n := by rintro rfl; rw [hk] at k; cases k
    rw [dropV_lookup, if_neg hy] at e
    refine ex2and3 (hc y u e k) fun c u' a y3_ r => ?_; obtain ⟨o, b, d⟩ := y3_
    exact exi2 c u' ⟨a, ⟨o, (hs.2 _ (h5 y c a).2.1).trans b, d⟩, r⟩
  · refine ex0and4 (h5 y c e) fun a1 b1 d1 y3_ => ?_; obtain ⟨u, ob, g, rr⟩ := y3_
    exact ⟨a1, b1, d1, u, ob, (hs.2 _ b1).trans g, rr⟩
  · obtain ⟨a1, ob, eb, r⟩ := h7 a ha
    refine ⟨a1, ?_⟩
    by_cases q : a = F.env.locals
    · subst q; exact ⟨o', ho', fun vs z => by rw [hd'] at z; cases z⟩
    · exact ⟨ob, (hs.2 _ q).trans eb, r⟩
  · exact A₅.trans (After.priv (s' := { s₄ with heap := h', toks := s₄.toks + 1 }) hown hs.2 ho')
end
end Mine
end
section
set_option maxRecDepth 100000
set_option Elab.async false
set_option linter.unusedVariables false
namespace Mine
open PySem PySem.W PySem.Calls PyProof.Rows PySem.SeqAt
section
variable {prog : Program} {w : World} {F : Fx} {st : St} {s s' s₀ : Shared} {H₀ H : AHeap} {X : Value → List Value → St → Prop} {K : Frag} {Q : Value → St → Prop} {pos : Pos} {a' b' : Value}
theorem T_strExc {ea ta : Addr} {Xc n : String} {m : Str} (FX : ExcStrFacts Xc n) (he : st.H ea = some (.exc (.type Xc) ta)) (hta : st.H ta = some (.args [vS m])) (hu : F.A.units < 9000) (h : Q (vS m) st) : T prog w F (call (.type "str") [.ref ea]) Q X st := fun s R => by
  refine ex1and3 (R.1.cells _ _ he) fun oe ho hc y3_ => ?_; obtain ⟨vs, hd, hv⟩ := y3_
  refine ex1and3 (R.1.cells _ _ hta) fun ot hot hct y3_ => ?_; obtain ⟨items, n', hdt, hm⟩ := y3_
  have hm : items.toList.map er = [vS m] := hm
  obtain ⟨x, hx, hxe⟩ : ∃ x, items.toList = [x] ∧ er x = vS m := by
    cases q : items.toList with
    | nil => rw [q] at hm; cases hm
    | cons x r =>
      rw [q, List.map_cons] at hm
      injection hm with h1 h2
      cases r with
      | nil => exact ⟨x, rfl, h1⟩
      | cons _ _ => cases h2
  obtain ⟨t, rfl⟩ := er_str hxe
  have : items = [Value.str m t].toArray := by rw [← hx]
  exact P.str_of_exc_one FX (by show F.A.units + 2 < 9900; omega) ⟨oe, vs, ho, hc, hd, hv⟩ ⟨ot, n', hot, hct, this ▸ hdt⟩ ⟨st, R, .refl _ _ _ _, h⟩
theorem T_joined1 {v : Expr} (h : T prog w F (eval v F.env) Q X st) : T prog w F (eval (.JoinedStr [v] pos) F.env) Q X st := fun s R => JoinedStr_one (h s R)
theorem empty_app (x : Str) : Str.empty ++ x = x := by
  obtain ⟨c⟩ := x
  show (⟨#[] ++ c⟩ : Str) = ⟨c⟩
  simp
theorem app_len (x y : Str) : (x ++ y).length = x.length + y.length := strLen_append x y
theorem T_joined3 {v₁ v₂ v₃ : Expr} (he : evalEach [v₃] F.env = [eval v₃ F.env])
    (h : T prog w F (eval v₁ F.env) (fun a st₁ => ∃ x, a = vS x ∧ x.length ≤ 10000 ∧ T prog w F (eval v₂ F.env) (fun b st₂ => ∃ y, b = vS y ∧ y.length ≤ 10000 ∧ T prog w F (eval v₃ F.env) (fun c st₃ => ∃ z, c = vS z ∧ z.length ≤ 10000 ∧ Q (vS (x ++ y ++ z)) st₃) X st₂) X st₁) X st) :
    T prog w F (eval (.JoinedStr [v₁, v₂, v₃] pos) F.env) Q X st := fun s R => by
  refine JoinedStr_many ?_
  rw [he]
  refine joinParts_cons (h.then R (.refl _ _ _ _) fun a s₁ st₁ R₁ A₁ ⟨x, ha, hx, h₁⟩ => ?_)
  obtain ⟨t, rfl⟩ := er_str ha
  dsimp only
  rw [empty_app]
  refine ⟨by rw [sizeLine_eq]; omega, joinParts_cons (h₁.then R₁ A₁ fun b s₂ st₂ R₂ A₂ ⟨y, hb, hy, h₂⟩ => ?_)⟩
  obtain ⟨t, rfl⟩ := er_str hb
  dsimp only
  refine ⟨by rw [app_len, sizeLine_eq]; omega, joinParts_cons (h₂.then R₂ A₂ fun c s₃ st₃ R₃ A₃ ⟨z, hc, hz, q⟩ => ?_)⟩
  obtain ⟨t, rfl⟩ := er_str hc
  dsimp only
  refine ⟨by rw [app_len, app_len, sizeLine_eq]; omega, joinParts_nil ⟨st₃, R₃.toks, A₃.trans (.grow (s' := { s₃ with toks := s₃.toks + 1 }) _ _ fun _ _ e => e), q⟩ (by rw [app_len, app_len, sizeLine_eq]; omega)⟩
theorem int_len (i : Int) (hn : i.natAbs < 2 ^ 40) : i.natAbs.log2 < 1920 := by
  by_cases h0 : i.natAbs = 0
  · rw [h0]; decide +kernel
  · have : i.natAbs.log2 < 40 := (Nat.log2_lt h0).mpr hn
    omega
theorem T_reprI {value : Expr} (h : T prog w F (eval value F.env) (fun v st₁ => ∃ i : Int, v = vI i ∧ i.natAbs < 2 ^ 40 ∧ Q (vS (Str.ofString (toString i))) st₁) X st) : T prog w F (eval (.FormattedValue value 114 none pos) F.env) Q X st := fun s R =>
  wpAny_FormattedValue_repr (h.then R (.refl _ _ _ _) fun v s₁ st₁ R₁ A₁ ⟨i, hv, hn, q⟩ => by
    obtain ⟨t, rfl⟩ := er_int hv
    have hd := int_len i hn
    refine wpAny_pyReprObj_gives (typeIs_int _ _ _) PySem.F.slot_int_repr PySem.F.entry_int_repr (PySem.F.args_int_repr_1 _) (gives_int_repr i t hd) ?_ rfl (int_text_fits hd)
    exact formatField_str (fun t' tk => ⟨st₁, R₁.grow (fun _ _ e => e) rfl rfl, A₁.trans (.grow (s' := { s₁ with toks := tk }) _ _ fun _ _ e => e), q⟩) (int_text_fits hd))
end
end Mine
end
section
set_option maxRecDepth 100000
set_option Elab.async false
set_option linter.unusedVariables false
namespace Mine
open PySem PySem.W PySem.Calls PyProof.Rows PySem.SeqAt
section
variable {prog : Program} {w : World} {s s' s₀ : Shared} {H₀ H H' : AHeap} {st : St} {K : Frag}
theorem HRel.re {F : Fc} {A : Around} (R : HRel prog w F H s) : HRel prog w { F with A := A } H s := ⟨R.stays, R.cells, R.notBase, R.frames, R.frCls, R.gens, R.os⟩
theorem HRel.un {F : Fc} {A : Around} (R : HRel prog w { F with A := A } H s) : HRel prog w F H s := ⟨R.stays, R.cells, R.notBase, R.frames, R.frCls, R.gens, R.os⟩
theorem creation_ok {F : Fc} {n : Nat} {C : Addr} {vals : List Value} (O : F.Ok (n + 1)) : ({ F with A := F.A.under (.builtin "type.__call__" ⟨.ref C :: vals, []⟩) } : Fc).Ok n := by
  obtain ⟨o1, o2, o3, o4, o5⟩ := O
  refine ⟨?_, ?_, ?_, o4, o5⟩
  · show pushEnvs [] F.A.frames = some F.stk
    rw [o1]; rfl
  · show F.A.depth + 1 + n < 900
    omega
  · have e : (F.A.under (.builtin "type.__call__" ⟨.ref C :: vals, []⟩)).units = F.A.units + (Code.builtin "type.__call__" ⟨.ref C :: vals, []⟩).cUnits := rfl
    have e2 : (Code.builtin "type.__call__" ⟨.ref C :: vals, []⟩).cUnits ≤ 3 := by
      have : (Code.builtin "type.__call__" ⟨.ref C :: vals, []⟩).cUnits = 1 := rfl
      omega
    show (F.A.under _).units + 10 * n < 5000
    omega
theorem Calls.make {F : Fc} {n : Nat} {C fI : Addr} {args : List Value} {Q : Value → AHeap → Prop} {X : Value → List Value → AHeap → Prop} (KX : K.In F.base) (O : F.Ok (n + 1)) (hm : makesIn K C = true)
    (hi : findIn K (.ref C) "__init__" = some (some (.ref fI))) (hf : isFn K (.ref fI) = true) (slotted : Bool)
    (h : ∀ A', ({ F with A := A' } : Fc).Ok n → ∀ x d, H x = none → H d = none → x ≠ d →
      Calls prog w { F with A := A' } (.ref fI) (.ref x :: args) (upd (upd H d (.ns [])) x (if slotted then .slots C d [] else .inst C d)) (fun v H' => v = .none ∧ Q (.ref x) H') X) :
    Calls prog w F (.ref C) args H Q X := by
  intro s args' ha R
  have KS : K.In s.heap := KX.keeps R.stays
  obtain ⟨hp, g, d, t, os⟩ := s
  refine make_core (makes_of KS hm) (looks_findIn KS hi) (fun self => bind_fn KS self (beq_iff_eq.mp hf)) (.inl rfl) ?_
  have n1 : hp.get? hp.objs.size = none := Heap.get?_none_of_le (Nat.le_refl _)
  have n2 : hp.get? (hp.objs.size + 1) = none := Heap.get?_none_of_le (Nat.le_succ _)
  have n3 : (hp.push emptyDict).get? (hp.objs.size + 1) = none := Heap.get?_none_of_le (by rw [Heap.size_push]; exact Nat.le_refl _)
  have e3 : (hp.push emptyDict).objs.size = hp.objs.size + 1 := Heap.size_push ..
  have k1 : ∀ b o, hp.get? b = some o → (hp.push emptyDict).get? b = some o := fun b o e => Heap.get?_push_of_some _ e
  have k2 : ∀ b o, (hp.push emptyDict).get? b = some o → ((hp.push emptyDict).push (instObj C hp.objs.size)).get? b = some o := fun b o e => Heap.get?_push_of_some _ e
  have R1 : HRel prog w F (upd H hp.objs.size (.ns [])) ⟨hp.push emptyDict, g, d, t, os⟩ := R.new (s' := ⟨hp.push emptyDict, g, d, t, os⟩) k1 rfl rfl n1 (Heap.get?_push_size _ rfl) ⟨[], 0, rfl, trivial⟩
  have e4 : ((hp.push emptyDict).push (instObj C hp.objs.size)).get? (hp.objs.size + 1) = some (instObj C hp.objs.size) := by rw [← e3]; exact Heap.get?_push_size _ rfl
  have R2 : HRel prog w F (upd (upd H hp.objs.size (.ns [])) (hp.objs.size + 1) (if slotted then .slots C hp.objs.size [] else .inst C hp.objs.size)) ⟨(hp.push emptyDict).push (instObj C hp.objs.size), g, d, t, os⟩ :=
    R1.new (s' := ⟨(hp.push emptyDict).push (instObj C hp.objs.size), g, d, t, os⟩) k2 rfl rfl n3 e4 (by cases slotted <;> first | exact rfl | exact ⟨rfl, rfl, rfl, rfl⟩)
  have A1 : After (frAddrs F.stk) [] H ⟨hp, g, d, t, os⟩ (upd (upd H hp.objs.size (.ns [])) (hp.objs.size + 1) (if slotted then .slots C hp.objs.size [] else .inst C hp.objs.size)) ⟨(hp.push emptyDict).push (instObj C hp.objs.size), g, d, t, os⟩ :=
    (After.new (s' := ⟨hp.push emptyDict, g, d, t, os⟩) _ _ k1 n1).trans (.new (s' := ⟨(hp.push emptyDict).push (instObj C hp.objs.size), g, d, t, os⟩) _ _ k2 n3)
  have z := h _ (creation_ok (C := C) (vals := args') O) (hp.objs.size + 1) hp.objs.size (R.none_of n2) (R.none_of n1) (Nat.succ_ne_self _) ⟨(hp.push emptyDict).push (instObj C hp.objs.size), g, d, t, os⟩ (.ref (hp.objs.size + 1) :: args') (by rw [List.map_cons, ha]; rfl) (R2.re)
  refine codeAny_mono z fun r s' q => ?_
  refine CPost.elim q (fun v H' e a b c => ?_) (fun H' ea cls as e x a b y => ?_) <;> subst e
  · have hv := er_none c.1
    exact ⟨hv, H', a.un, A1.trans b, c.2⟩
  · exact ⟨H', ea, cls, as, rfl, x.older A1.alive, a.un, A1.trans b, y⟩
theorem Binds.of {F : Fc} {fd : FuncData} {args : List Value} {B : List (Str × Value) → AHeap → Prop} (bf : List Value → List (Str × Value)) (hb : ∀ args' h, args'.map er = args → F.base.StaysIn h → ∀ s, s.heap = h → BindsTo s fd ⟨args', []⟩ (bf args')) (h : ∀ args', args'.map er = args → B ((bf args').map fun p => (p.1, er p.2)) H) : Binds prog w F fd args H B := by
  intro s args' ha R E
  exact hb args' s.heap ha R.stays s rfl _ _ _ _ ⟨H, R, .refl _ _ _ _, h args' ha⟩
end
end Mine
end
section
set_option maxRecDepth 100000
set_option Elab.async false
set_option linter.unusedVariables false
set_option maxHeartbeats 4000000
namespace Mine
open PySem PySem.W PySem.Calls PyProof.Rows PySem.SeqAt
structure Wld (K : Frag) (F : Fc) (mg mb : Str → Option Value) : Prop where
  kx : K.In F.base
  g : F.base.Ns mainGlobals mg
  b : F.base.Ns builtinsNs mb
  bi : ∀ x : Str, x ≠ "__name__" → mb x = bootBuiltins x
  ns : NoSys F
section
variable {prog : Program} {w : World} {F : Fx} {st : St} {X : Value → List Value → St → Prop} {K : Frag} {Q : Value → St → Prop} {pos : Pos} {mg mb : Str → Option Value}
theorem T_gl {x : Str} {v : Value} (W : Wld K F.toFc mg mb) (e : nsIn K mainGlobals x = some (some v)) (hg : F.env.globals = mainGlobals) (hk : F.env.kindOf x = some .globalImplicit) (hf : F.env.scope.kind = .function) (hd : (x == ("__debug__" : Str)) = false) (h : Q (er v) st) :
    T prog w F (eval (.Name x pos) F.env) Q X st := T_nameG (mb := mb) ⟨W.g, W.b⟩ hg (mg_of W.kx W.g e) hk hf hd h
theorem T_bi {x : Str} {v : Value} (W : Wld K F.toFc mg mb) (e : nsIn K mainGlobals x = some none) (hv : bootBuiltins x = some v) (hn : x ≠ "__name__") (hg : F.env.globals = mainGlobals) (hb : F.env.builtins = builtinsNs) (hk : F.env.kindOf x = some .globalImplicit) (hf : F.env.scope.kind = .function) (hd : (x == ("__debug__" : Str)) = false) (h : Q (er v) st) :
    T prog w F (eval (.Name x pos) F.env) Q X st := T_nameB ⟨W.g, W.b⟩ hg hb (mg_none_of W.kx W.g e) ((W.bi x hn).trans hv) hk hf hd h
end
section
variable {prog : Program} {w : World}
theorem one_of {l : List Value} {a : Value} (h : l.map er = [a]) : ∃ x, l = [x] ∧ er x = a := by
  rcases l with _ | ⟨x, l⟩
  · cases h
  · injection h with h1 h; cases List.map_eq_nil_iff.mp h; exact ⟨x, rfl, h1⟩
theorem two_of {l : List Value} {a b : Value} (h : l.map er = [a, b]) : ∃ x y, l = [x, y] ∧ er x = a ∧ er y = b := by
  rcases l with _ | ⟨x, l⟩
  · cases h
  · injection h with h1 h; obtain ⟨y, rfl, h2⟩ := one_of h; exact ⟨x, y, rfl, h1, h2⟩
theorem three_of {l : List Value} {a b c : Value} (h : l.map er = [a, b, c]) : ∃ x y z, l = [x, y, z] ∧ er x = a ∧ er y = b ∧ er z = c := by
  rcases l with _ | ⟨x, l⟩
  · cases h
  · injection h with h1 h; refine ex2and3 (two_of h) fun y z y2_ h2 h3 => ?_; obtain rfl := y2_; exact ⟨x, y, z, rfl, h1, h2, h3⟩
theorem none_of {l : List Value} (h : l.map er = []) : l = [] := by
  cases l with
  | nil => rfl
  | cons _ _ => cases h
theorem zip_keys : ∀ (names : List Str) (args : List Value), (names.zip args).map (·.1) = names.take args.length
  | [], _ => by simp
  | _ :: _, [] => rfl
  | n :: ns, a :: as => by rw [List.zip_cons_cons, List.map_cons, zip_keys ns as]; rfl
theorem Calls.fn {F : Fc} {n : Nat} {f : Addr} {fd : FuncData} {body : List Stmt} {args : List Value} {names : List Str} {H : AHeap} {Q : Value → AHeap → Prop} {X : Value → List Value → AHeap → Prop} (D : FdOk F.base f fd body) (O : F.Ok (n + 1))
    (hb : ∀ args', args'.map er = args → bindArgs fd ⟨args', []⟩ = Pure.pure (names.zip args')) (hn : names.Nodup) (hk : (names.all fun x => fd.scope.names.lookup x == some .local || fd.scope.names.lookup x == some .cell) = true)
    (h : ∀ L, T prog w (ffx F f fd L) (execs body (fenv f fd L)) (fun fl st' => Q (match fl with | .ret v => v | _ => .none) st'.H) (fun c a st' => X c a st'.H) ⟨names.zip args, H⟩) : Calls prog w F (.ref f) args H Q X :=
  Calls.def (B := fun vs H₁ => vs = names.zip args ∧ H₁ = H) D O (.pure hb ⟨rfl, rfl⟩) fun L vs H₁ ⟨e1, e2⟩ => by
    subst e1 e2
    refine ⟨by rw [zip_keys]; exact hn.sublist (List.take_sublist _ _), fun x hx => ?_, h L⟩
    have hm : x.1 ∈ names := by
      have : x.1 ∈ (names.zip args).map (·.1) := List.mem_map_of_mem hx
      rw [zip_keys] at this
      exact List.mem_of_mem_take this
    have := List.all_eq_true.mp hk _ hm
    simpa using this
end
theorem itUp_itUp {H : AHeap} {it l : Addr} {i j : Nat} (h : H it ≠ none) : itUp (itUp H it l i) it l j = itUp H it l j := by
  have e : itT (itUp H it l i) it = itT H it := by
    unfold itUp
    generalize itT H it = b
    cases b <;> simp [itT, upd]
  have q : itUp (itUp H it l i) it l j = upd (itUp H it l i) it (bif itT (itUp H it l i) it then .titer l j else .iter l j) := rfl
  rw [q, e]
  funext c
  unfold itUp upd
  split <;> rfl
theorem ItIs.up {H : AHeap} {it l : Addr} {i j : Nat} {xs : List Value} (h : ItIs H it l i xs) (hne : l ≠ it) : ItIs (itUp H it l j) it l j xs := by
  rcases h with ⟨h1, h2⟩ | ⟨h1, h2⟩
  · left; rw [itUp_l h1]; unfold upd; exact ⟨if_pos rfl, (if_neg hne).trans h2⟩
  · right; rw [itUp_t h1]; unfold upd; exact ⟨if_pos rfl, (if_neg hne).trans h2⟩
theorem itUp_other {H : AHeap} {it l a : Addr} {i : Nat} (h : a ≠ it) : itUp H it l i a = H a := by
  unfold itUp upd; exact if_neg h
end Mine
end
section
set_option maxRecDepth 100000
set_option Elab.async false
set_option linter.unusedVariables false
namespace Mine
open PySem PySem.W PySem.Calls PyProof.Rows PySem.SeqAt
section
variable {prog : Program} {w : World} {F : Fx} {st : St} {X : Value → List Value → St → Prop} {K : Frag} {pos : Pos} {mg mb : Str → Option Value} {a' b' : Value}
theorem both_if {b : Bool} {P R : Prop} (h : (b = true → P) ∧ (b = false → R)) : if b = true then P else R := by
  cases b
  · rw [if_neg (by decide)]; exact h.2 rfl
  · rw [if_pos rfl]; exact h.1 rfl
theorem T_if2 {test : Expr} {body orelse : List Stmt} {Q : Flow → St → Prop}
    (h : T prog w F (isTrue test F.env (eval test F.env)) (fun b st' => (b = true → T prog w F (execs body F.env) Q X st') ∧ (b = false → T prog w F (execs orelse F.env) Q X st')) X st) :
    T prog w F (exec (.If test body orelse pos) F.env) Q X st := T_if (h.post fun _ _ q => both_if q)
theorem T_ifExp2 {test a b : Expr} {Q : Value → St → Prop}
    (h : T prog w F (isTrue test F.env (eval test F.env)) (fun c st' => (c = true → T prog w F (eval a F.env) Q X st') ∧ (c = false → T prog w F (eval b F.env) Q X st')) X st) :
    T prog w F (eval (.IfExp test a b pos) F.env) Q X st := T_ifExp (h.post fun _ _ q => both_if q)
theorem T_or2 {x : Expr} {r : List Expr} {Q : Bool → St → Prop} (h : T prog w F (isTrue x F.env (eval x F.env)) (fun b st' => (b = true → Q true st') ∧ (b = false → T prog w F (allTrue .Or r F.env) Q X st')) X st) : T prog w F (allTrue .Or (x :: r) F.env) Q X st := T_or1 (h.post fun _ _ q => both_if q)
theorem T_while2 {test : Expr} {body orelse : List Stmt} {Q : Flow → St → Prop} {outer : List Env} {L : Addr} (U : Runs F outer L) (I : Nat → St → Prop) (n : Nat) (h0 : I n st)
    (hstep : ∀ n st', I n st' → T prog w F (isTrue test F.env (eval test F.env)) (fun b st₂ => (b = true → T prog w F (execs body F.env) (fun f st₃ => match f with
        | .next => ∃ m, m < n ∧ I m st₃ | .cont => ∃ m, m < n ∧ I m st₃ | .brk => Q .next st₃ | .ret v => Q (.ret v) st₃) X st₂) ∧ (b = false → T prog w F (execs orelse F.env) Q X st₂)) X st') :
    T prog w F (exec (.While test body orelse pos) F.env) Q X st := T_while U I n h0 fun n st' hI => (hstep n st' hI).post fun _ _ q => both_if q
theorem T_isRT {a : Addr} {t : String} {Q : Value → St → Prop} (ha : er a' = .ref a) (hb : er b' = .type t) (h : Q (.bool false) st) : T prog w F (compareOp .Is a' b') Q X st := fun s R => by
  rw [er_ref ha, er_type hb]
  exact wpAny_is_plain rfl ⟨st, R, .refl _ _ _ _, h⟩
theorem T_isntTT {t u : String} {Q : Value → St → Prop} (ha : er a' = .type t) (hb : er b' = .type u) (h : Q (.bool (!(Value.type t == Value.type u))) st) : T prog w F (compareOp .IsNot a' b') Q X st := fun s R => by
  rw [er_type ha, er_type hb]
  exact wpAny_isNot_plain rfl ⟨st, R, .refl _ _ _ _, h⟩
theorem T_isBB {t u : Bool} {Q : Value → St → Prop} (ha : er a' = .bool t) (hb : er b' = .bool u) (h : Q (.bool (t == u)) st) : T prog w F (compareOp .Is a' b') Q X st := fun s R => by
  rw [er_bool ha, er_bool hb]
  refine wpAny_is_plain rfl ⟨st, R, .refl _ _ _ _, ?_⟩
  have : (Value.bool t == Value.bool u) = (t == u) := by cases t <;> cases u <;> rfl
  show Q (.bool (Value.bool t == Value.bool u)) st
  rw [this]; exact h
theorem Wld.ffx {F : Fc} (W : Wld K F mg mb) {f : Addr} {fd : FuncData} {L : Addr} : Wld K (Mine.ffx F f fd L).toFc mg mb := ⟨W.kx, W.g, W.b, W.bi, W.ns⟩
theorem Wld.re {F : Fc} (W : Wld K F mg mb) {A : Around} : Wld K { F with A := A } mg mb := ⟨W.kx, W.g, W.b, W.bi, W.ns⟩
end
noncomputable def Has (vs : List (Str × Value)) : List (Str × Value) → Prop
  | [] => True
  | p :: r => vs.lookup p.1 = some p.2 ∧ Has vs r
theorem Has.at {vs : List (Str × Value)} : ∀ {l : List (Str × Value)}, Has vs l → ∀ x v, l.lookup x = some v → vs.lookup x = some v := by
  intro l
  induction l with
  | nil => intro _ x v e; cases e
  | cons p r ih =>
    obtain ⟨y, u⟩ := p
    rintro ⟨h1, h2⟩ x v e
    by_cases q : x = y
    · subst q; simp only [List.lookup, beq_self_eq_true] at e; cases e; exact h1
    · have : (x == y) = false := by simpa using q
      simp only [List.lookup, this] at e
      exact ih h2 x v e
theorem T.keepVars {prog : Program} {w : World} {F : Fx} {α : Type} [Er α] {t : Sem α} {Q : α → St → Prop} {X : Value → List Value → St → Prop} {st : St} (l : List (Str × Value)) (hv : Has st.vars l) (h : T prog w F t Q X ⟨l, st.H⟩) : T prog w F t Q X st :=
  T.dropVars hv.at h
theorem itUp_self {H : AHeap} {it l : Addr} {i : Nat} {xs : List Value} (h : ItIs H it l i xs) : itUp H it l i = H := by
  have self : ∀ {o : AO}, H it = some o → upd H it o = H := fun {o} ho => by
    funext c
    unfold upd
    split
    · rename_i e; subst e; exact ho.symm
    · rfl
  rcases h with ⟨h1, _⟩ | ⟨h1, _⟩
  · rw [itUp_l h1]; exact self h1
  · rw [itUp_t h1]; exact self h1
end Mine
end
section
set_option maxRecDepth 100000
set_option Elab.async false
set_option linter.unusedVariables false
namespace Mine
open PySem PySem.W PySem.Calls PyProof.Rows PySem.SeqAt
section
variable {prog : Program} {w : World} {s s' s₀ : Shared} {H₀ H H' : AHeap} {st : St} {K : Frag} {E : Value → Shared → Prop}
theorem Fc.Ok.in1 {F : Fc} {n : Nat} (O : F.Ok (n + 1)) : ({ F with A := F.A.in1.in1 } : Fc).Ok n :=
  ⟨O.fr, by have := O.depth; show F.A.depth + n < 900; omega, by have := O.units; show F.A.units + 1 + 1 + 10 * n < 5000; omega, O.lim, O.hh⟩
structure OwnAt (F : Fc) (H : AHeap) (x C d : Addr) : Prop where
  at_ : ∃ vs, H x = some (.slots C d vs)
  ns : H d = some (.ns [])
theorem OwnAt.inst {F : Fc} {x C d : Addr} (I : OwnAt F H x C d) (R : HRel prog w F H s) : ∃ ox od, InstAt s.heap x ox C (some od) := by
  obtain ⟨vs, hx⟩ := I.at_
  refine ex1and5 (R.cells _ _ hx) fun o ho h1 h2 h3 h4 => ?_
  refine ex1and2 (R.cells _ _ I.ns) fun od hod y2_ => ?_; obtain ⟨des, n, rfl, hn⟩ := y2_
  exact exi2 o _ ⟨ho, h1, by unfold notCls; rw [h3], by rw [h2]; exact hod⟩
theorem call_spec {F : Fc} {A : Around} {f : Value} {args args' : List Value} {QN : Value → AHeap → Prop} {XN : Value → List Value → AHeap → Prop} {P : Value → Shared → Prop} (h : Calls prog w { F with A := A } f args H QN XN) (R : HRel prog w F H s) (ha : args'.map er = args)
    (k1 : ∀ v s' H', HRel prog w F H' s' → After (frAddrs F.stk) [] H s H' s' → QN (er v) H' → P v s')
    (k2 : ∀ e s' H' c a, HRel prog w F H' s' → After (frAddrs F.stk) [] H s H' s' → XN c a H' → (∃ o, s'.heap.get? e = some o ∧ o.cls = c) → E (.ref e) s') : wpAny (model prog w) A (call f args') P E s :=
  wpAny_call (codeAny_mono (h s args' ha R.re) fun r s' z => by
    refine CPost.elim z (fun v H' e a b c => ?_) (fun H' ea cls as e x a b q => ?_) <;> subst e
    · exact k1 v s' H' a.un b c
    · refine ex4and3 x fun oe vs ta items h1 h2 _ => ?_; try clear x
      exact k2 ea s' H' cls as a.un b q ⟨oe, h1, h2⟩)
theorem own_next {F : Fc} {A : Around} {x C d f : Addr} {QN : Value → AHeap → Prop} {XN : Value → List Value → AHeap → Prop} {P : Option Value → Shared → Prop} (KX : K.In F.base) (I : OwnAt F H x C d) (hs : findIn K (.ref C) "__next__" = some (some (.ref f))) (hf : isFn K (.ref f) = true)
    (h : Calls prog w { F with A := A } (.ref f) [.ref x] H QN XN) (R : HRel prog w F H s) (hX : ∀ c a H', XN c a H' → c = .type "StopIteration")
    (k1 : ∀ v s' H', HRel prog w F H' s' → After (frAddrs F.stk) [] H s H' s' → QN (er v) H' → P (some v) s') (k2 : ∀ s' H' c a, HRel prog w F H' s' → After (frAddrs F.stk) [] H s H' s' → XN c a H' → P none s') :
    wpAny (model prog w) A (pyNext (.ref x)) P E s := by
  obtain ⟨ox, od, IA⟩ := I.inst R
  unfold pyNext
  refine wpAny_bind (wpAny_attempt (special_fn (name := "__next__") (args := []) (KX.keeps R.stays) IA hs (beq_iff_eq.mp hf) (call_spec h R rfl (fun v s' H' R' A' q => ?_) fun e s' H' c a R' A' q ⟨o, ho, hc⟩ => ?_)))
  · exact wpAny_pure (k1 v s' H' R' A' q)
  · have := hX c a H' q
    subst this
    refine wpAny_bind (wpAny_isInstance (T := "StopIteration") (b := true) ⟨o, ho, hc⟩ isSubtype_stop ?_)
    exact wpAny_pure (k2 s' H' _ a R' A' q)
theorem own_iter {F : Fc} {A : Around} {x C d f : Addr} {g : Value} {P : Value → Shared → Prop} (KX : K.In F.base) (I : OwnAt F H x C d) (hs : findIn K (.ref C) "__iter__" = some (some (.ref f))) (hf : isFn K (.ref f) = true) (hn : findIn K (.ref C) "__next__" = some (some g))
    (h : Calls prog w { F with A := A } (.ref f) [.ref x] H (fun v H' => v = .ref x ∧ H' = H) (fun _ _ _ => False)) (R : HRel prog w F H s)
    (k : ∀ s', HRel prog w F H s' → After (frAddrs F.stk) [] H s H s' → P (.ref x) s') : wpAny (model prog w) A (pyIter (.ref x)) P E s := by
  obtain ⟨ox, od, IA⟩ := I.inst R
  have X := KX.keeps R.stays
  have fin : wpAny (model prog w) A (call (.ref f) [.ref x] >>= fun v => pure (some v)) (fun r s' => r = some (.ref x) ∧ HRel prog w F H s' ∧ After (frAddrs F.stk) [] H s H s') E s :=
    wpAny_bind (call_spec h R rfl (fun v s' H' R' A' ⟨q1, q2⟩ => wpAny_pure (by subst q2; exact ⟨by rw [er_ref q1], R', A'⟩)) fun _ _ _ _ _ _ _ q => q.elim)
  have one : ∀ refuse : Sem Value, wpAny (model prog w) A (callSpecialIfBoundUnlessNone? (.ref x) "__iter__" refuse) (fun r s' => r = some (.ref x) ∧ HRel prog w F H s' ∧ After (frAddrs F.stk) [] H s H s') E s := by
    intro refuse
    simp only [callSpecialIfBoundUnlessNone?, bindSpecialIfBound?]
    refine wpAny_holding (wpAny_bind (wpAny_bind (wpAny_bind (IA.type.here ((looks_findIn X hs).here ?_)))))
    refine wpAny_bind (wpAny_askSetting (wpAny_ite ?_))
    have fin2 : wpAny (model prog w) A (if (Value.ref f == Value.none) = true then (refuse >>= fun v => pure (some v)) else (call (.ref f) [.ref x] >>= fun v => pure (some v))) (fun r s' => r = some (.ref x) ∧ HRel prog w F H s' ∧ After (frAddrs F.stk) [] H s H s') E s := by
      rw [if_neg (show ¬ ((Value.ref f == Value.none) = true) from Bool.false_ne_true)]
      exact fin
    split
    · exact wpAny_bind ((bind_fn X _ (beq_iff_eq.mp hf)).here (wpAny_pure (by exact fin2)))
    · exact wpAny_tryCatch (wpAny_bind ((bind_fn X _ (beq_iff_eq.mp hf)).here (wpAny_pure (by exact fin2))))
  unfold pyIter
  refine wpAny_bind (wpAny_bind (IA.type.here ((looks_findIn X hs).here ?_)))
  show wpAny (model prog w) A (callSpecialIfBoundUnlessNone? (.ref x) "__iter__" _ >>= _) P E s
  refine wpAny_bind (wpAny_mono (one _) (fun r s' hr => ?_) fun _ _ z => z)
  obtain ⟨rfl, R', A'⟩ := hr
  obtain ⟨ox', od', IA'⟩ := I.inst R'
  exact wpAny_bind (wpAny_bind (IA'.type.here ((looks_findIn (KX.keeps R'.stays) hn).here (wpAny_pure (k s' R' A')))))
theorem own_loop {F : Fc} {A : Around} {x C d f S : Addr} {R₀ : Result → Shared → Prop} (KX : K.In F.base) (hs : findIn K (.ref C) "__next__" = some (some (.ref f))) (hf : isFn K (.ref f) = true)
    (Inv : Nat → List Value → AHeap → Prop) (Fin : List Value → AHeap → Prop) (hI : ∀ n acc H, Inv n acc H → OwnAt F H x C d ∧ acc.length + n ≤ 100000)
    (step : ∀ n acc H, Inv n acc H → Calls prog w { F with A := A.in1 } (.ref f) [.ref x] H (fun v H' => ∃ m, m < n ∧ Inv m (acc ++ [v]) H') (fun c a H' => c = .type "StopIteration" ∧ Fin acc H'))
    (hSf : S ∉ frAddrs F.stk) (hSb : F.base.get? S = none) (hR : ∀ s' H' acc items c, HRel prog w F H' s' → After (frAddrs F.stk) [S] H₀ s₀ H' s' → s'.heap.get? S = some { cls := .type "list", dict := none, data := .seq items c, slots := #[] } → items.toList.map er = acc → H' S = none → Fin acc H' → R₀ (.ok (.ret .none)) s') :
    ∀ n acc H s items c, Inv n acc H → HRel prog w F H s → After (frAddrs F.stk) [S] H₀ s₀ H s → s.heap.get? S = some { cls := .type "list", dict := none, data := .seq items c, slots := #[] } → items.toList.map er = acc → H S = none →
      codeAny (model prog w) A (.builtin "list.extend.loop" ⟨[.ref S, .ref x, .none], []⟩) R₀ s := by
  intro n
  induction n using Nat.strongRecOn with
  | ind n ih =>
    intro acc H s items c hInv R AA hS hacc hSH
    obtain ⟨hOwn, hlen⟩ := hI n acc H hInv
    refine codeAny_builtin PySem.F.entry_extend_loop ?_
    rw [Around.under_plainId PySem.F.plain_extend_loop _]
    show wpAny _ A.in1 (pyNext (.ref x) >>= _) _ _ s
    have still : ∀ {s' H'}, After (frAddrs F.stk) [] H s H' s' → s'.heap.get? S = some { cls := .type "list", dict := none, data := .seq items c, slots := #[] } ∧ H' S = none := fun {s' H'} A' => by
      obtain ⟨sl, e1, c1⟩ := A'.keep S _ hS hSH (by simp)
      refine ⟨by rw [e1, c1 hSf], ?_⟩
      cases q : H' S with
      | none => rfl
      | some z =>
        rcases A'.dom S (by rw [q]; exact nofun) with h | h
        · exact absurd hSH h
        · rw [hS] at h; cases h
    have wide : ∀ {s' H'}, After (frAddrs F.stk) [] H s H' s' → After (frAddrs F.stk) [S] H s H' s' := fun A' => ⟨fun b o e h1 _ => A'.keep b o e h1 (by simp), A'.alive, A'.dom⟩
    refine wpAny_bind (own_next KX hOwn hs hf (step n acc H hInv) R (fun _ _ _ q => q.1) (fun v s' H' R' A' ⟨m, hm, hI'⟩ => ?_) fun s' H' cc a R' A' q => ?_)
    · obtain ⟨hS', hSH'⟩ := still A'
      have hsz : items.size = acc.length := len_of hacc
      show wpAny _ A.in1 (updateSeq S (·.push v) >>= _) _ _ _
      refine wpAny_bind ?_
      refine wpAny_updateSeq hS' rfl (wpAny_pure ⟨plainId_quiet PySem.F.plain_extend_loop _, ?_⟩) (by rw [sizeLine_eq]; omega) (by show (items.push v).size ≤ _; rw [Array.size_push, sizeLine_eq]; omega)
      have hup := Heap.get?_update_self (Obj.mapSeq (·.push v)) hS' rfl
      have oth : ∀ b, b ≠ S → (s'.heap.update S (Obj.mapSeq (·.push v))).get? b = s'.heap.get? b := fun b hb => Heap.get?_update_other _ _ (Ne.symm hb)
      refine ih m hm (acc ++ [er v]) H' { s' with heap := s'.heap.update S (Obj.mapSeq (·.push v)) } (items.push v) _ hI' ?_ ?_ hup (by rw [Array.toList_push, List.map_append, hacc]; rfl) hSH'
      · exact R'.priv (s' := { s' with heap := s'.heap.update S (Obj.mapSeq (·.push v)) }) hSH' hSb oth rfl rfl hup (fun vs q => by cases q) fun ⟨o, es, k, q1, q2⟩ => by rw [hS'] at q1; cases q1; cases q2
      · exact (AA.trans (wide A')).trans (After.priv (s' := { s' with heap := s'.heap.update S (Obj.mapSeq (·.push v)) }) List.mem_cons_self oth hup)
    · obtain ⟨hS', hSH'⟩ := still A'
      exact wpAny_pure (hR s' H' acc items c R' (AA.trans (wide A')) hS' hacc hSH' q.2)
end
end Mine
end
section
set_option maxRecDepth 100000
set_option Elab.async false
set_option linter.unusedVariables false
namespace Mine
open PySem PySem.W PySem.Calls PyProof.Rows PySem.SeqAt
section
variable {prog : Program} {w : World} {F : Fx} {st : St} {X : Value → List Value → St → Prop} {K : Frag} {Q : Value → St → Prop}
theorem T_listOwn {n : Nat} {x C d f g : Addr} (O : F.toFc.Ok (n + 1)) (KX : K.In F.base) (I : OwnAt F.toFc st.H x C d) (hs : findIn K (.ref C) "__next__" = some (some (.ref f))) (hf : isFn K (.ref f) = true)
    (hi : findIn K (.ref C) "__iter__" = some (some (.ref g))) (hg : isFn K (.ref g) = true) (hl : findIn K (.ref C) "__len__" = some none) (hh : findIn K (.ref C) "__length_hint__" = some none)
    (hiter : ∀ A, ({ F.toFc with A := A } : Fc).Ok n → Calls prog w { F.toFc with A := A } (.ref g) [.ref x] st.H (fun v H' => v = .ref x ∧ H' = st.H) (fun _ _ _ => False))
    (Inv : Nat → List Value → AHeap → Prop) (Fin : List Value → AHeap → Prop) (hI : ∀ n acc H, Inv n acc H → OwnAt F.toFc H x C d ∧ acc.length + n ≤ 100000)
    (step : ∀ A, ({ F.toFc with A := A } : Fc).Ok n → ∀ m acc H, Inv m acc H → Calls prog w { F.toFc with A := A } (.ref f) [.ref x] H (fun v H' => ∃ m', m' < m ∧ Inv m' (acc ++ [v]) H') (fun c a H' => c = .type "StopIteration" ∧ Fin acc H'))
    {m : Nat} (h0 : Inv m [] st.H) (h : ∀ acc H' a, Fin acc H' → H' a = none → st.H a = none → Q (.ref a) ⟨st.vars, upd H' a (.list acc)⟩) : T prog w F (call (.type "list") [.ref x]) Q X st := by
  intro s R
  have OA := O.in1
  refine callType_codes (Q₁ := fun obj s₁ => obj = .ref s.heap.objs.size ∧ s₁ = { s with heap := s.heap.push { cls := .type "list", data := .seq #[] } }) PySem.F.called_list (PySem.F.typeCall_list_1 _) PySem.F.entry_list_init
    (code_list_new _ ⟨rfl, rfl⟩) fun obj s₁ h₁ => ?_
  obtain ⟨rfl, rfl⟩ := h₁
  have hS : (s.heap.push { cls := .type "list", data := .seq #[] }).get? s.heap.objs.size = some { cls := .type "list", data := .seq #[] } := Heap.get?_push_size _ rfl
  have hnull : s.heap.get? s.heap.objs.size = none := Heap.get?_none_of_le (Nat.le_refl _)
  have hSH : st.H s.heap.objs.size = none := R.1.fresh
  refine ex0and5 (R.apart hnull) fun hSb hSf hSL hSc hSo => ?_
  generalize hSe : s.heap.objs.size = S at *
  refine ⟨⟨_, hS, rfl⟩, PySem.F.args_list_init_2 _ _, ?_⟩
  show wpAny _ F.A.in1.in1 (do let old ← Builtin.List.listItems (.ref S); Builtin.List.listUpdate (.ref S) (fun _ => #[]); letGo old.toList.reverse; Builtin.List.listExtendWith (.ref S) (.ref x) .none) _ _ _
  refine wpAny_bind ?_
  unfold Builtin.List.listItems
  refine wpAny_bind (wpAny_seqItems hS rfl (wpAny_pure ?_))
  show wpAny _ F.A.in1.in1 (updateSeq S (fun _ => #[]) >>= fun _ => letGo (#[] : Array Value).toList.reverse >>= fun _ => Builtin.List.listExtendWith (.ref S) (.ref x) .none) _ _ _
  refine wpAny_bind (wpAny_updateSeq hS rfl ?_)
  have hS₂ := Heap.get?_update_self (Obj.mapSeq (fun _ => (#[] : Array Value))) hS rfl
  refine wpAny_bind (wpAny_letGo ?_)
  have k1 : ∀ b o, s.heap.get? b = some o → (s.heap.push { cls := .type "list", data := .seq #[] }).get? b = some o := fun b o e => Heap.get?_push_of_some _ e
  have k2 : ∀ b, b ≠ S → ((s.heap.push { cls := .type "list", data := .seq #[] }).update S (Obj.mapSeq (fun _ => (#[] : Array Value)))).get? b = (s.heap.push { cls := .type "list", data := .seq #[] }).get? b := fun b hb => Heap.get?_update_other _ _ (Ne.symm hb)
  have R1 : HRel prog w F.toFc st.H { s with heap := (s.heap.push { cls := .type "list", data := .seq #[] }).update S (Obj.mapSeq (fun _ => (#[] : Array Value))) } :=
    (R.1.grow (s' := { s with heap := s.heap.push { cls := .type "list", data := .seq #[] } }) k1 rfl rfl).priv (s' := { s with heap := (s.heap.push { cls := .type "list", data := .seq #[] }).update S (Obj.mapSeq (fun _ => (#[] : Array Value))) }) hSH hSb k2 rfl rfl hS₂ (fun vs q => by cases q) fun ⟨o, es, k, q1, q2⟩ => by
      have q1 : (s.heap.push { cls := .type "list", data := .seq #[] }).get? S = some o := q1
      rw [hS] at q1; cases q1; cases q2
  have hxS : x ≠ S := fun q => by obtain ⟨vs, hx⟩ := I.at_; rw [q, hSH] at hx; cases hx
  obtain ⟨ox, od, IA⟩ := I.inst R1
  unfold Builtin.List.listExtendWith
  refine wpAny_bind (IA.type.here ?_)
  have h1 : Builtin.List.listSameRef (.ref S) (.ref x) = false := by simp [Builtin.List.listSameRef, Ne.symm hxS]
  have h2 : (Value.ref C == Value.type "list") = false := by rfl
  have h3 : (Value.ref C == Value.type "tuple") = false := by rfl
  simp only [h1, h2, h3, Bool.or_false, Bool.false_eq_true, if_false]
  refine wpAny_bind (own_iter KX I hi hg hs (hiter _ OA) R1 fun s₂ R2 A2 => ?_)
  refine wpAny_bind (wpAny_holding ?_)
  obtain ⟨ox2, od2, IA2⟩ := I.inst R2
  have X2 := KX.keeps R2.stays
  unfold Builtin.List.listLengthHint
  refine wpAny_bind (wpAny_bind (IA2.type.here ((looks_findIn X2 hl).here ?_)))
  show wpAny _ F.A.in1.in1 (specialOf (Value.ref x) (Str.ofString "__length_hint__") >>= _) _ _ _
  refine wpAny_bind (wpAny_bind (IA2.type.here ((looks_findIn X2 hh).here ?_)))
  refine wpAny_pure ?_
  show wpAny _ F.A.in1.in1 (rule "list.extend.makes-room" >>= fun _ => Builtin.List.listTouch (.ref S) >>= fun _ =>
    again (.builtin "list.extend.loop" ⟨[.ref S, .ref x, .none], []⟩)) _ _ _
  refine wpAny_bind (wpAny_rule ?_)
  have hS2 : s₂.heap.get? S = some (Obj.mapSeq (fun _ => (#[] : Array Value)) { cls := .type "list", data := .seq #[] }) := by
    obtain ⟨sl, e1, c1⟩ := A2.keep S _ hS₂ hSH (by simp)
    rw [e1, c1 hSf]
  refine wpAny_bind ?_
  show wpAny _ F.A.in1.in1 (updateSeq S (·.push .none) >>= fun _ => updateSeq S (·.pop)) _ _ _
  refine wpAny_bind (wpAny_updateSeq hS2 rfl ?_)
  have hS₃ := Heap.get?_update_self (Obj.mapSeq (·.push Value.none)) hS2 rfl
  refine wpAny_updateSeq hS₃ rfl ?_
  have hS₄ := Heap.get?_update_self (Obj.mapSeq (·.pop)) hS₃ rfl
  have oth : ∀ b, b ≠ S → ((s₂.heap.update S (Obj.mapSeq (·.push Value.none))).update S (Obj.mapSeq (·.pop))).get? b = s₂.heap.get? b := fun b hb => (Heap.get?_update_other _ _ (Ne.symm hb)).trans (Heap.get?_update_other _ _ (Ne.symm hb))
  have R3 : HRel prog w F.toFc st.H { s₂ with heap := (s₂.heap.update S (Obj.mapSeq (·.push Value.none))).update S (Obj.mapSeq (·.pop)) } :=
    R2.priv (s' := { s₂ with heap := (s₂.heap.update S (Obj.mapSeq (·.push Value.none))).update S (Obj.mapSeq (·.pop)) }) hSH hSb oth rfl rfl hS₄ (fun vs q => by cases q) fun ⟨o, es, k, q1, q2⟩ => by rw [hS2] at q1; cases q1; cases q2
  have A1 : After (frAddrs F.stk) [S] st.H s st.H { s with heap := (s.heap.push { cls := .type "list", data := .seq #[] }).update S (Obj.mapSeq (fun _ => (#[] : Array Value))) } :=
    (After.grow (s' := { s with heap := s.heap.push { cls := .type "list", data := .seq #[] } }) _ _ k1).trans (.priv (s' := { s with heap := (s.heap.push { cls := .type "list", data := .seq #[] }).update S (Obj.mapSeq (fun _ => (#[] : Array Value))) }) List.mem_cons_self k2 hS₂)
  have A2' : After (frAddrs F.stk) [S] st.H { s with heap := (s.heap.push { cls := .type "list", data := .seq #[] }).update S (Obj.mapSeq (fun _ => (#[] : Array Value))) } st.H s₂ := ⟨fun b o e h1 _ => A2.keep b o e h1 (by simp), A2.alive, A2.dom⟩
  have A3 : After (frAddrs F.stk) [S] st.H s st.H { s₂ with heap := (s₂.heap.update S (Obj.mapSeq (·.push Value.none))).update S (Obj.mapSeq (·.pop)) } :=
    (A1.trans A2').trans (.priv (s' := { s₂ with heap := (s₂.heap.update S (Obj.mapSeq (·.push Value.none))).update S (Obj.mapSeq (·.pop)) }) List.mem_cons_self oth hS₄)
  refine wpAny_pure ⟨plainId_quiet PySem.F.plain_extend_loop _, own_loop (A := F.A.in1) KX hs hf Inv Fin hI (step _ OA) hSf hSb ?_ m [] st.H _ #[] _ h0 R3 A3 hS₄ rfl hSH⟩
  intro s' H' acc items c R' A' hS' hacc hSH' hfin
  refine ⟨rfl, ?_⟩
  have hcl : ∀ b ob, s.heap.get? b = some ob → b ≠ S := fun b ob e q => by rw [q, hnull] at e; cases e
  obtain ⟨mL, ⟨oL, esL, epL, hoL, rL⟩, _⟩ := R.2.loc
  have V' : VRel F ⟨st.vars, H'⟩ s' := R.2.back A' (fun hm => hSL (List.mem_singleton.mp hm)) (fun y c e hm => hSc y c e (List.mem_singleton.mp hm)) (fun a ha hm => hSo (List.mem_singleton.mp hm ▸ ha))
  have RL := R.claim (st := ⟨st.vars, H'⟩) ⟨R', V'⟩ (ao := .list acc) hnull hS' ⟨rfl, rfl, rfl, items, c, rfl, hacc⟩
  have AL : After (frAddrs F.stk) F.own st.H s (upd H' S (.list acc)) s' := ((After.refl (frAddrs F.stk) F.own st.H s).inner A' (fun b hb => by obtain rfl := List.mem_singleton.mp hb; exact hnull)).claim hnull
  exact ⟨_, RL, AL, h acc H' S hfin hSH' hSH⟩
end
end Mine
end
section
set_option maxRecDepth 100000
set_option Elab.async false
set_option linter.unusedVariables false
namespace Mine
open PySem PySem.W PySem.Calls PyProof.Rows PySem.SeqAt
noncomputable abbrev noH : AHeap := fun _ => none
theorem Rd.flat {H : AHeap} : ∀ {d : PyData} {v : Value}, Rd noH d v → Rd H d v
  | .none, v, h => h
  | .bool b, v, h => h
  | .int i, v, h => h
  | .str x, v, h => h
  | .list ds, v, ⟨a, xs, _, h, _⟩ => nomatch h
  | .tuple ds, v, ⟨a, xs, _, h, _⟩ => nomatch h
  | .dict _, v, h => h
theorem RdAll.flat {H : AHeap} : ∀ {ds : List PyData} {vs : List Value}, RdAll noH ds vs → RdAll H ds vs
  | [], [], _ => trivial
  | d :: ds, v :: vs, ⟨h1, h2⟩ => ⟨Rd.flat h1, RdAll.flat h2⟩
  | [], _ :: _, h => h.elim
  | _ :: _, [], h => h.elim
theorem Rd.flatDepth : ∀ {d : PyData} {v : Value}, Rd noH d v → d.depth = 0
  | .none, v, h => rfl
  | .bool b, v, h => rfl
  | .int i, v, h => rfl
  | .str x, v, h => rfl
  | .list ds, v, ⟨a, xs, _, h, _⟩ => nomatch h
  | .tuple ds, v, ⟨a, xs, _, h, _⟩ => nomatch h
  | .dict _, v, h => h.elim
theorem RdAll.flatDepth : ∀ {ds : List PyData} {vs : List Value}, RdAll noH ds vs → PyData.depthAll ds = 0
  | [], [], _ => rfl
  | d :: ds, v :: vs, ⟨h1, h2⟩ => by show max d.depth (PyData.depthAll ds) = 0; rw [Rd.flatDepth h1, RdAll.flatDepth h2]; rfl
  | [], _ :: _, h => h.elim
  | _ :: _, [], h => h.elim
theorem RdAll.get {H : AHeap} : ∀ {ds : List PyData} {vs : List Value}, RdAll H ds vs → ∀ {j : Nat} {v : Value}, vs[j]? = some v → ∃ d, ds[j]? = some d ∧ Rd H d v
  | d :: ds, v :: vs, ⟨h1, h2⟩, 0, u, e => by cases e; exact ⟨d, rfl, h1⟩
  | d :: ds, v :: vs, ⟨h1, h2⟩, j + 1, u, e => by exact RdAll.get h2 (j := j) e
  | [], [], _, _, _, e => by simp at e
  | [], _ :: _, h, _, _, _ => h.elim
  | _ :: _, [], h, _, _, _ => h.elim
theorem RdAll.len {H : AHeap} : ∀ {ds : List PyData} {vs : List Value}, RdAll H ds vs → ds.length = vs.length
  | [], [], _ => rfl
  | d :: ds, v :: vs, ⟨h1, h2⟩ => by rw [List.length_cons, List.length_cons, RdAll.len h2]
  | [], _ :: _, h => h.elim
  | _ :: _, [], h => h.elim
theorem lay_get : ∀ {ds : List PyData}, PyData.canLayAll0 ds = true → ∀ {j : Nat} {d : PyData}, ds[j]? = some d → d.canLay0 = true
  | d :: ds, h, 0, u, e => by
    cases e
    have : (d.canLay0 && PyData.canLayAll0 ds) = true := h
    exact (Bool.and_eq_true _ _ ▸ this).1
  | d :: ds, h, j + 1, u, e => by
    have : (d.canLay0 && PyData.canLayAll0 ds) = true := h
    exact lay_get (Bool.and_eq_true _ _ ▸ this).2 (j := j) e
  | [], _, _, _, e => by simp at e
noncomputable def keepB (ds : List PyData) (d : PyData) : Bool := !(ds.any fun y => PyData.eqv y d)
noncomputable def filt (xs : List Value) (dxs ds : List PyData) : List Value := ((xs.zip dxs).filter fun p => keepB ds p.2).map (·.1)
theorem zip_take (xs : List Value) (ds : List PyData) (j : Nat) : (xs.take j).zip (ds.take j) = (xs.zip ds).take j := by
  show List.zipWith Prod.mk _ _ = (List.zipWith Prod.mk _ _).take j
  exact (List.take_zipWith ..).symm
theorem zip_snoc {xs : List Value} {ds : List PyData} {j : Nat} {v : Value} {d : PyData} (hv : xs[j]? = some v) (hd : ds[j]? = some d) : (xs.take (j + 1)).zip (ds.take (j + 1)) = (xs.take j).zip (ds.take j) ++ [(v, d)] := by
  rw [zip_take, zip_take, List.take_add_one]
  congr 1
  have : (xs.zip ds)[j]? = some (v, d) := List.getElem?_zip_eq_some.mpr ⟨hv, hd⟩
  rw [this]; rfl
theorem filt_keep {xs : List Value} {dxs ds : List PyData} {j : Nat} {v : Value} {d : PyData} (hv : xs[j]? = some v) (hd : dxs[j]? = some d) (hk : keepB ds d = true) : filt (xs.take (j + 1)) (dxs.take (j + 1)) ds = filt (xs.take j) (dxs.take j) ds ++ [v] := by
  unfold filt
  have e := zip_snoc hv hd
  rw [e, List.filter_append, List.map_append]
  simp [hk]
theorem filt_skip {xs : List Value} {dxs ds : List PyData} {i : Nat} (hl : dxs.length = xs.length) : ∀ {j : Nat}, i ≤ j → j ≤ xs.length → (∀ m, i ≤ m → m < j → ∀ d, dxs[m]? = some d → keepB ds d = false) → filt (xs.take j) (dxs.take j) ds = filt (xs.take i) (dxs.take i) ds := by
  intro j
  induction j with
  | zero => intro h1 _ _; have : i = 0 := by omega
            subst this; rfl
  | succ j ih =>
    intro h1 h2 h3
    by_cases e : i = j + 1
    · subst e; rfl
    · rw [← ih (by omega) (by omega) fun m a b => h3 m a (by omega)]
      obtain ⟨v, hv⟩ : ∃ v, xs[j]? = some v := ⟨xs[j]'(by omega), List.getElem?_eq_getElem _⟩
      obtain ⟨d, hd⟩ : ∃ d, dxs[j]? = some d := ⟨dxs[j]'(by omega), List.getElem?_eq_getElem _⟩
      have hk := h3 j (by omega) (by omega) d hd
      unfold filt
      have e := zip_snoc hv hd
      rw [e, List.filter_append, List.map_append]
      simp [hk]
theorem filt_nums (ns ms : List Int) : filt (nums ns) (ns.map .int) (ms.map .int) = nums (ns.filter fun n => !decide (n ∈ ms)) := by
  unfold filt
  induction ns with
  | nil => rfl
  | cons n r ih =>
    have hk : keepB (ms.map .int) (.int n) = !decide (n ∈ ms) := by unfold keepB; rw [any_nums]
    rw [nums, List.map_cons, List.map_cons, List.zip_cons_cons, List.filter_cons, List.filter_cons, hk]
    split
    · rw [List.map_cons, nums, List.map_cons]; congr 1
    · exact ih
end Mine
end
section
set_option maxRecDepth 100000
set_option Elab.async false
set_option linter.unusedVariables false
set_option maxHeartbeats 4000000
namespace Mine
open PySem PySem.W PySem.Calls PyProof.Rows PySem.SeqAt
theorem upd_at {H : AHeap} {a : Addr} {o : AO} : upd H a o a = some o := by unfold upd; rw [if_pos rfl]
theorem upd_ne {H : AHeap} {a b : Addr} {o : AO} (h : b ≠ a) : upd H a o b = H b := by unfold upd; rw [if_neg h]
theorem upd_none {H : AHeap} {a c : Addr} {o : AO} (h : upd H a o c = none) : H c = none ∧ c ≠ a := by
  unfold upd at h
  split at h
  · cases h
  · exact ⟨h, by assumption⟩
section
variable {prog : Program} {w : World} {s s' : Shared} {H H' : AHeap}
theorem Binds.star {F : Fc} {fd : FuncData} {lead rest : List Value} {names : List Str} {nm : Str} {B : List (Str × Value) → AHeap → Prop} (hn : rest.length ≤ 1000000)
    (hb : ∀ l r, l.map er = lead → bindArgs fd ⟨l ++ r, []⟩ = (newTuple r >>= fun t => Pure.pure (names.zip l ++ [(nm, t)])))
    (h : ∀ a, H a = none → B (names.zip lead ++ [(nm, .ref a)]) (upd H a (.tup rest))) : Binds prog w F fd (lead ++ rest) H B := by
  intro s args' ha R E
  refine ex2and3 (List.map_eq_append_iff.mp ha) fun l r y2_ hl hr => ?_; obtain rfl := y2_
  rw [hb l r hl]
  have hnull : s.heap.get? s.heap.objs.size = none := Heap.get?_none_of_le (Nat.le_refl _)
  have hlen : r.length = rest.length := by rw [← hr, List.length_map]
  refine wpAny_bind (wpAny_newTuple ?_ ?_)
  · refine wpAny_pure ⟨_, R.new (s' := { s with heap := s.heap.push { cls := .type "tuple", data := .seq r.toArray } }) (fun b o e => Heap.get?_push_of_some _ e) rfl rfl hnull (Heap.get?_push_size _ rfl) (o := .tup rest) ⟨rfl, rfl, rfl, r.toArray, 0, rfl, hr⟩,
      .new (s' := { s with heap := s.heap.push { cls := .type "tuple", data := .seq r.toArray } }) _ _ (fun b o e => Heap.get?_push_of_some _ e) hnull, ?_⟩
    have e : (names.zip l ++ [(nm, Value.ref s.heap.objs.size)]).map (fun p => (p.1, er p.2)) = names.zip lead ++ [(nm, .ref s.heap.objs.size)] := by
      rw [List.map_append, ← hl, List.zip_map_right]; rfl
    rw [e]
    exact h _ R.fresh
  · rw [sizeLine_eq]; omega
theorem Calls.star {F : Fc} {n : Nat} {f : Addr} {fd : FuncData} {body : List Stmt} {lead rest : List Value} {names : List Str} {nm : Str} {Q : Value → AHeap → Prop} {X : Value → List Value → AHeap → Prop} (D : FdOk F.base f fd body) (O : F.Ok (n + 1)) (hr : rest.length ≤ 1000000)
    (hb : ∀ l r, l.map er = lead → bindArgs fd ⟨l ++ r, []⟩ = (newTuple r >>= fun t => Pure.pure (names.zip l ++ [(nm, t)]))) (hn : (names ++ [nm]).Nodup) (hk : ((names ++ [nm]).all fun x => fd.scope.names.lookup x == some .local || fd.scope.names.lookup x == some .cell) = true)
    (h : ∀ L a, H a = none → T prog w (ffx F f fd L) (execs body (fenv f fd L)) (fun fl st' => Q (match fl with | .ret v => v | _ => .none) st'.H) (fun c a st' => X c a st'.H) ⟨names.zip lead ++ [(nm, .ref a)], upd H a (.tup rest)⟩) : Calls prog w F (.ref f) (lead ++ rest) H Q X :=
  Calls.def (B := fun vs H₁ => ∃ a, H a = none ∧ vs = names.zip lead ++ [(nm, .ref a)] ∧ H₁ = upd H a (.tup rest)) D O (.star hr hb fun a ha => ⟨a, ha, rfl, rfl⟩) fun L vs H₁ ⟨a, ha, e1, e2⟩ => by
    subst e1 e2
    have ek : (names.zip lead ++ [(nm, Value.ref a)]).map (·.1) = names.take lead.length ++ [nm] := by rw [List.map_append, zip_keys]; rfl
    refine ⟨?_, fun x hx => ?_, h L a ha⟩
    · rw [ek]; exact hn.sublist ((List.take_sublist _ _).append (List.Sublist.refl _))
    · have hm : x.1 ∈ names ++ [nm] := by
        have : x.1 ∈ (names.zip lead ++ [(nm, Value.ref a)]).map (·.1) := List.mem_map_of_mem hx
        rw [ek] at this
        exact ((List.take_sublist _ _).append (List.Sublist.refl _)).subset this
      have := List.all_eq_true.mp hk _ hm
      simpa using this
theorem Calls.fnD {F : Fc} {n : Nat} {f : Addr} {fd : FuncData} {body : List Stmt} {args dv : List Value} {names : List Str} {Q : Value → AHeap → Prop} {X : Value → List Value → AHeap → Prop} {K : Frag} (KX : K.In F.base) (D : FdOk F.base f fd body) (O : F.Ok (n + 1))
    (hb : ∀ args', args'.map er = args → ∀ S, peek K S (bindArgs fd ⟨args', []⟩) = some (names.zip (args' ++ dv))) (hn : names.Nodup) (hk : (names.all fun x => fd.scope.names.lookup x == some .local || fd.scope.names.lookup x == some .cell) = true)
    (h : ∀ L, T prog w (ffx F f fd L) (execs body (fenv f fd L)) (fun fl st' => Q (match fl with | .ret v => v | _ => .none) st'.H) (fun c a st' => X c a st'.H) ⟨names.zip (args ++ dv.map er), H⟩) : Calls prog w F (.ref f) args H Q X :=
  Calls.def (B := fun vs H₁ => vs = names.zip (args ++ dv.map er) ∧ H₁ = H) D O (.of (fun args' => names.zip (args' ++ dv)) (fun args' hp ha hs s e => fun M _ _ _ q => (Looks.of_peek (M := M) (e ▸ KX.keeps hs) (hb args' ha _)).here q) fun args' ha => ⟨by
      rw [← ha, ← List.map_append, List.zip_map_right]; rfl, rfl⟩) fun L vs H₁ ⟨e1, e2⟩ => by
    subst e1 e2
    refine ⟨by rw [zip_keys]; exact hn.sublist (List.take_sublist _ _), fun x hx => ?_, h L⟩
    have hm : x.1 ∈ names := by
      have : x.1 ∈ (names.zip (args ++ dv.map er)).map (·.1) := List.mem_map_of_mem hx
      rw [zip_keys] at this
      exact List.mem_of_mem_take this
    have := List.all_eq_true.mp hk _ hm
    simpa using this
end
end Mine
end
section
set_option maxRecDepth 100000
set_option Elab.async false
set_option linter.unusedVariables false
set_option maxHeartbeats 4000000
namespace Mine
open PySem PySem.W PySem.Calls PyProof.Rows PySem.SeqAt
structure PN where
  key : Int
  np : Int
  succ : List Int
deriving DecidableEq
structure PS where
  nds : List PN
  ready : Option (List Int)
  out : Int
  fin : Int
deriving DecidableEq
structure Nd where
  key : Int
  np : Int
  succ : List Int
  a : Addr
  d : Addr
  sa : Addr
structure Srt where
  self : Addr
  d : Addr
  dn : Addr
  nds : List Nd
  ready : Option (Addr × List Int)
  out : Int
  fin : Int
noncomputable def Nd.p (x : Nd) : PN := ⟨x.key, x.np, x.succ⟩
noncomputable def Srt.p (S : Srt) : PS := ⟨S.nds.map Nd.p, S.ready.map (·.2), S.out, S.fin⟩
noncomputable def Nd.At (cN : Addr) (H : AHeap) (x : Nd) : Prop := H x.a = some (.slots cN x.d [some (vI x.key), some (vI x.np), some (.ref x.sa)]) ∧ H x.d = some (.ns []) ∧ H x.sa = some (.list (nums x.succ))
noncomputable def Srt.rv (S : Srt) : Value := match S.ready with
  | none => .none
  | some (r, _) => .ref r
noncomputable def Srt.ns (S : Srt) : List (Str × Value) := [(("_node2info" : Str), .ref S.dn), (("_ready_nodes" : Str), S.rv), (("_npassedout" : Str), vI S.out), (("_nfinished" : Str), vI S.fin)]
noncomputable def Srt.es (S : Srt) : List (Int × Value) := S.nds.map fun x => (x.key, .ref x.a)
noncomputable def Srt.foot (S : Srt) : List Addr := S.d :: S.dn :: (S.nds.flatMap (fun x => [x.a, x.sa]) ++ match S.ready with
  | none => []
  | some (r, _) => [r])
structure Srt.At (prog : Program) (w : World) (cN cT : Addr) (H : AHeap) (S : Srt) : Prop where
  self : H S.self = some (.inst cT S.d)
  ns : H S.d = some (.ns S.ns)
  dn : ∃ n, H S.dn = some (.dict (dE (KI prog w) S.es) n)
  nds : ∀ x ∈ S.nds, x.At cN H
  rd : ∀ r ns, S.ready = some (r, ns) → H r = some (.list (nums ns))
  rs : ∀ r ns, S.ready = some (r, ns) → ∀ x ∈ S.nds, x.sa ≠ r
  ap : S.nds.Pairwise fun x y => x.key ≠ y.key ∧ x.a ≠ y.a ∧ x.sa ≠ y.sa
structure Grow (H H' : AHeap) (S S' : Srt) : Prop where
  self : S'.self = S.self
  keep : ∀ a o, H a = some o → a ∉ S.foot → H' a = some o
  foot : ∀ a ∈ S'.foot, a ∈ S.foot ∨ H a = none
  live : ∀ a, H a ≠ none → H' a ≠ none
  ds : ∀ x ∈ S'.nds, (∃ y ∈ S.nds, x.d = y.d) ∨ H x.d = none
theorem Grow.refl (H : AHeap) (S : Srt) : Grow H H S S := ⟨rfl, fun _ _ h _ => h, fun _ h => .inl h, fun _ h => h, fun x hx => .inl ⟨x, hx, rfl⟩⟩
noncomputable def Srt.setNp (S : Srt) (k v : Int) : Srt := { S with nds := S.nds.map fun x => if x.key = k then { x with np := v } else x }
noncomputable def Srt.push (S : Srt) (k s : Int) : Srt := { S with nds := S.nds.map fun x => if x.key = k then { x with succ := x.succ ++ [s] } else x }
section
variable {prog : Program} {w : World} {cN cT : Addr} {H : AHeap} {S : Srt}
theorem Srt.At.uniq (A : S.At prog w cN cT H) {x y : Nd} (hx : x ∈ S.nds) (hy : y ∈ S.nds) (h : x.key = y.key ∨ x.a = y.a ∨ x.sa = y.sa) : x = y := by
  have ap := A.ap
  generalize S.nds = l at ap hx hy
  induction l with
  | nil => cases hx
  | cons z l ih =>
    obtain ⟨h1, h2⟩ := List.pairwise_cons.mp ap
    rcases List.mem_cons.mp hx with rfl | hx'
    · rcases List.mem_cons.mp hy with rfl | hy'
      · rfl
      · obtain ⟨q1, q2, q3⟩ := h1 y hy'
        rcases h with h | h | h
        · exact absurd h q1
        · exact absurd h q2
        · exact absurd h q3
    · rcases List.mem_cons.mp hy with rfl | hy'
      · obtain ⟨q1, q2, q3⟩ := h1 x hx'
        rcases h with h | h | h
        · exact absurd h.symm q1
        · exact absurd h.symm q2
        · exact absurd h.symm q3
      · exact ih h2 hx' hy'
theorem Srt.val_at {S : Srt} {x : Nd} (hu : ∀ y ∈ S.nds, y.key = x.key → y = x) (hx : x ∈ S.nds) : valueAt S.es x.key = some (.ref x.a) := by
  unfold valueAt Srt.es
  generalize S.nds = l at hx hu
  induction l with
  | nil => cases hx
  | cons z l ih =>
    rw [List.map_cons, List.find?_cons]
    by_cases q : z.key = x.key
    · have := hu z List.mem_cons_self q; subst this; simp
    · have : decide ((z.key, Value.ref z.a).1 = x.key) = false := by simpa using q
      rw [this]
      rcases List.mem_cons.mp hx with rfl | hx'
      · exact absurd rfl q
      · exact ih hx' fun y hy => hu y (List.mem_cons_of_mem _ hy)
theorem Srt.val_none {S : Srt} {k : Int} (h : ∀ y ∈ S.nds, y.key ≠ k) : valueAt S.es k = none := by
  unfold valueAt Srt.es
  rw [Option.map_eq_none_iff, List.find?_eq_none]
  intro p hp
  obtain ⟨y, hy, rfl⟩ := List.mem_map.mp hp
  simpa using h y hy
theorem Srt.At.val (A : S.At prog w cN cT H) {x : Nd} (hx : x ∈ S.nds) : valueAt S.es x.key = some (.ref x.a) := Srt.val_at (fun y hy e => A.uniq hy hx (.inl e)) hx
theorem Srt.stored_new {S : Srt} {k : Int} {v : Value} (h : ∀ y ∈ S.nds, y.key ≠ k) : stored S.es k v = S.es ++ [(k, v)] := by
  unfold stored
  rw [if_neg]
  rw [Bool.not_eq_true, List.any_eq_false]
  intro p hp
  obtain ⟨y, hy, rfl⟩ := List.mem_map.mp hp
  simpa using h y hy
theorem mem_foot {S : Srt} {a : Addr} : a ∈ S.foot ↔ a = S.d ∨ a = S.dn ∨ (∃ x ∈ S.nds, a = x.a ∨ a = x.sa) ∨ ∃ ns, S.ready = some (a, ns) := by
  unfold Srt.foot
  rw [List.mem_cons, List.mem_cons, List.mem_append, List.mem_flatMap]
  refine or_congr Iff.rfl (or_congr Iff.rfl (or_congr ?_ ?_))
  · simp
  · cases h : S.ready with
    | none => simp
    | some p => obtain ⟨r, ns⟩ := p; simp [eq_comm]
theorem Srt.At.setNp (A : S.At prog w cN cT H) {x : Nd} (hx : x ∈ S.nds) (v : Int) : (S.setNp x.key v).At prog w cN cT (upd H x.a (.slots cN x.d [some (vI x.key), some (vI v), some (.ref x.sa)])) ∧ Grow H (upd H x.a (.slots cN x.d [some (vI x.key), some (vI v), some (.ref x.sa)])) S (S.setNp x.key v) := by
  have hxa := (A.nds x hx).1
  have ne : ∀ {b o}, H b = some o → (∀ d vs, o ≠ .slots cN d vs) → upd H x.a (.slots cN x.d [some (vI x.key), some (vI v), some (.ref x.sa)]) b = some o := fun {b o} e n => by
    rw [upd_ne (fun q => by subst q; rw [hxa] at e; cases e; exact n _ _ rfl)]; exact e
  have es : (S.setNp x.key v).es = S.es := by
    show (List.map _ (List.map _ _)) = _
    rw [List.map_map]
    refine List.map_congr_left fun y hy => ?_
    simp only [Function.comp]
    split <;> rfl
  refine ⟨⟨ne A.self (by rintro _ _ ⟨⟩), ne A.ns (by rintro _ _ ⟨⟩), ?_, ?_, fun r ns e => ne (A.rd r ns e) (by rintro _ _ ⟨⟩), ?_, ?_⟩, ⟨rfl, ?_, ?_, ?_, ?_⟩⟩
  · obtain ⟨n, e⟩ := A.dn
    exact ⟨n, by rw [es]; exact ne e (by rintro _ _ ⟨⟩)⟩
  · intro y' hy'
    obtain ⟨y, hy, rfl⟩ := List.mem_map.mp hy'
    obtain ⟨h1, h2, h3⟩ := A.nds y hy
    by_cases q : y.key = x.key
    · obtain rfl := A.uniq hy hx (.inl q)
      rw [if_pos rfl]
      exact ⟨upd_at, ne h2 (by rintro _ _ ⟨⟩), ne h3 (by rintro _ _ ⟨⟩)⟩
    · rw [if_neg q]
      refine ⟨?_, ne h2 (by rintro _ _ ⟨⟩), ne h3 (by rintro _ _ ⟨⟩)⟩
      rw [upd_ne (fun e => q (by rw [A.uniq hy hx (.inr (.inl e))]))]; exact h1
  · intro r ns e y' hy'
    obtain ⟨y, hy, rfl⟩ := List.mem_map.mp hy'
    have := A.rs r ns e y hy
    split <;> exact this
  · refine List.pairwise_map.mpr (A.ap.imp fun {y z} h => ?_)
    split <;> split <;> exact h
  · intro b o e n
    rw [upd_ne (fun q => n (mem_foot.mpr (.inr (.inr (.inl ⟨x, hx, .inl q⟩)))))]; exact e
  · intro b m
    refine .inl ?_
    rcases mem_foot.mp m with q | q | ⟨y', hy', q⟩ | q
    · exact mem_foot.mpr (.inl q)
    · exact mem_foot.mpr (.inr (.inl q))
    · obtain ⟨y, hy, rfl⟩ := List.mem_map.mp hy'
      refine mem_foot.mpr (.inr (.inr (.inl ⟨y, hy, ?_⟩)))
      split at q <;> exact q
    · exact mem_foot.mpr (.inr (.inr (.inr q)))
  · intro b e
    by_cases q : b = x.a
    · rw [q, upd_at]; exact nofun
    · rw [upd_ne q]; exact e
  · intro y' hy'
    obtain ⟨y, hy, rfl⟩ := List.mem_map.mp hy'
    refine .inl ⟨y, hy, ?_⟩
    split <;> rfl
end
end Mine
end
section
set_option maxRecDepth 100000
set_option Elab.async false
set_option linter.unusedVariables false
set_option maxHeartbeats 4000000
namespace Mine
open PySem PySem.W PySem.Calls PyProof.Rows PySem.SeqAt
section
variable {prog : Program} {w : World} {cN cT : Addr} {H : AHeap} {S : Srt}
theorem Srt.At.push (A : S.At prog w cN cT H) {x : Nd} (hx : x ∈ S.nds) (v : Int) : (S.push x.key v).At prog w cN cT (upd H x.sa (.list (nums (x.succ ++ [v])))) ∧ Grow H (upd H x.sa (.list (nums (x.succ ++ [v])))) S (S.push x.key v) := by
  have hxa := (A.nds x hx).2.2
  have ne : ∀ {b o}, H b = some o → (∀ vs, o ≠ .list vs) → upd H x.sa (.list (nums (x.succ ++ [v]))) b = some o := fun {b o} e n => by
    rw [upd_ne (fun q => by subst q; rw [hxa] at e; cases e; exact n _ rfl)]; exact e
  have es : (S.push x.key v).es = S.es := by
    show (List.map _ (List.map _ _)) = _
    rw [List.map_map]
    refine List.map_congr_left fun y hy => ?_
    simp only [Function.comp]
    split <;> rfl
  refine ⟨⟨ne A.self (by rintro _ ⟨⟩), ne A.ns (by rintro _ ⟨⟩), ?_, ?_, fun r ns e => ?_, ?_, ?_⟩, ⟨rfl, ?_, ?_, ?_, ?_⟩⟩
  · obtain ⟨n, e⟩ := A.dn
    exact ⟨n, by rw [es]; exact ne e (by rintro _ ⟨⟩)⟩
  · intro y' hy'
    obtain ⟨y, hy, rfl⟩ := List.mem_map.mp hy'
    obtain ⟨h1, h2, h3⟩ := A.nds y hy
    by_cases q : y.key = x.key
    · obtain rfl := A.uniq hy hx (.inl q)
      rw [if_pos rfl]
      exact ⟨ne h1 (by rintro _ ⟨⟩), ne h2 (by rintro _ ⟨⟩), upd_at⟩
    · rw [if_neg q]
      refine ⟨ne h1 (by rintro _ ⟨⟩), ne h2 (by rintro _ ⟨⟩), ?_⟩
      rw [upd_ne (fun e => q (by rw [A.uniq hy hx (.inr (.inr e))]))]; exact h3
  · rw [upd_ne (Ne.symm (A.rs r ns e x hx))]; exact A.rd r ns e
  · intro r ns e y' hy'
    obtain ⟨y, hy, rfl⟩ := List.mem_map.mp hy'
    have := A.rs r ns e y hy
    split <;> exact this
  · refine List.pairwise_map.mpr (A.ap.imp fun {y z} h => ?_)
    split <;> split <;> exact h
  · intro b o e n
    rw [upd_ne (fun q => n (mem_foot.mpr (.inr (.inr (.inl ⟨x, hx, .inr q⟩)))))]; exact e
  · intro b m
    refine .inl ?_
    rcases mem_foot.mp m with q | q | ⟨y', hy', q⟩ | q
    · exact mem_foot.mpr (.inl q)
    · exact mem_foot.mpr (.inr (.inl q))
    · obtain ⟨y, hy, rfl⟩ := List.mem_map.mp hy'
      refine mem_foot.mpr (.inr (.inr (.inl ⟨y, hy, ?_⟩)))
      split at q <;> exact q
    · exact mem_foot.mpr (.inr (.inr (.inr q)))
  · intro b e
    by_cases q : b = x.sa
    · rw [q, upd_at]; exact nofun
    · rw [upd_ne q]; exact e
  · intro y' hy'
    obtain ⟨y, hy, rfl⟩ := List.mem_map.mp hy'
    refine .inl ⟨y, hy, ?_⟩
    split <;> rfl
theorem Srt.At.setReady (A : S.At prog w cN cT H) {r : Addr} {ns : List Int} (hr : S.ready = some (r, ns)) (ms : List Int) : ({ S with ready := some (r, ms) } : Srt).At prog w cN cT (upd H r (.list (nums ms))) ∧ Grow H (upd H r (.list (nums ms))) S { S with ready := some (r, ms) } := by
  have hra := A.rd r ns hr
  have ne : ∀ {b o}, H b = some o → (∀ vs, o ≠ .list vs) → upd H r (.list (nums ms)) b = some o := fun {b o} e n => by
    rw [upd_ne (fun q => by subst q; rw [hra] at e; cases e; exact n _ rfl)]; exact e
  have hns : ({ S with ready := some (r, ms) } : Srt).ns = S.ns := by unfold Srt.ns Srt.rv; rw [hr]
  refine ⟨⟨ne A.self (by rintro _ ⟨⟩), ?_, ?_, ?_, fun r' ns' e => ?_, ?_, A.ap⟩, ⟨rfl, ?_, ?_, ?_, fun x hx => .inl ⟨x, hx, rfl⟩⟩⟩
  · rw [hns]; exact ne A.ns (by rintro _ ⟨⟩)
  · obtain ⟨n, e⟩ := A.dn
    exact ⟨n, ne e (by rintro _ ⟨⟩)⟩
  · intro y hy
    obtain ⟨h1, h2, h3⟩ := A.nds y hy
    refine ⟨ne h1 (by rintro _ ⟨⟩), ne h2 (by rintro _ ⟨⟩), ?_⟩
    rw [upd_ne (A.rs r ns hr y hy)]; exact h3
  · cases e; exact upd_at
  · intro r' ns' e y hy
    cases e; exact A.rs r ns hr y hy
  · intro b o e n
    rw [upd_ne (fun q => n (mem_foot.mpr (.inr (.inr (.inr ⟨ns, by rw [q]; exact hr⟩)))))]; exact e
  · intro b m
    refine .inl ?_
    rcases mem_foot.mp m with q | q | q | ⟨ns', q⟩
    · exact mem_foot.mpr (.inl q)
    · exact mem_foot.mpr (.inr (.inl q))
    · exact mem_foot.mpr (.inr (.inr (.inl q)))
    · cases q; exact mem_foot.mpr (.inr (.inr (.inr ⟨ns, hr⟩)))
  · intro b e
    by_cases q : b = r
    · rw [q, upd_at]; exact nofun
    · rw [upd_ne q]; exact e
theorem Srt.At.setNs (A : S.At prog w cN cT H) (rd' : Option (Addr × List Int)) (out fin : Int) (h : ∀ r ns, rd' = some (r, ns) → H r = some (.list (nums ns)) ∧ ∀ x ∈ S.nds, x.sa ≠ r) :
    ({ S with ready := rd', out := out, fin := fin } : Srt).At prog w cN cT (upd H S.d (.ns ({ S with ready := rd', out := out, fin := fin } : Srt).ns)) := by
  have hra := A.ns
  have ne : ∀ {b o}, H b = some o → (∀ vs, o ≠ .ns vs) → upd H S.d (.ns ({ S with ready := rd', out := out, fin := fin } : Srt).ns) b = some o := fun {b o} e n => by
    rw [upd_ne (fun q => by subst q; rw [hra] at e; cases e; exact n _ rfl)]; exact e
  refine ⟨ne A.self (by rintro _ ⟨⟩), upd_at, ?_, ?_, fun r' ns' e => ne (h r' ns' e).1 (by rintro _ ⟨⟩), fun r' ns' e => (h r' ns' e).2, A.ap⟩
  · obtain ⟨n, e⟩ := A.dn
    exact ⟨n, ne e (by rintro _ ⟨⟩)⟩
  · intro y hy
    obtain ⟨h1, h2, h3⟩ := A.nds y hy
    refine ⟨ne h1 (by rintro _ ⟨⟩), ?_, ne h3 (by rintro _ ⟨⟩)⟩
    rw [upd_ne (fun q => ?_)]
    · exact h2
    · rw [q, hra] at h2; cases h2
theorem Srt.At.growNs (A : S.At prog w cN cT H) (rd' : Option (Addr × List Int)) (out fin : Int) (o : AO) (h : ∀ r ns, rd' = some (r, ns) → r ∈ S.foot) : Grow H (upd H S.d o) S { S with ready := rd', out := out, fin := fin } := by
  refine ⟨rfl, ?_, ?_, ?_, fun x hx => .inl ⟨x, hx, rfl⟩⟩
  · intro b o e n
    rw [upd_ne (fun q => n (mem_foot.mpr (.inl q)))]; exact e
  · intro b m
    refine .inl ?_
    rcases mem_foot.mp m with q | q | q | ⟨ns', q⟩
    · exact mem_foot.mpr (.inl q)
    · exact mem_foot.mpr (.inr (.inl q))
    · exact mem_foot.mpr (.inr (.inr (.inl q)))
    · exact h _ _ q
  · intro b e
    by_cases q : b = S.d
    · rw [q, upd_at]; exact nofun
    · rw [upd_ne q]; exact e
theorem Srt.At.keep {H' : AHeap} (A : S.At prog w cN cT H) (h : ∀ a o, H a = some o → H' a = some o) : S.At prog w cN cT H' :=
  ⟨h _ _ A.self, h _ _ A.ns, A.dn.imp fun _ e => h _ _ e, fun x hx => ⟨h _ _ (A.nds x hx).1, h _ _ (A.nds x hx).2.1, h _ _ (A.nds x hx).2.2⟩, fun r ns e => h _ _ (A.rd r ns e), A.rs, A.ap⟩
theorem upd_keeps {a : Addr} {o : AO} (hn : H a = none) : ∀ b ob, H b = some ob → upd H a o b = some ob := fun b ob e => by
  rw [upd_ne (fun q => by rw [q, hn] at e; cases e)]; exact e
theorem Srt.At.away {H' : AHeap} (A : S.At prog w cN cT H) (h : ∀ a o, H a = some o → a = S.self ∨ a ∈ S.foot ∨ (∃ x ∈ S.nds, a = x.d) → H' a = some o) : S.At prog w cN cT H' :=
  ⟨h _ _ A.self (.inl rfl), h _ _ A.ns (.inr (.inl (mem_foot.mpr (.inl rfl)))), A.dn.imp fun _ e => h _ _ e (.inr (.inl (mem_foot.mpr (.inr (.inl rfl))))),
    fun x hx => ⟨h _ _ (A.nds x hx).1 (.inr (.inl (mem_foot.mpr (.inr (.inr (.inl ⟨x, hx, .inl rfl⟩)))))), h _ _ (A.nds x hx).2.1 (.inr (.inr ⟨x, hx, rfl⟩)), h _ _ (A.nds x hx).2.2 (.inr (.inl (mem_foot.mpr (.inr (.inr (.inl ⟨x, hx, .inr rfl⟩))))))⟩,
    fun r ns e => h _ _ (A.rd r ns e) (.inr (.inl (mem_foot.mpr (.inr (.inr (.inr ⟨ns, e⟩)))))), A.rs, A.ap⟩
noncomputable def Srt.addNd (S : Srt) (x : Nd) : Srt := { S with nds := S.nds ++ [x] }
theorem Srt.At.addNd {H₁ : AHeap} {x : Nd} {n : Nat} (A : S.At prog w cN cT H) (hk : ∀ y ∈ S.nds, y.key ≠ x.key) (ha : H x.a = none) (hs : H x.sa = none) (hd : H x.d = none) (hx : x.At cN H₁) (h : ∀ a o, H a = some o → H₁ a = some o) :
    (S.addNd x).At prog w cN cT (upd H₁ S.dn (.dict (dE (KI prog w) (stored S.es x.key (.ref x.a))) n)) ∧ Grow H (upd H₁ S.dn (.dict (dE (KI prog w) (stored S.es x.key (.ref x.a))) n)) S (S.addNd x) := by
  have A₁ := A.keep h
  obtain ⟨n₀, hra⟩ := A₁.dn
  have ne : ∀ {b o}, H₁ b = some o → (∀ vs n, o ≠ .dict vs n) → upd H₁ S.dn (.dict (dE (KI prog w) (stored S.es x.key (.ref x.a))) n) b = some o := fun {b o} e n => by
    rw [upd_ne (fun q => by subst q; rw [hra] at e; cases e; exact n _ _ rfl)]; exact e
  refine ⟨⟨ne A₁.self (by rintro _ _ ⟨⟩), ne A₁.ns (by rintro _ _ ⟨⟩), ⟨n, ?_⟩, ?_, fun r ns e => ne (A₁.rd r ns e) (by rintro _ _ ⟨⟩), ?_, ?_⟩, ⟨rfl, ?_, ?_, ?_, ?_⟩⟩
  · rw [Srt.stored_new hk]
    show upd _ S.dn _ S.dn = _
    rw [upd_at]
    unfold Srt.es Srt.addNd
    rw [List.map_append]; rfl
  · intro y hy
    have : y.At cN H₁ := by
      rcases List.mem_append.mp hy with hy | hy
      · exact A₁.nds y hy
      · rw [List.mem_singleton.mp hy]; exact hx
    exact ⟨ne this.1 (by rintro _ _ ⟨⟩), ne this.2.1 (by rintro _ _ ⟨⟩), ne this.2.2 (by rintro _ _ ⟨⟩)⟩
  · intro r ns e y hy
    rcases List.mem_append.mp hy with hy | hy
    · exact A.rs r ns e y hy
    · rw [List.mem_singleton.mp hy]
      intro q
      have := A.rd r ns e
      rw [← q, hs] at this; cases this
  · refine List.pairwise_append.mpr ⟨A.ap, List.pairwise_singleton _ _, fun y hy z hz => ?_⟩
    rw [List.mem_singleton.mp hz]
    refine ⟨hk y hy, fun q => ?_, fun q => ?_⟩
    · have := (A.nds y hy).1; rw [q, ha] at this; cases this
    · have := (A.nds y hy).2.2; rw [q, hs] at this; cases this
  · intro b o e m
    rw [upd_ne (fun q => m (mem_foot.mpr (.inr (.inl q))))]; exact h b o e
  · intro b m
    rcases mem_foot.mp m with q | q | ⟨y, hy, q⟩ | q
    · exact .inl (mem_foot.mpr (.inl q))
    · exact .inl (mem_foot.mpr (.inr (.inl q)))
    · rcases List.mem_append.mp hy with hy | hy
      · exact .inl (mem_foot.mpr (.inr (.inr (.inl ⟨y, hy, q⟩))))
      · rw [List.mem_singleton.mp hy] at q
        refine .inr ?_
        rcases q with q | q <;> rw [q] <;> assumption
    · exact .inl (mem_foot.mpr (.inr (.inr (.inr q))))
  · intro b e
    by_cases q : b = S.dn
    · rw [q, upd_at]; exact nofun
    · rw [upd_ne q]
      cases z : H b with
      | none => exact absurd z e
      | some o => rw [h b o z]; exact nofun
  · intro y hy
    rcases List.mem_append.mp hy with hy | hy
    · exact .inl ⟨y, hy, rfl⟩
    · rw [List.mem_singleton.mp hy]; exact .inr hd
end
end Mine
end
section
set_option maxRecDepth 100000
set_option Elab.async false
set_option linter.unusedVariables false
set_option maxHeartbeats 4000000
namespace Mine
open PySem PySem.W PySem.Calls PyProof.Rows PySem.SeqAt
section
variable {prog : Program} {w : World} {F : Fx} {st : St} {X : Value → List Value → St → Prop} {Q : Value × List Value → St → Prop} {a : Addr} {name : Str} {id : String} {pl : Sem Bool}
theorem T_methOf {ty : String} {ao : AO} (pa : PlainAttrs ty) (hT : ∀ o, RepO prog w ao o → o.cls = .type ty ∧ o.dict = none) (ha : st.H a = some ao) (slot : Slot ty name id) (hty : typeOf (.builtin id) = pure (.type "method_descriptor"))
    (h : Q (.builtin id, [.ref a]) st) : T prog w F (getMethod (.ref a) name pl) Q X st := by
  intro s R
  obtain ⟨o, ho, hr⟩ := R.1.cells a ao ha
  obtain ⟨hc, hd⟩ := hT o hr
  exact getMethod_builtin ⟨o, ho, hc⟩ pa slot hty (fun b e => by cases e; exact ⟨o, ho, hd⟩) ⟨st, R, .refl _ _ _ _, h⟩
theorem T_methL {xs : List Value} (ha : st.H a = some (.list xs)) (slot : Slot "list" name id) (hty : typeOf (.builtin id) = pure (.type "method_descriptor")) (h : Q (.builtin id, [.ref a]) st) : T prog w F (getMethod (.ref a) name pl) Q X st :=
  T_methOf (ao := .list xs) PySem.F.plainAttrs_list (fun o hr => ⟨hr.1, hr.2.1⟩) ha slot hty h
theorem T_methD {es : List (Value × Value)} {n : Nat} (ha : st.H a = some (.dict es n)) (slot : Slot "dict" name id) (hty : typeOf (.builtin id) = pure (.type "method_descriptor")) (h : Q (.builtin id, [.ref a]) st) : T prog w F (getMethod (.ref a) name pl) Q X st :=
  T_methOf (ao := .dict es n) PySem.F.plainAttrs_dict (fun o hr => ⟨hr.1.1, hr.1.2.1⟩) ha slot hty h
theorem T_methS {ks : List Int} (ha : st.H a = some (.iset ks)) (hn : ks.length ≤ 1000) (h : Q (.builtin "set.add", [.ref a]) st) : T prog w F (getMethod (.ref a) "add" pl) Q X st := by
  intro s R
  obtain ⟨S, hS, _⟩ := set_by (B := KI prog w) R.1 (ks := ks) ha hn
  exact getMethod_set_add (knd := intKind prog w) hS ⟨st, R, .refl _ _ _ _, h⟩
end
end Mine
end
section
open Mine
open PySem PySem.W PySem.Calls PyProof.Rows PySem.SeqAt
local macro_rules | `(tactic| walk_at "T") => mwAll ["~ T_cons T_nil T_ret T_int T_none T_sp1 T_if2 T_walrus T_tName", "~r T_assignName T_assignAttr T_attr T_callName T_isCmp", "~rrrr T_nameL", "~arrz T_storeL", "~rr T_callMeth"]
section
set_option maxRecDepth 100000
set_option Elab.async false
set_option linter.unusedVariables false
set_option maxHeartbeats 4000000
namespace Mine
open PySem PySem.W PySem.Calls PyProof.Rows PySem.SeqAt
section
variable {prog : Program} {w : World} {mg mb : Str → Option Value}
theorem next_spec {F : Fc} {n : Nat} {self d it l b k : Addr} {i : Nat} {xs : List Value} {dxs ds : List PyData} {H : AHeap} (W : Wld (KF2 w.params) F mg mb) (O : F.Ok (n + 1)) 
    (hs : H self = some (.slots 174 d [some (.ref b), some (.ref it)])) (hd : H d = some (.ns [])) (hb : H b = some (.bm "method-wrapper" (.builtin "list.__contains__") (.ref k))) (hi : ItIs H it l i xs)
    (cx : PyData.canLayAll0 dxs = true) (cd : PyData.canLayAll0 ds = true) (hdep : PyData.depthAll ds ≤ 100)
    (hne : self ≠ it ∧ d ≠ it ∧ b ≠ it ∧ k ≠ it ∧ l ≠ it) (hle : i ≤ xs.length)
    (hH : ∀ j, Rd (itUp H it l j) (.list ds) (.ref k) ∧ RdAll (itUp H it l j) dxs xs) :
    Calls prog w F (.ref 170) [.ref self] H
      (fun v H' => ∃ j, i ≤ j ∧ (∃ dx, dxs[j]? = some dx ∧ keepB ds dx = true) ∧ xs[j]? = some v ∧ (∀ m, i ≤ m → m < j → ∀ dx, dxs[m]? = some dx → keepB ds dx = false) ∧ H' = itUp H it l (j + 1))
      (fun c a H' => c = .type "StopIteration" ∧ a = [] ∧ H' = del H it ∧ ∀ m, i ≤ m → ∀ dx, dxs[m]? = some dx → keepB ds dx = false) := by
  refine Calls.fn (fd := _) (body := _) (names := ["self"]) ⟨⟨_, W.kx _ _ rfl, rfl⟩, rfl, rfl, rfl, codeRec_of W.kx (by rfl), rfl, rfl, by decide +kernel⟩ O (fun args' ha => ?_) (by decide) (by decide +kernel) fun L => ?_
  · obtain ⟨a, rfl, _⟩ := one_of ha; rfl
  · have U := ffx_runs (n := n + 1) O 170
    refine T.absQ' fun Qf hQ => ?_
    refine T.absX fun Xf hX => ?_
    walk_at "T"
    walk_at "T"
    walk_at "T"
    walk_at "T"
    intro ov' ho
    rw [er_ref ho]
    refine T_getS W.kx hs hd (i := 0) (by rfl) (by rfl) (by rfl) (by rfl) (by rfl) (by rfl) (by rfl) (by rfl) ?_
    intro v' hv
    walk_at "T"
    refine T_cons (T_while2 (U _ L) (fun m st' => ∃ j, m = xs.length - j ∧ i ≤ j ∧ j ≤ xs.length ∧ (∀ m, i ≤ m → m < j → ∀ dx, dxs[m]? = some dx → keepB ds dx = false) ∧
      Has st'.vars [("self", .ref self), ("func", .ref b)] ∧ st'.H = itUp H it l j) (xs.length - i) ⟨i, rfl, Nat.le_refl _, hle, fun m h1 h2 => absurd h2 (Nat.not_lt.mpr h1), ⟨by rfl, by rfl, trivial⟩, (itUp_self hi).symm⟩ ?_)
    rintro m ⟨vs, H'⟩ hx0_; refine ex1and6 hx0_ fun j y1_ hij hjl hno lv e => ?_; try clear hx0_; obtain rfl := y1_
    have e : H' = itUp H it l j := e
    subst e
    refine T.keepVars [("self", .ref self), ("func", .ref b)] lv ?_
    refine T_isVal (by rfl) (T_bool ?_)
    intro v' hv'
    refine T_truthB hv' ⟨fun _ => ?_, nofun⟩
    refine T.absQ' fun Qb hB => ?_
    walk_at "T"
    walk_at "T"
    refine T_callName rfl (T_bi W.ffx (by rfl) (by rfl) (by decide) (by rfl) (by rfl) (by rfl) (by rfl) (by rfl) ?_)
    intro f' hf'
    rw [er_builtin hf']
    refine T_callP (by rfl) (T_sp1 ?_)
    walk_at "T"
    walk_at "T"
    intro ov' ho
    rw [er_ref ho]
    have hs' : itUp H it l j self = _ := (itUp_other hne.1).trans hs
    have hd' : itUp H it l j d = _ := (itUp_other hne.2.1).trans hd
    have hb' : itUp H it l j b = _ := (itUp_other hne.2.2.1).trans hb
    refine T_getS W.kx hs' hd' (i := 1) (by rfl) (by rfl) (by rfl) (by rfl) (by rfl) (by rfl) (by rfl) (by rfl) ?_
    refine T_sp0 ⟨.builtin, fun vs' hv => ?_⟩
    obtain ⟨a, rfl, ha⟩ := one_of hv
    rw [er_ref ha]
    refine T_next (ffx_ok O _ _ _).hh (hi.up hne.2.2.2.2) ?_ ?_
    · intro x hx v' hv'
      have hlt : j < xs.length := (List.getElem?_eq_some_iff.mp hx).1
      obtain ⟨hkk, hxx⟩ := hH (j + 1)
      obtain ⟨dx, hdx, hrd⟩ := RdAll.get hxx hx
      have hcd := lay_get cx hdx
      have hup : ∀ {j k}, itUp (itUp H it l j) it l k = itUp H it l k := itUp_itUp (by rcases hi with ⟨h, _⟩ | ⟨h, _⟩ <;> rw [h] <;> exact nofun)
      walk_at "T"
      walk_at "T"
      refine T_if2 (T_isOr (T_or2 (T_isCmp (by rfl) ?_)))
      walk_at "T"
      refine T_none ?_
      intro a' b' ha' hb'
      refine T_isNone ha' hb' ⟨false, rfl, nofun, fun _ => ?_⟩
      refine T_or2 (T_isCmp (by rfl) ?_)
      walk_at "T"
      refine T_bi W.ffx (by rfl) (by rfl) (by decide) (by rfl) (by rfl) (by rfl) (by rfl) (by rfl) ?_
      intro a' b' ha' hb'
      refine T_isRT ha' hb' ⟨false, rfl, nofun, fun _ => ?_⟩
      refine T_or0 ⟨nofun, fun _ => ?_⟩
      refine T_cons (T_if2 (T_isNot (T_isVal (by rfl) (T_callName rfl ?_))))
      walk_at "T"
      intro f' hf'
      rw [er_ref hf']
      refine T_callP (by rfl) (T_sp1 ?_)
      walk_at "T"
      rw [hup]
      have hb'' : itUp H it l (j + 1) b = _ := (itUp_other hne.2.2.1).trans hb
      refine T_sp0 ⟨.bm hb'' (.inr rfl), fun vs' hv => ?_⟩
      obtain ⟨a, rfl, ha⟩ := one_of hv
      refine T_callIn hb'' (ha ▸ hrd) hkk hcd cd ?_ ?_
      · have := O.units
        exact unitsIn this hdep
      intro v' hv'
      refine T_truthB hv' ⟨fun hT => ?_, fun hT => ?_⟩
      · walk_at "T"
        walk_at "T"
        walk_at "T"
        refine hB _ _ ?_
        refine hQ _ _ ?_
        exact ⟨j, hij, ⟨dx, hdx, hT⟩, hx, hno, rfl⟩
      · refine T_nil ?_
        refine T_nil ?_
        refine T_nil ?_
        refine hB _ _ ?_
        refine ⟨xs.length - (j + 1), om4 hlt, j + 1, rfl, Nat.le_succ_of_le hij, hlt, fun m h1 h2 d hd => ?_, ⟨by rfl, by rfl, trivial⟩, rfl⟩
        by_cases e : m = j
        · subst e
          rw [hdx] at hd; cases hd
          exact hT
        · exact hno m h1 (by omega) d hd
    · intro hxn
      have hup : del (itUp H it l j) it = del H it := by
        funext c
        unfold del
        split
        · rfl
        · rename_i hc; exact itUp_other hc
      refine hX _ _ _ ⟨rfl, rfl, hup, fun m h1 d hd => ?_⟩
      have hlen := RdAll.len (hH 0).2
      have q1 : m < dxs.length := (List.getElem?_eq_some_iff.mp hd).1
      have q2 : xs.length ≤ j := List.getElem?_eq_none_iff.mp hxn
      exact hno m h1 (Nat.lt_of_lt_of_le q1 (hlen ▸ q2)) d hd
end
end Mine
end
section
set_option maxRecDepth 100000
set_option Elab.async false
set_option linter.unusedVariables false
set_option maxHeartbeats 4000000
namespace Mine
open PySem PySem.W PySem.Calls PyProof.Rows PySem.SeqAt
section
variable {prog : Program} {w : World} {mg mb : Str → Option Value}
theorem T_iter {F : Fx} {st : St} {X : Value → List Value → St → Prop} {Q : Value → St → Prop} {l : Addr} {xs : List Value} (N : NoSys F.toFc) (hl : st.H l = some (.list xs) ∨ st.H l = some (.tup xs))
    (h : ∀ a o, st.H a = none → ((o = AO.iter l 0 ∧ st.H l = some (.list xs)) ∨ (o = AO.titer l 0 ∧ st.H l = some (.tup xs))) → Q (.ref a) ⟨st.vars, upd st.H a o⟩) : T prog w F (call (.builtin "iter") [.ref l]) Q X st := by
  rcases hl with hl | hl
  · exact T_iterL N hl fun a ha => h a _ ha (.inl ⟨rfl, hl⟩)
  · exact T_iterT N hl fun a ha => h a _ ha (.inr ⟨rfl, hl⟩)
theorem init_spec {F : Fc} {n : Nat} {self d l : Addr} {fv : Value} {xs : List Value} {H : AHeap} (W : Wld (KF2 w.params) F mg mb) (O : F.Ok (n + 1)) (hfv : handedIn fv = true) (hef : er fv = fv)
    (hs : H self = some (.slots 174 d [])) (hd : H d = some (.ns [])) (hl : H l = some (.list xs) ∨ H l = some (.tup xs)) :
    Calls prog w F (.ref 156) [.ref self, fv, .ref l] H
      (fun v H' => v = .none ∧ ∃ it o, H it = none ∧ (o = .iter l 0 ∧ H l = some (.list xs) ∨ o = .titer l 0 ∧ H l = some (.tup xs)) ∧ H' = upd (upd (upd H it o) self (.slots 174 d [none, some (.ref it)])) self (.slots 174 d [some fv, some (.ref it)]))
      (fun _ _ _ => False) := by
  refine Calls.fn (fd := _) (body := _) (names := ["self", "function", "iterable"]) ⟨⟨_, W.kx _ _ rfl, rfl⟩, rfl, rfl, rfl, codeRec_of W.kx (by rfl), rfl, rfl, by decide +kernel⟩ O (fun args' ha => ?_) (by decide) (by decide +kernel) fun L => ?_
  · refine ex3and2 (three_of ha) fun a b c y3_ _ => ?_; obtain rfl := y3_; rfl
  · refine T.absQ' fun Qf hQ => ?_
    walk_at "T"
    walk_at "T"
    walk_at "T"
    refine T_bi W.ffx (by rfl) (by rfl) (by decide) (by rfl) (by rfl) (by rfl) (by rfl) (by rfl) ?_
    intro f' hf'
    rw [er_builtin hf']
    refine T_callP (by rfl) (T_sp1 ?_)
    walk_at "T"
    refine T_sp0 ⟨.builtin, fun vs' hv => ?_⟩
    obtain ⟨a, rfl, ha⟩ := one_of hv
    rw [er_ref ha]
    refine T_iter W.ns hl fun it o hit ho => ?_
    have hit : H it = none := hit
    walk_at "T"
    intro v' ov' hv' hov'
    rw [er_ref hov']
    have hsi : self ≠ it := fun q => by rw [q, hit] at hs; cases hs
    have hdi : d ≠ it := fun q => by rw [q, hit] at hd; cases hd
    have hsd : self ≠ d := fun q => by rw [q, hd] at hs; cases hs
    refine T_setS W.kx ((upd_ne hsi).trans hs) ((upd_ne hdi).trans hd) hv' (by rfl) (by rfl) (by rfl) (by rfl) (by rfl) (by decide) ?_
    walk_at "T"
    walk_at "T"
    walk_at "T"
    walk_at "T"
    intro v' ov' hv' hov'
    rw [er_ref hov']
    refine T_setS W.kx upd_at ((upd_ne (Ne.symm hsd)).trans ((upd_ne hdi).trans hd)) hv' (by rfl) (by rfl) (by rfl) (by rfl) (by rfl) (by decide) ?_
    walk_at "T"
    exact hQ _ _ ⟨rfl, it, o, hit, ho, rfl⟩
end
end Mine
end
section
set_option maxRecDepth 100000
set_option Elab.async false
set_option linter.unusedVariables false
set_option maxHeartbeats 4000000
namespace Mine
open PySem PySem.W PySem.Calls PyProof.Rows PySem.SeqAt
section
variable {prog : Program} {w : World} {mg mb : Str → Option Value}
theorem filt_len (xs : List Value) (dxs ds : List PyData) : (filt xs dxs ds).length ≤ xs.length := by
  unfold filt
  rw [List.length_map]
  refine Nat.le_trans (List.length_filter_le _ _) ?_
  rw [List.length_zip]; omega
theorem del_itUp {H : AHeap} {it l : Addr} {i : Nat} : del (itUp H it l i) it = del H it := by
  funext c
  unfold del
  split
  · rfl
  · rename_i hc; exact itUp_other hc
theorem iter_spec {F : Fc} {n : Nat} {self : Addr} {H : AHeap} (W : Wld (KF2 w.params) F mg mb) (O : F.Ok (n + 1)) :
    Calls prog w F (.ref 163) [.ref self] H (fun v H' => v = .ref self ∧ H' = H) (fun _ _ _ => False) := by
  refine Calls.fn (fd := _) (body := _) (names := ["self"]) ⟨⟨_, W.kx _ _ rfl, rfl⟩, rfl, rfl, rfl, codeRec_of W.kx (by rfl), rfl, rfl, by decide +kernel⟩ O (fun args' ha => ?_) (by decide) (by decide +kernel) fun L => ?_
  · obtain ⟨a, rfl, _⟩ := one_of ha; rfl
  · walk_at "T"
    walk_at "T"
    walk_at "T"
    exact ⟨rfl, rfl⟩
theorem filter_spec {F : Fc} {n : Nat} {l k : Addr} {xs ys : List Value} {dxs dys : List PyData} {H : AHeap} (W : Wld (KF2 w.params) F mg mb) (O : F.Ok (n + 4))
    (hl : H l = some (.list xs) ∨ H l = some (.tup xs)) (hk : H k = some (.list ys)) (hx : RdAll noH dxs xs) (hy : RdAll noH dys ys) (cx : PyData.canLayAll0 dxs = true) (cy : PyData.canLayAll0 dys = true) (hn : xs.length ≤ 50000) :
    Calls prog w F (.ref 185) [.ref l, .ref k] H
      (fun v H' => ∃ a, v = .ref a ∧ H a = none ∧ H' = upd H a (.list (filt xs dxs dys))) (fun _ _ _ => False) := by
  refine Calls.fn (fd := _) (body := _) (names := ["flist", "skip"]) ⟨⟨_, W.kx _ _ rfl, rfl⟩, rfl, rfl, rfl, codeRec_of W.kx (by rfl), rfl, rfl, by decide +kernel⟩ O (fun args' ha => ?_) (by decide) (by decide +kernel) fun L => ?_
  · obtain ⟨a, b, rfl, _⟩ := two_of ha; rfl
  · refine T.drop ?_
    refine T.absQ' fun Qf hQ => ?_
    walk_at "T"
    walk_at "T"
    walk_at "T"
    refine T_bi W.ffx (by rfl) (by rfl) (by decide) (by rfl) (by rfl) (by rfl) (by rfl) (by rfl) ?_
    intro f' hf'
    rw [er_type hf']
    refine T_callP (by rfl) (T_sp1 ?_)
    walk_at "T"
    refine T_gl W.ffx (by rfl) (by rfl) (by rfl) (by rfl) (by rfl) ?_
    intro f' hf'
    rw [er_ref hf']
    refine T_callP (by rfl) (T_sp1 ?_)
    walk_at "T"
    walk_at "T"
    intro ov' ho
    rw [er_ref ho]
    refine T_getIn hk fun b hb => ?_
    have hb : H b = none := hb
    walk_at "T"
    walk_at "T"
    refine T_sp0 ⟨.k W.kx (by rfl), fun vs' hv => ?_⟩
    have hlb : l ≠ b := fun q => by rw [q, hb] at hl; rcases hl with h | h <;> cases h
    have hkb : k ≠ b := fun q => by rw [q, hb] at hk; cases hk
    refine T_code hv (Calls.make W.kx (ffx_ok O _ _ _) (by rfl) (by rfl) (by rfl) true fun A' OA x d hx0 hd0 hxd => ?_)
    obtain ⟨hx1, hxb⟩ := upd_none hx0
    obtain ⟨hd1, hdb⟩ := upd_none hd0
    have hx1 : H x = none := hx1
    have hd1 : H d = none := hd1
    have hlx : l ≠ x := fun q => by rw [q] at hl; rcases hl with h | h <;> (rw [hx1] at h; cases h)
    have hld : l ≠ d := fun q => by rw [q] at hl; rcases hl with h | h <;> (rw [hd1] at h; cases h)
    have hkx : k ≠ x := fun q => by rw [q] at hk; rw [hx1] at hk; cases hk
    have hkd : k ≠ d := fun q => by rw [q] at hk; rw [hd1] at hk; cases hk
    refine (init_spec (xs := xs) W.ffx.re OA (by rfl) (by rfl) upd_at ((upd_ne (Ne.symm hxd)).trans upd_at) ?_).mono ?_ (fun _ _ _ z => z.elim)
    · rcases hl with h | h
      · exact .inl ((upd_ne hlx).trans ((upd_ne hld).trans ((upd_ne hlb).trans h)))
      · exact .inr ((upd_ne hlx).trans ((upd_ne hld).trans ((upd_ne hlb).trans h)))
    rintro v H' hx0_; refine ex0and2 hx0_ fun y0_ y1_ => ?_; try clear hx0_; obtain rfl := y0_; obtain ⟨it, o, hit, ho, rfl⟩ := y1_
    refine ⟨rfl, ?_⟩
    obtain ⟨hit1, hitx⟩ := upd_none hit
    obtain ⟨hit2, hitd⟩ := upd_none hit1
    obtain ⟨hit3, hitb⟩ := upd_none hit2
    have hit3 : H it = none := hit3
    have hlit : l ≠ it := fun q => by rw [q] at hl; rcases hl with h | h <;> (rw [hit3] at h; cases h)
    have hkit : k ≠ it := fun q => by rw [q] at hk; rw [hit3] at hk; cases hk
    change T prog w _ _ _ _ ⟨_, upd (upd (upd (upd (upd (upd H b (.bm "method-wrapper" (.builtin "list.__contains__") (.ref k))) d (.ns [])) x (if true = true then .slots 174 d [] else .inst 174 d)) it o) x (.slots 174 d [none, some (.ref it)])) x (.slots 174 d [some (.ref b), some (.ref it)])⟩
    generalize hHff : upd (upd (upd (upd (upd (upd H b (.bm "method-wrapper" (.builtin "list.__contains__") (.ref k))) d (.ns [])) x (if true = true then .slots 174 d [] else .inst 174 d)) it o) x (.slots 174 d [none, some (.ref it)])) x (.slots 174 d [some (.ref b), some (.ref it)]) = Hff
    have fx : Hff x = some (.slots 174 d [some (.ref b), some (.ref it)]) := by rw [← hHff]; exact upd_at
    have fd : Hff d = some (.ns []) := by rw [← hHff, upd_ne (Ne.symm hxd), upd_ne (Ne.symm hxd), upd_ne (Ne.symm hitd), upd_ne (Ne.symm hxd)]; exact upd_at
    have fb : Hff b = some (.bm "method-wrapper" (.builtin "list.__contains__") (.ref k)) := by rw [← hHff, upd_ne (Ne.symm hxb), upd_ne (Ne.symm hxb), upd_ne (Ne.symm hitb), upd_ne (Ne.symm hxb), upd_ne (Ne.symm hdb)]; exact upd_at
    have fit : Hff it = some o := by rw [← hHff, upd_ne hitx, upd_ne hitx]; exact upd_at
    have fo : ∀ c ob, H c = some ob → Hff c = some ob ∧ c ≠ it := fun c ob hc => by
      have h1 : c ≠ x := fun q => by rw [q, hx1] at hc; cases hc
      have h2 : c ≠ it := fun q => by rw [q, hit3] at hc; cases hc
      have h3 : c ≠ d := fun q => by rw [q, hd1] at hc; cases hc
      have h4 : c ≠ b := fun q => by rw [q, hb] at hc; cases hc
      exact ⟨by rw [← hHff, upd_ne h1, upd_ne h1, upd_ne h2, upd_ne h1, upd_ne h3, upd_ne h4]; exact hc, h2⟩
    have fk : Hff k = some (.list ys) := (fo k _ hk).1
    have II : ItIs Hff it l 0 xs := by
      rcases ho with ⟨rfl, h'⟩ | ⟨rfl, h'⟩
      · rw [upd_ne hlx, upd_ne hld] at h'
        have h' : upd H b _ l = _ := h'
        rw [upd_ne hlb] at h'
        exact .inl ⟨fit, (fo l _ h').1⟩
      · rw [upd_ne hlx, upd_ne hld] at h'
        have h' : upd H b _ l = _ := h'
        rw [upd_ne hlb] at h'
        exact .inr ⟨fit, (fo l _ h').1⟩
    have hne : Hff it ≠ none := by rw [fit]; exact nofun
    have dl := RdAll.len hx
    have hbit : b ≠ it := Ne.symm hitb
    refine T_sp0 ⟨.type, fun vs' hv => ?_⟩
    obtain ⟨a, rfl, ha⟩ := one_of hv
    rw [er_ref ha]
    refine T_listOwn (n := n + 2) (ffx_ok O _ _ _) W.kx ⟨⟨_, fx⟩, fd⟩ (by rfl) (by rfl) (by rfl) (by rfl) (by rfl) (by rfl)
      (fun A OA' => iter_spec (n := n + 1) W.ffx.re OA')
      (fun m acc H'' => ∃ j, m = xs.length - j ∧ j ≤ xs.length ∧ acc = filt (xs.take j) (dxs.take j) dys ∧ H'' = itUp Hff it l j)
      (fun acc H'' => acc = filt xs dxs dys ∧ H'' = del Hff it) ?_ ?_ (m := xs.length) ⟨0, rfl, Nat.zero_le _, rfl, (itUp_self II).symm⟩ ?_
    · rintro m acc H'' hx0_; refine ex1and4 hx0_ fun j y1_ hj y3_ y4_ => ?_; try clear hx0_; obtain rfl := y1_; obtain rfl := y3_; obtain rfl := y4_
      refine ⟨⟨⟨_, (itUp_other (Ne.symm hitx)).trans fx⟩, (itUp_other (Ne.symm hitd)).trans fd⟩, ?_⟩
      have := filt_len (xs.take j) (dxs.take j) dys
      rw [List.length_take] at this
      exact om13 this hn
    · rintro A OA' m acc H'' hx0_; refine ex1and4 hx0_ fun j y1_ hj y3_ y4_ => ?_; try clear hx0_; obtain rfl := y1_; obtain rfl := y3_; obtain rfl := y4_
      refine (next_spec (dxs := dxs) (ds := dys) (n := n + 1) W.ffx.re OA' ((itUp_other (Ne.symm hitx)).trans fx) ((itUp_other (Ne.symm hitd)).trans fd) ((itUp_other hbit).trans fb) (II.up hlit) cx cy (by rw [RdAll.flatDepth hy]; omega) ⟨Ne.symm hitx, Ne.symm hitd, hbit, hkit, hlit⟩ hj (fun j' => ?_)).mono ?_ ?_
      · rw [itUp_itUp hne]
        exact ⟨⟨k, ys, rfl, (itUp_other hkit).trans fk, RdAll.flat hy⟩, RdAll.flat hx⟩
      · rintro v H3 hx0_; refine ex1and5 hx0_ fun j' hjj y2_ hxv hno y5_ => ?_; try clear hx0_; obtain ⟨dx, hdx, hkp⟩ := y2_; obtain rfl := y5_
        have hlt : j' < xs.length := (List.getElem?_eq_some_iff.mp hxv).1
        refine ⟨xs.length - (j' + 1), Nat.sub_lt_sub_left (Nat.lt_of_le_of_lt hjj hlt) (Nat.lt_succ_of_le hjj), j' + 1, rfl, hlt, ?_, itUp_itUp hne⟩
        rw [filt_keep hxv hdx hkp, filt_skip dl hjj (Nat.le_of_lt hlt) hno]
      · rintro c as H3 ⟨rfl, rfl, rfl, hno⟩
        refine ⟨rfl, ?_, del_itUp⟩
        have e := filt_skip (ds := dys) dl hj (Nat.le_refl _) (fun m h1 h2 => hno m h1)
        rw [List.take_length, ← dl, List.take_length] at e
        exact e.symm
    · rintro acc H3 a ⟨rfl, rfl⟩ ha1 ha2
      have ha2 : Hff a = none := ha2
      have haH : H a = none := by
        cases q : H a with
        | none => rfl
        | some ob => rw [(fo a ob q).1] at ha2; cases ha2
      refine hQ _ _ ⟨⟨[], upd H a (.list (filt xs dxs dys))⟩, (fun x v e => by cases e), fun c ob hc => ?_, a, rfl, haH, rfl⟩
      show upd (del Hff it) a _ c = some ob
      have hc : upd H a (.list (filt xs dxs dys)) c = some ob := hc
      by_cases q : c = a
      · subst q; rw [upd_at] at hc ⊢; exact hc
      · rw [upd_ne q] at hc ⊢
        obtain ⟨h1, h2⟩ := fo c ob hc
        unfold del; rw [if_neg h2]; exact h1
end
end Mine
end
section
set_option maxRecDepth 100000
set_option Elab.async false
set_option linter.unusedVariables false
set_option maxHeartbeats 4000000
namespace Mine
open PySem PySem.W PySem.Calls PyProof.Rows PySem.SeqAt
section
variable {prog : Program} {w : World} {mg mb : Str → Option Value}
theorem ni_spec {F : Fc} {n : Nat} {x d : Addr} {k : Int} {H : AHeap} (W : Wld (KF2 w.params) F mg mb) (O : F.Ok (n + 1)) (hx : H x = some (.slots 40 d [])) (hd : H d = some (.ns [])) :
    Calls prog w F (.ref 36) [.ref x, vI k] H
      (fun v H' => v = .none ∧ ∃ sa, H sa = none ∧ Nd.At 40 H' ⟨k, 0, [], x, d, sa⟩ ∧ ∀ b o, H b = some o → b ≠ x → H' b = some o) (fun _ _ _ => False) := by
  refine Calls.fn (fd := _) (body := _) (names := ["self", "node"]) ⟨⟨_, W.kx _ _ rfl, rfl⟩, rfl, rfl, rfl, codeRec_of W.kx (by rfl), rfl, rfl, by decide +kernel⟩ O (fun args' ha => ?_) (by decide) (by decide +kernel) fun L => ?_
  · obtain ⟨a, b, rfl, _⟩ := two_of ha; rfl
  · have hxd : d ≠ x := fun q => by rw [q, hx] at hd; cases hd
    refine T.absQ' fun Qf hQ => ?_
    walk_at "T"
    walk_at "T"
    walk_at "T"
    walk_at "T"
    intro v' ov' hv' hov'
    rw [er_ref hov']
    refine T_setS W.kx hx hd hv' (by rfl) (by rfl) (by rfl) (by rfl) (by rfl) (by decide) ?_
    walk_at "T"
    walk_at "T"
    walk_at "T"
    walk_at "T"
    intro v' ov' hv' hov'
    rw [er_ref hov']
    refine T_setS W.kx upd_at ((upd_ne hxd).trans hd) hv' (by rfl) (by rfl) (by rfl) (by rfl) (by rfl) (by decide) ?_
    walk_at "T"
    walk_at "T"
    refine T_list rfl (T_sp0 ⟨Nat.zero_le _, fun sa hsa => ?_⟩)
    obtain ⟨hs1, hsx⟩ := upd_none hsa
    obtain ⟨hs2, _⟩ := upd_none hs1
    have hs2 : H sa = none := hs2
    have hds : d ≠ sa := fun q => by rw [q, hs2] at hd; cases hd
    walk_at "T"
    intro v' ov' hv' hov'
    rw [er_ref hov']
    refine T_setS W.kx ((upd_ne (Ne.symm hsx)).trans upd_at) ((upd_ne hds).trans ((upd_ne hxd).trans ((upd_ne hxd).trans hd))) hv' (by rfl) (by rfl) (by rfl) (by rfl) (by rfl) (by decide) ?_
    walk_at "T"
    refine hQ _ _ ⟨rfl, sa, hs2, ⟨upd_at, (upd_ne hxd).trans ((upd_ne hds).trans ((upd_ne hxd).trans ((upd_ne hxd).trans hd))), (upd_ne hsx).trans upd_at⟩, fun b o e nb => ?_⟩
    have hbs : b ≠ sa := fun q => by rw [q, hs2] at e; cases e
    exact (upd_ne nb).trans ((upd_ne hbs).trans ((upd_ne nb).trans ((upd_ne nb).trans e)))
end
end Mine
end
section
set_option maxRecDepth 100000
set_option Elab.async false
set_option linter.unusedVariables false
set_option maxHeartbeats 4000000
namespace Mine
open PySem PySem.W PySem.Calls PyProof.Rows PySem.SeqAt
noncomputable def PS.touch (P : PS) (k : Int) : PS := if P.nds.any (fun x => x.key = k) then P else { P with nds := P.nds ++ [⟨k, 0, []⟩] }
section
variable {prog : Program} {w : World} {mg mb : Str → Option Value}
theorem T_getSelf {F : Fx} {st : St} {X : Value → List Value → St → Prop} {Q : Value → St → Prop} {S : Srt} {name : Str} {v : Value} (A : S.At prog w 40 137 st.H) (KX : (KF2 w.params).In F.base) (hl : S.ns.lookup name = some v) (hv : handedIn v = true)
    (hg : plainGet (KF2 w.params) 137 name = true) (ha : findIn (KF2 w.params) (.ref 137) name = some none) (h : Q v st) : T prog w F (getAttr (.ref S.self) name true) Q X st :=
  T_getA KX A.self A.ns hl hv hg (by rfl) ha (by rfl) h
theorem info_spec {F : Fc} {n : Nat} {S : Srt} {k : Int} {H : AHeap} (W : Wld (KF2 w.params) F mg mb) (O : F.Ok (n + 3)) (A : S.At prog w 40 137 H) (hn : S.nds.length ≤ 1000) :
    Calls prog w F (.ref 80) [.ref S.self, vI k] H
      (fun v H' => ∃ S' x, v = .ref x.a ∧ x ∈ S'.nds ∧ x.key = k ∧ S'.At prog w 40 137 H' ∧ Grow H H' S S' ∧ S'.p = S.p.touch k ∧ S'.ready = S.ready) (fun _ _ _ => False) := by
  refine Calls.fn (fd := _) (body := _) (names := ["self", "node"]) ⟨⟨_, W.kx _ _ rfl, rfl⟩, rfl, rfl, rfl, codeRec_of W.kx (by rfl), rfl, rfl, by decide +kernel⟩ O (fun args' ha => ?_) (by decide) (by decide +kernel) fun L => ?_
  · obtain ⟨a, b, rfl, _⟩ := two_of ha; rfl
  · refine T.absQ' fun Qf hQ => ?_
    walk_at "T"
    walk_at "T"
    walk_at "T"
    walk_at "T"
    walk_at "T"
    walk_at "T"
    walk_at "T"
    intro ov ho
    rw [er_ref ho]
    refine T_getSelf A W.kx (by rfl) (by rfl) (by rfl) (by rfl) ?_
    intro ov ho
    rw [er_ref ho]
    obtain ⟨m, hdn⟩ := A.dn
    refine T_methD hdn PySem.F.slot_dict_get PySem.F.type_dict_get ?_
    intro f' first' hf hfirst
    rw [er_builtin hf]
    obtain ⟨r, rfl, hr⟩ := one_of hfirst
    rw [er_ref hr]
    refine T_callP (by rfl) (T_sp1 ?_)
    walk_at "T"
    refine T_sp0 ⟨.builtin, fun vs' hv => ?_⟩
    obtain ⟨a, rfl, ha⟩ := one_of hv
    refine T_dget (B := KI prog w) (k := k) W.ns ha hdn ?_
    intro v' hv'
    walk_at "T"
    walk_at "T"
    walk_at "T"
    intro a' b' ha' hb'
    refine T_isNone ha' hb' ⟨_, rfl, ?_, ?_⟩
    · intro hnone
      have hk : ∀ y ∈ S.nds, y.key ≠ k := fun y hy q => by
        subst q
        rw [A.val hy] at hnone
        have hnone : false = true := hnone
        cases hnone
      walk_at "T"
      refine T_assign2 rfl rfl ?_
      walk_at "T"
      refine T_gl W.ffx (by rfl) (by rfl) (by rfl) (by rfl) (by rfl) ?_
      intro f' hf'
      rw [er_ref hf']
      refine T_callP (by rfl) (T_sp1 ?_)
      walk_at "T"
      refine T_sp0 ⟨.k W.kx (by rfl), fun vs' hv => ?_⟩
      refine T_code hv (Calls.make W.kx (ffx_ok O _ _ _) (by rfl) (by rfl) (by rfl) true fun A' OA x d hx0 hd0 hxd => ?_)
      refine (ni_spec (k := k) W.ffx.re OA upd_at ((upd_ne (Ne.symm hxd)).trans upd_at)).mono ?_ (fun _ _ _ z => z.elim)
      rintro v H' hx0_; refine ex0and2 hx0_ fun y0_ y1_ => ?_; try clear hx0_; obtain rfl := y0_; obtain ⟨sa, hsa, hat, hkeep⟩ := y1_
      refine ⟨rfl, ?_⟩
      intro v' hv'
      have hx1 : H x = none := hx0
      have hd1 : H d = none := hd0
      have hkp : ∀ b o, H b = some o → H' b = some o := fun b o e => hkeep b o (by
        rw [upd_ne (fun q => by rw [q, hx1] at e; cases e), upd_ne (fun q => by rw [q, hd1] at e; cases e)]; exact e) (fun q => by rw [q, hx1] at e; cases e)
      have hsa1 : H sa = none := (upd_none (upd_none hsa).1).1
      have A1 := A.keep hkp
      obtain ⟨m1, hdn1⟩ := A1.dn
      refine T_tSub ?_
      walk_at "T"
      walk_at "T"
      intro ov ho
      rw [er_ref ho]
      refine T_getSelf A1 W.kx (by rfl) (by rfl) (by rfl) (by rfl) ?_
      walk_at "T"
      intro ov' iv' hov hiv
      refine T_setD (B := KI prog w) (k := k) hov hiv hv' hdn1 (by unfold Srt.es; rw [List.length_map]; omega) fun m2 => ?_
      walk_at "T"
      walk_at "T"
      walk_at "T"
      walk_at "T"
      walk_at "T"
      walk_at "T"
      obtain ⟨A2, G⟩ := A.addNd (n := m2) (x := ⟨k, 0, [], x, d, sa⟩) hk hx1 hsa1 hd1 hat hkp
      refine hQ _ _ ⟨_, ⟨k, 0, [], x, d, sa⟩, rfl, List.mem_append_right _ List.mem_cons_self, rfl, A2, G, ?_, rfl⟩
      unfold PS.touch
      rw [if_neg]
      · unfold Srt.p Srt.addNd
        rw [List.map_append]; rfl
      · rw [Bool.not_eq_true, List.any_eq_false]
        intro y' hy'
        obtain ⟨y, hy, rfl⟩ := List.mem_map.mp hy'
        exact fun q => hk y hy (of_decide_eq_true q)
    · intro hsome
      walk_at "T"
      walk_at "T"
      walk_at "T"
      walk_at "T"
      by_cases q : ∃ x ∈ S.nds, x.key = k
      · obtain ⟨x, hx, rfl⟩ := q
        refine hQ _ _ ⟨S, x, ?_, hx, rfl, A, .refl _ _, ?_, rfl⟩
        · show (valueAt S.es x.key).getD .none = _
          rw [A.val hx]; rfl
        · unfold PS.touch
          rw [if_pos]
          rw [List.any_eq_true]
          exact ⟨x.p, List.mem_map_of_mem hx, by simp [Nd.p]⟩
      · have hk : ∀ y ∈ S.nds, y.key ≠ k := fun y hy e => q ⟨y, hy, e⟩
        rw [Srt.val_none hk] at hsome
        exact absurd hsome (by decide)
end
end Mine
end
section
set_option maxRecDepth 100000
set_option Elab.async false
set_option linter.unusedVariables false
set_option maxHeartbeats 4000000
namespace Mine
open PySem PySem.W PySem.Calls PyProof.Rows PySem.SeqAt
section
variable {prog : Program} {w : World} {mg mb : Str → Option Value}
theorem start_spec {F : Fc} {n : Nat} {self d : Addr} {H : AHeap} (W : Wld (KF2 w.params) F mg mb) (O : F.Ok (n + 1)) (hs : H self = some (.inst 137 d)) (hd : H d = some (.ns [])) :
    Calls prog w F (.ref 73) [.ref self] H
      (fun v H' => v = .none ∧ ∃ dn, H dn = none ∧ Srt.At prog w 40 137 H' ⟨self, d, dn, [], none, 0, 0⟩ ∧ ∀ b o, H b = some o → b ≠ d → H' b = some o) (fun _ _ _ => False) := by
  refine Calls.fnD (fd := _) (body := _) (names := ["self", "graph"]) (dv := [.none]) W.kx ⟨⟨_, W.kx _ _ rfl, rfl⟩, rfl, rfl, rfl, codeRec_of W.kx (by rfl), rfl, rfl, by decide +kernel⟩ O (fun args' ha S => ?_) (by decide) (by decide +kernel) fun L => ?_
  · obtain ⟨a, rfl, _⟩ := one_of ha; rfl
  · have hsd : self ≠ d := fun q => by rw [q, hd] at hs; cases hs
    refine T.absQ' fun Qf hQ => ?_
    walk_at "T"
    walk_at "T"
    refine T_dict0 fun dn hdn => ?_
    have hdn1 : H dn = none := hdn
    have hsn : self ≠ dn := fun q => by rw [q, hdn1] at hs; cases hs
    have hnd : dn ≠ d := fun q => by rw [q, hd] at hdn1; cases hdn1
    walk_at "T"
    intro v' ov' hv' hov'
    rw [er_ref hov']
    refine T_setA W.kx ((upd_ne hsn).trans hs) ((upd_ne (Ne.symm hnd)).trans hd) hv' (by decide) (by rfl) (by rfl) (by rfl) (by rfl) ?_
    walk_at "T"
    walk_at "T"
    walk_at "T"
    walk_at "T"
    intro v' ov' hv' hov'
    rw [er_ref hov']
    refine T_setA W.kx ((upd_ne hsd).trans ((upd_ne hsn).trans hs)) upd_at hv' (show (1 : Nat) < 1000 by decide) (by rfl) (by rfl) (by rfl) (by rfl) ?_
    walk_at "T"
    walk_at "T"
    walk_at "T"
    walk_at "T"
    intro v' ov' hv' hov'
    rw [er_ref hov']
    refine T_setA W.kx ((upd_ne hsd).trans ((upd_ne hsd).trans ((upd_ne hsn).trans hs))) upd_at hv' (show (2 : Nat) < 1000 by decide) (by rfl) (by rfl) (by rfl) (by rfl) ?_
    walk_at "T"
    walk_at "T"
    walk_at "T"
    walk_at "T"
    intro v' ov' hv' hov'
    rw [er_ref hov']
    refine T_setA W.kx ((upd_ne hsd).trans ((upd_ne hsd).trans ((upd_ne hsd).trans ((upd_ne hsn).trans hs)))) upd_at hv' (show (3 : Nat) < 1000 by decide) (by rfl) (by rfl) (by rfl) (by rfl) ?_
    walk_at "T"
    walk_at "T"
    walk_at "T"
    walk_at "T"
    walk_at "T"
    intro a' b' ha' hb'
    refine T_isntNone ha' hb' ⟨_, rfl, ?_, ?_⟩
    · intro h; exact absurd h (by decide)
    · intro _
      walk_at "T"
      walk_at "T"
      refine hQ _ _ ⟨rfl, dn, hdn1, ⟨?_, ?_, ⟨0, ?_⟩, (fun x hx => by cases hx), (fun r ns e => by cases e), (fun r ns e => by cases e), List.Pairwise.nil⟩, fun b o e nb => ?_⟩
      · exact (upd_ne hsd).trans ((upd_ne hsd).trans ((upd_ne hsd).trans ((upd_ne hsd).trans ((upd_ne hsn).trans hs))))
      · exact upd_at
      · exact (upd_ne hnd).trans ((upd_ne hnd).trans ((upd_ne hnd).trans ((upd_ne hnd).trans upd_at)))
      · exact (upd_ne nb).trans ((upd_ne nb).trans ((upd_ne nb).trans ((upd_ne nb).trans ((upd_ne (fun q => by rw [q, hdn1] at e; cases e)).trans e))))
end
end Mine
end
section
set_option maxRecDepth 100000
set_option Elab.async false
set_option linter.unusedVariables false
set_option maxHeartbeats 4000000
namespace Mine
open PySem PySem.W PySem.Calls PyProof.Rows PySem.SeqAt
section
variable {prog : Program} {w : World} {mg mb : Str → Option Value}
theorem sorter_spec {F : Fc} {n : Nat} {H : AHeap} (W : Wld (KF2 w.params) F mg mb) (O : F.Ok (n + 2)) :
    Calls prog w F (.ref 137) [] H
      (fun v H' => ∃ S : Srt, v = .ref S.self ∧ S.At prog w 40 137 H' ∧ S.p = ⟨[], none, 0, 0⟩ ∧ S.ready = none ∧ H S.self = none ∧ (∀ a ∈ S.foot, H a = none) ∧ ∀ b o, H b = some o → H' b = some o) (fun _ _ _ => False) := by
  refine Calls.make W.kx O (by rfl) (by rfl) (by rfl) false fun A' OA x d hx0 hd0 hxd => ?_
  refine (start_spec W.re OA upd_at ((upd_ne (Ne.symm hxd)).trans upd_at)).mono ?_ (fun _ _ _ z => z.elim)
  rintro v H' hx0_; refine ex0and2 hx0_ fun y0_ y1_ => ?_; try clear hx0_; obtain rfl := y0_; obtain ⟨dn, hdn, hat, hkeep⟩ := y1_
  refine ⟨rfl, ⟨x, d, dn, [], none, 0, 0⟩, rfl, hat, rfl, rfl, hx0, fun a ha => ?_, fun b o e => hkeep b o ?_ (fun q => by rw [q, hd0] at e; cases e)⟩
  · rcases mem_foot.mp ha with q | q | ⟨y, hy, _⟩ | ⟨ns, q⟩
    · rw [q]; exact hd0
    · rw [q]; exact (upd_none (upd_none hdn).1).1
    · cases hy
    · cases q
  · rw [upd_ne (fun q => by rw [q, hx0] at e; cases e), upd_ne (fun q => by rw [q, hd0] at e; cases e)]; exact e
end
end Mine
end
section
set_option maxRecDepth 100000
set_option Elab.async false
set_option linter.unusedVariables false
set_option maxHeartbeats 4000000
namespace Mine
open PySem PySem.W PySem.Calls PyProof.Rows PySem.SeqAt
noncomputable def PS.on (P : PS) (k : Int) (f : PN → PN) : PS := { P with nds := P.nds.map fun x => if x.key = k then f x else x }
noncomputable def PS.bump (P : PS) (k n : Int) : PS := P.on k fun x => { x with np := x.np + n }
noncomputable def PS.push (P : PS) (k s : Int) : PS := P.on k fun x => { x with succ := x.succ ++ [s] }
noncomputable def PS.add (P : PS) (k : Int) (ps : List Int) : PS := ps.foldl (fun P p => (P.touch p).push p k) ((P.touch k).bump k ps.length)
theorem Srt.push_p (S : Srt) (k s : Int) : (S.push k s).p = S.p.push k s := by
  unfold Srt.push Srt.p PS.push PS.on
  simp only [List.map_map, PS.mk.injEq, and_true]
  refine List.map_congr_left fun x _ => ?_
  simp only [Function.comp]
  by_cases q : x.key = k
  · rw [if_pos q, if_pos (show x.p.key = k from q)]; rfl
  · rw [if_neg q, if_neg (show ¬ x.p.key = k from q)]
theorem Srt.setNp_p (S : Srt) (k v : Int) : (S.setNp k v).p = S.p.on k fun x => { x with np := v } := by
  unfold Srt.setNp Srt.p PS.on
  simp only [List.map_map, PS.mk.injEq, and_true]
  refine List.map_congr_left fun x _ => ?_
  simp only [Function.comp]
  by_cases q : x.key = k
  · rw [if_pos q, if_pos (show x.p.key = k from q)]; rfl
  · rw [if_neg q, if_neg (show ¬ x.p.key = k from q)]
end Mine
end
end
section
set_option maxRecDepth 100000
set_option Elab.async false
set_option linter.unusedVariables false
set_option maxHeartbeats 4000000
namespace Mine
open PySem PySem.W PySem.Calls PyProof.Rows PySem.SeqAt
inductive As
  | cell (a : Addr) (o : AO)
  | srt (S : Srt)
  | frag (G : AHeap)
noncomputable def As.foot : As → Addr → Prop
  | .cell a _, b => b = a
  | .srt S, b => b = S.self ∨ b ∈ S.foot ∨ ∃ x ∈ S.nds, b = x.d
  | .frag G, b => G b ≠ none
section
variable {prog : Program} {w : World} {cN cT : Addr}
noncomputable def As.holds (prog : Program) (w : World) (cN cT : Addr) : As → AHeap → Prop
  | .cell a o, H => H a = some o
  | .srt S, H => S.At prog w cN cT H
  | .frag G, H => ∀ a o, G a = some o → H a = some o
noncomputable abbrev Off (f g : Addr → Prop) : Prop := ∀ a, f a → ¬ g a
structure Own (prog : Program) (w : World) (cN cT : Addr) (H : AHeap) (l : List As) : Prop where
  all : ∀ c ∈ l, c.holds prog w cN cT H
  ap : (l.map As.foot).Pairwise Off
theorem As.live {c : As} {H : AHeap} (h : c.holds prog w cN cT H) {a : Addr} (f : c.foot a) : H a ≠ none := by
  cases c with
  | cell b o => have f : a = b := f; rw [f, show H b = some o from h]; exact nofun
  | srt S =>
    have A : S.At prog w cN cT H := h
    rcases f with rfl | q | ⟨x, hx, rfl⟩
    · rw [A.self]; exact nofun
    · rcases mem_foot.mp q with q | q | ⟨y, hy, q⟩ | ⟨ns, q⟩
      · rw [q, A.ns]; exact nofun
      · obtain ⟨n, e⟩ := A.dn; rw [q, e]; exact nofun
      · rcases q with q | q
        · rw [q, (A.nds y hy).1]; exact nofun
        · rw [q, (A.nds y hy).2.2]; exact nofun
      · rw [A.rd _ _ q]; exact nofun
    · rw [(A.nds x hx).2.1]; exact nofun
  | frag G =>
    have h : ∀ a o, G a = some o → H a = some o := h
    cases q : G a with
    | none => exact absurd q f
    | some o => rw [h a o q]; exact nofun
theorem As.move {c : As} {H H' : AHeap} (h : c.holds prog w cN cT H) (k : ∀ a o, c.foot a → H a = some o → H' a = some o) : c.holds prog w cN cT H' := by
  cases c with
  | cell b o => exact k b o rfl h
  | srt S => exact Srt.At.away h fun a o e f => k a o f e
  | frag G =>
    have h : ∀ a o, G a = some o → H a = some o := h
    exact fun a o e => k a o (by show G a ≠ none; rw [e]; exact nofun) (h a o e)
variable {H H' : AHeap} {l l' r : List As} {a : Addr} {o o' : AO} {c : As}
noncomputable def New (H : AHeap) (a : Addr) (o : AO) (H' : AHeap) : Prop := H a = none ∧ H' = upd H a o
theorem Own.nil : Own prog w cN cT H [] := ⟨fun _ h => (nomatch h), List.Pairwise.nil⟩
theorem Own.grow (O : Own prog w cN cT H l) (k : ∀ a o, H a = some o → H' a = some o) : Own prog w cN cT H' l := ⟨fun c hc => As.move (O.all c hc) fun a o _ e => k a o e, O.ap⟩
theorem Own.push (O : Own prog w cN cT H l) (k : ∀ a o, H a = some o → H' a = some o) (hc : c.holds prog w cN cT H') (hn : ∀ a, c.foot a → H a = none) : Own prog w cN cT H' (c :: l) := by
  refine ⟨fun d hd => ?_, List.pairwise_cons.mpr ⟨fun f hf a ha hfa => ?_, O.ap⟩⟩
  · rcases List.mem_cons.mp hd with rfl | hd
    · exact hc
    · exact (O.grow k).all d hd
  · obtain ⟨d, hd, rfl⟩ := List.mem_map.mp hf
    exact As.live (O.all d hd) hfa (hn a ha)
theorem Own.new (O : Own prog w cN cT H l) (n : New H a o H') : Own prog w cN cT H' (.cell a o :: l) := by
  obtain ⟨hn, rfl⟩ := n
  exact O.push (upd_keeps hn) upd_at (fun b e => by cases e; exact hn)
theorem Own.get (O : Own prog w cN cT H l) (h : As.cell a o ∈ l) : H a = some o := O.all _ h
theorem Own.srtAt {S : Srt} (O : Own prog w cN cT H l) (h : As.srt S ∈ l) : S.At prog w cN cT H := O.all _ h
theorem Own.fragAt {G : AHeap} (O : Own prog w cN cT H l) (h : As.frag G ∈ l) : ∀ a o, G a = some o → H a = some o := O.all _ h
theorem Own.perm (O : Own prog w cN cT H l) (p : l.Perm l') : Own prog w cN cT H l' :=
  ⟨fun c hc => O.all c (p.mem_iff.mpr hc), ((p.map As.foot).pairwise_iff (fun h a ha hb => h a hb ha)).mp O.ap⟩
theorem Own.sub (O : Own prog w cN cT H l) (s : l'.Sublist l) : Own prog w cN cT H l' := ⟨fun c hc => O.all c (s.subset hc), O.ap.sublist (s.map As.foot)⟩
theorem Own.tail (O : Own prog w cN cT H (c :: l)) : Own prog w cN cT H l := O.sub (List.sublist_cons_self _ _)
inductive Take (c : As) : List As → List As → Prop
  | here {r : List As} : Take c (c :: r) r
  | there {d : As} {l r : List As} : Take c l r → Take c (d :: l) (d :: r)
theorem Take.perm (t : Take c l r) : l.Perm (c :: r) := by
  induction t with
  | here => exact .refl _
  | there _ ih => exact (ih.cons _).trans (.swap _ _ _)
theorem Own.take (O : Own prog w cN cT H l) (t : Take c l r) : Own prog w cN cT H (c :: r) := O.perm t.perm
theorem Own.back (O : Own prog w cN cT H (c :: r)) (t : Take c l r) : Own prog w cN cT H l := O.perm t.perm.symm
theorem Own.set (O : Own prog w cN cT H (.cell a o :: l)) (o' : AO) : Own prog w cN cT (upd H a o') (.cell a o' :: l) := by
  have ap := List.pairwise_cons.mp O.ap
  refine ⟨fun d hd => ?_, O.ap⟩
  rcases List.mem_cons.mp hd with rfl | hd
  · exact upd_at
  · refine As.move (O.all d (List.mem_cons_of_mem _ hd)) fun b ob f e => ?_
    rw [upd_ne fun q => ap.1 _ (List.mem_map_of_mem hd) b q f]; exact e
inductive Put (a : Addr) (o' : AO) : List As → List As → Prop
  | here {o : AO} {r : List As} : Put a o' (.cell a o :: r) (.cell a o' :: r)
  | there {d : As} {l r : List As} : Put a o' l r → Put a o' (d :: l) (d :: r)
theorem Put.takes (p : Put a o' l l') : ∃ o r, Take (.cell a o) l r ∧ Take (.cell a o') l' r := by
  induction p with
  | here => exact ⟨_, _, .here, .here⟩
  | there _ ih => obtain ⟨o, r, t, t'⟩ := ih; exact ⟨o, _, .there t, .there t'⟩
theorem Own.put (O : Own prog w cN cT H l) (p : Put a o' l l') (e : H' = upd H a o') : Own prog w cN cT H' l' := by
  obtain ⟨o, r, t, t'⟩ := p.takes
  subst e
  exact ((O.take t).set o').back t'
theorem Own.lay {G : AHeap} (O : Own prog w cN cT H (.cell a o :: .frag G :: l)) : Own prog w cN cT H (.frag (upd G a o) :: l) := by
  have ap := List.pairwise_cons.mp O.ap
  have ap2 := List.pairwise_cons.mp ap.2
  have hg : G a = none := by
    cases q : G a with
    | none => rfl
    | some z => exact absurd (show G a ≠ none by rw [q]; exact nofun) (ap.1 _ List.mem_cons_self a rfl)
  refine ⟨fun d hd => ?_, List.pairwise_cons.mpr ⟨fun f hf b hb hfb => ?_, ap2.2⟩⟩
  · rcases List.mem_cons.mp hd with rfl | hd
    · intro b ob e
      by_cases q : b = a
      · subst q; rw [upd_at] at e; cases e; exact O.get List.mem_cons_self
      · rw [upd_ne q] at e; exact O.fragAt (List.mem_cons_of_mem _ List.mem_cons_self) b ob e
    · exact O.all d (List.mem_cons_of_mem _ (List.mem_cons_of_mem _ hd))
  · by_cases q : b = a
    · exact ap.1 f (List.mem_cons_of_mem _ hf) b q hfb
    · exact ap2.1 f hf b (by have hb : upd G a o b ≠ none := hb; rw [upd_ne q] at hb; exact hb) hfb
theorem Own.layNew {G : AHeap} (O : Own prog w cN cT H (.cell a o :: .frag G :: l)) : G a = none := by
  have ap := List.pairwise_cons.mp O.ap
  cases q : G a with
  | none => rfl
  | some z => exact absurd (show G a ≠ none by rw [q]; exact nofun) (ap.1 _ List.mem_cons_self a rfl)
noncomputable def noF : AHeap := fun _ => none
theorem Own.frag0 (O : Own prog w cN cT H l) : Own prog w cN cT H (.frag noF :: l) :=
  O.push (fun _ _ e => e) (fun a o e => by cases e) (fun a h => absurd rfl h)
theorem Own.turn {S S' : Srt} (O : Own prog w cN cT H (.srt S :: l)) (A : S'.At prog w cN cT H') (G : Grow H H' S S') : Own prog w cN cT H' (.srt S' :: l) := by
  have ap := List.pairwise_cons.mp O.ap
  refine ⟨fun d hd => ?_, List.pairwise_cons.mpr ⟨fun f hf b hb hfb => ?_, ap.2⟩⟩
  · rcases List.mem_cons.mp hd with rfl | hd
    · exact A
    · refine As.move (O.all d (List.mem_cons_of_mem _ hd)) fun b ob f e => G.keep b ob e fun m => ?_
      exact ap.1 _ (List.mem_map_of_mem hd) b (.inr (.inl m)) f
  · obtain ⟨d, hd, rfl⟩ := List.mem_map.mp hf
    have live := As.live (O.all d (List.mem_cons_of_mem _ hd)) hfb
    have off := fun z => ap.1 _ (List.mem_map_of_mem hd) b z hfb
    rcases hb with q | q | ⟨x, hx, q⟩
    · exact off (.inl (q.trans G.self))
    · rcases G.foot b q with m | m
      · exact off (.inr (.inl m))
      · exact live m
    · rcases G.ds x hx with ⟨y, hy, e⟩ | m
      · exact off (.inr (.inr ⟨y, hy, q.trans e⟩))
      · exact live (q ▸ m)
end
end Mine
end
section
set_option maxRecDepth 100000
set_option Elab.async false
set_option linter.unusedVariables false
set_option maxHeartbeats 4000000
namespace Mine
open PySem PySem.W PySem.Calls PyProof.Rows PySem.SeqAt
structure Ent (K : Frag) (mg mb : Str → Option Value) (nm : List (Str × NameKind)) (F : Fx) : Prop where
  W : Wld K F.toFc mg mb
  kind : F.env.scope.kind = .function
  names : F.env.scope.names = nm
  gl : F.env.globals = mainGlobals
  bi : F.env.builtins = builtinsNs
  loc : F.env.locals ∈ F.own
  cel : ∀ x, nm.lookup x = some .cell → ∃ c, F.env.cells.lookup x = some c
structure Fun (F : Fx) : Prop where
  U : ∃ outer L, Runs F outer L
  celO : ∀ x c, F.env.cells.lookup x = some c → c ∈ F.own
section
variable {prog : Program} {w : World} {K : Frag} {mg mb : Str → Option Value} {nm : List (Str × NameKind)} {F : Fx} {st : St} {X : Value → List Value → St → Prop} {Q : Value → St → Prop} {pos : Pos} {x : Str} {v : Value}
theorem Ent.local (E : Ent K mg mb nm F) (h : nm.lookup x = some .local) : F.env.kindOf x = some .local := by rw [Env.kindOf, E.names]; exact h
theorem Ent.cell (E : Ent K mg mb nm F) (h : nm.lookup x = some .cell) : F.env.kindOf x = some .cell := by rw [Env.kindOf, E.names]; exact h
theorem Ent.glob (E : Ent K mg mb nm F) (h : nm.lookup x = some .globalImplicit) : F.env.kindOf x = some .globalImplicit := by rw [Env.kindOf, E.names]; exact h
theorem E_name (E : Ent K mg mb nm F) (hk : nm.lookup x = some .local) (hv : st.vars.lookup x = some v) (hd : (x == ("__debug__" : Str)) = false) (h : Q v st) : T prog w F (eval (.Name x pos) F.env) Q X st := T_nameL hv (E.local hk) E.kind hd h
theorem E_nameC (E : Ent K mg mb nm F) (hk : nm.lookup x = some .cell) (hv : st.vars.lookup x = some v) (hd : (x == ("__debug__" : Str)) = false) (h : Q v st) : T prog w F (eval (.Name x pos) F.env) Q X st := T_nameC hv (E.cell hk) E.kind hd h
theorem E_glR {a : Addr} (E : Ent K mg mb nm F) (hk : nm.lookup x = some .globalImplicit) (e : nsIn K mainGlobals x = some (some (.ref a))) (hd : (x == ("__debug__" : Str)) = false) (h : Q (.ref a) st) : T prog w F (eval (.Name x pos) F.env) Q X st := T_gl E.W e E.gl (E.glob hk) E.kind hd h
theorem E_glI {i : Int} {t : Tok} (E : Ent K mg mb nm F) (hk : nm.lookup x = some .globalImplicit) (e : nsIn K mainGlobals x = some (some (.int i t))) (hd : (x == ("__debug__" : Str)) = false) (h : Q (vI i) st) : T prog w F (eval (.Name x pos) F.env) Q X st := T_gl E.W e E.gl (E.glob hk) E.kind hd h
theorem E_biB {id : String} (E : Ent K mg mb nm F) (hk : nm.lookup x = some .globalImplicit) (e : nsIn K mainGlobals x = some none) (hv : bootBuiltins x = some (.builtin id)) (hn : (x == ("__name__" : Str)) = false) (hd : (x == ("__debug__" : Str)) = false) (h : Q (.builtin id) st) : T prog w F (eval (.Name x pos) F.env) Q X st :=
  T_bi E.W e hv (by rintro rfl; cases hn) E.gl E.bi (E.glob hk) E.kind hd h
theorem E_biT {id : String} (E : Ent K mg mb nm F) (hk : nm.lookup x = some .globalImplicit) (e : nsIn K mainGlobals x = some none) (hv : bootBuiltins x = some (.type id)) (hn : (x == ("__name__" : Str)) = false) (hd : (x == ("__debug__" : Str)) = false) (h : Q (.type id) st) : T prog w F (eval (.Name x pos) F.env) Q X st :=
  T_bi E.W e hv (by rintro rfl; cases hn) E.gl E.bi (E.glob hk) E.kind hd h
noncomputable def StoreE (prog : Program) (w : World) (F : Fx) (x : Str) (v : Value) (Q : Unit → St → Prop) (X : Value → List Value → St → Prop) (st : St) : Prop := ∀ v', er v' = v → T prog w F (storeName F.env x v') Q X st
noncomputable def AssignE (prog : Program) (w : World) (F : Fx) (t : Expr) (v : Value) (Q : Unit → St → Prop) (X : Value → List Value → St → Prop) (st : St) : Prop := ∀ v', er v' = v → T prog w F (assign t F.env v') Q X st
noncomputable def AttrE (prog : Program) (w : World) (F : Fx) (o : Value) (name : Str) (Q : Value → St → Prop) (X : Value → List Value → St → Prop) (st : St) : Prop := ∀ o', er o' = o → T prog w F (getAttr o' name true) Q X st
noncomputable def SetAttrE (prog : Program) (w : World) (F : Fx) (o : Value) (name : Str) (v : Value) (Q : Unit → St → Prop) (X : Value → List Value → St → Prop) (st : St) : Prop := ∀ v' o', er v' = v → er o' = o → T prog w F (setAttr o' name v') Q X st
noncomputable def CmpE (prog : Program) (w : World) (F : Fx) (op : CmpOp) (a b : Value) (Q : Value → St → Prop) (X : Value → List Value → St → Prop) (st : St) : Prop := ∀ a' b', er a' = a → er b' = b → T prog w F (compareOp op a' b') Q X st
noncomputable def BinE (prog : Program) (w : World) (F : Fx) (op : Operator) (a b : Value) (Q : Value → St → Prop) (X : Value → List Value → St → Prop) (st : St) : Prop := ∀ a' b', er a' = a → er b' = b → T prog w F (binaryOp op a' b') Q X st
noncomputable def InpE (prog : Program) (w : World) (F : Fx) (op : Operator) (a b : Value) (Q : Value → St → Prop) (X : Value → List Value → St → Prop) (st : St) : Prop := ∀ a' b', er a' = a → er b' = b → T prog w F (inplaceOp op a' b') Q X st
noncomputable def UnE (prog : Program) (w : World) (F : Fx) (op : UnaryOp) (a : Value) (Q : Value → St → Prop) (X : Value → List Value → St → Prop) (st : St) : Prop := ∀ a', er a' = a → T prog w F (unaryOp op a') Q X st
noncomputable def ItemE (prog : Program) (w : World) (F : Fx) (o i : Value) (Q : Value → St → Prop) (X : Value → List Value → St → Prop) (st : St) : Prop := ∀ o' i', er o' = o → er i' = i → T prog w F (getItem o' i') Q X st
noncomputable def SetItemE (prog : Program) (w : World) (F : Fx) (o i v : Value) (Q : Unit → St → Prop) (X : Value → List Value → St → Prop) (st : St) : Prop := ∀ o' i' v', er o' = o → er i' = i → er v' = v → T prog w F (setItem o' i' v') Q X st
noncomputable def DelItemE (prog : Program) (w : World) (F : Fx) (o i : Value) (Q : Unit → St → Prop) (X : Value → List Value → St → Prop) (st : St) : Prop := ∀ o' i', er o' = o → er i' = i → T prog w F (delItem o' i') Q X st
noncomputable def TruthE (prog : Program) (w : World) (F : Fx) (a : Value) (Q : Bool → St → Prop) (X : Value → List Value → St → Prop) (st : St) : Prop := ∀ a', er a' = a → T prog w F (truthy a') Q X st
noncomputable def CallE (prog : Program) (w : World) (F : Fx) (f : Value) (vs : List Value) (Q : Value → St → Prop) (X : Value → List Value → St → Prop) (st : St) : Prop := ∀ vs', vs'.map er = vs → T prog w F (call f vs') Q X st
noncomputable def MethE (prog : Program) (w : World) (F : Fx) (o : Value) (name : Str) (Q : Value → List Value → St → Prop) (X : Value → List Value → St → Prop) (st : St) : Prop := ∀ pl o', er o' = o → T prog w F (getMethod o' name pl) (fun fx st₂ => Q fx.1 fx.2 st₂) X st
noncomputable def KF (prog : Program) (w : World) (F : Fx) (f : Value) (st : St) : Prop := (∀ f', er f' = f → f' = f) ∧ Keeps prog w F f st
theorem KF.k {a : Addr} (E : Ent K mg mb nm F) (hk : keepIn K (.ref a) = true) : KF prog w F (.ref a) st := ⟨fun _ h => er_ref h, .k E.W.kx hk⟩
theorem KF.builtin {id : String} : KF prog w F (.builtin id) st := ⟨fun _ h => er_builtin h, .builtin⟩
theorem KF.type {id : String} : KF prog w F (.type id) st := ⟨fun _ h => er_type h, .type⟩
theorem KF.meth {a f : Addr} {self : Value} (E : Ent K mg mb nm F) (ha : st.H a = some (.meth (.ref f) self)) (hf : fnIn K f = true) : KF prog w F (.ref a) st := ⟨fun _ h => er_ref h, .meth E.W.kx ha hf⟩
theorem KF.bm {a : Addr} {cls : String} {fn self : Value} (ha : st.H a = some (.bm cls fn self)) (hc : cls = "builtin_function_or_method" ∨ cls = "method-wrapper") : KF prog w F (.ref a) st := ⟨fun _ h => er_ref h, .bm ha hc⟩
theorem E_storeL {Q : Unit → St → Prop} (E : Ent K mg mb nm F) (hk : nm.lookup x = some .local) (h : Q () ⟨setV st.vars x v, st.H⟩) : StoreE prog w F x v Q X st := fun v' hv => T_storeL hv (E.local hk) E.kind E.loc h
theorem E_storeC {Q : Unit → St → Prop} (E : Ent K mg mb nm F) (U : Fun F) (hk : nm.lookup x = some .cell) (h : Q () ⟨setV st.vars x v, st.H⟩) : StoreE prog w F x v Q X st :=
  fun v' hv => T_storeC hv (E.cell hk) E.kind (U.celO x) (by obtain ⟨c, hc⟩ := E.cel x hk; rw [hc]; rfl) h
theorem E_tName {p : Pos} {Q : Unit → St → Prop} (h : StoreE prog w F x v Q X st) : AssignE prog w F (.Name x p) v Q X st := fun v' hv => T_tName (h v' hv)
theorem E_tTuple3 {a b c : Expr} {va vb vc : Value} {k : Nat} {p : Pos} {t : Addr} {Q : Unit → St → Prop} (hh : F.A.handled = none) (ht : st.H t = some (.tup [va, vb, vc])) (he : (assignEach [a, b, c] F.env) = [(false, assign a F.env), (false, assign b F.env), (false, assign c F.env)])
    (h : AssignE prog w F a va (fun _ st₁ => AssignE prog w F b vb (fun _ st₂ => AssignE prog w F c vc Q X st₂) X st₁) X st) : AssignE prog w F (.Tuple [a, b, c] k p) (.ref t) Q X st := fun v' hv => by
  rw [er_ref hv]
  refine T_tTuple hh ht (by rw [he]; rfl) (by rw [he]; rfl) fun vs hvs => ?_
  refine ex3and4 (three_of hvs) fun x y z y3_ hx hy hz => ?_; obtain rfl := y3_
  rw [he]
  exact T_order ((h x hx).post fun _ _ q => T_order ((q y hy).post fun _ _ q => T_order ((q z hz).post fun _ _ q => T_order0 q)))
noncomputable def AbsQ {α : Type} (Q Q' : α → St → Prop) : Prop := ∀ a st, Q a st → Q' a st
theorem AbsQ.use {α : Type} {Q Q' : α → St → Prop} {a : α} {st : St} (h : AbsQ Q Q') (q : Q a st) : Q' a st := h a st q
noncomputable def AbsT (prog : Program) (w : World) (F : Fx) {α : Type} [Er α] (t : Sem α) (Q : α → St → Prop) (X : Value → List Value → St → Prop) (st : St) : Prop := ∀ Q', AbsQ Q Q' → T prog w F t Q' X st
theorem AbsT.mk {α : Type} [Er α] {t : Sem α} {Q : α → St → Prop} (h : ∀ Q', AbsQ Q Q' → T prog w F t Q' X st) : AbsT prog w F t Q X st := h
theorem AbsT.out {α : Type} [Er α] {t : Sem α} {Q : α → St → Prop} (h : AbsT prog w F t Q X st) : T prog w F t Q X st := h Q fun _ _ q => q
theorem AbsT.mono {α : Type} [Er α] {t : Sem α} {Q Q2 : α → St → Prop} (h : AbsT prog w F t Q X st) (hq : ∀ a st, Q a st → Q2 a st) : AbsT prog w F t Q2 X st := fun Q' h2 => h Q' fun a st q => h2 a st (hq a st q)
theorem E_consA {a : Stmt} {r : List Stmt} {Q : Flow → St → Prop} (h : ∀ Q', AbsQ (fun f st' => match f with | .next => T prog w F (execs r F.env) Q X st' | f => Q f st') Q' → T prog w F (exec a F.env) Q' X st) : T prog w F (execs (a :: r) F.env) Q X st := T_cons (h _ fun _ _ q => q)
theorem E_cons {a : Stmt} {r : List Stmt} {Q : Flow → St → Prop} (h : T prog w F (exec a F.env) (fun f st' => match f with | .next => T prog w F (execs r F.env) Q X st' | f => Q f st') X st) : T prog w F (execs (a :: r) F.env) Q X st := T_cons h
theorem E_assign {p : Pos} {value : Expr} {Q : Flow → St → Prop} (hs : swapsWith value (some (.Name x p)) pos.line F.env = pure false)
    (h : T prog w F (eval value F.env) (fun v st' => StoreE prog w F x v (fun _ => Q .next) X st') X st) : T prog w F (exec (.Assign [.Name x p] value pos) F.env) Q X st := T_assignName hs (h.post fun _ _ q v' hv => q v' hv)
theorem E_assignSub {o i value : Expr} {p : Pos} {Q : Flow → St → Prop} (hs : swapsWith value (some (.Subscript o i p)) pos.line F.env = pure false)
    (h : T prog w F (eval value F.env) (fun v st₁ => T prog w F (eval o F.env) (fun ov st₂ => T prog w F (eval i F.env) (fun iv st₃ => SetItemE prog w F ov iv v (fun _ => Q .next) X st₃) X st₂) X st₁) X st) :
    T prog w F (exec (.Assign [.Subscript o i p] value pos) F.env) Q X st := T_assignSub hs (h.post fun _ _ q => q.post fun _ _ q => q.post fun _ _ q v' ov' iv' hv ho hi => q ov' iv' v' ho hi hv)
theorem E_assignAttr {o value : Expr} {attr : Str} {p : Pos} {Q : Flow → St → Prop} (hs : swapsWith value (some (.Attribute o attr p)) pos.line F.env = pure false)
    (h : T prog w F (eval value F.env) (fun v st₁ => T prog w F (eval o F.env) (fun ov st₂ => SetAttrE prog w F ov attr v (fun _ => Q .next) X st₂) X st₁) X st) :
    T prog w F (exec (.Assign [.Attribute o attr p] value pos) F.env) Q X st := T_assignAttr hs (h.post fun _ _ q => q.post fun _ _ q => q)
theorem E_augAttr {o value : Expr} {attr : Str} {p : Pos} {op : Operator} {Q : Flow → St → Prop}
    (h : T prog w F (eval o F.env) (fun ov st₁ => AttrE prog w F ov attr (fun old st₂ => T prog w F (eval value F.env) (fun v st₃ => InpE prog w F op old v (fun new st₄ => SetAttrE prog w F ov attr new (fun _ => Q .next) X st₄) X st₃) X st₂) X st₁) X st) :
    T prog w F (exec (.AugAssign (.Attribute o attr p) op value pos) F.env) Q X st :=
  T_augAttr (h.post fun ov _ q ov' ho => (q ov' ho).post fun _ _ q => q.post fun _ _ q old' v' h1 h2 => (q old' v' h1 h2).post fun _ _ q new' hn => q new' ov' hn ho)
theorem E_assign1 {t value : Expr} {Q : Flow → St → Prop} (hs : swapsWithSole [t] value pos.line F.env = pure false) (hw : swappedStores [t] value F.env = pure none) (he : (assignEach [t] F.env).map (·.2) = [assign t F.env])
    (h : T prog w F (eval value F.env) (fun v st₁ => AssignE prog w F t v (fun _ => Q .next) X st₁) X st) :
    T prog w F (exec (.Assign [t] value pos) F.env) Q X st := T_assign1 hs hw he (h.post fun _ _ q => q)
theorem E_exprS {e : Expr} {Q : Flow → St → Prop} (E : Ent K mg mb nm F) (hs : swapsWith e none pos.line F.env = pure false) (h : T prog w F (eval e F.env) (fun _ => Q .next) X st) :
    T prog w F (exec (.Expr e pos) F.env) Q X st := T_exprS (by unfold interactive; rw [E.kind]; rfl) hs h
theorem E_walrus {t value : Expr} (h : T prog w F (eval value F.env) (fun v st₁ => AssignE prog w F t v (fun _ => Q v) X st₁) X st) : T prog w F (eval (.NamedExpr t value pos) F.env) Q X st := T_walrus (h.post fun _ _ q => q)
theorem E_attr {value : Expr} {attr : Str} (he : eval (.Attribute value attr pos) F.env = (do
      let o ← eval value F.env
      standAt pos.atName
      let r ← holding [o] (getAttr o attr true)
      letTemporaryGo value o r
      pure r))
    (h : T prog w F (eval value F.env) (fun ov st₁ => AttrE prog w F ov attr Q X st₁) X st) : T prog w F (eval (.Attribute value attr pos) F.env) Q X st := T_attr he (h.post fun _ _ q => q)
theorem E_sub {value slice : Expr} (h : T prog w F (eval value F.env) (fun ov st₁ => T prog w F (eval slice F.env) (fun iv st₂ => Sub st₂ ov ∧ ItemE prog w F ov iv Q X st₂) X st₁) X st) :
    T prog w F (eval (.Subscript value slice pos) F.env) Q X st := T_sub (h.post fun _ _ q => q.post fun _ _ q => ⟨q.1, q.2⟩)
theorem E_isCmp {l r : Expr} {op : CmpOp} {whole : Sem Value} {Q : Bool → St → Prop} (hm : behindInMarks op r = false)
    (h : T prog w F (eval l F.env) (fun a st₁ => T prog w F (eval r F.env) (fun b st₂ => CmpE prog w F op a b (fun c st₃ => ∃ t, c = .bool t ∧ Q t st₃) X st₂) X st₁) X st) :
    T prog w F (isTrue (.Compare l [op] [r] pos) F.env whole) Q X st := T_isCmp hm (h.post fun _ _ q => q.post fun _ _ q => q)
theorem E_cmp {l r : Expr} {op : CmpOp} (hm : behindInMarks op r = false)
    (h : T prog w F (eval l F.env) (fun a st₁ => T prog w F (eval r F.env) (fun b st₂ => CmpE prog w F op a b Q X st₂) X st₁) X st) :
    T prog w F (eval (.Compare l [op] [r] pos) F.env) Q X st := T_cmp hm (h.post fun _ _ q => q.post fun _ _ q => q)
theorem E_binop {l r : Expr} {op : Operator} (h : T prog w F (eval l F.env) (fun a st₁ => T prog w F (eval r F.env) (fun b st₂ => BinE prog w F op a b Q X st₂) X st₁) X st) :
    T prog w F (eval (.BinOp l op r pos) F.env) Q X st := T_binop (h.post fun _ _ q => q.post fun _ _ q => q)
theorem E_unop {e : Expr} {op : UnaryOp} (h : T prog w F (eval e F.env) (fun a st₁ => UnE prog w F op a Q X st₁) X st) : T prog w F (eval (.UnaryOp op e pos) F.env) Q X st := T_unop (h.post fun _ _ q => q)
theorem E_isVal {e : Expr} {whole : Sem Value} {Q : Bool → St → Prop} (he : isTrue e F.env whole = (do let v ← whole; standAt e.pos; holding [v] (truthy v)))
    (h : T prog w F whole (fun v st' => TruthE prog w F v Q X st') X st) : T prog w F (isTrue e F.env whole) Q X st := T_isVal he (h.post fun _ _ q => q)
theorem E_list0 (h : ∀ a H', New st.H a (.list []) H' → Q (.ref a) ⟨st.vars, H'⟩) : T prog w F (eval (.List [] pos) F.env) Q X st :=
  T_list (trees := []) rfl (T_sp0 ⟨Nat.zero_le _, fun a ha => h a _ ⟨ha, rfl⟩⟩)
theorem E_list1 {e : Expr} (he : starEach [e] F.env = [(false, eval e F.env)]) (h : T prog w F (eval e F.env) (fun v st₁ => ∀ a H', New st₁.H a (.list [v]) H' → Q (.ref a) ⟨st₁.vars, H'⟩) X st) : T prog w F (eval (.List [e] pos) F.env) Q X st :=
  T_list (trees := [(false, eval e F.env)]) (by rw [he]; rfl) (T_sp1 (h.post fun _ _ q => T_sp0 ⟨by simp, fun a ha => q a _ ⟨ha, rfl⟩⟩))
theorem E_list2 {e f : Expr} (he : starEach [e, f] F.env = [(false, eval e F.env), (false, eval f F.env)]) (h : T prog w F (eval e F.env) (fun v st₁ => T prog w F (eval f F.env) (fun u st₂ => ∀ a H', New st₂.H a (.list [v, u]) H' → Q (.ref a) ⟨st₂.vars, H'⟩) X st₁) X st) : T prog w F (eval (.List [e, f] pos) F.env) Q X st :=
  T_list (trees := [(false, eval e F.env), (false, eval f F.env)]) (by rw [he]; rfl) (T_sp1 (h.post fun _ _ q => T_sp1 (q.post fun _ _ q => T_sp0 ⟨by simp, fun a ha => q a _ ⟨ha, rfl⟩⟩)))
theorem E_listN {elts : List Expr} {trees : List (Bool × Sem Value)} (ht : backTo pos (starEach elts F.env) = trees)
    (h : T prog w F (spliced trees) (fun vs st₁ => vs.length ≤ 1000000 ∧ ∀ a H', New st₁.H a (.list vs) H' → Q (.ref a) ⟨st₁.vars, H'⟩) X st) : T prog w F (eval (.List elts pos) F.env) Q X st :=
  T_list ht (h.post fun _ _ q => ⟨q.1, fun a ha => q.2 a _ ⟨ha, rfl⟩⟩)
theorem E_dict0 (h : ∀ a H', New st.H a (.dict [] 0) H' → Q (.ref a) ⟨st.vars, H'⟩) : T prog w F (eval (.Dict [] [] pos) F.env) Q X st := T_dict0 fun a ha => h a _ ⟨ha, rfl⟩
theorem E_call0 {id : Str} {p : Pos} (h : T prog w F (eval (.Name id p) F.env) (fun f st₁ => KF prog w F f st₁ ∧ CallE prog w F f [] Q X st₁) X st) : T prog w F (eval (.Call (.Name id p) [] [] pos) F.env) Q X st :=
  T_callName (trees := []) rfl (h.post fun _ _ q f' hf => by rw [q.1.1 f' hf]; exact T_call0 q.1.2 (q.2 [] rfl))
theorem E_call1 {id : Str} {p : Pos} {a : Expr} (he : starEach [a] F.env = [(false, eval a F.env)])
    (h : T prog w F (eval (.Name id p) F.env) (fun f st₁ => T prog w F (eval a F.env) (fun v st₂ => KF prog w F f st₂ ∧ CallE prog w F f [v] Q X st₂) X st₁) X st) : T prog w F (eval (.Call (.Name id p) [a] [] pos) F.env) Q X st :=
  T_callName (trees := [(false, eval a F.env)]) (by rw [he]; rfl) (h.post fun f _ q f' hf => T_callP rfl (T_sp1 (q.post fun _ _ q => T_sp0 (by rw [q.1.1 f' hf]; exact ⟨q.1.2, fun vs' hv => q.2 vs' hv⟩))))
theorem E_call2 {id : Str} {p : Pos} {a b : Expr} (he : starEach [a, b] F.env = [(false, eval a F.env), (false, eval b F.env)])
    (h : T prog w F (eval (.Name id p) F.env) (fun f st₁ => T prog w F (eval a F.env) (fun v st₂ => T prog w F (eval b F.env) (fun u st₃ => KF prog w F f st₃ ∧ CallE prog w F f [v, u] Q X st₃) X st₂) X st₁) X st) : T prog w F (eval (.Call (.Name id p) [a, b] [] pos) F.env) Q X st :=
  T_callName (trees := [(false, eval a F.env), (false, eval b F.env)]) (by rw [he]; rfl) (h.post fun f _ q f' hf => T_callP rfl (T_sp1 (q.post fun _ _ q => T_sp1 (q.post fun _ _ q => T_sp0 (by rw [q.1.1 f' hf]; exact ⟨q.1.2, fun vs' hv => q.2 vs' hv⟩)))))
noncomputable abbrev methTree (o : Expr) (name : Str) (apos pos : Pos) (args : List Expr) (env : Env) (pl : Sem Bool) : Sem Value := do
      let ov ← eval o env
      standAt apos.atName
      let (f, first) ← holding [ov] (getMethod ov name pl)
      callWith pos f first (backTo pos (starEach args env)) []
theorem E_meth0 {o : Expr} {name : Str} {apos : Pos} {pl : Sem Bool} (he : eval (.Call (.Attribute o name apos) [] [] pos) F.env = methTree o name apos pos [] F.env pl)
    (h : T prog w F (eval o F.env) (fun ov st₁ => MethE prog w F ov name (fun f first st₂ => KF prog w F f st₂ ∧ CallE prog w F f first Q X st₂) X st₁) X st) : T prog w F (eval (.Call (.Attribute o name apos) [] [] pos) F.env) Q X st :=
  T_callMeth (trees := []) rfl he (h.post fun _ _ q ov' ho => (q pl ov' ho).post fun _ _ q f' first' hf hx => by rw [q.1.1 f' hf]; exact T_call0 q.1.2 (q.2 first' hx))
theorem E_meth1 {o a : Expr} {name : Str} {apos : Pos} {pl : Sem Bool} (hs : starEach [a] F.env = [(false, eval a F.env)]) (he : eval (.Call (.Attribute o name apos) [a] [] pos) F.env = methTree o name apos pos [a] F.env pl)
    (h : T prog w F (eval o F.env) (fun ov st₁ => MethE prog w F ov name (fun f first st₂ => T prog w F (eval a F.env) (fun v st₃ => KF prog w F f st₃ ∧ CallE prog w F f (first ++ [v]) Q X st₃) X st₂) X st₁) X st) : T prog w F (eval (.Call (.Attribute o name apos) [a] [] pos) F.env) Q X st :=
  T_callMeth (trees := [(false, eval a F.env)]) (by rw [hs]; rfl) he (h.post fun _ _ q ov' ho => (q pl ov' ho).post fun _ _ q f' first' hf hx => T_callP rfl (T_sp1 (q.post fun _ _ q => T_sp0 (by
    rw [q.1.1 f' hf]; exact ⟨q.1.2, fun vs' hv => q.2 _ (by rw [List.map_append, hx, hv])⟩))))
theorem E_callAny0 {func : Expr} (he : eval (.Call func [] [] pos) F.env = (do callWith pos (← eval func F.env) [] (backTo pos (starEach [] F.env)) []))
    (h : T prog w F (eval func F.env) (fun f st₁ => KF prog w F f st₁ ∧ CallE prog w F f [] Q X st₁) X st) : T prog w F (eval (.Call func [] [] pos) F.env) Q X st :=
  T_callAny (trees := []) rfl he (h.post fun _ _ q f' hf => by rw [q.1.1 f' hf]; exact T_call0 q.1.2 (q.2 [] rfl))
end
end Mine
end
section
set_option maxRecDepth 100000
set_option Elab.async false
set_option linter.unusedVariables false
set_option maxHeartbeats 4000000
namespace Mine
open PySem PySem.W PySem.Calls PyProof.Rows PySem.SeqAt
theorem clos_loop {env : Env} : ∀ (names : List (Str × NameKind)) (acc : List (Str × Addr)), (∀ q ∈ acc, env.cells.lookup q.1 = some q.2) → (∀ p ∈ names, p.2 = .free → ∃ c, env.cells.lookup p.1 = some c) →
    ∃ cl, (forIn names acc (fun (x : Str × NameKind) (cs : List (Str × Addr)) => if (x.2 == NameKind.free) = true then (do let c ← cellOf env x.1; pure (ForInStep.yield ((x.1, c) :: cs))) else pure (ForInStep.yield cs)) : Sem (List (Str × Addr))) = pure cl ∧
      (∀ q ∈ cl, env.cells.lookup q.1 = some q.2) ∧ (∀ p ∈ names, p.2 = .free → ∃ q ∈ cl, q.1 = p.1) ∧ ∀ q ∈ acc, q ∈ cl
  | [], acc, h1, _ => ⟨acc, rfl, h1, (fun _ h => (nomatch h)), fun _ h => h⟩
  | (x, k) :: r, acc, h1, h2 => by
    by_cases hk : k = .free
    · subst hk
      obtain ⟨c, hc⟩ := h2 _ List.mem_cons_self rfl
      have hc : env.cells.lookup x = some c := hc
      obtain ⟨cl, e, a1, a2, a3⟩ := clos_loop r ((x, c) :: acc) (fun q hq => by
        rcases List.mem_cons.mp hq with rfl | hq
        · exact hc
        · exact h1 q hq) (fun p hp => h2 p (List.mem_cons_of_mem _ hp))
      refine ⟨cl, ?_, a1, fun p hp hf => ?_, fun q hq => a3 q (List.mem_cons_of_mem _ hq)⟩
      · rw [List.forIn_cons]
        have : cellOf env x = pure c := by unfold cellOf; rw [hc]
        simp only [this]
        exact e
      · rcases List.mem_cons.mp hp with rfl | hp
        · exact ⟨_, a3 _ List.mem_cons_self, rfl⟩
        · exact a2 p hp hf
    · refine ex1and4 (clos_loop r acc h1 (fun p hp => h2 p (List.mem_cons_of_mem _ hp))) fun cl e a1 a2 a3 => ?_
      refine ⟨cl, ?_, a1, fun p hp hf => ?_, a3⟩
      · rw [List.forIn_cons]
        have : (k == NameKind.free) = false := by simpa using hk
        simp only [this]
        exact e
      · rcases List.mem_cons.mp hp with rfl | hp
        · exact absurd hf hk
        · exact a2 p hp hf
theorem clos_ok {env : Env} {scope : Scope} (h : ∀ p ∈ scope.names, p.2 = .free → ∃ c, env.cells.lookup p.1 = some c) :
    ∃ cl, closureFor scope env = pure cl ∧ Clos env cl ∧ (∀ p ∈ scope.names, p.2 = .free → cl.lookup p.1 = env.cells.lookup p.1) := by
  refine ex1and4 (clos_loop scope.names [] (fun _ h => (nomatch h)) h) fun cl e a1 a2 a3 => ?_
  clear a3
  refine ⟨cl, ?_, ?_, fun p hp hf => ?_⟩
  · simp only [closureFor]
    rw [bind_pure]
    exact e
  · clear e a2
    induction cl with
    | nil => trivial
    | cons q r ih => exact ⟨a1 q List.mem_cons_self, ih fun p hp => a1 p (List.mem_cons_of_mem _ hp)⟩
  · obtain ⟨q, hq, e1⟩ := a2 p hp hf
    have : ∃ c, cl.lookup p.1 = some c := by
      clear a1 e a2
      induction cl with
      | nil => cases hq
      | cons z r ih =>
        obtain ⟨z1, z2⟩ := z
        by_cases e2 : p.1 = z1
        · exact ⟨z2, by simp [List.lookup, e2]⟩
        · rcases List.mem_cons.mp hq with rfl | hq
          · exact absurd e1.symm e2
          · obtain ⟨c, hc⟩ := ih hq
            have : (p.1 == z1) = false := by simpa using e2
            exact ⟨c, by simp only [List.lookup, this]; exact hc⟩
    obtain ⟨c, hc⟩ := this
    rw [hc, a1 _ (lookup_mem hc)]
noncomputable def scOk (scope : Scope) (nm : List (Str × NameKind)) (x : Str) : Bool :=
  decide (scope.kind = .function) && scope.names.all (fun y => decide (y.2 ≠ .cell)) && scope.names.all (fun y => !decide (y.2 = .local) || decide (scope.names.lookup y.1 = some .local)) &&
    decide (scope.names.lookup x = some .local) && scope.names.all (fun y => !decide (y.2 = .free) || decide (nm.lookup y.1 = some .cell))
noncomputable def cvOk (scope : Scope) (cv : List (Str × Value)) : Bool := cv.all fun p => decide (scope.names.lookup p.1 = some .free)
noncomputable def relabelN (names nm : List (Str × NameKind)) : List (Str × NameKind) := names.map fun p => if decide (p.2 = .free) && decide (nm.lookup p.1 = some .cell) then (p.1, .cell) else p
section
variable {prog : Program} {w : World} {K : Frag} {mg mb : Str → Option Value} {nm : List (Str × NameKind)} {F : Fx} {st : St} {X : Value → List Value → St → Prop} {Q : Value → St → Prop} {pos : Pos} {x : Str} {v : Value}
theorem relabel_eq (E : Ent K mg mb nm F) {scope : Scope} : (relabel scope F.env).names = relabelN scope.names nm := by
  unfold relabel relabelN
  refine List.map_congr_left fun p _ => ?_
  obtain ⟨n, k⟩ := p
  have h1 : (F.env.scope.kind == ScopeKind.function) = true := by rw [E.kind]; rfl
  have h2 : F.env.kindOf n = nm.lookup n := by rw [Env.kindOf, E.names]
  simp only [h1, h2]
  cases hk : decide (k = .free) <;> cases hn : decide (nm.lookup n = some .cell) <;> simp_all
theorem lookup_relabelN {nm : List (Str × NameKind)} {x : Str} {k : NameKind} : ∀ {names : List (Str × NameKind)}, names.lookup x = some k → (relabelN names nm).lookup x = some (if k = .free ∧ nm.lookup x = some .cell then .cell else k)
  | (y, k') :: r, h => by
    by_cases q : x = y
    · subst q
      simp only [List.lookup, beq_self_eq_true] at h
      cases h
      unfold relabelN
      rw [List.map_cons]
      by_cases c : k = .free ∧ nm.lookup x = some .cell
      · simp [c.1, c.2, List.lookup]
      · rw [if_neg c]
        have : (decide (k = .free) && decide (nm.lookup x = some .cell)) = false := by
          rw [Bool.and_eq_false_iff]
          by_cases d : k = .free
          · right; simpa using fun z => c ⟨d, z⟩
          · left; simpa using d
        simp [this, List.lookup]
    · have b : (x == y) = false := by simpa using q
      simp only [List.lookup, b] at h
      have ih := lookup_relabelN (nm := nm) h
      unfold relabelN at ih ⊢
      rw [List.map_cons]
      split
      · simp only [List.lookup, b]; exact ih
      · simp only [List.lookup, b]; exact ih
theorem cell_of_relabelN {nm : List (Str × NameKind)} {x : Str} : ∀ {names : List (Str × NameKind)}, (∀ y ∈ names, y.2 ≠ .cell) → (relabelN names nm).lookup x = some .cell → (x, NameKind.free) ∈ names
  | [], _, h => by cases h
  | (y, k') :: r, hc, h => by
    unfold relabelN at h
    rw [List.map_cons] at h
    by_cases q : x = y
    · subst q
      split at h
      · rename_i c
        simp only [Bool.and_eq_true, decide_eq_true_eq] at c
        rw [← c.1]; exact List.mem_cons_self
      · simp only [List.lookup, beq_self_eq_true] at h
        cases h
        exact absurd rfl (hc _ List.mem_cons_self)
    · have b : (x == y) = false := by simpa using q
      refine List.mem_cons_of_mem _ (cell_of_relabelN (nm := nm) (fun y hy => hc y (List.mem_cons_of_mem _ hy)) ?_)
      unfold relabelN
      split at h
      · simp only [List.lookup, b] at h; exact h
      · simp only [List.lookup, b] at h; exact h
structure ScOk (scope : Scope) (nm : List (Str × NameKind)) (x : Str) : Prop where
  kind : scope.kind = .function
  cell : ∀ y ∈ scope.names, y.2 ≠ .cell
  names : ∀ y ∈ scope.names, y.2 = .local → scope.names.lookup y.1 = some .local
  x : scope.names.lookup x = some .local
  free : ∀ y ∈ scope.names, y.2 = .free → nm.lookup y.1 = some .cell
theorem scOk_of {scope : Scope} (h : scOk scope nm x = true) : ScOk scope nm x := by
  unfold scOk at h
  simp only [Bool.and_eq_true, decide_eq_true_eq, List.all_eq_true, Bool.or_eq_true, Bool.not_eq_true', decide_eq_false_iff_not] at h
  obtain ⟨⟨⟨⟨h1, h2⟩, h3⟩, h4⟩, h5⟩ := h
  exact ⟨h1, h2, fun y hy e => (h3 y hy).resolve_left fun n => n e, h4, fun y hy e => (h5 y hy).resolve_left fun n => n e⟩
theorem Ent.comp (E : Ent K mg mb nm F) {scope : Scope} {cl : List (Str × Addr)} {C : Addr} (S : ScOk scope nm x) (hl : ∀ p ∈ scope.names, p.2 = .free → cl.lookup p.1 = F.env.cells.lookup p.1) : Ent K mg mb (relabelN scope.names nm) (cfx F scope cl C) where
  W := ⟨E.W.kx, E.W.g, E.W.b, E.W.bi, E.W.ns⟩
  kind := S.kind
  names := relabel_eq E
  gl := E.gl
  bi := E.bi
  loc := List.mem_cons_self
  cel y h := by
    have hm := cell_of_relabelN S.cell h
    obtain ⟨c, hc⟩ := E.cel y (S.free _ hm rfl)
    exact ⟨c, (hl _ hm rfl).trans hc⟩
theorem cap_of (E : Ent K mg mb nm F) {scope : Scope} {cl : List (Str × Addr)} (S : ScOk scope nm x) (hl : ∀ p ∈ scope.names, p.2 = .free → cl.lookup p.1 = F.env.cells.lookup p.1) : ∀ {cv : List (Str × Value)}, cvOk scope cv = true → Has st.vars cv → Cap st.vars F.env scope cl cv
  | [], _, _ => trivial
  | (y, u) :: r, h, ⟨h1, h2⟩ => by
    unfold cvOk at h
    rw [List.all_cons, Bool.and_eq_true, decide_eq_true_eq] at h
    have hy : scope.names.lookup y = some .free := h.1
    have hm : (y, NameKind.free) ∈ scope.names := lookup_mem hy
    refine ⟨⟨h1, E.cell (S.free _ hm rfl), ?_, hl _ hm rfl⟩, cap_of E S hl h.2 h2⟩
    rw [relabel_eq E, lookup_relabelN hy, if_pos ⟨rfl, S.free _ hm rfl⟩]
theorem E_listCore (E : Ent K mg mb nm F) {elt iter : Expr} {px : Pos} {ifs : List Expr} {scope : Scope} (cv : List (Str × Value)) (u : Option (Value → Sem Unit))
    (hsc : scOk scope nm x = true) (hcv : cvOk scope cv = true) (hs : ∀ x, foldedSetIterable iter F.env x = pure x) (hh : F.A.handled = none)
    (h : T prog w F (eval iter F.env) (fun v st₁ => Has st₁.vars cv ∧ ∃ xs k, ∃ I : Nat → List Value → AHeap → Prop, Src st₁ v xs k ∧ xs.length ≤ 1000000 ∧ I 0 [] st₁.H ∧ (∀ i acc H vs, I i acc H → Src ⟨vs, H⟩ v xs k) ∧
      (∀ i acc H, I i acc H → acc.length ≤ i) ∧
      (∀ F', Ent K mg mb (relabelN scope.names nm) F' → F'.toFc = F.toFc → ∀ i x' acc H, xs[i]? = some x' → I i acc H → T prog w F' (tests ifs F'.env) (fun ok st₂ => (ok = true → T prog w F' (eval elt F'.env) (fun y st₃ => Has st₃.vars cv ∧ I (i + 1) (acc ++ [y]) st₃.H) NoX st₂) ∧ (ok = false → Has st₂.vars cv ∧ I (i + 1) acc st₂.H)) NoX ⟨setV cv x x', H⟩) ∧
      (∀ acc H a H', I xs.length acc H → New H a (.list acc) H' → Handed prog w F Q X u a ⟨st₁.vars, H'⟩)) X st) :
    T prog w F (comprehension (.ListComp elt [⟨.Name x px, iter, ifs, 0⟩] scope pos) scope F.env (firstIterPos [⟨.Name x px, iter, ifs, 0⟩] pos) (newList []) false (eval iter F.env) u) Q X st := by
  have S := scOk_of hsc
  obtain ⟨cl, e1, e2, e3⟩ := clos_ok (env := F.env) (scope := scope) fun p hp hf => E.cel p.1 (S.free p hp hf)
  refine T_listCore cv u e1 e2 S.cell S.kind S.names S.x hs hh E.W.ns (h.post fun v st₁ hq => ?_)
  refine ex0and2 hq fun q0 y1_ => ?_; try clear hq; obtain ⟨xs, k, I, q1, q2, q3, q4, q5, q6, q7⟩ := y1_
  refine ⟨cap_of E S e3 hcv q0, exi3 xs k I ⟨q1, q2, q3, q4, q5, fun C i x' acc H hx hI => ?_, fun acc H a hI ha => q7 acc H a _ hI ⟨ha, rfl⟩⟩⟩
  refine (q6 (cfx F scope cl C) (E.comp S e3) rfl i x' acc H hx hI).post fun ok st₂ q => ?_
  cases ok with
  | true =>
    rw [if_pos rfl]
    exact (q.1 rfl).post fun y st₃ q => ⟨q.2, fun z u hz => Has.at q.1 z u hz⟩
  | false => exact ⟨(q.2 rfl).2, fun z u hz => Has.at (q.2 rfl).1 z u hz⟩
theorem E_dictCore (E : Ent K mg mb nm F) {kx vx iter : Expr} {px : Pos} {ifs : List Expr} {scope : Scope} (cv : List (Str × Value)) (u : Option (Value → Sem Unit))
    (hsc : scOk scope nm x = true) (hcv : cvOk scope cv = true) (hs : ∀ x, foldedSetIterable iter F.env x = pure x) (hh : F.A.handled = none)
    (h : T prog w F (eval iter F.env) (fun v st₁ => Has st₁.vars cv ∧ ∃ xs k, ∃ I : Nat → List (Int × Value) → AHeap → Prop, Src st₁ v xs k ∧ xs.length ≤ 1000000 ∧ I 0 [] st₁.H ∧ (∀ i acc H vs, I i acc H → Src ⟨vs, H⟩ v xs k) ∧
      (∀ i acc H, I i acc H → acc.length ≤ i) ∧
      (∀ F', Ent K mg mb (relabelN scope.names nm) F' → F'.toFc = F.toFc → ∀ i x' acc H, xs[i]? = some x' → I i acc H → T prog w F' (tests ifs F'.env) (fun ok st₂ => (ok = true → T prog w F' (eval kx F'.env) (fun kv st₃ => T prog w F' (eval vx F'.env) (fun y st₄ => ∃ q, kv = .int q 0 ∧ (∀ p ∈ acc, p.1 ≠ q) ∧ Has st₄.vars cv ∧ I (i + 1) (acc ++ [(q, y)]) st₄.H) NoX st₃) NoX st₂) ∧ (ok = false → Has st₂.vars cv ∧ I (i + 1) acc st₂.H)) NoX ⟨setV cv x x', H⟩) ∧
      (∀ acc H a n H', I xs.length acc H → New H a (.dict (dE (KI prog w) acc) n) H' → Handed prog w F Q X u a ⟨st₁.vars, H'⟩)) X st) :
    T prog w F (comprehension (.DictComp kx vx [⟨.Name x px, iter, ifs, 0⟩] scope pos) scope F.env (firstIterPos [⟨.Name x px, iter, ifs, 0⟩] pos) newDict false (eval iter F.env) u) Q X st := by
  have S := scOk_of hsc
  obtain ⟨cl, e1, e2, e3⟩ := clos_ok (env := F.env) (scope := scope) fun p hp hf => E.cel p.1 (S.free p hp hf)
  refine T_dictCore cv u e1 e2 S.cell S.kind S.names S.x hs hh E.W.ns (h.post fun v st₁ hq => ?_)
  refine ex0and2 hq fun q0 y1_ => ?_; try clear hq; obtain ⟨xs, k, I, q1, q2, q3, q4, q5, q6, q7⟩ := y1_
  refine ⟨cap_of E S e3 hcv q0, exi3 xs k I ⟨q1, q2, q3, q4, q5, fun C i x' acc H hx hI => ?_, fun acc H a n hI ha => q7 acc H a n _ hI ⟨ha, rfl⟩⟩⟩
  refine (q6 (cfx F scope cl C) (E.comp S e3) rfl i x' acc H hx hI).post fun ok st₂ q => ?_
  cases ok with
  | true =>
    rw [if_pos rfl]
    exact (q.1 rfl).post fun y st₃ q => q.post fun y st₄ ⟨k, q1, q2, q3, q4⟩ => ⟨k, q1, q2, q4, fun z u hz => Has.at q3 z u hz⟩
  | false => exact ⟨(q.2 rfl).2, fun z u hz => Has.at (q.2 rfl).1 z u hz⟩
theorem E_listComp {elt iter : Expr} {px : Pos} {ifs : List Expr} {scope : Scope}
    (h : T prog w F (comprehension (.ListComp elt [⟨.Name x px, iter, ifs, 0⟩] scope pos) scope F.env (firstIterPos [⟨.Name x px, iter, ifs, 0⟩] pos) (newList []) false (eval iter F.env) none) Q X st) :
    T prog w F (eval (.ListComp elt [⟨.Name x px, iter, ifs, 0⟩] scope pos) F.env) Q X st := T_listComp h
theorem swaps_list (E : Ent K mg mb nm F) {e : Expr} {g : List Comprehension} {sc : Scope} {p vp : Pos} {line : Nat} {b : Bool} (hb : (nm.lookup x == some .local && p.line == vp.line && !(sc.names.any fun q => q.1 == x && (q.2 == .local || q.2 == .cell))) = b) :
    swapsWith (.ListComp e g sc vp) (some (.Name x p)) line F.env = pure b := by
  have h1 : (F.env.blockKind == ScopeKind.function) = true := by unfold Env.blockKind; rw [E.kind]; rfl
  have h2 : F.env.kindOf x = nm.lookup x := by rw [Env.kindOf, E.names]
  unfold swapsWith
  subst hb
  simp only [h1, h2, Bool.true_and]
  rfl
end
end Mine
end
section
set_option maxRecDepth 100000
set_option Elab.async false
set_option linter.unusedVariables false
set_option maxHeartbeats 4000000
namespace Mine
open PySem PySem.W PySem.Calls PyProof.Rows PySem.SeqAt
section
variable {prog : Program} {w : World} {K : Frag} {mg mb : Str → Option Value} {nm : List (Str × NameKind)} {F : Fx} {st : St} {X : Value → List Value → St → Prop} {Q : Value → St → Prop} {pos : Pos} {x : Str} {v : Value}
noncomputable def isOwn (nm : List (Str × NameKind)) (x : Str) : Bool := nm.lookup x == some .local || nm.lookup x == some .cell
theorem E_store {Q : Unit → St → Prop} (E : Ent K mg mb nm F) (U : Fun F) (hk : isOwn nm x = true) (h : Q () ⟨setV st.vars x v, st.H⟩) : StoreE prog w F x v Q X st := by
  unfold isOwn at hk
  rw [Bool.or_eq_true, beq_iff_eq, beq_iff_eq] at hk
  rcases hk with hk | hk
  · exact E_storeL E hk h
  · exact E_storeC E U hk h
theorem E_for (E : Ent K mg mb nm F) (U : Fun F) (hh : F.A.handled = none) {iter : Expr} {p : Pos} {body orelse : List Stmt} {Q : Flow → St → Prop} (hs : ∀ x, foldedSetIterable iter F.env x = pure x) (hk : isOwn nm x = true)
    (h : T prog w F (eval iter F.env) (fun v st₁ => ∃ xs k, ∃ J : Nat → List (Str × Value) → AHeap → Prop, Src st₁ v xs k ∧ (∃ b, Has st₁.vars b ∧ J 0 b st₁.H) ∧ (∀ i b H vs, J i b H → Src ⟨vs, H⟩ v xs k) ∧
      (∀ i x₀ b H, xs[i]? = some x₀ → J i b H → AbsT prog w F (execs body F.env) (fun f st₃ => match f with
        | .next => ∃ b', Has st₃.vars b' ∧ J (i + 1) b' st₃.H | .cont => ∃ b', Has st₃.vars b' ∧ J (i + 1) b' st₃.H | .brk => Q .next st₃ | .ret v => Q (.ret v) st₃) X ⟨setV b x x₀, H⟩) ∧
      (∀ b H, J xs.length b H → T prog w F (execs orelse F.env) Q X ⟨b, H⟩)) X st) :
    T prog w F (exec (.For (.Name x p) iter body orelse pos) F.env) Q X st := by
  obtain ⟨outer, L, R⟩ := U.U
  refine T_for R hh E.W.ns hs (fun _ => rfl) (h.post fun v st₁ hq => ?_)
  refine ex3and5 hq fun xs k J q1 q2 q3 q4 q5 => ?_; try clear hq
  refine exi3 xs k (fun i st' => ∃ b, Has st'.vars b ∧ J i b st'.H) ⟨q1, q2, fun i st' ⟨b, hb, hJ⟩ => q3 i b st'.H st'.vars hJ, ?_, ?_⟩
  · rintro i x₀ st' x' hx ⟨b, hb, hJ⟩ hx'
    refine T.keepVars b hb (T_tName ?_)
    have hst : StoreE prog w F x x₀ (fun _ st₂ => st₂ = ⟨setV b x x₀, st'.H⟩) X ⟨b, st'.H⟩ := E_store E U hk rfl
    refine (hst x' hx').post fun _ st₂ e => ?_
    subst e
    exact (q4 i x₀ b st'.H hx hJ).out
  · rintro st' ⟨b, hb, hJ⟩
    exact T.keepVars b hb (q5 b st'.H hJ)
theorem E_while (U : Fun F) {test : Expr} {body orelse : List Stmt} {Q : Flow → St → Prop} (J : Nat → List (Str × Value) → AHeap → Prop) (n : Nat) (h0 : ∃ b, Has st.vars b ∧ J n b st.H)
    (hstep : ∀ n b H, J n b H → T prog w F (isTrue test F.env (eval test F.env)) (fun c st₂ => (c = true → AbsT prog w F (execs body F.env) (fun f st₃ => match f with
        | .next => ∃ m b', m < n ∧ Has st₃.vars b' ∧ J m b' st₃.H | .cont => ∃ m b', m < n ∧ Has st₃.vars b' ∧ J m b' st₃.H | .brk => Q .next st₃ | .ret v => Q (.ret v) st₃) X st₂) ∧ (c = false → T prog w F (execs orelse F.env) Q X st₂)) X ⟨b, H⟩) :
    T prog w F (exec (.While test body orelse pos) F.env) Q X st := by
  obtain ⟨outer, L, R⟩ := U.U
  refine T_while2 R (fun n st' => ∃ b, Has st'.vars b ∧ J n b st'.H) n h0 fun n st' ⟨b, hb, hJ⟩ => ?_
  refine T.keepVars b hb ((hstep n b st'.H hJ).post fun c st₂ q => ⟨fun e => (q.1 e).out.post fun f st₃ q => ?_, q.2⟩)
  cases f with
  | next => obtain ⟨m, b', h1, h2⟩ := q; exact ⟨m, h1, b', h2⟩
  | cont => obtain ⟨m, b', h1, h2⟩ := q; exact ⟨m, h1, b', h2⟩
  | brk => exact q
  | ret v => exact q
theorem E_try (U : Fun F) {body orelse : List Stmt} {h₀ : ExceptHandler} {hs : List ExceptHandler} {Q : Flow → St → Prop}
    (h : T prog w F (execs body F.env) (fun f st₁ => match f with | .next => T prog w F (execs orelse F.env) Q X st₁ | f => Q f st₁) (fun cls args st₁ => Caught prog w F (h₀ :: hs) cls args Q X st₁) st) :
    T prog w F (exec (.Try body (h₀ :: hs) orelse [] pos) F.env) Q X st := by
  obtain ⟨outer, L, R⟩ := U.U
  exact T_try R h
theorem Ent.mark (E : Ent K mg mb nm F) (ea : Addr) : Ent K mg mb nm (marked F ea) := ⟨⟨E.W.kx, E.W.g, E.W.b, E.W.bi, E.W.ns⟩, E.kind, E.names, E.gl, E.bi, E.loc, E.cel⟩
theorem A_inst {C d y : Addr} {es : List (Str × Value)} {attr : Option Value} (E : Ent K mg mb nm F) (hx : st.H y = some (.inst C d)) (hd : st.H d = some (.ns es)) (hl : es.lookup x = some v) (hv : handedIn v = true)
    (hg : plainGet K C x = true) (hh : hasDictIn K C = true) (ha : findIn K (.ref C) x = some attr) (hn : noGet K attr = true) (h : Q v st) : AttrE prog w F (.ref y) x Q X st := fun o ho => by
  rw [er_ref ho]; exact T_getA E.W.kx hx hd hl hv hg hh ha hn h
theorem A_slots {C d y : Addr} {es : List (Str × Value)} {vs : List (Option Value)} {p i : Nat} (E : Ent K mg mb nm F) (hx : st.H y = some (.slots C d vs)) (hd : st.H d = some (.ns es)) (hl : vs[i]? = some (some v)) (hv : handedIn v = true)
    (hg : plainGet K C x = true) (hc : isClsIn K C = true) (ha : findIn K (.ref C) x = some (some (.ref p))) (hn : specialIn K (.ref p) "__get__" = some (some (.builtin "member_descriptor.__get__"))) (ht : takesIn K (.ref p) = some true)
    (hp : slotIn K p C = some i) (h : Q v st) : AttrE prog w F (.ref y) x Q X st := fun o ho => by
  rw [er_ref ho]; exact T_getS E.W.kx hx hd hl hv hg hc ha hn ht hp h
theorem A_next {it l : Addr} {i : Nat} (hi : st.H it = some (.iter l i)) (h : ∀ a H', New st.H a (.bm "method-wrapper" (.builtin "list_iterator.__next__") (.ref it)) H' → Q (.ref a) ⟨st.vars, H'⟩) : AttrE prog w F (.ref it) "__next__" Q X st := fun o ho => by
  rw [er_ref ho]; exact T_getNext hi fun a ha => h a _ ⟨ha, rfl⟩
theorem S_inst {C d y : Addr} {es : List (Str × Value)} {Q : Unit → St → Prop} (E : Ent K mg mb nm F) (hx : st.H y = some (.inst C d)) (hd : st.H d = some (.ns es)) (hz : es.length < 1000)
    (hs : findIn K (.ref C) "__setattr__" = some (some (.builtin "object.__setattr__"))) (hp : plainOver K C = true) (ht : takerIn K C x = some none) (hh : hasDictIn K C = true)
    (h : ∀ H', H' = upd st.H d (.ns (setV es x v)) → Q () ⟨st.vars, H'⟩) : SetAttrE prog w F (.ref y) x v Q X st := fun v' o hv ho => by
  rw [er_ref ho]; exact T_setA E.W.kx hx hd hv hz hs hp ht hh (h _ rfl)
theorem S_slots {C d y : Addr} {es : List (Str × Value)} {vs : List (Option Value)} {p i : Nat} {Q : Unit → St → Prop} (E : Ent K mg mb nm F) (hx : st.H y = some (.slots C d vs)) (hd : st.H d = some (.ns es))
    (hs : findIn K (.ref C) "__setattr__" = some (some (.builtin "object.__setattr__"))) (hp : plainOver K C = true) (ht : takerIn K C x = some (some (.ref p))) (hT : typeIn K (.ref p) = some (.type "member_descriptor")) (hi : slotIn K p C = some i) (hz : i < 1000)
    (h : ∀ H', H' = upd st.H y (.slots C d (setSlot vs i v)) → Q () ⟨st.vars, H'⟩) : SetAttrE prog w F (.ref y) x v Q X st := fun v' o hv ho => by
  rw [er_ref ho]; exact T_setS E.W.kx hx hd hv hs hp ht hT hi hz (h _ rfl)
theorem M_own {C d y f : Addr} {es : List (Str × Value)} {Q : Value → List Value → St → Prop} (E : Ent K mg mb nm F) (hx : st.H y = some (.inst C d)) (hd : st.H d = some (.ns es)) (hl : es.lookup x = none)
    (hg : plainGet K C x = true) (hf : findIn K (.ref C) x = some (some (.ref f))) (ht : isFn K (.ref f) = true) (h : Q (.ref f) [.ref y] st) : MethE prog w F (.ref y) x Q X st := fun pl o ho => by
  rw [er_ref ho]; exact T_method E.W.kx hx hd hl hg hf ht h
theorem M_list {a : Addr} {id : String} {xs : List Value} {Q : Value → List Value → St → Prop} (slot : Slot "list" x id) (hty : typeOf (.builtin id) = pure (.type "method_descriptor")) (ha : st.H a = some (.list xs)) (h : Q (.builtin id) [.ref a] st) : MethE prog w F (.ref a) x Q X st := fun pl o ho => by
  rw [er_ref ho]; exact T_methL ha slot hty h
theorem M_dict {a : Addr} {id : String} {es : List (Value × Value)} {n : Nat} {Q : Value → List Value → St → Prop} (slot : Slot "dict" x id) (hty : typeOf (.builtin id) = pure (.type "method_descriptor")) (ha : st.H a = some (.dict es n)) (h : Q (.builtin id) [.ref a] st) : MethE prog w F (.ref a) x Q X st := fun pl o ho => by
  rw [er_ref ho]; exact T_methD ha slot hty h
theorem M_append {a : Addr} {xs : List Value} {Q : Value → List Value → St → Prop} (ha : st.H a = some (.list xs)) (h : Q (.builtin "list.append") [.ref a] st) : MethE prog w F (.ref a) "append" Q X st := M_list PySem.F.slot_list_append PySem.F.type_list_append ha h
theorem M_clear {a : Addr} {xs : List Value} {Q : Value → List Value → St → Prop} (ha : st.H a = some (.list xs)) (h : Q (.builtin "list.clear") [.ref a] st) : MethE prog w F (.ref a) "clear" Q X st := M_list PySem.F.slot_list_clear PySem.F.type_list_clear ha h
theorem M_dget {a : Addr} {es : List (Value × Value)} {n : Nat} {Q : Value → List Value → St → Prop} (ha : st.H a = some (.dict es n)) (h : Q (.builtin "dict.get") [.ref a] st) : MethE prog w F (.ref a) "get" Q X st := M_dict PySem.F.slot_dict_get PySem.F.type_dict_get ha h
theorem M_values {a : Addr} {es : List (Value × Value)} {n : Nat} {Q : Value → List Value → St → Prop} (ha : st.H a = some (.dict es n)) (h : Q (.builtin "dict.values") [.ref a] st) : MethE prog w F (.ref a) "values" Q X st := M_dict PySem.F.slot_dict_values PySem.F.type_dict_values ha h
theorem M_sadd {a : Addr} {ks : List Int} {Q : Value → List Value → St → Prop} (ha : st.H a = some (.iset ks)) (hn : ks.length ≤ 1000) (h : Q (.builtin "set.add") [.ref a] st) : MethE prog w F (.ref a) "add" Q X st := fun pl o ho => by
  rw [er_ref ho]; exact T_methS ha hn h
theorem C_code {f : Value} {args : List Value} (h : Calls prog w F.toFc f args st.H (fun v H' => Q v ⟨st.vars, H'⟩) (fun c a H' => X c a ⟨st.vars, H'⟩)) : CallE prog w F f args Q X st := fun vs hv => T_code hv h
theorem C_append {l : Addr} {xs : List Value} (hl : st.H l = some (.list xs)) (hn : xs.length ≤ 1000000) (h : ∀ H', H' = upd st.H l (.list (xs ++ [v])) → Q .none ⟨st.vars, H'⟩) : CallE prog w F (.builtin "list.append") [.ref l, v] Q X st := fun vs hv => by
  refine ex2and3 (two_of hv) fun a b y2_ ha hb => ?_; obtain rfl := y2_
  rw [er_ref ha]; exact T_append hl hb hn (h _ rfl)
theorem C_clear {l : Addr} {xs : List Value} (hl : st.H l = some (.list xs)) (hn : xs.length ≤ 1000000) (h : ∀ H', H' = upd st.H l (.list []) → Q .none ⟨st.vars, H'⟩) : CallE prog w F (.builtin "list.clear") [.ref l] Q X st := fun vs hv => by
  obtain ⟨a, rfl, ha⟩ := one_of hv
  rw [er_ref ha]; exact T_clear hl hn (h _ rfl)
theorem C_dget {κ : Type} [DecidableEq κ] (B : KeyBy prog w κ) {d : Addr} {n : Nat} {kvs : List (κ × Value)} {k : κ} (E : Ent K mg mb nm F) (hd : st.H d = some (.dict (dE B kvs) n)) (h : Q ((valueAt kvs k).getD .none) st) : CallE prog w F (.builtin "dict.get") [.ref d, B.val k] Q X st := fun vs hv => by
  refine ex2and3 (two_of hv) fun a b y2_ ha hb => ?_; obtain rfl := y2_
  rw [er_ref ha]; exact T_dget B E.W.ns hb hd h
theorem C_values {κ : Type} [DecidableEq κ] (B : KeyBy prog w κ) {d : Addr} {n : Nat} {kvs : List (κ × Value)} (E : Ent K mg mb nm F) (hd : st.H d = some (.dict (dE B kvs) n)) (h : ∀ a H', New st.H a (.vals d) H' → Q (.ref a) ⟨st.vars, H'⟩) : CallE prog w F (.builtin "dict.values") [.ref d] Q X st := fun vs hv => by
  obtain ⟨a, rfl, ha⟩ := one_of hv
  rw [er_ref ha]; exact T_values B E.W.ns hd fun a ha => h a _ ⟨ha, rfl⟩
theorem C_sadd {d : Addr} {ks : List Int} {k : Int} (hd : st.H d = some (.iset ks)) (hnew : k ∉ ks) (hn : ks.length ≤ 1000) (h : ∀ H', H' = upd st.H d (.iset (ks ++ [k])) → Q .none ⟨st.vars, H'⟩) : CallE prog w F (.builtin "set.add") [.ref d, vI k] Q X st := fun vs hv => by
  refine ex2and3 (two_of hv) fun a b y2_ ha hb => ?_; obtain rfl := y2_
  rw [er_ref ha]; exact T_setAdd (KI prog w) hb hd hnew hn (h _ rfl)
theorem C_setNew (h : ∀ a H', New st.H a (.iset []) H' → Q (.ref a) ⟨st.vars, H'⟩) : CallE prog w F (.type "set") [] Q X st := fun vs hv => by
  rw [none_of hv]; exact T_setNew (KI prog w) fun a ha => h a _ ⟨ha, rfl⟩
theorem C_len {l : Addr} {xs : List Value} (hl : st.H l = some (.list xs)) (hn : xs.length ≤ 1000000) (h : Q (vI xs.length) st) : CallE prog w F (.builtin "len") [.ref l] Q X st := fun vs hv => by
  obtain ⟨a, rfl, ha⟩ := one_of hv
  rw [er_ref ha]; exact T_len hl hn h
theorem C_lenT {l : Addr} {xs : List Value} (hl : st.H l = some (.tup xs)) (hn : xs.length ≤ 1000000) (h : Q (vI xs.length) st) : CallE prog w F (.builtin "len") [.ref l] Q X st := fun vs hv => by
  obtain ⟨a, rfl, ha⟩ := one_of hv
  rw [er_ref ha]; exact T_lenT hl hn h
theorem C_lenD {κ : Type} [DecidableEq κ] (B : KeyBy prog w κ) {d : Addr} {n : Nat} {kvs : List (κ × Value)} (E : Ent K mg mb nm F) (hd : st.H d = some (.dict (dE B kvs) n)) (hn : kvs.length ≤ 1000000) (h : Q (vI kvs.length) st) : CallE prog w F (.builtin "len") [.ref d] Q X st := fun vs hv => by
  obtain ⟨a, rfl, ha⟩ := one_of hv
  rw [er_ref ha]
  intro s R
  obtain ⟨kvs', hm, e⟩ := dict_by B R.1 hd
  have hl : kvs'.length = kvs.length := by rw [← e, List.length_map]
  refine call_len_dict (notSys R.1 E.W.ns (by rw [hd]; exact nofun)) hm.dictOf (by rw [hl]; omega) ?_
  obtain ⟨a1, a2⟩ := R.hup (tk := s.toks) fun _ _ e => e
  rw [hl]
  exact ⟨st, R.toks, .grow _ _ fun _ _ e => e, h⟩
theorem C_range {n : Int} (h : ∀ a H', New st.H a (.rng 0 n) H' → Q (.ref a) ⟨st.vars, H'⟩) : CallE prog w F (.type "range") [vI n] Q X st := fun vs hv => by
  obtain ⟨a, rfl, ha⟩ := one_of hv
  exact T_range ha fun a ha => h a _ ⟨ha, rfl⟩
theorem C_sum {l : Addr} {ns : List Int} (hh : F.A.handled = none) (hl : st.H l = some (.list (nums ns))) (h : Q (vI ns.sum) st) : CallE prog w F (.builtin "sum") [.ref l] Q X st := fun vs hv => by
  obtain ⟨a, rfl, ha⟩ := one_of hv
  rw [er_ref ha]; exact T_sum hh hl h
theorem C_sorted {l : Addr} {ns : List Int} (hl : st.H l = some (.list (nums ns)) ∨ st.H l = some (.tup (nums ns))) (h64 : ns.length < 64) (h : ∀ a ns' H', New st.H a (.list (nums ns')) H' → ns'.Perm ns → ns'.Pairwise (· ≤ ·) → Q (.ref a) ⟨st.vars, H'⟩) : CallE prog w F (.builtin "sorted") [.ref l] Q X st := fun vs hv => by
  obtain ⟨a, rfl, ha⟩ := one_of hv
  rw [er_ref ha]; exact T_sorted hl h64 fun a ns' ha h1 h2 => h a ns' _ ⟨ha, rfl⟩ h1 h2
theorem C_tuple {l : Addr} {xs : List Value} (hl : st.H l = some (.list xs)) (hn : xs.length ≤ 1000000) (h : ∀ a H', New st.H a (.tup xs) H' → Q (.ref a) ⟨st.vars, H'⟩) : CallE prog w F (.type "tuple") [.ref l] Q X st := fun vs hv => by
  obtain ⟨a, rfl, ha⟩ := one_of hv
  rw [er_ref ha]; exact T_tupleOf hl hn fun a ha => h a _ ⟨ha, rfl⟩
theorem C_typeL {l : Addr} {xs : List Value} (hl : st.H l = some (.list xs)) (h : Q (.type "list") st) : CallE prog w F (.type "type") [.ref l] Q X st := fun vs hv => by
  obtain ⟨a, rfl, ha⟩ := one_of hv
  rw [er_ref ha]; exact T_typeL hl h
theorem C_strI {i : Int} (hn : i.natAbs < 2 ^ 40) (h : Q (vS (Str.ofString (toString i))) st) : CallE prog w F (.type "str") [vI i] Q X st := fun vs hv => by
  obtain ⟨a, rfl, ha⟩ := one_of hv
  exact T_strI ha hn h
theorem C_strExc {ea ta : Addr} {Xc n : String} {m : Str} (FX : ExcStrFacts Xc n) (he : st.H ea = some (.exc (.type Xc) ta)) (hta : st.H ta = some (.args [vS m])) (hu : F.A.units < 9000) (h : Q (vS m) st) : CallE prog w F (.type "str") [.ref ea] Q X st := fun vs hv => by
  obtain ⟨a, rfl, ha⟩ := one_of hv
  rw [er_ref ha]; exact T_strExc FX he hta hu h
theorem C_iterL {l : Addr} {xs : List Value} (E : Ent K mg mb nm F) (hl : st.H l = some (.list xs)) (h : ∀ a H', New st.H a (.iter l 0) H' → Q (.ref a) ⟨st.vars, H'⟩) : CallE prog w F (.builtin "iter") [.ref l] Q X st := fun vs hv => by
  obtain ⟨a, rfl, ha⟩ := one_of hv
  rw [er_ref ha]; exact T_iterL E.W.ns hl fun a ha => h a _ ⟨ha, rfl⟩
theorem C_nextIt {b it l : Addr} {i : Nat} {xs : List Value} (hh : F.A.handled = none) (hb : st.H b = some (.bm "method-wrapper" (.builtin "list_iterator.__next__") (.ref it))) (hi : st.H it = some (.iter l i)) (hl : st.H l = some (.list xs))
    (hsome : ∀ x, xs[i]? = some x → ∀ H', H' = upd st.H it (.iter l (i + 1)) → Q x ⟨st.vars, H'⟩) (hnone : xs[i]? = none → ∀ H', H' = del st.H it → X (.type "StopIteration") [] ⟨st.vars, H'⟩) : CallE prog w F (.ref b) [] Q X st := fun vs hv => by
  rw [none_of hv]; exact T_callNext hh hb hi hl (fun x hx => hsome x hx _ rfl) (fun hx => hnone hx _ rfl)
theorem E_pop {o : Expr} {apos : Pos} {pl : Sem Bool} (he : eval (.Call (.Attribute o "pop" apos) [] [] pos) F.env = methTree o "pop" apos pos [] F.env pl)
    (h : T prog w F (eval o F.env) (fun ov st₁ => ∃ l xs y, ov = .ref l ∧ st₁.H l = some (.list (xs ++ [y])) ∧ xs.length ≤ 100000 ∧ ∀ H', H' = upd st₁.H l (.list xs) → Q y ⟨st₁.vars, H'⟩) X st) : T prog w F (eval (.Call (.Attribute o "pop" apos) [] [] pos) F.env) Q X st :=
  T_callMeth (trees := []) rfl he (h.post fun ov st₁ hz ov' ho => by
    refine ex3and4 hz fun l xs y e1 e2 e3 q => ?_
    subst e1
    rw [er_ref ho]
    refine T_methL e2 PySem.F.slot_list_pop PySem.F.type_list_pop fun f' first' hf hx => ?_
    obtain ⟨a, rfl, ha⟩ := one_of hx
    rw [er_builtin hf, er_ref ha]
    exact T_pop e2 e3 (q _ rfl))
theorem B_addI {a b : Int} (h : Q (vI (a + b)) st) : BinE prog w F .Add (vI a) (vI b) Q X st := fun _ _ ha hb => T_addI ha hb h
theorem B_subI {a b : Int} (h : Q (vI (a - b)) st) : BinE prog w F .Sub (vI a) (vI b) Q X st := fun _ _ ha hb => T_subI ha hb h
theorem B_mulI {a b : Int} (hm : IntMulOk a b) (h : Q (vI (a * b)) st) : BinE prog w F .Mult (vI a) (vI b) Q X st := fun _ _ ha hb => T_mulI ha hb hm h
theorem B_divI {a b : Int} (h0 : b ≠ 0) (hs : b.natAbs < 1073741824) (h : Q (vI (a.fdiv b)) st) : BinE prog w F .FloorDiv (vI a) (vI b) Q X st := fun _ _ ha hb => T_divI ha hb h0 hs h
theorem B_modI {a b : Int} (h0 : b ≠ 0) (h : Q (vI (a.fmod b)) st) : BinE prog w F .Mod (vI a) (vI b) Q X st := fun _ _ ha hb => T_modI ha hb h0 h
theorem B_powI {a b : Int} (h0 : 0 ≤ b) (hsz : (Builtin.Int.intBits a : Int) * b ≤ 2 ^ 27) (h : Q (vI (a ^ b.toNat)) st) : BinE prog w F .Pow (vI a) (vI b) Q X st := fun _ _ ha hb => T_powI ha hb h0 hsz h
theorem B_addL {l b : Addr} {xs ys : List Value} (hl : st.H l = some (.list xs)) (hb : st.H b = some (.list ys)) (hn : xs.length + ys.length ≤ 1000000) (h : ∀ c H', New st.H c (.list (xs ++ ys)) H' → Q (.ref c) ⟨st.vars, H'⟩) : BinE prog w F .Add (.ref l) (.ref b) Q X st := fun _ _ ha hb' => T_addL ha hb' hl hb hn fun c hc => h c _ ⟨hc, rfl⟩
theorem B_addS {x y : Str} (hn : x.length + y.length ≤ 100000) (h : Q (vS (x ++ y)) st) : BinE prog w F .Add (vS x) (vS y) Q X st := fun _ _ ha hb => T_addS ha hb hn h
theorem I_addI {a b : Int} (h : Q (vI (a + b)) st) : InpE prog w F .Add (vI a) (vI b) Q X st := fun _ _ ha hb => T_iaddI ha hb h
theorem I_subI {a b : Int} (h : Q (vI (a - b)) st) : InpE prog w F .Sub (vI a) (vI b) Q X st := fun _ _ ha hb => T_isubI ha hb h
theorem N_neg {a : Int} (h : Q (vI (-a)) st) : UnE prog w F .USub (vI a) Q X st := fun _ ha => T_negI ha h
theorem P_eqI {a b : Int} (h : Q (.bool (a == b)) st) : CmpE prog w F .Eq (vI a) (vI b) Q X st := fun _ _ ha hb => T_eqI ha hb h
theorem P_neI {a b : Int} (h : Q (.bool (a != b)) st) : CmpE prog w F .NotEq (vI a) (vI b) Q X st := fun _ _ ha hb => T_neI ha hb h
theorem P_ltI {a b : Int} (h : Q (.bool (decide (a < b))) st) : CmpE prog w F .Lt (vI a) (vI b) Q X st := fun _ _ ha hb => T_ltI ha hb h
theorem P_gtI {a b : Int} (h : Q (.bool (decide (a > b))) st) : CmpE prog w F .Gt (vI a) (vI b) Q X st := fun _ _ ha hb => T_gtI ha hb h
theorem P_geI {a b : Int} (h : Q (.bool (decide (a ≥ b))) st) : CmpE prog w F .GtE (vI a) (vI b) Q X st := fun _ _ ha hb => T_geI ha hb h
theorem P_isNone (h : Q (.bool (v == .none)) st) : CmpE prog w F .Is v .none Q X st := fun _ _ ha hb => T_isNone ha hb h
theorem P_isntNone (h : Q (.bool (!(v == .none))) st) : CmpE prog w F .IsNot v .none Q X st := fun _ _ ha hb => T_isntNone ha hb h
theorem P_isBB {t u : Bool} (h : Q (.bool (t == u)) st) : CmpE prog w F .Is (.bool t) (.bool u) Q X st := fun _ _ ha hb => T_isBB ha hb h
theorem P_isntTT {t u : String} (h : Q (.bool (!(Value.type t == Value.type u))) st) : CmpE prog w F .IsNot (.type t) (.type u) Q X st := fun _ _ ha hb => T_isntTT ha hb h
theorem P_eqD {da db : PyData} {a b : Value} (ha : Rd st.H da a) (hb : Rd st.H db b) (ca : da.canLay0 = true) (cb : db.canLay0 = true) (hu : F.A.units + min da.depth db.depth < cLine) (h : Q (.bool (PyData.eqv da db)) st) : CmpE prog w F .Eq a b Q X st := fun a' b' e1 e2 => T_eqD (by rw [e1]; exact ha) (by rw [e2]; exact hb) ca cb hu h
theorem P_neD {da db : PyData} {a b : Value} (ha : Rd st.H da a) (hb : Rd st.H db b) (ca : da.canLay0 = true) (cb : db.canLay0 = true) (hu : F.A.units + min da.depth db.depth < cLine) (h : Q (.bool (!PyData.eqv da db)) st) : CmpE prog w F .NotEq a b Q X st := fun a' b' e1 e2 => T_neD (by rw [e1]; exact ha) (by rw [e2]; exact hb) ca cb hu h
theorem P_inI {i : Int} {ns : List Int} {l : Addr} (hl : st.H l = some (.list (nums ns))) (hu : F.A.units < 9000) (h : Q (.bool (decide (i ∈ ns))) st) : CmpE prog w F .In (vI i) (.ref l) Q X st := fun _ _ ha hb => T_inI ha hb hl hu h
theorem P_notInI {i : Int} {ns : List Int} {l : Addr} (hl : st.H l = some (.list (nums ns))) (hu : F.A.units < 9000) (h : Q (.bool (!decide (i ∈ ns))) st) : CmpE prog w F .NotIn (vI i) (.ref l) Q X st := fun _ _ ha hb => T_notInI ha hb hl hu h
theorem P_inD {d : Addr} {n : Nat} {kvs : List (Int × Value)} {k : Int} (E : Ent K mg mb nm F) (hd : st.H d = some (.dict (dE (KI prog w) kvs) n)) (h : Q (.bool (valueAt kvs k).isSome) st) : CmpE prog w F .In (vI k) (.ref d) Q X st := fun _ _ ha hb => T_inDict (KI prog w) E.W.ns ha hb hd h
theorem P_notInD {d : Addr} {n : Nat} {kvs : List (Int × Value)} {k : Int} (E : Ent K mg mb nm F) (hd : st.H d = some (.dict (dE (KI prog w) kvs) n)) (h : Q (.bool (!(valueAt kvs k).isSome)) st) : CmpE prog w F .NotIn (vI k) (.ref d) Q X st := fun _ _ ha hb => T_notInDict (KI prog w) E.W.ns ha hb hd h
theorem P_inS {d : Addr} {ks : List Int} {k : Int} (hd : st.H d = some (.iset ks)) (hn : ks.length ≤ 1000) (h : Q (.bool (decide (k ∈ ks))) st) : CmpE prog w F .In (vI k) (.ref d) Q X st := fun _ _ ha hb => T_inSet (KI prog w) ha hb hd hn h
theorem X_list {l : Addr} {xs : List Value} {i : Int} {y : Value} (hl : st.H l = some (.list xs)) (h0 : 0 ≤ i) (hx : xs[i.toNat]? = some y) (hn : i < 1000000) (h : Q y st) : ItemE prog w F (.ref l) (vI i) Q X st := fun _ _ ha hb => T_itemL ha hb hl h0 hx hn h
theorem X_last {l : Addr} {xs : List Value} {y : Value} (hl : st.H l = some (.list (xs ++ [y]))) (hn : xs.length < 1000000) (h : Q y st) : ItemE prog w F (.ref l) (vI (-1)) Q X st := fun _ _ ha hb => T_itemLast ha hb hl hn h
theorem X_dict {d : Addr} {n : Nat} {kvs : List (Int × Value)} {k : Int} (hd : st.H d = some (.dict (dE (KI prog w) kvs) n)) (hv : valueAt kvs k = some v) (h : Q v st) : ItemE prog w F (.ref d) (vI k) Q X st := fun _ _ ha hb => T_getD (KI prog w) ha hb hd hv h
theorem Y_dict {d : Addr} {n : Nat} {kvs : List (Int × Value)} {k : Int} {Q : Unit → St → Prop} (hd : st.H d = some (.dict (dE (KI prog w) kvs) n)) (hn : kvs.length ≤ 1000000) (h : ∀ n' H', H' = upd st.H d (.dict (dE (KI prog w) (stored kvs k v)) n') → Q () ⟨st.vars, H'⟩) : SetItemE prog w F (.ref d) (vI k) v Q X st := fun _ _ _ ha hb hv => T_setD (KI prog w) ha hb hv hd hn fun n' => h n' _ rfl
theorem Z_dict {d : Addr} {n : Nat} {kvs : List (Int × Value)} {k : Int} {Q : Unit → St → Prop} (hd : st.H d = some (.dict (dE (KI prog w) kvs) n)) (hv : (valueAt kvs k).isSome = true) (hn : kvs.length ≤ 1000000) (h : ∀ n' H', H' = upd st.H d (.dict (dE (KI prog w) (without kvs k)) n') → Q () ⟨st.vars, H'⟩) : DelItemE prog w F (.ref d) (vI k) Q X st := fun _ _ ha hb => T_delD (KI prog w) ha hb hd hv hn fun n' => h n' _ rfl
theorem U_bool {c : Bool} {Q : Bool → St → Prop} (h : Q c st) : TruthE prog w F (.bool c) Q X st := fun _ ha => T_truthB ha h
theorem U_list {l : Addr} {xs : List Value} {Q : Bool → St → Prop} (hl : st.H l = some (.list xs)) (hn : xs.length ≤ 1000000) (h : Q (!xs.isEmpty) st) : TruthE prog w F (.ref l) Q X st := fun _ ha => T_truthL ha hl hn h
theorem U_none {Q : Bool → St → Prop} (h : Q false st) : TruthE prog w F .none Q X st := fun _ ha => T_truthN ha h
end
end Mine
end
section
set_option maxRecDepth 100000
set_option Elab.async false
set_option linter.unusedVariables false
set_option maxHeartbeats 4000000
namespace Mine
open PySem PySem.W PySem.Calls PyProof.Rows PySem.SeqAt
section
variable {prog : Program} {w : World} {K : Frag} {mg mb : Str → Option Value}
theorem fnFrame {F : Fc} {n : Nat} {f : Addr} {fd : FuncData} {body : List Stmt} {nm : List (Str × NameKind)} (W : Wld K F mg mb) (O : F.Ok (n + 1)) (D : FdOk F.base f fd body) (hg : fd.globals = mainGlobals) (hbi : fd.builtins = builtinsNs) (hnm : fd.scope.names = nm) (L : Addr) :
    Ent K mg mb nm (ffx F f fd L) ∧ Fun (ffx F f fd L) ∧ (ffx F f fd L).toFc.Ok n := by
  refine ⟨⟨W.ffx, D.kind, hnm, hg, hbi, List.mem_cons_self, fun x hx => ?_⟩, ⟨⟨_, _, ffx_runs O f fd L⟩, fun x c hc => ?_⟩, ffx_ok O f fd L⟩
  · subst hnm
    exact Option.isSome_iff_exists.mp (cellsFrom_some' fd.scope.names (L + 1) [] hx)
  · exact List.mem_cons_of_mem _ (List.mem_map.mpr ⟨_, lookup_mem hc, rfl⟩)
theorem Calls.ent {F : Fc} {n : Nat} {f : Addr} {fd : FuncData} {body : List Stmt} {args : List Value} {names : List Str} {nm : List (Str × NameKind)} {H : AHeap} {Q : Value → AHeap → Prop} {X : Value → List Value → AHeap → Prop} (W : Wld K F mg mb) (O : F.Ok (n + 1)) (D : FdOk F.base f fd body)
    (hb : ∀ args', args'.map er = args → bindArgs fd ⟨args', []⟩ = Pure.pure (names.zip args')) (hn : names.Nodup) (hk : (names.all fun x => fd.scope.names.lookup x == some .local || fd.scope.names.lookup x == some .cell) = true)
    (hg : fd.globals = mainGlobals) (hbi : fd.builtins = builtinsNs) (hnm : fd.scope.names = nm)
    (h : ∀ F', Ent K mg mb nm F' → Fun F' → F'.toFc.Ok n → AbsT prog w F' (execs body F'.env) (fun fl st' => Q (match fl with | .ret v => v | _ => .none) st'.H) (fun c a st' => X c a st'.H) ⟨names.zip args, H⟩) : Calls prog w F (.ref f) args H Q X :=
  Calls.fn D O hb hn hk fun L => let ⟨a, b, c⟩ := fnFrame W O D hg hbi hnm L; (h _ a b c).out
theorem Calls.entS {F : Fc} {n : Nat} {f : Addr} {fd : FuncData} {body : List Stmt} {lead rest : List Value} {names : List Str} {nm : Str} {nms : List (Str × NameKind)} {H : AHeap} {Q : Value → AHeap → Prop} {X : Value → List Value → AHeap → Prop} (W : Wld K F mg mb) (O : F.Ok (n + 1)) (D : FdOk F.base f fd body) (hr : rest.length ≤ 1000000)
    (hb : ∀ l r, l.map er = lead → bindArgs fd ⟨l ++ r, []⟩ = (newTuple r >>= fun t => Pure.pure (names.zip l ++ [(nm, t)]))) (hn : (names ++ [nm]).Nodup) (hk : ((names ++ [nm]).all fun x => fd.scope.names.lookup x == some .local || fd.scope.names.lookup x == some .cell) = true)
    (hg : fd.globals = mainGlobals) (hbi : fd.builtins = builtinsNs) (hnm : fd.scope.names = nms)
    (h : ∀ F', Ent K mg mb nms F' → Fun F' → F'.toFc.Ok n → ∀ a H', New H a (.tup rest) H' → AbsT prog w F' (execs body F'.env) (fun fl st' => Q (match fl with | .ret v => v | _ => .none) st'.H) (fun c a st' => X c a st'.H) ⟨names.zip lead ++ [(nm, .ref a)], H'⟩) : Calls prog w F (.ref f) (lead ++ rest) H Q X :=
  Calls.star D O hr hb hn hk fun L a ha => let ⟨x, y, z⟩ := fnFrame W O D hg hbi hnm L; (h _ x y z a _ ⟨ha, rfl⟩).out
variable {cN cT : Addr} {H H' : AHeap} {l r : List As} {S : Srt}
theorem Own.n2i (O : Own prog w cN cT H l) (m : As.srt S ∈ l) : ∃ n, H S.dn = some (.dict (dE (KI prog w) S.es) n) := (O.srtAt m).dn
theorem Own.sa (O : Own prog w cN cT H l) (m : As.srt S ∈ l) {x : Nd} (hx : x ∈ S.nds) : H x.sa = some (.list (nums x.succ)) := ((O.srtAt m).nds x hx).2.2
theorem Own.ready (O : Own prog w cN cT H l) (m : As.srt S ∈ l) {rd : Addr} {ns : List Int} (hr : S.ready = some (rd, ns)) : H rd = some (.list (nums ns)) := (O.srtAt m).rd _ _ hr
theorem Own.setNp (O : Own prog w cN cT H (.srt S :: l)) {x : Nd} (hx : x ∈ S.nds) {v : Int} (e : H' = upd H x.a (.slots cN x.d [some (vI x.key), some (vI v), some (.ref x.sa)])) : Own prog w cN cT H' (.srt (S.setNp x.key v) :: l) := by
  subst e
  obtain ⟨A, G⟩ := (O.srtAt List.mem_cons_self).setNp hx v
  exact O.turn A G
theorem Own.pushS (O : Own prog w cN cT H (.srt S :: l)) {x : Nd} (hx : x ∈ S.nds) {v : Int} (e : H' = upd H x.sa (.list (nums (x.succ ++ [v])))) : Own prog w cN cT H' (.srt (S.push x.key v) :: l) := by
  subst e
  obtain ⟨A, G⟩ := (O.srtAt List.mem_cons_self).push hx v
  exact O.turn A G
theorem Own.setReady (O : Own prog w cN cT H (.srt S :: l)) {rd : Addr} {ns ms : List Int} (hr : S.ready = some (rd, ns)) (e : H' = upd H rd (.list (nums ms))) : Own prog w cN cT H' (.srt { S with ready := some (rd, ms) } :: l) := by
  subst e
  obtain ⟨A, G⟩ := (O.srtAt List.mem_cons_self).setReady hr ms
  exact O.turn A G
theorem Own.setCount (O : Own prog w cN cT H (.srt S :: l)) {out fin : Int} (e : H' = upd H S.d (.ns ({ S with out := out, fin := fin } : Srt).ns)) : Own prog w cN cT H' (.srt { S with out := out, fin := fin } :: l) := by
  subst e
  have A := O.srtAt List.mem_cons_self
  refine O.turn (A.setNs S.ready out fin fun r ns h => ⟨A.rd r ns h, A.rs r ns h⟩) (A.growNs S.ready out fin _ fun r ns h => mem_foot.mpr (.inr (.inr (.inr ⟨ns, h⟩))))
theorem Own.giveReady {rd : Addr} {ns : List Int} (O : Own prog w cN cT H (.cell rd (.list (nums ns)) :: .srt S :: l)) (hr : S.ready = none) (e : H' = upd H S.d (.ns ({ S with ready := some (rd, ns) } : Srt).ns)) : Own prog w cN cT H' (.srt { S with ready := some (rd, ns) } :: l) := by
  subst e
  have A := O.srtAt (List.mem_cons_of_mem _ List.mem_cons_self)
  have hrd := O.get List.mem_cons_self
  have ap := List.pairwise_cons.mp O.ap
  have off := ap.1 _ List.mem_cons_self rd rfl
  have A' := A.setNs (some (rd, ns)) S.out S.fin fun r ms h => by
    cases h
    exact ⟨hrd, fun x hx q => off (.inr (.inl (mem_foot.mpr (.inr (.inr (.inl ⟨x, hx, .inr q.symm⟩))))))⟩
  have O1 := O.tail
  have ap1 := List.pairwise_cons.mp O1.ap
  have hd : ∀ c ∈ l, ¬ c.foot S.d := fun c hc f => ap1.1 _ (List.mem_map_of_mem hc) S.d (.inr (.inl (mem_foot.mpr (.inl rfl)))) f
  refine ⟨fun c hc => ?_, List.pairwise_cons.mpr ⟨fun f hf b hb hfb => ?_, ap1.2⟩⟩
  · rcases List.mem_cons.mp hc with rfl | hc
    · exact A'
    · refine As.move (O1.all c (List.mem_cons_of_mem _ hc)) fun b o f e => ?_
      rw [upd_ne (show b ≠ S.d from fun q => hd c hc (q ▸ f))]; exact e
  · obtain ⟨c, hc, rfl⟩ := List.mem_map.mp hf
    rcases hb with q | q | ⟨x, hx, q⟩
    · exact ap1.1 _ (List.mem_map_of_mem hc) b (.inl q) hfb
    · rcases mem_foot.mp q with q | q | q | ⟨ms, q⟩
      · exact ap1.1 _ (List.mem_map_of_mem hc) b (.inr (.inl (mem_foot.mpr (.inl q)))) hfb
      · exact ap1.1 _ (List.mem_map_of_mem hc) b (.inr (.inl (mem_foot.mpr (.inr (.inl q))))) hfb
      · exact ap1.1 _ (List.mem_map_of_mem hc) b (.inr (.inl (mem_foot.mpr (.inr (.inr (.inl q)))))) hfb
      · cases q
        exact ap.1 _ (List.mem_cons_of_mem _ (List.mem_map_of_mem hc)) rd rfl hfb
    · exact ap1.1 _ (List.mem_map_of_mem hc) b (.inr (.inr ⟨x, hx, q⟩)) hfb
end
section
variable {prog : Program} {w : World} {K : Frag} {mg mb : Str → Option Value} {nm : List (Str × NameKind)} {F : Fx} {st : St} {X : Value → List Value → St → Prop} {pos : Pos} {x : Str}
theorem E_forB (b : List (Str × Value)) (E : Ent K mg mb nm F) (U : Fun F) (hh : F.A.handled = none) {iter : Expr} {p : Pos} {body orelse : List Stmt} {Q : Flow → St → Prop} (hs : ∀ x, foldedSetIterable iter F.env x = pure x) (hk : isOwn nm x = true)
    (h : T prog w F (eval iter F.env) (fun v st₁ => ∃ xs k, ∃ J : Nat → AHeap → Prop, Src st₁ v xs k ∧ Has st₁.vars b ∧ J 0 st₁.H ∧ (∀ i H vs, J i H → Src ⟨vs, H⟩ v xs k) ∧
      (∀ i x₀ H, xs[i]? = some x₀ → J i H → AbsT prog w F (execs body F.env) (fun f st₃ => match f with
        | .next => Has st₃.vars b ∧ J (i + 1) st₃.H | .cont => Has st₃.vars b ∧ J (i + 1) st₃.H | .brk => Q .next st₃ | .ret v => Q (.ret v) st₃) X ⟨setV b x x₀, H⟩) ∧
      (∀ H, J xs.length H → T prog w F (execs orelse F.env) Q X ⟨b, H⟩)) X st) :
    T prog w F (exec (.For (.Name x p) iter body orelse pos) F.env) Q X st :=
  E_for E U hh hs hk (h.post fun v st₁ hq => by
    refine ex3and6 hq fun xs k J q1 q2 q3 q4 q5 q6 => ?_; try clear hq
    exact exi3 xs k (fun i b' H => b' = b ∧ J i H) ⟨q1, ⟨b, q2, rfl, q3⟩, fun i b' H vs hJ => q4 i H vs hJ.2, fun i x₀ b' H hx hJ => by
        obtain ⟨rfl, hJ⟩ := hJ
        refine (q5 i x₀ H hx hJ).mono fun f st₃ q => ?_
        cases f with
        | next => exact ⟨_, q.1, rfl, q.2⟩
        | cont => exact ⟨_, q.1, rfl, q.2⟩
        | brk => exact q
        | ret v => exact q, fun b' H hJ => by obtain ⟨rfl, hJ⟩ := hJ; exact q6 H hJ⟩)
end
end Mine
end
section
set_option maxRecDepth 100000
set_option Elab.async false
set_option linter.unusedVariables false
set_option maxHeartbeats 4000000
namespace Mine
open PySem PySem.W PySem.Calls PyProof.Rows PySem.SeqAt
noncomputable abbrev Own2 (prog : Program) (w : World) (H : AHeap) (l : List As) : Prop := Own prog w 40 137 H l
noncomputable abbrev K2 (w : World) : Frag := KF2 w.params
section
variable {prog : Program} {w : World} {mg mb : Str → Option Value} {nm : List (Str × NameKind)} {F : Fx} {st : St} {X : Value → List Value → St → Prop} {Q : Value → St → Prop} {l : List As} {S : Srt} {v : Value}
noncomputable def SAt (S : Srt) (a : Addr) (l : List As) : Prop := As.srt S ∈ l ∧ S.self = a
noncomputable def TAt (S : Srt) (a : Addr) (l r : List As) : Prop := Take (.srt S) l r ∧ S.self = a
variable {y : Addr}
theorem A_self {name : Str} (E : Ent (K2 w) mg mb nm F) (O : Own2 prog w st.H l) (m : SAt S y l) (hl : S.ns.lookup name = some v) (hv : handedIn v = true)
    (hg : plainGet (K2 w) 137 name = true) (ha : findIn (K2 w) (.ref 137) name = some none) (h : Q v st) : AttrE prog w F (.ref y) name Q X st := by
  obtain ⟨m, rfl⟩ := m
  exact A_inst E (O.srtAt m).self (O.srtAt m).ns hl hv hg (by rfl) ha (by rfl) h
theorem A_n2i (E : Ent (K2 w) mg mb nm F) (O : Own2 prog w st.H l) (m : SAt S y l) (h : Q (.ref S.dn) st) : AttrE prog w F (.ref y) "_node2info" Q X st := A_self E O m (by rfl) (by rfl) (by rfl) (by rfl) h
theorem A_rdN (E : Ent (K2 w) mg mb nm F) (O : Own2 prog w st.H l) (m : SAt S y l) (hr : S.ready = none) (h : Q .none st) : AttrE prog w F (.ref y) "_ready_nodes" Q X st :=
  A_self (v := S.rv) E O m (by rfl) (by unfold Srt.rv; rw [hr]; rfl) (by rfl) (by rfl) (by unfold Srt.rv; rw [hr]; exact h)
theorem A_rdS {r : Addr} {ns : List Int} (E : Ent (K2 w) mg mb nm F) (O : Own2 prog w st.H l) (m : SAt S y l) (hr : S.ready = some (r, ns)) (h : Q (.ref r) st) : AttrE prog w F (.ref y) "_ready_nodes" Q X st :=
  A_self (v := S.rv) E O m (by rfl) (by unfold Srt.rv; rw [hr]; rfl) (by rfl) (by rfl) (by unfold Srt.rv; rw [hr]; exact h)
theorem A_out (E : Ent (K2 w) mg mb nm F) (O : Own2 prog w st.H l) (m : SAt S y l) (h : Q (vI S.out) st) : AttrE prog w F (.ref y) "_npassedout" Q X st := A_self E O m (by rfl) (by rfl) (by rfl) (by rfl) h
theorem A_fin (E : Ent (K2 w) mg mb nm F) (O : Own2 prog w st.H l) (m : SAt S y l) (h : Q (vI S.fin) st) : AttrE prog w F (.ref y) "_nfinished" Q X st := A_self E O m (by rfl) (by rfl) (by rfl) (by rfl) h
theorem S_out {r : List As} {out : Int} {Q : Unit → St → Prop} (E : Ent (K2 w) mg mb nm F) (O : Own2 prog w st.H l) (t : TAt S y l r) (h : ∀ H', Own2 prog w H' (.srt { S with out := out } :: r) → Q () ⟨st.vars, H'⟩) : SetAttrE prog w F (.ref y) "_npassedout" (vI out) Q X st := by
  obtain ⟨t, rfl⟩ := t
  have A := (O.take t).srtAt List.mem_cons_self
  exact S_inst E A.self A.ns (show (4 : Nat) < 1000 by decide) (by rfl) (by rfl) (by rfl) (by rfl) fun H' e => h H' ((O.take t).setCount (fin := S.fin) (out := out) (e.trans rfl))
theorem S_fin {r : List As} {fin : Int} {Q : Unit → St → Prop} (E : Ent (K2 w) mg mb nm F) (O : Own2 prog w st.H l) (t : TAt S y l r) (h : ∀ H', Own2 prog w H' (.srt { S with fin := fin } :: r) → Q () ⟨st.vars, H'⟩) : SetAttrE prog w F (.ref y) "_nfinished" (vI fin) Q X st := by
  obtain ⟨t, rfl⟩ := t
  have A := (O.take t).srtAt List.mem_cons_self
  exact S_inst E A.self A.ns (show (4 : Nat) < 1000 by decide) (by rfl) (by rfl) (by rfl) (by rfl) fun H' e => h H' ((O.take t).setCount (fin := fin) (out := S.out) (e.trans rfl))
theorem S_rd {r : List As} {rd : Addr} {ns : List Int} {Q : Unit → St → Prop} (E : Ent (K2 w) mg mb nm F) (O : Own2 prog w st.H (.cell rd (.list (nums ns)) :: l)) (t : TAt S y l r) (hr : S.ready = none) (h : ∀ H', Own2 prog w H' (.srt { S with ready := some (rd, ns) } :: r) → Q () ⟨st.vars, H'⟩) : SetAttrE prog w F (.ref y) "_ready_nodes" (.ref rd) Q X st := by
  obtain ⟨t, rfl⟩ := t
  have O1 : Own2 prog w st.H (.cell rd (.list (nums ns)) :: .srt S :: r) := O.perm (t.perm.cons _)
  have A := O1.srtAt (List.mem_cons_of_mem _ List.mem_cons_self)
  exact S_inst E A.self A.ns (show (4 : Nat) < 1000 by decide) (by rfl) (by rfl) (by rfl) (by rfl) fun H' e => h H' (O1.giveReady hr (e.trans rfl))
theorem A_np {x : Nd} (E : Ent (K2 w) mg mb nm F) (hx : x ∈ S.nds) (O : Own2 prog w st.H l) (m : As.srt S ∈ l) (h : Q (vI x.np) st) : AttrE prog w F (.ref x.a) "npredecessors" Q X st :=
  have A := (O.srtAt m).nds x hx
  A_slots (i := 1) E A.1 A.2.1 (by rfl) (by rfl) (by rfl) (by rfl) (by rfl) (by rfl) (by rfl) (by rfl) h
theorem A_node {x : Nd} (E : Ent (K2 w) mg mb nm F) (hx : x ∈ S.nds) (O : Own2 prog w st.H l) (m : As.srt S ∈ l) (h : Q (vI x.key) st) : AttrE prog w F (.ref x.a) "node" Q X st :=
  have A := (O.srtAt m).nds x hx
  A_slots (i := 0) E A.1 A.2.1 (by rfl) (by rfl) (by rfl) (by rfl) (by rfl) (by rfl) (by rfl) (by rfl) h
theorem A_succ {x : Nd} (E : Ent (K2 w) mg mb nm F) (hx : x ∈ S.nds) (O : Own2 prog w st.H l) (m : As.srt S ∈ l) (h : Q (.ref x.sa) st) : AttrE prog w F (.ref x.a) "successors" Q X st :=
  have A := (O.srtAt m).nds x hx
  A_slots (i := 2) E A.1 A.2.1 (by rfl) (by rfl) (by rfl) (by rfl) (by rfl) (by rfl) (by rfl) (by rfl) h
theorem S_np {x : Nd} {r : List As} {k : Int} {Q : Unit → St → Prop} (E : Ent (K2 w) mg mb nm F) (hx : x ∈ S.nds) (O : Own2 prog w st.H l) (t : Take (.srt S) l r) (h : ∀ H', Own2 prog w H' (.srt (S.setNp x.key k) :: r) → Q () ⟨st.vars, H'⟩) : SetAttrE prog w F (.ref x.a) "npredecessors" (vI k) Q X st :=
  have A := ((O.take t).srtAt List.mem_cons_self).nds x hx
  S_slots (i := 1) E A.1 A.2.1 (by rfl) (by rfl) (by rfl) (by rfl) (by rfl) (by decide) fun H' e => h H' ((O.take t).setNp hx (e.trans rfl))
theorem M_self {name : Str} {f : Addr} {Q : Value → List Value → St → Prop} (E : Ent (K2 w) mg mb nm F) (O : Own2 prog w st.H l) (m : SAt S y l) (hl : S.ns.lookup name = none)
    (hg : plainGet (K2 w) 137 name = true) (hf : findIn (K2 w) (.ref 137) name = some (some (.ref f))) (ht : isFn (K2 w) (.ref f) = true) (h : Q (.ref f) [.ref S.self] st) : MethE prog w F (.ref y) name Q X st := by
  obtain ⟨m, rfl⟩ := m
  exact M_own E (O.srtAt m).self (O.srtAt m).ns hl hg hf ht h
theorem M_info {Q : Value → List Value → St → Prop} (E : Ent (K2 w) mg mb nm F) (O : Own2 prog w st.H l) (m : SAt S y l) (h : Q (.ref 80) [.ref S.self] st) : MethE prog w F (.ref y) "_get_nodeinfo" Q X st := M_self E O m (by rfl) (by rfl) (by rfl) (by rfl) h
theorem M_add {Q : Value → List Value → St → Prop} (E : Ent (K2 w) mg mb nm F) (O : Own2 prog w st.H l) (m : SAt S y l) (h : Q (.ref 87) [.ref S.self] st) : MethE prog w F (.ref y) "add" Q X st := M_self E O m (by rfl) (by rfl) (by rfl) (by rfl) h
theorem M_prep {Q : Value → List Value → St → Prop} (E : Ent (K2 w) mg mb nm F) (O : Own2 prog w st.H l) (m : SAt S y l) (h : Q (.ref 92) [.ref S.self] st) : MethE prog w F (.ref y) "prepare" Q X st := M_self E O m (by rfl) (by rfl) (by rfl) (by rfl) h
theorem M_gr {Q : Value → List Value → St → Prop} (E : Ent (K2 w) mg mb nm F) (O : Own2 prog w st.H l) (m : SAt S y l) (h : Q (.ref 99) [.ref S.self] st) : MethE prog w F (.ref y) "get_ready" Q X st := M_self E O m (by rfl) (by rfl) (by rfl) (by rfl) h
theorem M_act {Q : Value → List Value → St → Prop} (E : Ent (K2 w) mg mb nm F) (O : Own2 prog w st.H l) (m : SAt S y l) (h : Q (.ref 106) [.ref S.self] st) : MethE prog w F (.ref y) "is_active" Q X st := M_self E O m (by rfl) (by rfl) (by rfl) (by rfl) h
theorem M_done {Q : Value → List Value → St → Prop} (E : Ent (K2 w) mg mb nm F) (O : Own2 prog w st.H l) (m : SAt S y l) (h : Q (.ref 120) [.ref S.self] st) : MethE prog w F (.ref y) "done" Q X st := M_self E O m (by rfl) (by rfl) (by rfl) (by rfl) h
theorem M_cyc {Q : Value → List Value → St → Prop} (E : Ent (K2 w) mg mb nm F) (O : Own2 prog w st.H l) (m : SAt S y l) (h : Q (.ref 127) [.ref S.self] st) : MethE prog w F (.ref y) "_find_cycle" Q X st := M_self E O m (by rfl) (by rfl) (by rfl) (by rfl) h
theorem nums_snoc (ns : List Int) (k : Int) : nums (ns ++ [k]) = nums ns ++ [vI k] := List.map_append
theorem nums_len (ns : List Int) : (nums ns).length = ns.length := List.length_map _
theorem M_appendS {x : Nd} {Q : Value → List Value → St → Prop} (O : Own2 prog w st.H l) (m : As.srt S ∈ l) (hx : x ∈ S.nds) (h : Q (.builtin "list.append") [.ref x.sa] st) : MethE prog w F (.ref x.sa) "append" Q X st := M_append (O.sa m hx) h
theorem C_pushS {x : Nd} {r : List As} {k : Int} (O : Own2 prog w st.H l) (t : Take (.srt S) l r) (hx : x ∈ S.nds) (hn : x.succ.length ≤ 1000000) (h : ∀ H', Own2 prog w H' (.srt (S.push x.key k) :: r) → Q .none ⟨st.vars, H'⟩) : CallE prog w F (.builtin "list.append") [.ref x.sa, vI k] Q X st :=
  C_append ((O.take t).sa List.mem_cons_self hx) (by rw [nums_len]; exact hn) fun H' e => h H' ((O.take t).pushS hx (by rw [nums_snoc]; exact e))
theorem M_appendR {rd : Addr} {ns : List Int} {Q : Value → List Value → St → Prop} (O : Own2 prog w st.H l) (m : As.srt S ∈ l) (hr : S.ready = some (rd, ns)) (h : Q (.builtin "list.append") [.ref rd] st) : MethE prog w F (.ref rd) "append" Q X st := M_append (O.ready m hr) h
theorem M_clearR {rd : Addr} {ns : List Int} {Q : Value → List Value → St → Prop} (O : Own2 prog w st.H l) (m : As.srt S ∈ l) (hr : S.ready = some (rd, ns)) (h : Q (.builtin "list.clear") [.ref rd] st) : MethE prog w F (.ref rd) "clear" Q X st := M_clear (O.ready m hr) h
theorem C_appendR {rd : Addr} {ns : List Int} {r : List As} {k : Int} (O : Own2 prog w st.H l) (t : Take (.srt S) l r) (hr : S.ready = some (rd, ns)) (hn : ns.length ≤ 1000000) (h : ∀ H', Own2 prog w H' (.srt { S with ready := some (rd, ns ++ [k]) } :: r) → Q .none ⟨st.vars, H'⟩) : CallE prog w F (.builtin "list.append") [.ref rd, vI k] Q X st :=
  C_append ((O.take t).ready List.mem_cons_self hr) (by rw [nums_len]; exact hn) fun H' e => h H' ((O.take t).setReady hr (by rw [nums_snoc]; exact e))
theorem C_clearR {rd : Addr} {ns : List Int} {r : List As} (O : Own2 prog w st.H l) (t : Take (.srt S) l r) (hr : S.ready = some (rd, ns)) (hn : ns.length ≤ 1000000) (h : ∀ H', Own2 prog w H' (.srt { S with ready := some (rd, []) } :: r) → Q .none ⟨st.vars, H'⟩) : CallE prog w F (.builtin "list.clear") [.ref rd] Q X st :=
  C_clear ((O.take t).ready List.mem_cons_self hr) (by rw [nums_len]; exact hn) fun H' e => h H' ((O.take t).setReady hr e)
theorem X_n2i {x : Nd} (O : Own2 prog w st.H l) (m : As.srt S ∈ l) (hx : x ∈ S.nds) (h : Q (.ref x.a) st) : Sub st (.ref S.dn) ∧ ItemE prog w F (.ref S.dn) (vI x.key) Q X st := by
  obtain ⟨n, hd⟩ := O.n2i m
  exact ⟨⟨_, rfl, .inr (.inr ⟨_, _, hd⟩)⟩, X_dict hd ((O.srtAt m).val hx) h⟩
variable {n : Nat} {Fc' : Fc} {H : AHeap}
theorem info_own {F : Fc} {k : Int} {r : List As} (W : Wld (K2 w) F mg mb) (O : F.Ok (n + 3)) (Ow : Own2 prog w H l) (t : Take (.srt S) l r) (hn : S.nds.length ≤ 1000) :
    Calls prog w F (.ref 80) [.ref S.self, vI k] H
      (fun v H' => ∃ S' x, v = .ref x.a ∧ x ∈ S'.nds ∧ x.key = k ∧ Own2 prog w H' (.srt S' :: r) ∧ S'.self = S.self ∧ S'.p = S.p.touch k ∧ S'.ready = S.ready) (fun _ _ _ => False) :=
  have O1 := Ow.take t
  (info_spec W O (O1.srtAt List.mem_cons_self) hn).mono (fun v H' hz => ex2and7 hz fun S' x h1 h2 h3 h4 h5 h6 h7 => ⟨S', x, h1, h2, h3, O1.turn h4 h5, h5.self, h6, h7⟩) (fun _ _ _ z => z)
theorem sorter_own {F : Fc} (W : Wld (K2 w) F mg mb) (O : F.Ok (n + 2)) (Ow : Own2 prog w H l) :
    Calls prog w F (.ref 137) [] H (fun v H' => ∃ S : Srt, v = .ref S.self ∧ Own2 prog w H' (.srt S :: l) ∧ S.p = ⟨[], none, 0, 0⟩ ∧ S.ready = none ∧ S.nds = []) (fun _ _ _ => False) := by
  refine (sorter_spec W O).mono ?_ (fun _ _ _ z => z)
  rintro v H' hx0_; refine ex1and7 hx0_ fun S h1 h2 h3 h4 h5 h6 h7 => ?_; try clear hx0_
  have hnd : S.nds = [] := by
    have : S.p.nds = [] := by rw [h3]
    exact List.map_eq_nil_iff.mp this
  refine ⟨S, h1, Ow.push h7 h2 fun a ha => ?_, h3, h4, hnd⟩
  rcases ha with rfl | q | ⟨x, hx, _⟩
  · exact h5
  · exact h6 a q
  · rw [hnd] at hx; cases hx
theorem filter_own {F : Fc} {a k : Addr} {xs ys : List Value} {dxs dys : List PyData} (W : Wld (K2 w) F mg mb) (O : F.Ok (n + 4)) (Ow : Own2 prog w H l)
    (hl : H a = some (.list xs) ∨ H a = some (.tup xs)) (hk : H k = some (.list ys)) (hx : RdAll noH dxs xs) (hy : RdAll noH dys ys) (cx : PyData.canLayAll0 dxs = true) (cy : PyData.canLayAll0 dys = true) (hn : xs.length ≤ 50000) :
    Calls prog w F (.ref 185) [.ref a, .ref k] H (fun v H' => ∃ b, v = .ref b ∧ Own2 prog w H' (.cell b (.list (filt xs dxs dys)) :: l)) (fun _ _ _ => False) :=
  (filter_spec W O hl hk hx hy cx cy hn).mono (fun v H' ⟨b, h1, h2, h3⟩ => ⟨b, h1, Ow.new ⟨h2, h3⟩⟩) (fun _ _ _ z => z)
end
end Mine
end
section
set_option maxRecDepth 100000
set_option Elab.async false
set_option linter.unusedVariables false
set_option maxHeartbeats 4000000
namespace Mine
open PySem PySem.W PySem.Calls PyProof.Rows PySem.SeqAt
theorem meets_bool_new_list (l : Addr) (items : Array Value) :
    Meets (Builtin.«bool.__new__» ⟨[.type "bool", .ref l], []⟩) (fun _ R s => s.heap.IsList l items ∧ (items.size : Int) < 2 ^ 63 ∧ R (.ok (.ret (.bool (!items.isEmpty)))) { s with toks := s.toks + 1 + 1 }) :=
  Meets.of_wp fun prog w A R s hs => by
    obtain ⟨hp, g, d, tk, os⟩ := s
    obtain ⟨h1, h2, h3⟩ := hs
    have f1 := F.conv_sub_bool
    repeat (any_goals (first | assumption | (with_reducible refine wpAny_truthy_list h1 h2 ?_) | wp_step))
    all_goals first | exact ⟨_, rfl, h3⟩ | exact h3 | skip
section
variable {prog : Program} {w : World} {K : Frag} {mg mb : Str → Option Value} {nm : List (Str × NameKind)} {F : Fx} {st : St} {X : Value → List Value → St → Prop} {Q : Value → St → Prop} {pos : Pos} {x : Str} {v : Value}
theorem isEmpty_er {items : Array Value} {xs : List Value} (he : items.toList.map er = xs) : items.isEmpty = xs.isEmpty := by
  rw [← he]
  cases q : items.toList with
  | nil => rw [Array.isEmpty_iff.mpr (Array.toList_eq_nil_iff.mp q)]; rfl
  | cons x r => rw [Array.isEmpty_eq_false_iff.mpr (fun z => by rw [z] at q; cases q)]; rfl
theorem C_boolL {l : Addr} {xs : List Value} (hl : st.H l = some (.list xs)) (hn : xs.length ≤ 1000000) (h : Q (.bool (!xs.isEmpty)) st) : CallE prog w F (.type "bool") [.ref l] Q X st := fun vs hv => by
  obtain ⟨a, rfl, ha⟩ := one_of hv
  rw [er_ref ha]
  intro s R
  obtain ⟨items, hi, he⟩ := list_at R.1 hl
  have hs : items.size = xs.length := by rw [← he, List.length_map, Array.length_toList]
  refine call_bool_1 (meets_bool_new_list l items) ⟨hi, by omega, ?_⟩
  refine ⟨rfl, st, R.toks, .grow _ _ fun _ _ e => e, ?_⟩
  rw [isEmpty_er he]; exact h
theorem E_orV {a b : Expr} (he : evalEach [a, b] F.env = [eval a F.env, eval b F.env])
    (h : T prog w F (eval a F.env) (fun v st₁ => TruthE prog w F v (fun t st₂ => (t = true → Q v st₂) ∧ (t = false → T prog w F (eval b F.env) Q X st₂)) X st₁) X st) : T prog w F (eval (.BoolOp .Or [a, b] pos) F.env) Q X st := fun s R => by
  rw [arm_eval_BoolOp, he]
  unfold boolOp
  refine wpAny_bind (h.then R (.refl _ _ _ _) fun v s₁ st₁ R₁ A₁ q => wpAny_bind (wpAny_standAt (wpAny_bind (wpAny_holding ((q v rfl).then R₁ A₁ fun t s₂ st₂ R₂ A₂ q => ?_)))))
  cases t with
  | true => exact wpAny_pure ⟨st₂, R₂, A₂, q.1 rfl⟩
  | false =>
    unfold boolOp
    exact (q.2 rfl).then R₂ A₂ fun _ s₃ st₃ R₃ A₃ q => ⟨st₃, R₃, A₃, q⟩
theorem E_raiseV {np cpos : Pos} {e₀ : Expr} {Q : Flow → St → Prop} (E : Ent K mg mb nm F) (hh : F.A.handled = none) (hk : nm.lookup ("ValueError" : Str) = some .globalImplicit) (e : nsIn K mainGlobals ("ValueError" : Str) = some none)
    (he : starEach [e₀] F.env = [(false, eval e₀ F.env)]) (h : T prog w F (eval e₀ F.env) (fun v st₂ => X (.type "ValueError") [v] st₂) X st) :
    T prog w F (exec (.Raise (some (.Call (.Name "ValueError" np) [e₀] [] cpos)) none pos) F.env) Q X st :=
  T_raiseB PySem.F.excCall_ValueError PySem.F.excRaise_ValueError hh he (E_biT E hk e rfl rfl rfl ⟨rfl, h⟩)
theorem E_joined3 {v₁ v₂ v₃ : Expr} (he : evalEach [v₃] F.env = [eval v₃ F.env])
    (h : T prog w F (eval v₁ F.env) (fun a st₁ => ∃ x, a = vS x ∧ x.length ≤ 10000 ∧ T prog w F (eval v₂ F.env) (fun b st₂ => ∃ y, b = vS y ∧ y.length ≤ 10000 ∧ T prog w F (eval v₃ F.env) (fun c st₃ => ∃ z, c = vS z ∧ z.length ≤ 10000 ∧ Q (vS (x ++ y ++ z)) st₃) X st₂) X st₁) X st) :
    T prog w F (eval (.JoinedStr [v₁, v₂, v₃] pos) F.env) Q X st := T_joined3 he h
theorem E_delSub {o i : Expr} {p : Pos} {Q : Flow → St → Prop} (h : T prog w F (eval o F.env) (fun ov st₁ => T prog w F (eval i F.env) (fun iv st₂ => DelItemE prog w F ov iv (fun _ => Q .next) X st₂) X st₁) X st) :
    T prog w F (exec (.Delete [.Subscript o i p] pos) F.env) Q X st := fun s R => by
  refine wpAny_Delete (wpAny_deleteEach_cons ?_)
  rw [arm_delete_Subscript]
  refine wpAny_bind (h.then R (.refl _ _ _ _) fun ov s₁ st₁ R₁ A₁ q => wpAny_bind (wpAny_holding (q.then R₁ A₁ fun iv s₂ st₂ R₂ A₂ q => wpAny_bind (wpAny_standAt (wpAny_bind (wpAny_holding ((q ov iv rfl rfl).then R₂ A₂ fun _ s₃ st₃ R₃ A₃ q => wpAny_release ?_)))))))
  exact wpAny_deleteEach_nil ⟨st₃, R₃, A₃, q⟩
theorem E_isTrueC {b : Bool} {k : Nat} {whole : Sem Value} {Q : Bool → St → Prop} (he : isTrue (.Constant (.bool b) k pos) F.env whole = (do let v ← whole; standAt (Expr.pos (.Constant (.bool b) k pos)); holding [v] (truthy v))) (hw : whole = eval (.Constant (.bool b) k pos) F.env) (h : Q b st) : T prog w F (isTrue (.Constant (.bool b) k pos) F.env whole) Q X st := by
  subst hw
  exact E_isVal he (T_bool (U_bool h))
theorem E_isName {whole : Sem Value} {Q : Bool → St → Prop} (he : isTrue (.Name x pos) F.env whole = (do let v ← whole; standAt (Expr.pos (.Name x pos)); holding [v] (truthy v))) (h : T prog w F whole (fun v st' => TruthE prog w F v Q X st') X st) : T prog w F (isTrue (.Name x pos) F.env whole) Q X st := E_isVal he h
theorem E_ifJ {test : Expr} {body orelse rest : List Stmt} {Q : Flow → St → Prop} (M : St → Prop)
    (h : T prog w F (isTrue test F.env (eval test F.env)) (fun b st' => (b = true → AbsT prog w F (execs body F.env) (fun f st₂ => match f with | .next => M st₂ | f => Q f st₂) X st') ∧ (b = false → AbsT prog w F (execs orelse F.env) (fun f st₂ => match f with | .next => M st₂ | f => Q f st₂) X st')) X st)
    (k : ∀ st', M st' → T prog w F (execs rest F.env) Q X st') : T prog w F (execs (.If test body orelse pos :: rest) F.env) Q X st := by
  refine E_cons (T_if2 (h.post fun b st' q => ⟨fun e => (q.1 e).out.post fun f st₂ q => ?_, fun e => (q.2 e).out.post fun f st₂ q => ?_⟩))
  · cases f with
    | next => exact k _ q
    | _ => exact q
  · cases f with
    | next => exact k _ q
    | _ => exact q
theorem stop_exc : isSubtype (.type "StopIteration") (.type "BaseException") = pure true := by rw [isSubtype_type]; kernel_rfl
theorem stop_nt : isSubtype (.type ((Manifest.find? "StopIteration").elim "type" fun x => x.metatype)) (.type "tuple") = pure false := by
  rw [show ((Manifest.find? "StopIteration").elim "type" fun x => x.metatype) = "type" from by kernel_rfl, isSubtype_type]; kernel_rfl
theorem E_exceptStop {args : List Value} {p : Pos} {b₀ : Stmt} {suite : List Stmt} {hpos : Pos} {rest : List ExceptHandler} {Q : Flow → St → Prop} (E : Ent K mg mb nm F) (hk : nm.lookup ("StopIteration" : Str) = some .globalImplicit) (e : nsIn K mainGlobals ("StopIteration" : Str) = some none)
    (h : ∀ F', Ent K mg mb nm F' → T prog w F' (execs (b₀ :: suite) F'.env) Q NoX st) :
    Caught prog w F (.ExceptHandler (some (.Name "StopIteration" p)) none (b₀ :: suite) hpos :: rest) (.type "StopIteration") args Q X st :=
  Caught.builtin stop_exc stop_nt isSubtype_stop (.nameB ⟨E.W.g, E.W.b⟩ E.gl E.bi (mg_none_of E.W.kx E.W.g e) ((E.W.bi _ (by decide)).trans rfl) (E.glob hk) E.kind rfl) fun ea => h _ (E.mark ea)
end
section
variable {prog : Program} {w : World} {K : Frag} {mg mb : Str → Option Value} {nm : List (Str × NameKind)} {F : Fx} {st : St} {X : Value → List Value → St → Prop} {Q : Value → St → Prop} {pos : Pos} {x : Str} {v : Value}
theorem E_listM {α : Type} (E : Ent K mg mb nm F) {elt iter : Expr} {px : Pos} {ifs : List Expr} {scope : Scope} (cv : List (Str × Value)) (u : Option (Value → Sem Unit))
    (hsc : scOk scope nm x = true) (hcv : cvOk scope cv = true) (hs : ∀ x, foldedSetIterable iter F.env x = pure x) (hh : F.A.handled = none)
    (h : T prog w F (eval iter F.env) (fun v st₁ => Has st₁.vars cv ∧ ∃ k, ∃ (ys : List α) (g : α → Value) (R : AHeap → Prop) (p : α → Bool) (f : α → Value), Src st₁ v (ys.map g) k ∧ ys.length ≤ 1000000 ∧ R st₁.H ∧ (∀ H vs, R H → Src ⟨vs, H⟩ v (ys.map g) k) ∧
      (∀ F', Ent K mg mb (relabelN scope.names nm) F' → F'.toFc = F.toFc → ∀ y H, y ∈ ys → R H → T prog w F' (tests ifs F'.env) (fun ok st₂ => (ok = true → T prog w F' (eval elt F'.env) (fun z st₃ => p y = true ∧ z = f y ∧ Has st₃.vars cv ∧ R st₃.H) NoX st₂) ∧ (ok = false → p y = false ∧ Has st₂.vars cv ∧ R st₂.H)) NoX ⟨setV cv x (g y), H⟩) ∧
      (∀ H a H', R H → New H a (.list ((ys.filter p).map f)) H' → Handed prog w F Q X u a ⟨st₁.vars, H'⟩)) X st) :
    T prog w F (comprehension (.ListComp elt [⟨.Name x px, iter, ifs, 0⟩] scope pos) scope F.env (firstIterPos [⟨.Name x px, iter, ifs, 0⟩] pos) (newList []) false (eval iter F.env) u) Q X st := by
  refine E_listCore E cv u hsc hcv hs hh (h.post fun v st₁ hq => ?_)
  refine ex0and2 hq fun q0 y1_ => ?_; try clear hq; obtain ⟨k, ys, g, R, p, f, q1, q2, q3, q4, q5, q6⟩ := y1_
  refine ⟨q0, exi3 (ys.map g) k (fun i acc H => i ≤ ys.length ∧ acc = ((ys.take i).filter p).map f ∧ R H) ⟨q1, by rw [List.length_map]; exact q2, ⟨Nat.zero_le _, rfl, q3⟩, fun i acc H vs hI => q4 H vs hI.2.2, fun i acc H hI => ?_, ?_, fun acc H a H' hI hN => ?_⟩⟩
  · obtain ⟨_, rfl, _⟩ := hI
    rw [List.length_map]
    exact Nat.le_trans (List.length_filter_le _ _) (by rw [List.length_take]; omega)
  · rintro F' E' hF i x' acc H hx ⟨hi, rfl, hR⟩
    rw [List.getElem?_map] at hx
    obtain ⟨y, hy, rfl⟩ := Option.map_eq_some_iff.mp hx
    have hlt : i < ys.length := (List.getElem?_eq_some_iff.mp hy).1
    have tk : ys.take (i + 1) = ys.take i ++ [y] := by rw [List.take_add_one, hy]; rfl
    refine (q5 F' E' hF y H (List.mem_of_getElem? hy) hR).post fun ok st₂ q => ⟨fun e => (q.1 e).post fun z st₃ ⟨z1, z2, z3, z4⟩ => ⟨z3, by omega, ?_, z4⟩, fun e => ⟨(q.2 e).2.1, by omega, ?_, (q.2 e).2.2⟩⟩
    · rw [tk, List.filter_append, List.map_append, z2]
      simp [z1]
    · rw [tk, List.filter_append, List.map_append]
      simp [(q.2 e).1]
  · obtain ⟨_, rfl, hR⟩ := hI
    rw [List.length_map, List.take_length] at hN
    exact q6 H a H' hR hN
theorem E_tests0 {Q : Bool → St → Prop} (h : Q true st) : T prog w F (tests [] F.env) Q X st := T_tests0 h
theorem E_tests1 {c : Expr} {Q : Bool → St → Prop} (h : T prog w F (isTrue c F.env (eval c F.env)) Q X st) : T prog w F (tests [c] F.env) Q X st := T_tests1 h
theorem E_raiseOwn2 {C : Addr} {B newId initId : String} {bmB : List Value} (FB : ExcBaseFacts B newId initId bmB) (O : OwnExc C bmB newId F.base) {np cpos : Pos} {a b : Expr} {Q : Flow → St → Prop} (E : Ent K mg mb nm F) (hh : F.A.handled = none)
    (hk : nm.lookup x = some .globalImplicit) (e : nsIn K mainGlobals x = some (some (.ref C))) (hd : (x == ("__debug__" : Str)) = false) (he : starEach [a, b] F.env = [(false, eval a F.env), (false, eval b F.env)])
    (h : T prog w F (eval a F.env) (fun v st₁ => T prog w F (eval b F.env) (fun u st₂ => X (.ref C) [v, u] st₂) X st₁) X st) :
    T prog w F (exec (.Raise (some (.Call (.Name x np) [a, b] [] cpos)) none pos) F.env) Q X st :=
  T_raiseOwn (t := eval a F.env) (trees := [(false, eval b F.env)]) FB O hh (by rw [he]; rfl) rfl (E_glR E hk e hd ⟨rfl, T_sp1 (h.post fun v st₁ q => T_sp1 (q.post fun u st₂ q => T_sp0 ⟨by simp, q⟩))⟩)
theorem E_assignList {elt iter : Expr} {y : Str} {px py : Pos} {ifs : List Expr} {scope : Scope} {cpos : Pos} {Q : Flow → St → Prop} (E : Ent K mg mb nm F)
    (hb : (nm.lookup y == some .local && py.line == cpos.line && !(scope.names.any fun q => q.1 == y && (q.2 == .local || q.2 == .cell))) = true)
    (h : T prog w F (comprehension (.ListComp elt [⟨.Name x px, iter, ifs, 0⟩] scope cpos) scope F.env (firstIterPos [⟨.Name x px, iter, ifs, 0⟩] cpos) (newList []) false (eval iter F.env) (some (assign (.Name y py) F.env))) (fun _ => Q .next) X st) :
    T prog w F (exec (.Assign [.Name y py] (.ListComp elt [⟨.Name x px, iter, ifs, 0⟩] scope cpos) pos) F.env) Q X st := T_assignList (swaps_list E hb) h
theorem E_assignListC {elt iter : Expr} {y : Str} {px py : Pos} {ifs : List Expr} {scope : Scope} {cpos : Pos} {Q : Flow → St → Prop} (E : Ent K mg mb nm F)
    (hb : (nm.lookup y == some .local && py.line == cpos.line && !(scope.names.any fun q => q.1 == y && (q.2 == .local || q.2 == .cell))) = false)
    (h : T prog w F (eval (.ListComp elt [⟨.Name x px, iter, ifs, 0⟩] scope cpos) F.env) (fun v st' => StoreE prog w F y v (fun _ => Q .next) X st') X st) :
    T prog w F (exec (.Assign [.Name y py] (.ListComp elt [⟨.Name x px, iter, ifs, 0⟩] scope cpos) pos) F.env) Q X st := E_assign (swaps_list E hb) h
theorem handed_assign {a : Addr} {t : Expr} {Q : Value → St → Prop} (h : AssignE prog w F t (.ref a) (fun _ => Q .none) X st) : Handed prog w F Q X (some (assign t F.env)) a st := h _ rfl
theorem handed_none {a : Addr} {Q : Value → St → Prop} (h : Q (.ref a) st) : Handed prog w F Q X none a st := h
theorem E_joined1 {v : Expr} (h : T prog w F (eval v F.env) Q X st) : T prog w F (eval (.JoinedStr [v] pos) F.env) Q X st := T_joined1 h
end
section
variable {prog : Program} {w : World} {cN cT : Addr} {H : AHeap} {l : List As}
theorem Own.del {a : Addr} {o : AO} (O : Own prog w cN cT H (.cell a o :: l)) : Own prog w cN cT (del H a) l := by
  have ap := List.pairwise_cons.mp O.ap
  refine ⟨fun d hd => ?_, ap.2⟩
  refine As.move (O.all d (List.mem_cons_of_mem _ hd)) fun b ob f e => ?_
  unfold Mine.del
  rw [if_neg (show b ≠ a from fun q => ap.1 _ (List.mem_map_of_mem hd) b q f)]; exact e
theorem Own.freeze {S : Srt} (O : Own prog w cN cT H (.srt S :: l)) : ∃ G : AHeap, Own prog w cN cT H (.frag G :: l) ∧ S.At prog w cN cT G ∧ ∀ a, G a ≠ none → (As.srt S).foot a := by
  have A := O.srtAt List.mem_cons_self
  have ap := List.pairwise_cons.mp O.ap
  let G : AHeap := fun a => (open Classical in if (As.srt S).foot a then H a else none)
  have hG : ∀ a, G a ≠ none → (As.srt S).foot a := fun a h => by
    by_cases q : (As.srt S).foot a
    · exact q
    · exact absurd (if_neg q) h
  refine ⟨G, ⟨fun d hd => ?_, List.pairwise_cons.mpr ⟨fun f hf a ha => ap.1 f hf a (hG a ha), ap.2⟩⟩, ?_, hG⟩
  · rcases List.mem_cons.mp hd with rfl | hd
    · intro a o e
      by_cases q : (As.srt S).foot a
      · have : G a = H a := if_pos q
        rw [← this]; exact e
      · have : G a = none := if_neg q
        rw [this] at e; cases e
    · exact O.all d (List.mem_cons_of_mem _ hd)
  · exact Srt.At.away A fun a o e f => (if_pos (show (As.srt S).foot a from f)).trans e
theorem Own.thaw {S : Srt} {G : AHeap} (O : Own prog w cN cT H (.frag G :: l)) (A : S.At prog w cN cT G) : Own prog w cN cT H (.srt S :: l) := by
  have ap := List.pairwise_cons.mp O.ap
  have hf := O.fragAt List.mem_cons_self
  refine ⟨fun d hd => ?_, List.pairwise_cons.mpr ⟨fun f hf a ha => ap.1 f hf a ?_, ap.2⟩⟩
  · rcases List.mem_cons.mp hd with rfl | hd
    · exact A.keep hf
    · exact O.all d (List.mem_cons_of_mem _ hd)
  · exact As.live (c := .srt S) A ha
end
end Mine
end
section
set_option maxRecDepth 100000
set_option Elab.async false
set_option linter.unusedVariables false
set_option maxHeartbeats 4000000
namespace Mine
open PySem PySem.W PySem.Calls PyProof.Rows PySem.SeqAt
theorem pick_run (xs : List Value) (a : Nat) : ∀ c, a + c ≤ xs.length → ((List.range c).map fun k => a + k).filterMap (xs[·]?) = (xs.drop a).take c
  | 0, _ => rfl
  | c + 1, h => by
    have ih := pick_run xs a c (by omega)
    have hx : a + c < xs.length := by omega
    rw [List.range_succ, List.map_append, List.filterMap_append, ih, List.take_add_one, List.getElem?_drop]
    simp [List.getElem?_eq_getElem hx]
theorem pickL_bounds {xs : List Value} {lo hi st : Option Int} {a b : Nat} (hb : sliceBounds lo hi st xs.length = ((a : Int), (b : Int), 1)) (hab : a ≤ b) (hn : b ≤ xs.length) : pickL xs lo hi st = (xs.drop a).take (b - a) := by
  unfold pickL
  rw [hb]
  unfold sliceRange
  dsimp only
  rw [if_pos (by decide)]
  have hc : (if (a : Int) < b then ((b : Int) - a + 1 - 1) / 1 else 0).toNat = b - a := by
    split
    · exact toNatSub
    · rename_i h
      exact (Nat.sub_eq_zero_of_le (Nat.le_of_not_lt fun q => h (Int.ofNat_lt.mpr q))).symm
  rw [hc]
  have : (List.range (b - a)).map (fun (k : Nat) => ((a : Int) + 1 * (k : Int)).toNat) = (List.range (b - a)).map fun k => a + k := by
    refine List.map_congr_left fun k _ => ?_
    rw [Int.one_mul]; rfl
  rw [this]
  exact pick_run xs a (b - a) (by omega)
theorem pick_to {xs : List Value} {i : Nat} : pickL xs none (some (i : Int)) none = xs.take i := by
  rw [pickL_bounds (a := 0) (b := min i xs.length) (by
    unfold sliceBounds
    simp only [Option.getD_none]
    have h1 : ¬ ((i : Int) < 0) := by omega
    simp only [show ((1 : Int) > 0) from by decide, if_true, if_neg h1]
    refine Prod.ext rfl (Prod.ext ?_ rfl)
    exact maxmin _ _) (Nat.zero_le _) (Nat.min_le_right _ _)]
  rw [List.drop_zero, Nat.sub_zero]
  by_cases h : i ≤ xs.length
  · rw [Nat.min_eq_left h]
  · rw [Nat.min_eq_right (by omega), List.take_length, List.take_of_length_le (by omega)]
theorem pick_from {xs : List Value} {i : Nat} : pickL xs (some (i : Int)) none none = xs.drop i := by
  rw [pickL_bounds (a := min i xs.length) (b := xs.length) (by
    unfold sliceBounds
    simp only [Option.getD_none]
    have h1 : ¬ ((i : Int) < 0) := by omega
    simp only [show ((1 : Int) > 0) from by decide, if_true, if_neg h1]
    refine Prod.ext ?_ rfl
    exact maxmin _ _) (Nat.min_le_right _ _) (Nat.le_refl _)]
  by_cases h : i ≤ xs.length
  · rw [Nat.min_eq_left h, List.take_of_length_le (by rw [List.length_drop]; omega)]
  · rw [Nat.min_eq_right (by omega), List.drop_of_length_le (by omega), List.drop_of_length_le (by omega), List.take_nil]
section
variable {prog : Program} {w : World} {F : Fx} {st : St} {X : Value → List Value → St → Prop} {Q : Value → St → Prop} {pos : Pos}
theorem E_sliceTo {value hi : Expr} {p : Pos} (h : T prog w F (eval value F.env) (fun ov st₁ => T prog w F (eval hi F.env) (fun hv st₂ => ∃ a xs, ∃ i : Nat, ov = .ref a ∧ hv = vI i ∧ st₂.H a = some (.list xs) ∧ xs.length ≤ 1000000 ∧ ∀ b H', New st₂.H b (.list (xs.take i)) H' → Q (.ref b) ⟨st₂.vars, H'⟩) X st₁) X st) :
    T prog w F (eval (.Subscript value (.Slice none (some hi) none p) pos) F.env) Q X st :=
  T_slice (h.post fun ov st₁ q => T_partN (T_partS (q.post fun hv st₂ hq => by
    refine ex3and5 hq fun a xs i e1 e2 e3 e4 q => ?_; try clear hq
    exact T_partN ⟨a, xs, none, some (i : Int), none, e1, e3, e4, trivial, by subst e2; rfl, trivial, nofun, fun b hb => by
      rw [pick_to]; exact q b _ ⟨hb, rfl⟩⟩)))
theorem E_sliceFrom {value lo : Expr} {p : Pos} (h : T prog w F (eval value F.env) (fun ov st₁ => T prog w F (eval lo F.env) (fun lv st₂ => ∃ a xs, ∃ i : Nat, ov = .ref a ∧ lv = vI i ∧ st₂.H a = some (.list xs) ∧ xs.length ≤ 1000000 ∧ ∀ b H', New st₂.H b (.list (xs.drop i)) H' → Q (.ref b) ⟨st₂.vars, H'⟩) X st₁) X st) :
    T prog w F (eval (.Subscript value (.Slice (some lo) none none p) pos) F.env) Q X st :=
  T_slice (h.post fun ov st₁ q => T_partS (q.post fun lv st₂ hq => by
    refine ex3and5 hq fun a xs i e1 e2 e3 e4 q => ?_; try clear hq
    exact T_partN (T_partN ⟨a, xs, some (i : Int), none, none, e1, e3, e4, by subst e2; rfl, trivial, trivial, nofun, fun b hb => by
      rw [pick_from]; exact q b _ ⟨hb, rfl⟩⟩)))
end
end Mine
end
namespace Mine
open PySem PySem.W PySem.Calls PyProof.Rows PySem.SeqAt
local macro_rules | `(tactic| walk_at "num") => `(tactic| first | assumption | (refine leT (by assumption) ?_; rfl) | (refine ltT (by assumption) ?_; rfl) | lia | omega | (simp; omega) | decide)
local macro_rules | `(tactic| walk_at "mem") => `(tactic| with_reducible ((repeat (first | exact List.mem_cons_self | apply List.mem_cons_of_mem)); done))
local macro_rules | `(tactic| walk_at "own") => `(tactic| first | assumption | (refine Own.get (by assumption) ?_; walk_at "mem"))
local macro_rules | `(tactic| walk_at "put") => `(tactic| with_reducible (repeat (first | exact Put.here | apply Put.there)))
local macro_rules | `(tactic| walk_at "take") => `(tactic| with_reducible (repeat (first | exact Take.here | apply Take.there)))
local macro_rules | `(tactic| walk_at "sat") => do mwSat (← `(tactic| walk_at "mem")) `List.mem_cons_self `List.mem_cons_of_mem
local macro_rules | `(tactic| walk_at "tat") => do mwSat (← `(tactic| walk_at "take")) `Take.here `Take.there
local macro_rules | `(tactic| walk_at "T") => mwAll ["! E_consA AbsT.mk", "a AbsQ.use", "- T_nil E_listComp handed_assign handed_none E_augAttr T_ret T_retNone T_break T_continue T_if2 T_int T_str T_bool T_none E_call0 E_delSub E_walrus E_binop E_unop E_sliceMid E_sliceTo E_sliceFrom E_sub E_tName E_tSub KF.builtin KF.type B_addI B_subI I_addI I_subI N_neg P_isNone P_isntNone P_isBB P_eqI P_neI P_ltI P_gtI P_geI U_bool T_ifExp2 T_isOr T_or2 T_or0 P_isntTT E_tests0 E_tests1 E_list0 E_dict0 C_range C_setNew U_none T_isAnd T_and2 T_and0", "r E_assign E_assignAttr E_assignSub E_attr E_call1 E_call2 E_pop E_meth0 E_isCmp E_cmp E_tuple2 E_tuple3 E_list1 E_list2 E_list3 E_list4", "ar E_assignTup E_assignList E_assignDict", "ar E_assignListC E_assignDictC", "hor E_tTuple3 E_tTuple2", ".r E_exprS E_storeL", "..r E_storeC", ".rrr E_name", ".rrr E_nameC", ".rrr E_glR", ".rrr E_glI", ".rrrrr E_biB", ".rrrrr E_biT", "rr E_bmS E_bmL E_meth1 E_meth2", ".r KF.k", "aas A_badd A_n2i A_out A_fin M_info M_add M_prep M_gr M_act M_done M_cyc", "aasa A_rdN", "aasa A_rdS", "aaam A_np A_node A_succ", "aat S_out S_fin", "aaak S_np", "nn B_divI", "n B_modI", "o M_append M_extend M_clear M_index M_dget M_values", "on M_sadd C_len C_append C_clear C_tuple U_list", "on C_lenT", "ama M_appendS M_clearR X_n2i", "ama M_appendR", "arr E_augNameC", "arr E_augNameL"]
section
set_option maxRecDepth 100000
set_option Elab.async false
set_option linter.unusedVariables false
set_option maxHeartbeats 4000000
open PySem PySem.W PySem.Calls PyProof.Rows PySem.SeqAt
section
variable {prog : Program} {w : World} {mg mb : Str → Option Value}

theorem Srt.At.bump {cN cT : Addr} {H : AHeap} {S : Srt} (A : S.At prog w cN cT H) {x : Nd} (hx : x ∈ S.nds) (n : Int) : (S.setNp x.key (x.np + n)).p = S.p.bump x.key n := by
  rw [Srt.setNp_p]
  unfold PS.bump PS.on Srt.p
  simp only [List.map_map, PS.mk.injEq, and_true]
  refine List.map_congr_left fun y hy => ?_
  simp only [Function.comp]
  by_cases q : y.key = x.key
  · obtain rfl := A.uniq hy hx (.inl q)
    rfl
  · rw [if_neg (show ¬ y.p.key = x.key from q), if_neg (show ¬ y.p.key = x.key from q)]
theorem touch_len (P : PS) (k : Int) : (P.touch k).nds.length ≤ P.nds.length + 1 := by
  unfold PS.touch
  split
  · walk_at "num"
  · simp
theorem on_len (P : PS) (k : Int) (f : PN → PN) : (P.on k f).nds.length = P.nds.length := by unfold PS.on; simp
noncomputable def PS.addTo (k : Int) (P : PS) (ps : List Int) : PS := ps.foldl (fun P p => (P.touch p).push p k) P
theorem addTo_len (k : Int) : ∀ (ps : List Int) (P : PS), (PS.addTo k P ps).nds.length ≤ P.nds.length + ps.length
  | [], P => Nat.le_refl _
  | p :: r, P => by
    have h1 := addTo_len k r ((P.touch p).push p k)
    have h2 : ((P.touch p).push p k).nds.length = (P.touch p).nds.length := on_len _ _ _
    have h3 := touch_len P p
    show (PS.addTo k ((P.touch p).push p k) r).nds.length ≤ _
    rw [List.length_cons]; walk_at "num"
theorem addTo_take {k : Int} {P : PS} {ps : List Int} {i : Nat} {p : Int} (h : ps[i]? = some p) : PS.addTo k P (ps.take (i + 1)) = ((PS.addTo k P (ps.take i)).touch p).push p k := by
  unfold PS.addTo
  rw [List.take_add_one, h, List.foldl_append]; rfl
noncomputable def PS.sl (P : PS) (B : Nat) : Prop := ∀ x ∈ P.nds, x.succ.length ≤ B
theorem PS.sl.touch {P : PS} {B : Nat} (h : P.sl B) (k : Int) : (P.touch k).sl B := by
  unfold PS.touch
  split
  · exact h
  · intro x hx
    rcases List.mem_append.mp hx with hx | hx
    · exact h x hx
    · rw [List.mem_singleton.mp hx]; exact Nat.zero_le _
theorem PS.sl.on {P : PS} {B : Nat} (h : P.sl B) (k : Int) (f : PN → PN) {C : Nat} (hf : ∀ x, (f x).succ.length ≤ x.succ.length + C) : (P.on k f).sl (B + C) := by
  intro x hx
  obtain ⟨y, hy, rfl⟩ := List.mem_map.mp hx
  have := h y hy
  split
  · have := hf y; walk_at "num"
  · walk_at "num"
theorem PS.sl.bump {P : PS} {B : Nat} (h : P.sl B) (k n : Int) : (P.bump k n).sl B := h.on k _ (C := 0) fun x => Nat.le_refl _
theorem PS.sl.push {P : PS} {B : Nat} (h : P.sl B) (k s : Int) : (P.push k s).sl (B + 1) := h.on k _ fun x => by simp
theorem PS.sl.addTo {k : Int} : ∀ {ps : List Int} {P : PS} {B : Nat}, P.sl B → (PS.addTo k P ps).sl (B + ps.length)
  | [], P, B, h => h
  | p :: r, P, B, h => by
    have := PS.sl.addTo (k := k) (ps := r) ((h.touch p).push p k)
    rw [List.length_cons, show B + (r.length + 1) = B + 1 + r.length by walk_at "num"]
    exact this
theorem PS.sl.le {P : PS} {B C : Nat} (h : P.sl B) (hc : B ≤ C) : P.sl C := fun x hx => Nat.le_trans (h x hx) hc
theorem PS.sl.at {S : Srt} {B : Nat} (h : S.p.sl B) {x : Nd} (hx : x ∈ S.nds) : x.succ.length ≤ B := h x.p (List.mem_map_of_mem hx)
theorem p_len (S : Srt) : S.p.nds.length = S.nds.length := by unfold Srt.p; simp
theorem nums_get {ns : List Int} {i : Nat} {v : Value} (h : (nums ns)[i]? = some v) : ∃ k, v = vI k ∧ ns[i]? = some k := by
  rw [nums, List.getElem?_map] at h
  obtain ⟨k, h1, h2⟩ := Option.map_eq_some_iff.mp h
  exact ⟨k, h2.symm, h1⟩
theorem add_spec {F : Fc} {n : Nat} {S : Srt} {k : Int} {ps : List Int} {H : AHeap} {l r : List As} (W : Wld (K2 w) F mg mb) (OF : F.Ok (n + 4)) (O : Own2 prog w H l) (t : Take (.srt S) l r) (hr : S.ready = none) (hn : S.nds.length + ps.length < 1000) {B : Nat} (hs : S.p.sl B) (hB : B + ps.length ≤ 100000) :
    Calls prog w F (.ref 87) ([.ref S.self, vI k] ++ nums ps) H
      (fun v H' => v = .none ∧ ∃ S', Own2 prog w H' (.srt S' :: r) ∧ S'.self = S.self ∧ S'.p = S.p.add k ps ∧ S'.ready = none) (fun _ _ _ => False) := by
  refine Calls.entS (fd := _) (body := _) (names := ["self", "node"]) (nm := "predecessors") W OF ⟨⟨_, W.kx _ _ rfl, rfl⟩, rfl, rfl, rfl, codeRec_of W.kx (by rfl), rfl, rfl, by decide +kernel⟩ (by rw [List.length_map]; walk_at "num") (fun l r hl => ?_) (by decide) (by decide +kernel) rfl rfl rfl fun F' E U OF' t0 H1 hN => ?_
  · obtain ⟨a, b, rfl, _⟩ := two_of hl
    cases r with
    | nil => rfl
    | cons c r => rfl
  · have O := Own.new (O.take t) hN
    clear hN
    dsimp only at E
    repeat (walk_at "T")
    refine ⟨_, rfl, (fun h => absurd h (by decide)), fun _ => ?_⟩
    repeat (walk_at "T")
    refine C_code ((info_own E.W OF' O (by walk_at "take") (by walk_at "num")).mono ?_ (fun _ _ _ z => z.elim))
    rintro v H2 hx0_; refine ex2and7 hx0_ fun S2 x y2_ hx y4_ O2 s2 p2 r2 => ?_; try clear hx0_; obtain rfl := y2_; obtain rfl := y4_
    clear O
    have O := O2
    repeat (walk_at "T")
    intro H3 O
    repeat (walk_at "T")
    refine E_forB [(("self" : Str), .ref S.self), (("node" : Str), vI x.key)] E U OF'.hh (fun _ => rfl) (by rfl) ?_
    repeat (walk_at "T")
    refine exi3 (nums ps) .tup (fun i H => ∃ S', Own2 prog w H (.srt S' :: .cell t0 (.tup (nums ps)) :: r) ∧ S'.self = S.self ∧ S'.p = PS.addTo x.key ((S.p.touch x.key).bump x.key ps.length) (ps.take i) ∧ S'.ready = none) ⟨⟨t0, rfl, O.get (by walk_at "mem")⟩, ⟨rfl, rfl, trivial⟩, ⟨_, O, s2, ?_, by rw [← hr, ← r2]; rfl⟩, ?_, ?_, ?_⟩
    · rw [(O2.srtAt List.mem_cons_self).bump hx, nums_len, p2]; rfl
    · rintro i H vs ⟨S', O, _⟩
      exact ⟨t0, rfl, O.get (by walk_at "mem")⟩
    · rintro i x0 H hi hx0_; refine ex1and4 hx0_ fun S' O s3 p3 r3 => ?_; try clear hx0_
      obtain ⟨k', rfl, hk'⟩ := nums_get hi
      have hlen : S'.nds.length ≤ 1000 := by
        have h1 := addTo_len x.key (ps.take i) ((S.p.touch x.key).bump x.key ps.length)
        have h2 : ((S.p.touch x.key).bump x.key ps.length).nds.length = (S.p.touch x.key).nds.length := on_len _ _ _
        have h3 := touch_len S.p x.key
        rw [← p3, p_len, h2, List.length_take] at h1
        rw [p_len] at h3
        walk_at "num"
      rw [← s3]
      repeat (walk_at "T")
      refine C_code ((info_own E.W OF' O (by walk_at "take") hlen).mono ?_ (fun _ _ _ z => z.elim))
      rintro v H4 hx0_; refine ex2and7 hx0_ fun S4 y y2_ hy y4_ O s4 p4 r4 => ?_; try clear hx0_; obtain rfl := y2_; obtain rfl := y4_
      repeat (walk_at "T")
      have hsl : y.succ.length ≤ 100000 := by
        have h1 : S4.p.sl (B + ps.length) := by
          rw [p4, p3]
          exact ((((hs.touch _).bump _ _).addTo (ps := ps.take i)).touch _).le (by rw [List.length_take]; walk_at "num")
        have := h1.at hy
        walk_at "num"
      refine C_pushS O (by walk_at "take") hy (by walk_at "num") fun H5 O => ?_
      repeat (walk_at "T")
      refine ⟨⟨rfl, rfl, trivial⟩, _, O, s4, ?_, by rw [← r3, ← r4]; rfl⟩
      rw [Srt.push_p, p4, p3, addTo_take hk']
    · rintro H hx0_; refine ex1and4 hx0_ fun S' O s3 p3 r3 => ?_; try clear hx0_
      repeat (walk_at "T")
      refine ⟨rfl, S', ?_, s3, ?_, r3⟩
      · exact (O.take (.there .here)).tail
      · rw [p3, nums_len, List.take_length]; rfl
end
end
section
set_option maxRecDepth 100000
set_option Elab.async false
set_option linter.unusedVariables false
set_option maxHeartbeats 4000000
open PySem PySem.W PySem.Calls PyProof.Rows PySem.SeqAt
noncomputable def PS.npOf (P : PS) (k : Int) : Option Int := (P.nds.find? fun x => decide (x.key = k)).map (·.np)
noncomputable def PS.succOf (P : PS) (k : Int) : List Int := ((P.nds.find? fun x => decide (x.key = k)).map (·.succ)).getD []
noncomputable def PS.setN (P : PS) (k v : Int) : PS := P.on k fun x => { x with np := v }
noncomputable def PS.outs (P : PS) (ns : List Int) : PS := ns.foldl (fun P k => P.setN k (-1)) P
noncomputable def PS.gr (P : PS) : PS := match P.ready with
  | none => P
  | some ns => { P.outs ns with ready := some [], out := P.out + ns.length }
noncomputable def PS.act (P : PS) : Bool := decide (P.fin < P.out) || !(P.ready.getD []).isEmpty
noncomputable def PS.dec (P : PS) (s : Int) : PS :=
  let P1 := P.on s fun x => { x with np := x.np - 1 }
  if P1.npOf s = some 0 then { P1 with ready := P1.ready.map (· ++ [s]) } else P1
noncomputable def PS.done1 (P : PS) (k : Int) : PS :=
  let P1 := (P.succOf k).foldl PS.dec (P.setN k (-2))
  { P1 with fin := P1.fin + 1 }
noncomputable def Nd.sk (x : Nd) : Int × Addr × Addr × List Int := (x.key, x.a, x.sa, x.succ)
structure Same (S S' : Srt) : Prop where
  self : S'.self = S.self
  dn : S'.dn = S.dn
  sk : S'.nds.map Nd.sk = S.nds.map Nd.sk
theorem Same.refl (S : Srt) : Same S S := ⟨rfl, rfl, rfl⟩
theorem Same.trans {S S₁ S₂ : Srt} (a : Same S S₁) (b : Same S₁ S₂) : Same S S₂ := ⟨b.self.trans a.self, b.dn.trans a.dn, b.sk.trans a.sk⟩
theorem Same.setNp (S : Srt) (k v : Int) : Same S (S.setNp k v) := ⟨rfl, rfl, by
  unfold Srt.setNp
  rw [List.map_map]
  refine List.map_congr_left fun x _ => ?_
  simp only [Function.comp]
  split <;> rfl⟩
theorem Same.at {S S' : Srt} (h : Same S S') {x : Nd} (hx : x ∈ S.nds) : ∃ y ∈ S'.nds, y.key = x.key ∧ y.a = x.a ∧ y.sa = x.sa ∧ y.succ = x.succ := by
  have : x.sk ∈ S'.nds.map Nd.sk := by rw [h.sk]; exact List.mem_map_of_mem hx
  obtain ⟨y, hy, e⟩ := List.mem_map.mp this
  unfold Nd.sk at e
  injection e with e1 e
  injection e with e2 e
  injection e with e3 e4
  exact ⟨y, hy, e1, e2, e3, e4⟩
theorem Same.keyed {S S' : Srt} (h : Same S S') {k : Int} (hk : ∃ x ∈ S.nds, x.key = k) : ∃ x ∈ S'.nds, x.key = k := by
  obtain ⟨x, hx, rfl⟩ := hk
  obtain ⟨y, hy, e, _⟩ := h.at hx
  exact ⟨y, hy, e⟩
theorem outs_take {P : PS} {ns : List Int} {i : Nat} {k : Int} (h : ns[i]? = some k) : P.outs (ns.take (i + 1)) = (P.outs (ns.take i)).setN k (-1) := by
  unfold PS.outs
  rw [List.take_add_one, h, List.foldl_append]; rfl
theorem outs_out (P : PS) : ∀ ns : List Int, (P.outs ns).out = P.out := by
  intro ns
  unfold PS.outs
  induction ns generalizing P with
  | nil => rfl
  | cons k r ih => rw [List.foldl_cons, ih]; rfl
theorem nums_empty (ns : List Int) : (nums ns).isEmpty = ns.isEmpty := by cases ns <;> rfl
section
variable {prog : Program} {w : World} {mg mb : Str → Option Value}

theorem ready_spec {F : Fc} {n : Nat} {S : Srt} {rd : Addr} {ns : List Int} {H : AHeap} {l r : List As} (W : Wld (K2 w) F mg mb) (OF : F.Ok (n + 1)) (O : Own2 prog w H l) (t : Take (.srt S) l r) (hr : S.ready = some (rd, ns)) (hn : ns.length ≤ 100000) (hk : ∀ k ∈ ns, ∃ x ∈ S.nds, x.key = k) :
    Calls prog w F (.ref 99) [.ref S.self] H
      (fun v H' => ∃ a S', v = .ref a ∧ Own2 prog w H' (.srt S' :: .cell a (.tup (nums ns)) :: r) ∧ Same S S' ∧ S'.p = S.p.gr ∧ S'.ready = some (rd, [])) (fun _ _ _ => False) := by
  refine Calls.ent (fd := _) (body := _) (names := ["self"]) W OF ⟨⟨_, W.kx _ _ rfl, rfl⟩, rfl, rfl, rfl, codeRec_of W.kx (by rfl), rfl, rfl, by decide +kernel⟩ (fun args' ha => ?_) (by decide) (by decide +kernel) rfl rfl rfl fun F' E U OF' => ?_
  · obtain ⟨a, rfl, _⟩ := one_of ha; rfl
  · have O := O.take t
    dsimp only at E
    repeat (walk_at "T")
    refine ⟨_, rfl, (fun h => by cases h), fun _ => ?_⟩
    repeat (walk_at "T")
    refine C_tuple (O.ready (by walk_at "mem") hr) (by rw [nums_len]; walk_at "num") fun a H1 hN => ?_
    have O := Own.new O hN
    clear hN
    repeat (walk_at "T")
    refine E_forB [(("self" : Str), .ref S.self), (("n2i" : Str), .ref S.dn), (("result" : Str), .ref a)] E U OF'.hh (fun _ => rfl) (by rfl) ?_
    repeat (walk_at "T")
    refine exi3 (nums ns) .tup (fun i H => ∃ S', Own2 prog w H (.srt S' :: .cell a (.tup (nums ns)) :: r) ∧ Same S S' ∧ S'.p = S.p.outs (ns.take i) ∧ S'.ready = some (rd, ns)) ⟨⟨a, rfl, O.get (by walk_at "mem")⟩, ⟨rfl, rfl, rfl, trivial⟩, ⟨S, O.take (.there .here), .refl _, rfl, hr⟩, ?_, ?_, ?_⟩
    · rintro i H vs ⟨S', O, _⟩
      exact ⟨a, rfl, O.get (by walk_at "mem")⟩
    · rintro i x0 H hi hx0_; refine ex1and4 hx0_ fun S' O s3 p3 r3 => ?_; try clear hx0_
      obtain ⟨k', rfl, hk'⟩ := nums_get hi
      obtain ⟨x, hx, rfl⟩ := s3.keyed (hk k' (List.mem_of_getElem? hk'))
      rw [← s3.dn]
      repeat (walk_at "T")
      intro H2 O
      repeat (walk_at "T")
      refine ⟨⟨rfl, rfl, by rw [s3.dn]; rfl, trivial⟩, _, O, s3.trans (.setNp _ _ _), ?_, r3⟩
      rw [Srt.setNp_p, p3, outs_take hk']; rfl
    · rintro H hx0_; refine ex1and4 hx0_ fun S' O s3 p3 r3 => ?_; try clear hx0_
      rw [← s3.self]
      repeat (walk_at "T")
      refine C_clearR O (by walk_at "take") r3 (by walk_at "num") fun H3 O => ?_
      repeat (walk_at "T")
      intro H4 O
      repeat (walk_at "T")
      refine exi2 a _ ⟨rfl, O, ⟨s3.self, s3.dn, s3.sk⟩, ?_, rfl⟩
      have e : S.p.ready = some ns := by unfold Srt.p; rw [hr]; rfl
      rw [nums_len, List.take_length] at p3
      show (⟨S'.p.nds, some [], S'.p.out + (nums ns).length, S'.p.fin⟩ : PS) = _
      unfold PS.gr
      rw [e, p3, nums_len, outs_out]
theorem active_spec {F : Fc} {n : Nat} {S : Srt} {rd : Addr} {ns : List Int} {H : AHeap} {l : List As} (W : Wld (K2 w) F mg mb) (OF : F.Ok (n + 1)) (O : Own2 prog w H l) (m : .srt S ∈ l) (hr : S.ready = some (rd, ns)) (hn : ns.length ≤ 100000) :
    Calls prog w F (.ref 106) [.ref S.self] H (fun v H' => v = .bool S.p.act ∧ Own2 prog w H' l) (fun _ _ _ => False) := by
  refine Calls.ent (fd := _) (body := _) (names := ["self"]) W OF ⟨⟨_, W.kx _ _ rfl, rfl⟩, rfl, rfl, rfl, codeRec_of W.kx (by rfl), rfl, rfl, by decide +kernel⟩ (fun args' ha => ?_) (by decide) (by decide +kernel) rfl rfl rfl fun F' E U OF' => ?_
  · obtain ⟨a, rfl, _⟩ := one_of ha; rfl
  · dsimp only at E
    have hact : S.p.act = (decide (S.fin < S.out) || !ns.isEmpty) := by unfold PS.act Srt.p; rw [hr]; rfl
    walk_at "T"
    walk_at "T"
    walk_at "T"
    walk_at "T"
    walk_at "T"
    walk_at "T"
    refine A_rdS E O ⟨m, rfl⟩ hr ?_
    repeat (walk_at "T")
    refine ⟨_, rfl, (fun h => by cases h), fun _ => ?_⟩
    repeat (walk_at "T")
    refine E_orV rfl ?_
    repeat (walk_at "T")
    refine A_fin E O ⟨m, rfl⟩ ?_
    repeat (walk_at "T")
    refine A_out E O ⟨m, rfl⟩ ?_
    repeat (walk_at "T")
    refine ⟨fun h => ?_, fun h => ?_⟩
    · repeat (walk_at "T")
      refine ⟨?_, O⟩
      show Value.bool (decide (S.fin < S.out)) = _
      rw [hact, h]; rfl
    repeat (walk_at "T")
    refine A_rdS E O ⟨m, rfl⟩ hr ?_
    repeat (walk_at "T")
    refine C_boolL (O.ready m hr) (by rw [nums_len]; walk_at "num") ?_
    repeat (walk_at "T")
    refine ⟨?_, O⟩
    show Value.bool (!(nums ns).isEmpty) = _
    rw [hact, h, nums_empty]; rfl
end
end
section
set_option maxRecDepth 100000
set_option Elab.async false
set_option linter.unusedVariables false
set_option maxHeartbeats 4000000
open PySem PySem.W PySem.Calls PyProof.Rows PySem.SeqAt
noncomputable def txt (i : Int) : Str := Str.ofString (toString i)
theorem txt_len {i : Int} (h0 : 0 ≤ i) (h1 : i < 10) : (txt i).length ≤ 10000 := by
  obtain ⟨n, rfl⟩ := Int.eq_ofNat_of_zero_le h0
  exact (by decide +kernel : ∀ k : Fin 10, (txt (k.val : Int)).length ≤ 10000) ⟨n, Int.ofNat_lt.mp h1⟩
noncomputable def refusal (st : Option Int) (k : Int) : Option Str := match st with
  | none => some ("node " ++ txt k ++ " was not added using add()")
  | some v => if v = -1 then none else if 0 ≤ v then some ("node " ++ txt k ++ " was not passed out (still not ready)") else some ("node " ++ txt k ++ " was already marked done")
noncomputable def PS.doneN : PS → List Int → PS × Option Str
  | P, [] => (P, none)
  | P, k :: r => match refusal (P.npOf k) k with
    | some m => (P, some m)
    | none => PS.doneN (P.done1 k) r
section
variable {prog : Program} {w : World} {cN cT : Addr} {H : AHeap} {S : Srt}
theorem find_nd {l : List PN} {x : PN} (hx : x ∈ l) (hu : ∀ y ∈ l, y.key = x.key → y = x) : l.find? (fun y => decide (y.key = x.key)) = some x := by
  induction l with
  | nil => cases hx
  | cons z l ih =>
    rw [List.find?_cons]
    by_cases q : z.key = x.key
    · rw [decide_eq_true q, hu z List.mem_cons_self q]
    · rw [decide_eq_false q]
      rcases List.mem_cons.mp hx with rfl | hx
      · exact absurd rfl q
      · exact ih hx fun y hy => hu y (List.mem_cons_of_mem _ hy)
theorem Srt.At.find (A : S.At prog w cN cT H) {x : Nd} (hx : x ∈ S.nds) : S.p.nds.find? (fun y => decide (y.key = x.key)) = some x.p := by
  refine find_nd (x := x.p) (List.mem_map_of_mem hx) fun y hy e => ?_
  obtain ⟨z, hz, rfl⟩ := List.mem_map.mp hy
  rw [A.uniq hz hx (.inl e)]
theorem Srt.At.npOf (A : S.At prog w cN cT H) {x : Nd} (hx : x ∈ S.nds) : S.p.npOf x.key = some x.np := by
  unfold PS.npOf; rw [A.find hx]; rfl
theorem Srt.At.succOf (A : S.At prog w cN cT H) {x : Nd} (hx : x ∈ S.nds) : S.p.succOf x.key = x.succ := by
  unfold PS.succOf; rw [A.find hx]; rfl
theorem Srt.npNone {k : Int} (h : ∀ y ∈ S.nds, y.key ≠ k) : S.p.npOf k = none := by
  unfold PS.npOf
  rw [Option.map_eq_none_iff, List.find?_eq_none]
  intro y hy
  obtain ⟨z, hz, rfl⟩ := List.mem_map.mp hy
  rw [decide_eq_true_eq]; exact h z hz
theorem dec_take {P : PS} {ns : List Int} {i : Nat} {k : Int} (h : ns[i]? = some k) : (ns.take (i + 1)).foldl PS.dec P = ((ns.take i).foldl PS.dec P).dec k := by
  rw [List.take_add_one, h, List.foldl_append]; rfl
theorem mem_setNp {x : Nd} (hx : x ∈ S.nds) (v : Int) : { x with np := v } ∈ (S.setNp x.key v).nds := by
  unfold Srt.setNp
  exact List.mem_map.mpr ⟨x, hx, if_pos rfl⟩
end
section
variable {prog : Program} {w : World} {mg mb : Str → Option Value}

theorem done_early {F : Fc} {n : Nat} {S : Srt} {k : Int} {H : AHeap} {l : List As} (W : Wld (K2 w) F mg mb) (OF : F.Ok (n + 1)) (O : Own2 prog w H l) (m : .srt S ∈ l) (hr : S.ready = none) :
    Calls prog w F (.ref 120) ([.ref S.self] ++ [vI k]) H (fun _ _ => False) (fun c a H' => c = .type "ValueError" ∧ a = [vS "prepare() must be called first"] ∧ Own2 prog w H' l) := by
  refine Calls.entS (fd := _) (body := _) (names := ["self"]) (nm := "nodes") W OF ⟨⟨_, W.kx _ _ rfl, rfl⟩, rfl, rfl, rfl, codeRec_of W.kx (by rfl), rfl, rfl, by decide +kernel⟩ (by simp) (fun l r hl => ?_) (by decide) (by decide +kernel) rfl rfl rfl fun F' E U OF' t0 H1 hN => ?_
  · obtain ⟨a, rfl, _⟩ := one_of hl
    cases r with
    | nil => rfl
    | cons c r => rfl
  · have O := Own.new O hN
    have m := List.mem_cons_of_mem (As.cell t0 (.tup [vI k])) m
    clear hN
    dsimp only at E
    walk_at "T"
    walk_at "T"
    walk_at "T"
    walk_at "T"
    walk_at "T"
    walk_at "T"
    refine A_rdN E O ⟨m, rfl⟩ hr ?_
    repeat (walk_at "T")
    refine ⟨_, rfl, (fun _ => ?_), fun h => absurd h (by decide)⟩
    repeat (walk_at "T")
    refine E_raiseV E OF'.hh rfl (by rfl) rfl ?_
    repeat (walk_at "T")
    exact ⟨rfl, rfl, O.tail⟩
theorem done_spec {F : Fc} {n : Nat} {S : Srt} {rd : Addr} {ns : List Int} {ks : List Int} {H : AHeap} {l r : List As} {B : Nat} (I : Nat → PS → Prop) (W : Wld (K2 w) F mg mb) (OF : F.Ok (n + 1)) (O : Own2 prog w H l) (t : Take (.srt S) l r) (hr : S.ready = some (rd, ns))
    (hk : ks.length ≤ 100000) (h10 : ∀ k ∈ ks, 0 ≤ k ∧ k < 10) (hcl : ∀ x ∈ S.nds, ∀ s ∈ x.succ, ∃ y ∈ S.nds, y.key = s) (hB : ∀ x ∈ S.nds, x.succ.length ≤ 1000)
    (hI0 : I 0 S.p) (hI1 : ∀ i k P, ks[i]? = some k → I i P → refusal (P.npOf k) k = none → I (i + 1) (P.done1 k)) (hI2 : ∀ i P, i < ks.length → I i P → (∀ x ∈ P.nds, -2 ≤ x.np) ∧ (P.ready.getD []).length ≤ 50000) :
    Calls prog w F (.ref 120) ([.ref S.self] ++ nums ks) H
      (fun v H' => v = .none ∧ ∃ S' ns', Own2 prog w H' (.srt S' :: r) ∧ Same S S' ∧ S.p.doneN ks = (S'.p, none) ∧ S'.ready = some (rd, ns'))
      (fun c a H' => c = .type "ValueError" ∧ ∃ S' ns' m, a = [vS m] ∧ Own2 prog w H' (.srt S' :: r) ∧ Same S S' ∧ S.p.doneN ks = (S'.p, some m) ∧ S'.ready = some (rd, ns')) := by
  refine Calls.entS (fd := _) (body := _) (names := ["self"]) (nm := "nodes") W OF ⟨⟨_, W.kx _ _ rfl, rfl⟩, rfl, rfl, rfl, codeRec_of W.kx (by rfl), rfl, rfl, by decide +kernel⟩ (by rw [List.length_map]; walk_at "num") (fun l r hl => ?_) (by decide) (by decide +kernel) rfl rfl rfl fun F' E U OF' t0 H1 hN => ?_
  · obtain ⟨a, rfl, _⟩ := one_of hl
    cases r with
    | nil => rfl
    | cons c r => rfl
  · have O := Own.new (O.take t) hN
    clear hN
    dsimp only at E
    repeat (walk_at "T")
    refine ⟨_, rfl, (fun h => by cases h), fun _ => ?_⟩
    repeat (walk_at "T")
    refine E_forB [(("self" : Str), .ref S.self), (("n2i" : Str), .ref S.dn)] E U OF'.hh (fun _ => rfl) (by rfl) ?_
    repeat (walk_at "T")
    refine exi3 (nums ks) .tup (fun i H => ∃ S' ns', Own2 prog w H (.srt S' :: .cell t0 (.tup (nums ks)) :: r) ∧ Same S S' ∧ S.p.doneN ks = S'.p.doneN (ks.drop i) ∧ S'.ready = some (rd, ns') ∧ I i S'.p) ⟨⟨t0, rfl, O.get (by walk_at "mem")⟩, ⟨rfl, rfl, trivial⟩, ⟨S, ns, O.take (.there .here), .refl _, rfl, hr, hI0⟩, ?_, ?_, ?_⟩
    · rintro i H vs ⟨S', ns', O, _⟩
      exact ⟨t0, rfl, O.get (by walk_at "mem")⟩
    · rintro i x0 H hi hx0_; refine ex2and5 hx0_ fun S' ns' O s3 p3 r3 hI => ?_; try clear hx0_
      obtain ⟨k, rfl, hk'⟩ := nums_get hi
      have hlt : i < ks.length := (List.getElem?_eq_some_iff.mp hk').1
      obtain ⟨hsane, hrl⟩ := hI2 i _ hlt hI
      have hdrop : ks.drop i = k :: ks.drop (i + 1) := by
        rw [List.drop_eq_getElem_cons hlt]
        congr 1
        have := (List.getElem?_eq_some_iff.mp hk').2; exact this
      obtain ⟨k0, k10⟩ := h10 k (List.mem_of_getElem? hk')
      have A := O.srtAt (S := S') (by walk_at "mem")
      obtain ⟨m, hd⟩ := O.n2i (S := S') (by walk_at "mem")
      rw [← s3.dn, ← s3.self]
      repeat (walk_at "T")
      refine C_dget (KI prog w) (k := k) E (by exact hd) ?_
      by_cases q : ∃ x ∈ S'.nds, x.key = k
      · obtain ⟨x, hx, rfl⟩ := q
        rw [A.val hx, Option.getD_some]
        have hnp := A.npOf hx
        repeat (walk_at "T")
        refine ⟨_, rfl, (fun h => by cases h), fun _ => ?_⟩
        repeat (walk_at "T")
        refine ⟨_, rfl, fun hst => ?_, fun hst => ?_⟩
        · have hne : x.np ≠ -1 := by simpa using hst
          repeat (walk_at "T")
          refine ⟨_, rfl, fun hge => ?_, fun hge => ?_⟩
          · have hge : 0 ≤ x.np := of_decide_eq_true hge
            repeat (walk_at "T")
            refine E_raiseV E OF'.hh rfl (by rfl) rfl ?_
            refine E_joined3 rfl ?_
            repeat (walk_at "T")
            refine ⟨_, rfl, by decide, ?_⟩
            refine T_reprI ?_
            repeat (walk_at "T")
            refine ⟨_, rfl, by walk_at "num", _, rfl, txt_len k0 k10, ?_⟩
            repeat (walk_at "T")
            refine ⟨_, rfl, by decide, ?_⟩
            refine ⟨rfl, exi3 S' ns' _ ⟨rfl, (O.take (.there .here)).tail, s3, ?_, r3⟩⟩
            rw [p3, hdrop, PS.doneN, hnp]
            unfold refusal
            dsimp only
            rw [if_neg hne, if_pos hge]; rfl
          · have hlt0 : ¬ 0 ≤ x.np := of_decide_eq_false hge
            have hm2 : x.np = -2 := by
              have := hsane x.p (List.mem_map_of_mem hx)
              have : -2 ≤ x.np := this
              walk_at "num"
            repeat (walk_at "T")
            refine ⟨_, rfl, fun _ => ?_, fun h => absurd h (by rw [hm2]; decide)⟩
            repeat (walk_at "T")
            refine E_raiseV E OF'.hh rfl (by rfl) rfl ?_
            refine E_joined3 rfl ?_
            repeat (walk_at "T")
            refine ⟨_, rfl, by decide, ?_⟩
            refine T_reprI ?_
            repeat (walk_at "T")
            refine ⟨_, rfl, by walk_at "num", _, rfl, txt_len k0 k10, ?_⟩
            repeat (walk_at "T")
            refine ⟨_, rfl, by decide, ?_⟩
            refine ⟨rfl, exi3 S' ns' _ ⟨rfl, (O.take (.there .here)).tail, s3, ?_, r3⟩⟩
            rw [p3, hdrop, PS.doneN, hnp]
            unfold refusal
            dsimp only
            rw [if_neg hne, if_neg hlt0]; rfl
        · have hm1 : x.np = -1 := by simpa using hst
          repeat (walk_at "T")
          intro H2 O
          repeat (walk_at "T")
          have hx2 := mem_setNp hx (-2)
          have hsl : x.succ.length ≤ 1000 := by
            refine ex1and5 ((Same.mk s3.self.symm s3.dn.symm s3.sk.symm).at hx) fun z hz e1 e2 e3 e4 => ?_
            rw [← e4]; exact hB z hz
          have hns : ns'.length ≤ 50000 := by
            have : S'.p.ready = some ns' := by unfold Srt.p; rw [r3]; rfl
            rw [this] at hrl; exact hrl
          have hsc := A.succOf hx
          refine E_forB [(("self" : Str), .ref S'.self), (("n2i" : Str), .ref S'.dn)] E U OF'.hh (fun _ => rfl) (by rfl) ?_
          repeat (walk_at "T")
          refine A_succ (x := { x with np := -2 }) E hx2 (by exact O) (by walk_at "mem") ?_
          refine exi3 (nums x.succ) .list (fun j H => ∃ S'' ns'', Own2 prog w H (.srt S'' :: .cell t0 (.tup (nums ks)) :: r) ∧ Same (S'.setNp x.key (-2)) S'' ∧ S''.p = (x.succ.take j).foldl PS.dec (S'.p.setN x.key (-2)) ∧ S''.ready = some (rd, ns'') ∧ ns''.length ≤ 50000 + j) ⟨⟨x.sa, rfl, O.sa (x := { x with np := -2 }) (by walk_at "mem") hx2⟩, ⟨rfl, rfl, trivial⟩, ⟨_, ns', O, .refl _, ?_, r3, by walk_at "num"⟩, ?_, ?_, ?_⟩
          · rw [Srt.setNp_p]; rfl
          · rintro j H vs hx0_; refine ex2and3 hx0_ fun S'' ns'' O s5 _ => ?_; try clear hx0_
            refine ex1and5 (s5.at hx2) fun y hy e1 e2 e3 e4 => ?_
            have := O.sa (by walk_at "mem") hy
            rw [e3, e4] at this
            exact ⟨x.sa, rfl, this⟩
          · rintro j y0 H hj hx0_; refine ex2and5 hx0_ fun S'' ns'' O s5 p5 r5 l5 => ?_; try clear hx0_
            obtain ⟨s, rfl, hs'⟩ := nums_get hj
            have hjl : j < x.succ.length := (List.getElem?_eq_some_iff.mp hs').1
            have s6 := (s3.trans (Same.setNp S' x.key (-2))).trans s5
            have hys : ∃ y ∈ S''.nds, y.key = s := by
              refine ex1and5 ((Same.mk s3.self.symm s3.dn.symm s3.sk.symm).at hx) fun z hz e1 e2 e3 e4 => ?_
              exact s6.keyed (hcl z hz s (e4 ▸ List.mem_of_getElem? hs'))
            obtain ⟨y, hy, rfl⟩ := hys
            have e1 : S'.self = S''.self := s5.self.symm
            have e2 : S'.dn = S''.dn := s5.dn.symm
            have A5 := O.srtAt (S := S'') (by walk_at "mem")
            rw [e1, e2]
            repeat (walk_at "T")
            intro H3 O
            have hy2 := mem_setNp hy (y.np - 1)
            repeat (walk_at "T")
            have p6 : (S''.setNp y.key (y.np - 1)).p = S''.p.on y.key (fun x => { x with np := x.np - 1 }) := A5.bump hy (-1)
            have n6 : (S''.p.on y.key (fun x => { x with np := x.np - 1 })).npOf y.key = some (y.np - 1) := by
              rw [← p6]; exact (O.srtAt (by walk_at "mem")).npOf hy2
            have r6 : (S''.setNp y.key (y.np - 1)).ready = some (rd, ns'') := r5
            have s7 : Same (S'.setNp x.key (-2)) (S''.setNp y.key (y.np - 1)) := s5.trans (.setNp _ _ _)
            refine A_np (x := { y with np := y.np - 1 }) E hy2 (by exact O) (by walk_at "mem") ?_
            repeat (walk_at "T")
            refine ⟨_, rfl, fun hz => ?_, fun hz => ?_⟩
            · have hz : y.np - 1 = 0 := by simpa using hz
              repeat (walk_at "T")
              refine C_appendR O (by walk_at "take") r6 (by walk_at "num") fun H4 O => ?_
              repeat (walk_at "T")
              refine ⟨⟨rfl, rfl, trivial⟩, exi2 _ _ ⟨O, ⟨s7.self, s7.dn, s7.sk⟩, ?_, rfl, by simp; walk_at "num"⟩⟩
              rw [dec_take hs', ← p5]
              unfold PS.dec
              simp only
              rw [n6, if_pos (by rw [hz]), ← p6]
              have : (S''.setNp y.key (y.np - 1)).p.ready = some ns'' := by unfold Srt.p; rw [r6]; rfl
              rw [this]; rfl
            · have hz : y.np - 1 ≠ 0 := by simpa using hz
              repeat (walk_at "T")
              refine ⟨⟨rfl, rfl, trivial⟩, exi2 _ _ ⟨O, s7, ?_, r6, by walk_at "num"⟩⟩
              rw [dec_take hs', ← p5]
              unfold PS.dec
              simp only
              rw [n6, if_neg (by intro e; injection e with e; exact hz e), p6]
          · rintro H hx0_; refine ex2and5 hx0_ fun S'' ns'' O s5 p5 r5 l5 => ?_; try clear hx0_
            have e1 : S'.self = S''.self := s5.self.symm
            rw [e1]
            repeat (walk_at "T")
            intro H3 O
            repeat (walk_at "T")
            have href : refusal (S'.p.npOf x.key) x.key = none := by rw [hnp, hm1]; rfl
            have hp : ({ S'' with fin := S''.fin + 1 } : Srt).p = S'.p.done1 x.key := by
              rw [nums_len, List.take_length] at p5
              unfold PS.done1
              rw [hsc, ← p5]; rfl
            refine ⟨⟨congrArg (fun z => some (Value.ref z)) e1.symm, rfl, trivial⟩, exi2 _ ns'' ⟨O, ?_, ?_, r5, ?_⟩⟩
            · have s6 := (s3.trans (Same.setNp S' x.key (-2))).trans s5
              exact ⟨s6.self, s6.dn, s6.sk⟩
            · rw [p3, hdrop, PS.doneN, href, hp]
            · rw [hp]; exact hI1 i x.key S'.p hk' hI href
      · have q' : ∀ y ∈ S'.nds, y.key ≠ k := fun y hy e => q ⟨y, hy, e⟩
        rw [Srt.val_none q', Option.getD_none]
        repeat (walk_at "T")
        refine ⟨_, rfl, (fun _ => ?_), fun h => by cases h⟩
        repeat (walk_at "T")
        refine E_raiseV E OF'.hh rfl (by rfl) rfl ?_
        refine E_joined3 rfl ?_
        repeat (walk_at "T")
        refine ⟨_, rfl, by decide, ?_⟩
        refine T_reprI ?_
        repeat (walk_at "T")
        refine ⟨_, rfl, by walk_at "num", _, rfl, txt_len k0 k10, ?_⟩
        repeat (walk_at "T")
        refine ⟨_, rfl, by decide, ?_⟩
        refine ⟨rfl, exi3 S' ns' _ ⟨rfl, (O.take (.there .here)).tail, s3, ?_, r3⟩⟩
        rw [p3, hdrop, PS.doneN, Srt.npNone q']; rfl
    · rintro H hx0_; refine ex2and5 hx0_ fun S' ns' O s3 p3 r3 hI => ?_; try clear hx0_
      repeat (walk_at "T")
      refine ⟨rfl, exi2 S' ns' ⟨(O.take (.there .here)).tail, s3, ?_, r3⟩⟩
      rw [p3, nums_len, List.drop_length]; rfl
end
end
section
set_option maxRecDepth 100000
set_option Elab.async false
set_option linter.unusedVariables false
set_option maxHeartbeats 4000000
open PySem PySem.W PySem.Calls PyProof.Rows PySem.SeqAt
structure Fr where
  x : Nd
  i : Nat
  it : Addr
  b : Addr
noncomputable def fkeys (fs : List Fr) : List Int := fs.map (·.x.key)
noncomputable def fbs (fs : List Fr) : List Value := fs.map fun f => .ref f.b
noncomputable def ents : List Fr → List (Int × Value)
  | [] => []
  | f :: gs => ents gs ++ [(f.x.key, vI gs.length)]
noncomputable def fcells : List Fr → List As
  | [] => []
  | f :: gs => .cell f.b (.bm "method-wrapper" (.builtin "list_iterator.__next__") (.ref f.it)) :: .cell f.it (.iter f.x.sa f.i) :: fcells gs
inductive Tp (P : PS) : List Int → Prop
  | nil : Tp P []
  | snoc {l : List Int} {x : PN} : Tp P l → x ∈ P.nds → (∀ s ∈ x.succ, s ∈ l) → Tp P (l ++ [x.key])
noncomputable def PS.Topo (P : PS) : Prop := ∃ fin, Tp P fin ∧ ∀ x ∈ P.nds, x.key ∈ fin
noncomputable def PS.Ring (P : PS) : Prop := ∃ C : List Int, C ≠ [] ∧ ∀ c ∈ C, ∃ x ∈ P.nds, x.key ∈ C ∧ c ∈ x.succ
noncomputable def Prog (fin : List Int) : Option Int → List Fr → Prop
  | _, [] => True
  | c, f :: gs => (∀ j s, j < f.i → f.x.succ[j]? = some s → s ∈ fin ∨ c = some s) ∧ Prog fin (some f.x.key) gs
noncomputable def Chain : Int → List Fr → Prop
  | _, [] => True
  | c, f :: gs => c ∈ f.x.succ ∧ Chain f.x.key gs
noncomputable def Chain0 : List Fr → Prop
  | [] => True
  | f :: gs => Chain f.x.key gs
structure DInv (S : Srt) (fs : List Fr) (ks fin : List Int) : Prop where
  nds : ∀ f ∈ fs, f.x ∈ S.nds
  idx : ∀ f ∈ fs, f.i ≤ f.x.succ.length
  ksn : ks.Nodup
  ksin : ∀ k ∈ ks, k ∈ S.nds.map (·.key)
  nod : (fkeys fs).Nodup
  sub : ∀ f ∈ fs, f.x.key ∈ ks
  dich : ∀ k ∈ ks, k ∈ fin ∨ k ∈ fkeys fs
  tp : Tp S.p fin
theorem Prog.more {fin fin' : List Int} (h : ∀ k ∈ fin, k ∈ fin') : ∀ {fs : List Fr} {c : Option Int}, Prog fin c fs → Prog fin' c fs
  | [], _, _ => trivial
  | f :: gs, c, ⟨h1, h2⟩ => ⟨fun j s hj hs => (h1 j s hj hs).imp (h s) id, Prog.more h h2⟩
theorem Prog.into {fin : List Int} {c : Int} (h : c ∈ fin) {fs : List Fr} (p : Prog fin (some c) fs) : Prog fin none fs := by
  cases fs with
  | nil => trivial
  | cons f gs => exact ⟨fun j s hj hs => .inl ((p.1 j s hj hs).elim id fun e => by cases e; exact h), p.2⟩
theorem Chain.zero : ∀ {fs : List Fr} {c : Int}, Chain c fs → Chain0 fs
  | [], _, _ => trivial
  | f :: gs, _, h => h.2
theorem ents_keys : ∀ fs : List Fr, (ents fs).map (·.1) = (fkeys fs).reverse
  | [] => rfl
  | f :: gs => by
    have e1 : ents (f :: gs) = ents gs ++ [(f.x.key, vI gs.length)] := rfl
    have e2 : fkeys (f :: gs) = f.x.key :: fkeys gs := rfl
    rw [e1, e2, List.map_append, ents_keys gs, List.reverse_cons]; rfl
theorem ents_some {k : Int} : ∀ {fs : List Fr}, (valueAt (ents fs) k).isSome = decide (k ∈ fkeys fs) := by
  intro fs
  have hk := ents_keys fs
  unfold valueAt
  rw [Option.isSome_map]
  rw [Bool.eq_iff_iff, List.find?_isSome, decide_eq_true_eq]
  constructor
  · rintro ⟨p, hp, e⟩
    have e : p.1 = k := of_decide_eq_true e
    have : p.1 ∈ (ents fs).map (·.1) := List.mem_map_of_mem hp
    rw [hk, List.mem_reverse, e] at this; exact this
  · intro h
    have : k ∈ (ents fs).map (·.1) := by rw [hk, List.mem_reverse]; exact h
    obtain ⟨p, hp, e⟩ := List.mem_map.mp this
    exact ⟨p, hp, decide_eq_true e⟩
theorem ents_val : ∀ {fs : List Fr}, ∀ p ∈ ents fs, ∃ n : Nat, p.2 = vI n ∧ n < fs.length
  | [], p, h => (nomatch h)
  | f :: gs, p, h => by
    rcases List.mem_append.mp h with h | h
    · obtain ⟨n, e, hn⟩ := ents_val p h; exact ⟨n, e, by rw [List.length_cons]; omega⟩
    · rw [List.mem_singleton.mp h]; exact ⟨gs.length, rfl, by rw [List.length_cons]; omega⟩
theorem ents_at {k : Int} {fs : List Fr} (h : k ∈ fkeys fs) : ∃ n : Nat, valueAt (ents fs) k = some (vI n) ∧ n < fs.length := by
  have : (valueAt (ents fs) k).isSome = true := by rw [ents_some]; exact decide_eq_true h
  obtain ⟨v, hv⟩ := Option.isSome_iff_exists.mp this
  unfold valueAt at hv
  obtain ⟨p, hp, e⟩ := Option.map_eq_some_iff.mp hv
  obtain ⟨n, en, hn⟩ := ents_val p (List.mem_of_find?_eq_some hp)
  refine ⟨n, ?_, hn⟩
  unfold valueAt
  rw [hp, ← en]; rfl
theorem ents_stored {k : Int} {fs : List Fr} {v : Value} (h : k ∉ fkeys fs) : stored (ents fs) k v = ents fs ++ [(k, v)] := by
  unfold stored
  rw [if_neg]
  rw [Bool.not_eq_true, List.any_eq_false]
  intro p hp e
  have e : p.1 = k := of_decide_eq_true e
  refine h ?_
  have : p.1 ∈ (ents fs).map (·.1) := List.mem_map_of_mem hp
  rw [ents_keys, List.mem_reverse, e] at this; exact this
theorem ents_without {f : Fr} {gs : List Fr} (h : f.x.key ∉ fkeys gs) : without (ents (f :: gs)) f.x.key = ents gs := by
  have hk : ∀ p ∈ ents gs, p.1 ≠ f.x.key := fun p hp e => h (by
    have : p.1 ∈ (ents gs).map (·.1) := List.mem_map_of_mem hp
    rw [ents_keys, List.mem_reverse, e] at this; exact this)
  have e1 : ents (f :: gs) = ents gs ++ [(f.x.key, vI gs.length)] := rfl
  unfold without
  rw [e1, List.filter_append, List.filter_eq_self.mpr fun p hp => by simpa using hk p hp]
  simp
theorem ents_len (fs : List Fr) : (ents fs).length = fs.length := by
  have := congrArg List.length (ents_keys fs)
  rw [List.length_map, List.length_reverse] at this
  unfold fkeys at this
  rwa [List.length_map] at this
theorem nodup_len : ∀ {l m : List Int}, l.Nodup → (∀ a ∈ l, a ∈ m) → l.length ≤ m.length
  | [], m, _, _ => Nat.zero_le _
  | a :: l, m, hn, hs => by
    obtain ⟨h1, h2⟩ := List.nodup_cons.mp hn
    have ha := hs a List.mem_cons_self
    have := nodup_len (m := m.erase a) h2 fun b hb => (List.mem_erase_of_ne fun e => h1 (by rw [← e]; exact hb)).mpr (hs b (List.mem_cons_of_mem _ hb))
    rw [List.length_erase_of_mem ha] at this
    have : 0 < m.length := List.length_pos_of_mem ha
    rw [List.length_cons]; omega
theorem DInv.kslen {S : Srt} {fs : List Fr} {ks fin : List Int} (D : DInv S fs ks fin) : ks.length ≤ S.nds.length := by
  have := nodup_len D.ksn D.ksin
  rwa [List.length_map] at this
theorem DInv.fslen {S : Srt} {fs : List Fr} {ks fin : List Int} (D : DInv S fs ks fin) : fs.length ≤ S.nds.length := by
  have := nodup_len D.nod fun a ha => by
    obtain ⟨f, hf, rfl⟩ := List.mem_map.mp ha
    exact D.sub f hf
  unfold fkeys at this
  rw [List.length_map] at this
  exact Nat.le_trans this D.kslen
noncomputable def muK (l : List Nd) (ks : List Int) : Nat := (l.map fun x => if x.key ∈ ks then 0 else x.succ.length + 2).sum
noncomputable def muF (fs : List Fr) : Nat := (fs.map fun f => f.x.succ.length - f.i + 1).sum
theorem muK_mono (l : List Nd) (ks : List Int) (k : Int) : muK l (ks ++ [k]) ≤ muK l ks := by
  unfold muK
  induction l with
  | nil => exact Nat.le_refl _
  | cons z l ih =>
    rw [List.map_cons, List.map_cons, List.sum_cons, List.sum_cons]
    have : (if z.key ∈ ks ++ [k] then 0 else z.succ.length + 2) ≤ if z.key ∈ ks then 0 else z.succ.length + 2 := by
      by_cases q : z.key ∈ ks
      · rw [if_pos q, if_pos (List.mem_append_left _ q)]; omega
      · rw [if_neg q]; split <;> omega
    omega
theorem muK_push {x : Nd} {ks : List Int} (hk : x.key ∉ ks) : ∀ {l : List Nd}, x ∈ l → muK l (ks ++ [x.key]) + (x.succ.length + 2) ≤ muK l ks
  | z :: l, h => by
    unfold muK
    rw [List.map_cons, List.map_cons, List.sum_cons, List.sum_cons]
    rcases List.mem_cons.mp h with rfl | h
    · have := muK_mono l ks x.key
      unfold muK at this
      rw [if_pos (List.mem_append_right _ List.mem_cons_self), if_neg hk]
      omega
    · have := muK_push hk h
      unfold muK at this
      have : (if z.key ∈ ks ++ [x.key] then 0 else z.succ.length + 2) ≤ if z.key ∈ ks then 0 else z.succ.length + 2 := by
        by_cases q : z.key ∈ ks
        · rw [if_pos q, if_pos (List.mem_append_left _ q)]; omega
        · rw [if_neg q]; split <;> omega
      omega
theorem ring_of {S : Srt} {k : Int} : ∀ {fs : List Fr} {c : Int}, (∀ f ∈ fs, f.x ∈ S.nds) → Chain c fs → k ∈ fkeys fs →
    ∃ C : List Int, k ∈ C ∧ (∃ x ∈ S.p.nds, x.key ∈ C ∧ c ∈ x.succ) ∧ ∀ d ∈ C, d ≠ k → ∃ x ∈ S.p.nds, x.key ∈ C ∧ d ∈ x.succ
  | [], _, _, _, h => (nomatch h)
  | f :: gs, c, hn, ⟨h1, h2⟩, h => by
    have hf : f.x.p ∈ S.p.nds := List.mem_map_of_mem (hn f List.mem_cons_self)
    by_cases q : f.x.key = k
    · exact ⟨[k], List.mem_cons_self, ⟨f.x.p, hf, by rw [← q]; exact List.mem_cons_self, h1⟩, fun d hd hne => absurd (List.mem_singleton.mp hd) hne⟩
    · have hg : k ∈ fkeys gs := by
        rcases List.mem_cons.mp h with e | h
        · exact absurd e.symm q
        · exact h
      obtain ⟨C, a1, ⟨x, x1, x2, x3⟩, a3⟩ := ring_of (fun f hf => hn f (List.mem_cons_of_mem _ hf)) h2 hg
      refine ⟨f.x.key :: C, List.mem_cons_of_mem _ a1, ⟨f.x.p, hf, List.mem_cons_self, h1⟩, fun d hd hne => ?_⟩
      rcases List.mem_cons.mp hd with rfl | hd
      · exact ⟨x, x1, List.mem_cons_of_mem _ x2, x3⟩
      · obtain ⟨y, y1, y2, y3⟩ := a3 d hd hne
        exact ⟨y, y1, List.mem_cons_of_mem _ y2, y3⟩
theorem ring_at {S : Srt} {fs : List Fr} {k : Int} (hn : ∀ f ∈ fs, f.x ∈ S.nds) (hc : Chain k fs) (hk : k ∈ fkeys fs) : S.p.Ring := by
  obtain ⟨C, a1, a2, a3⟩ := ring_of hn hc hk
  refine ⟨C, (fun e => by rw [e] at a1; cases a1), fun c hc => ?_⟩
  by_cases q : c = k
  · rw [q]; exact a2
  · exact a3 c hc q
end
section
set_option maxRecDepth 100000
set_option Elab.async false
set_option linter.unusedVariables false
set_option maxHeartbeats 4000000
open PySem PySem.W PySem.Calls PyProof.Rows PySem.SeqAt
noncomputable abbrev DFl (prog : Program) (w : World) (stk itl sn n2s : Addr) (G : AHeap) (fs : List Fr) (ks : List Int) (m : Nat) (r : List As) : List As :=
  .cell stk (.list (nums (fkeys fs).reverse)) :: .cell itl (.list (fbs fs).reverse) :: .cell sn (.iset ks) :: .cell n2s (.dict (dE (KI prog w) (ents fs)) m) :: .frag G :: (fcells fs ++ r)
theorem keysE {prog : Program} {w : World} (S : Srt) : nums (S.nds.map (·.key)) = (dE (KI prog w) S.es).map (·.1) := by
  unfold nums dE Srt.es
  rw [List.map_map, List.map_map, List.map_map]; rfl
theorem fk_push (f : Fr) (fs : List Fr) : nums (fkeys (f :: fs)).reverse = nums (fkeys fs).reverse ++ [vI f.x.key] := by
  unfold fkeys nums
  rw [List.map_cons, List.reverse_cons, List.map_append]; rfl
theorem fb_push (f : Fr) (fs : List Fr) : (fbs (f :: fs)).reverse = (fbs fs).reverse ++ [.ref f.b] := by
  unfold fbs
  rw [List.map_cons, List.reverse_cons]
theorem fk_len (fs : List Fr) : (nums (fkeys fs).reverse).length = fs.length := by unfold nums fkeys; simp
theorem fb_len (fs : List Fr) : (fbs fs).reverse.length = fs.length := by unfold fbs; simp
theorem fk_empty (fs : List Fr) : (nums (fkeys fs).reverse).isEmpty = fs.isEmpty := by
  rw [Bool.eq_iff_iff, List.isEmpty_iff, List.isEmpty_iff, ← List.length_eq_zero_iff, fk_len, List.length_eq_zero_iff]
theorem Own.thaw2 {prog : Program} {w : World} {cN cT : Addr} {H : AHeap} {l : List As} {S : Srt} {G : AHeap} {c : As} (O : Own prog w cN cT H (c :: .frag G :: l)) (A : S.At prog w cN cT G) : Own prog w cN cT H (c :: .srt S :: l) :=
  ((O.perm (.swap _ _ _)).thaw A).perm (.swap _ _ _)
theorem DInv.push {S : Srt} {fs : List Fr} {ks fin : List Int} (D : DInv S fs ks fin) {x : Nd} (hx : x ∈ S.nds) (hk : x.key ∉ ks) (it b : Addr) : DInv S (⟨x, 0, it, b⟩ :: fs) (ks ++ [x.key]) fin where
  nds f hf := by
    rcases List.mem_cons.mp hf with rfl | hf
    · exact hx
    · exact D.nds f hf
  idx f hf := by
    rcases List.mem_cons.mp hf with rfl | hf
    · exact Nat.zero_le _
    · exact D.idx f hf
  ksn := List.nodup_append.mpr ⟨D.ksn, List.nodup_cons.mpr ⟨nofun, List.nodup_nil⟩, fun a ha b hb e => hk (by rw [← List.mem_singleton.mp hb, ← e]; exact ha)⟩
  ksin k hk' := by
    rcases List.mem_append.mp hk' with h | h
    · exact D.ksin k h
    · rw [List.mem_singleton.mp h]; exact List.mem_map_of_mem hx
  nod := List.nodup_cons.mpr ⟨fun h => by
    obtain ⟨f, hf, e⟩ := List.mem_map.mp h
    have := D.sub f hf
    rw [show f.x.key = x.key from e] at this
    exact hk this, D.nod⟩
  sub f hf := by
    rcases List.mem_cons.mp hf with rfl | hf
    · exact List.mem_append_right _ List.mem_cons_self
    · exact List.mem_append_left _ (D.sub f hf)
  dich k hk' := by
    rcases List.mem_append.mp hk' with h | h
    · exact (D.dich k h).imp id (List.mem_cons_of_mem _)
    · rw [List.mem_singleton.mp h]; exact .inr List.mem_cons_self
  tp := D.tp
theorem DInv.step {S : Srt} {f : Fr} {gs : List Fr} {ks fin : List Int} (D : DInv S (f :: gs) ks fin) (h : f.i + 1 ≤ f.x.succ.length) : DInv S (⟨f.x, f.i + 1, f.it, f.b⟩ :: gs) ks fin where
  nds g hg := by
    rcases List.mem_cons.mp hg with rfl | hg
    · exact D.nds f List.mem_cons_self
    · exact D.nds g (List.mem_cons_of_mem _ hg)
  idx g hg := by
    rcases List.mem_cons.mp hg with rfl | hg
    · exact h
    · exact D.idx g (List.mem_cons_of_mem _ hg)
  ksn := D.ksn
  ksin := D.ksin
  nod := D.nod
  sub g hg := by
    rcases List.mem_cons.mp hg with rfl | hg
    · exact D.sub f List.mem_cons_self
    · exact D.sub g (List.mem_cons_of_mem _ hg)
  dich := D.dich
  tp := D.tp
theorem DInv.pop {S : Srt} {f : Fr} {gs : List Fr} {ks fin : List Int} (D : DInv S (f :: gs) ks fin) (h : ∀ s ∈ f.x.succ, s ∈ fin) : DInv S gs ks (fin ++ [f.x.key]) where
  nds g hg := D.nds g (List.mem_cons_of_mem _ hg)
  idx g hg := D.idx g (List.mem_cons_of_mem _ hg)
  ksn := D.ksn
  ksin := D.ksin
  nod := (List.nodup_cons.mp D.nod).2
  sub g hg := D.sub g (List.mem_cons_of_mem _ hg)
  dich k hk := by
    rcases D.dich k hk with h | h
    · exact .inl (List.mem_append_left _ h)
    · rcases List.mem_cons.mp h with h | h
      · exact .inl (List.mem_append_right _ (by rw [h]; exact List.mem_cons_self))
      · exact .inr h
  tp := .snoc (x := f.x.p) D.tp (List.mem_map_of_mem (D.nds f List.mem_cons_self)) h
section
variable {prog : Program} {w : World} {mg mb : Str → Option Value}

theorem cycle_spec {F : Fc} {n : Nat} {S : Srt} {H : AHeap} {l r : List As} (W : Wld (K2 w) F mg mb) (OF : F.Ok (n + 1)) (O : Own2 prog w H l) (t : Take (.srt S) l r)
    (hn : S.nds.length ≤ 1000) (hcl : ∀ x ∈ S.nds, ∀ s ∈ x.succ, ∃ y ∈ S.nds, y.key = s) (hB : ∀ x ∈ S.nds, x.succ.length ≤ 100000) :
    Calls prog w F (.ref 127) [.ref S.self] H
      (fun v H' => (v = .none ∧ Own2 prog w H' (.srt S :: r) ∧ S.p.Topo) ∨ (∃ a xs, v = .ref a ∧ xs ≠ [] ∧ xs.length ≤ 10000 ∧ Own2 prog w H' (.cell a (.list xs) :: .srt S :: r) ∧ S.p.Ring)) (fun _ _ _ => False) := by
  refine Calls.ent (fd := _) (body := _) (names := ["self"]) W OF ⟨⟨_, W.kx _ _ rfl, rfl⟩, rfl, rfl, rfl, codeRec_of W.kx (by rfl), rfl, rfl, by decide +kernel⟩ (fun args' ha => ?_) (by decide) (by decide +kernel) rfl rfl rfl fun F' E U OF' => ?_
  · obtain ⟨a, rfl, _⟩ := one_of ha; rfl
  · obtain ⟨G, O, AG, hG⟩ := (O.take t).freeze
    have O1 := O.thaw AG
    dsimp only at E
    repeat (walk_at "T")
    intro stk H1 hN; have O := Own.new O hN; clear hN
    repeat (walk_at "T")
    intro itl H2 hN; have O := Own.new O hN; clear hN
    repeat (walk_at "T")
    intro sn H3 hN; have O := Own.new O hN; clear hN
    repeat (walk_at "T")
    intro n2s H4 hN; have O := Own.new O hN; clear hN
    repeat (walk_at "T")
    clear O1
    have O : Own2 prog w H4 (DFl prog w stk itl sn n2s G [] [] 0 r) := O.perm ((List.reverse_perm [As.cell n2s _, As.cell sn _, As.cell itl _, As.cell stk _]).symm.append_right _)
    obtain ⟨m0, hdn⟩ := AG.dn
    have hm : (As.frag G) ∈ (As.frag G :: r) := List.mem_cons_self
    refine E_forB [(("self" : Str), .ref S.self), (("n2i" : Str), .ref S.dn), (("stack" : Str), .ref stk), (("itstack" : Str), .ref itl), (("seen" : Str), .ref sn), (("node2stacki" : Str), .ref n2s)] E U OF'.hh (fun _ => rfl) (by rfl) ?_
    repeat (walk_at "T")
    refine exi3 (nums (S.nds.map (·.key))) (.keys (dE (KI prog w) S.es) m0) (fun io H => ∃ ks fin m, Own2 prog w H (DFl prog w stk itl sn n2s G [] ks m r) ∧ DInv S [] ks fin ∧ ∀ x ∈ S.nds.take io, x.key ∈ ks) ⟨⟨S.dn, rfl, O.fragAt (by walk_at "mem") _ _ hdn, keysE S⟩, ⟨rfl, rfl, rfl, rfl, rfl, rfl, trivial⟩, ⟨[], [], 0, O, ⟨nofun, nofun, List.nodup_nil, nofun, List.nodup_nil, nofun, nofun, .nil⟩, nofun⟩, ?_, ?_, ?_⟩
    · rintro i H vs hx0_; refine ex3and2 hx0_ fun ks fin m O _ => ?_; try clear hx0_
      exact ⟨S.dn, rfl, O.fragAt (by walk_at "mem") _ _ hdn, keysE S⟩
    · rintro io x0 H hi hx0_; refine ex3and3 hx0_ fun ks fin m O D hdone => ?_; try clear hx0_
      obtain ⟨k0, rfl, hk0⟩ := nums_get hi
      rw [List.getElem?_map] at hk0
      obtain ⟨x00, hx00, rfl⟩ := Option.map_eq_some_iff.mp hk0
      have hx00m : x00 ∈ S.nds := List.mem_of_getElem? hx00
      have htk : S.nds.take (io + 1) = S.nds.take io ++ [x00] := by rw [List.take_add_one, hx00]; rfl
      have hkl := D.kslen
      repeat (walk_at "T")
      refine P_inS (by walk_at "own") (by walk_at "num") ?_
      refine ⟨_, rfl, fun hin => ?_, fun hin => ?_⟩
      · have hin : x00.key ∈ ks := of_decide_eq_true hin
        repeat (walk_at "T")
        refine ⟨⟨rfl, rfl, rfl, rfl, rfl, rfl, trivial⟩, exi3 ks fin m ⟨O, D, fun x hx => ?_⟩⟩
        rw [htk] at hx
        rcases List.mem_append.mp hx with hx | hx
        · exact hdone x hx
        · rw [List.mem_singleton.mp hx]; exact hin
      have hnin : x00.key ∉ ks := of_decide_eq_false hin
      repeat (walk_at "T")
      refine E_while U (fun n b H => ∃ k fs ks fin m, n = muK S.nds ks + muF fs ∧ b = [(("self" : Str), .ref S.self), (("n2i" : Str), .ref S.dn), (("stack" : Str), .ref stk), (("itstack" : Str), .ref itl), (("seen" : Str), .ref sn), (("node2stacki" : Str), .ref n2s), (("node" : Str), vI k)] ∧ (∃ x ∈ S.nds, x.key = k) ∧ Own2 prog w H (DFl prog w stk itl sn n2s G fs ks m r) ∧ DInv S fs ks fin ∧ Prog fin (some k) fs ∧ Chain k fs ∧ ∀ x ∈ S.nds.take (io + 1), x.key ∈ ks ∨ x.key = k)
        (muK S.nds ks + muF []) ⟨_, ?_, x00.key, [], ks, fin, m, rfl, rfl, ⟨x00, hx00m, rfl⟩, O, D, trivial, trivial, ?_⟩ ?_
      · exact ⟨rfl, rfl, rfl, rfl, rfl, rfl, rfl, trivial⟩
      · intro x hx
        rw [htk] at hx
        rcases List.mem_append.mp hx with hx | hx
        · exact .inl (hdone x hx)
        · rw [List.mem_singleton.mp hx]; exact .inr rfl
      clear O D hdone ks fin m hkl hnin hin
      rintro N b H hx0_; refine ex5and8 hx0_ fun k fs ks fin m hN y6_ y7_ O D hpr hch hseen => ?_; try clear hx0_; obtain rfl := y6_; obtain ⟨xk, hxk, rfl⟩ := y7_
      have hkl := D.kslen
      refine E_isTrueC rfl rfl ⟨fun _ => ?_, nofun⟩
      refine AbsT.mk fun _ _ => ?_
      refine E_ifJ (fun st' => ∃ fs ks fin m, Has st'.vars [(("self" : Str), .ref S.self), (("n2i" : Str), .ref S.dn), (("stack" : Str), .ref stk), (("itstack" : Str), .ref itl), (("seen" : Str), .ref sn), (("node2stacki" : Str), .ref n2s)] ∧ Own2 prog w st'.H (DFl prog w stk itl sn n2s G fs ks m r) ∧ DInv S fs ks fin ∧ Prog fin none fs ∧ Chain0 fs ∧ (∀ x ∈ S.nds.take (io + 1), x.key ∈ ks) ∧ muK S.nds ks + muF fs ≤ N) ?_ ?_
      · repeat (walk_at "T")
        refine P_inS (by walk_at "own") (by walk_at "num") ?_
        refine ⟨_, rfl, fun hin => ?_, fun hin => ?_⟩
        · have hin : xk.key ∈ ks := of_decide_eq_true hin
          repeat (walk_at "T")
          refine P_inD E (by walk_at "own") ?_
          rw [ents_some]
          refine ⟨_, rfl, fun hst => ?_, fun hst => ?_⟩
          · have hst : xk.key ∈ fkeys fs := of_decide_eq_true hst
            obtain ⟨ix, hix, hixl⟩ := ents_at hst
            repeat (walk_at "T")
            refine ⟨⟨_, rfl, .inr (.inr ⟨_, _, O.get (by walk_at "mem")⟩)⟩, X_dict (by walk_at "own") hix ?_⟩
            refine exi3 stk _ ix ⟨rfl, rfl, O.get (by walk_at "mem"), by rw [fk_len]; have := D.fslen; walk_at "num", fun b H2 hN2 => ?_⟩
            have O := Own.new O hN2
            clear hN2
            repeat (walk_at "T")
            intro c H3 hN; have O := Own.new O hN; clear hN
            have hl1 : ((nums (fkeys fs).reverse).drop ix).length ≤ 1000 := by rw [List.length_drop, fk_len]; have := D.fslen; walk_at "num"
            refine B_addL (by walk_at "own") (by walk_at "own") (by simp only [List.length_cons, List.length_nil]; walk_at "num") ?_
            intro d H4 hN; have O := Own.new O hN; clear hN
            have Oe := (O.sub (.cons_cons _ (.cons _ (.cons _ (.cons _ (.cons _ (.cons _ (.cons _ (.cons_cons _ (List.sublist_append_right _ _)))))))))).thaw2 AG
            repeat (walk_at "T")
            refine .inr ⟨d, _, rfl, ?_, ?_, Oe, ring_at D.nds hch hst⟩
            · simp
            · rw [List.length_append]; simp only [List.length_cons, List.length_nil]; walk_at "num"
          · have hst : xk.key ∉ fkeys fs := of_decide_eq_false hst
            repeat (walk_at "T")
            exact exi4 fs ks fin m ⟨⟨rfl, rfl, rfl, rfl, rfl, rfl, trivial⟩, O, D, hpr.into ((D.dich _ hin).resolve_right hst), hch.zero, fun x hx => (hseen x hx).elim id (fun e => e ▸ hin), by walk_at "num"⟩
        · have hin : xk.key ∉ ks := of_decide_eq_false hin
          have hst : xk.key ∉ fkeys fs := fun h => by
            obtain ⟨f, hf, e⟩ := List.mem_map.mp h
            exact hin (by rw [← e]; exact D.sub f hf)
          have hfl := D.fslen
          repeat (walk_at "T")
          refine C_sadd (by walk_at "own") hin (by walk_at "num") ?_
          intro H2 hN; have O := Own.put (l' := _) O (by walk_at "put") hN; clear hN
          repeat (walk_at "T")
          have O1 : Own2 prog w H2 (.srt S :: r) := (O.sub (.cons _ (.cons _ (.cons _ (.cons _ (.cons_cons _ (List.sublist_append_right _ _))))))).thaw AG
          refine X_n2i (by exact O1) List.mem_cons_self hxk ?_
          refine A_succ E hxk (by exact O1) List.mem_cons_self ?_
          repeat (walk_at "T")
          refine C_iterL E (by exact O1.sa List.mem_cons_self hxk) ?_
          intro it H3 hN; have O := Own.new O hN; clear hN
          refine A_next (by walk_at "own") ?_
          intro b H4 hN; have O := Own.new O hN; clear hN
          repeat (walk_at "T")
          refine C_append (by walk_at "own") (by rw [fb_len]; walk_at "num") ?_
          intro H5 hN; have O := Own.put (l' := _) O (by walk_at "put") hN; clear hN
          repeat (walk_at "T")
          refine C_len (by walk_at "own") (by rw [fk_len]; walk_at "num") ?_
          rw [fk_len]
          repeat (walk_at "T")
          refine Y_dict (by walk_at "own") (by rw [ents_len]; walk_at "num") ?_
          intro m2 H6 hN
          rw [ents_stored hst] at hN
          have O := Own.put (l' := _) O (by walk_at "put") hN
          clear hN
          repeat (walk_at "T")
          refine C_append (by walk_at "own") (by rw [fk_len]; walk_at "num") ?_
          intro H7 hN; have O := Own.put (l' := _) O (by walk_at "put") hN; clear hN
          repeat (walk_at "T")
          have O' : Own2 prog w H7 (DFl prog w stk itl sn n2s G (⟨xk, 0, it, b⟩ :: fs) (ks ++ [xk.key]) m2 r) := by
            rw [DFl, fk_push, fb_push]
            exact O.perm ((List.perm_append_comm (l₁ := [As.cell b _, As.cell it _]) (l₂ := [_, _, _, _, _])).append_right _)
          refine exi4 (⟨xk, 0, it, b⟩ :: fs) (ks ++ [xk.key]) fin m2 ⟨⟨rfl, rfl, rfl, rfl, rfl, rfl, trivial⟩, O', D.push hxk hin it b, ⟨fun j s hj => (nomatch hj), hpr⟩, hch, fun x hx => ?_, ?_⟩
          · rcases hseen x hx with h | h
            · exact List.mem_append_left _ h
            · rw [h]; exact List.mem_append_right _ List.mem_cons_self
          · have := muK_push hin hxk
            have h2 : muF (⟨xk, 0, it, b⟩ :: fs) = xk.succ.length - 0 + 1 + muF fs := by unfold muF; rw [List.map_cons, List.sum_cons]
            exact om2 (by assumption) this h2
      · clear O D hpr hch hseen hkl
        rintro ⟨vs, H⟩ hx0_; refine ex4and7 hx0_ fun fs ks fin m hv O D hpr hch hseen hmu => ?_; try clear hx0_
        refine T.keepVars [(("self" : Str), .ref S.self), (("n2i" : Str), .ref S.dn), (("stack" : Str), .ref stk), (("itstack" : Str), .ref itl), (("seen" : Str), .ref sn), (("node2stacki" : Str), .ref n2s)] hv ?_
        refine E_cons ?_
        refine E_while U (fun n b H => ∃ fs ks fin m, n = fs.length ∧ b = [(("self" : Str), .ref S.self), (("n2i" : Str), .ref S.dn), (("stack" : Str), .ref stk), (("itstack" : Str), .ref itl), (("seen" : Str), .ref sn), (("node2stacki" : Str), .ref n2s)] ∧ Own2 prog w H (DFl prog w stk itl sn n2s G fs ks m r) ∧ DInv S fs ks fin ∧ Prog fin none fs ∧ Chain0 fs ∧ (∀ x ∈ S.nds.take (io + 1), x.key ∈ ks) ∧ muK S.nds ks + muF fs ≤ N) fs.length ⟨_, ?hh, fs, ks, fin, m, rfl, rfl, O, D, hpr, hch, hseen, hmu⟩ ?_
        case hh => exact ⟨rfl, rfl, rfl, rfl, rfl, rfl, trivial⟩
        clear O D hpr hch hseen hmu hv fs ks fin m
        rintro n' b H hx0_; refine ex4and8 hx0_ fun fs ks fin m y4_ y5_ O D hpr hch hseen hmu => ?_; try clear hx0_; obtain rfl := y4_; obtain rfl := y5_
        have hfl := D.fslen
        refine E_isName rfl ?_
        repeat (walk_at "T")
        refine U_list (by walk_at "own") (by rw [fk_len]; walk_at "num") ?_
        rw [fk_empty]
        cases fs with
        | nil =>
          refine ⟨(fun h => by cases h), fun _ => ?_⟩
          repeat (walk_at "T")
          exact ⟨⟨rfl, rfl, rfl, rfl, rfl, rfl, trivial⟩, exi3 ks fin m ⟨O, D, hseen⟩⟩
        | cons f gs =>
          refine ⟨fun _ => ?_, fun h => by cases h⟩
          have hitl := O.get (a := itl) (o := .list (fbs (f :: gs)).reverse) (by walk_at "mem")
          rw [fb_push] at hitl
          have hstk := O.get (a := stk) (o := .list (nums (fkeys (f :: gs)).reverse)) (by walk_at "mem")
          rw [fk_push] at hstk
          have hgl : gs.length ≤ 1000 := by rw [List.length_cons] at hfl; walk_at "num"
          have hfx := D.nds f List.mem_cons_self
          have hsa := O.fragAt (G := G) (by walk_at "mem") _ _ (AG.nds f.x hfx).2.2
          have O : Own2 prog w H (.cell stk (.list (nums (fkeys (f :: gs)).reverse)) :: .cell itl (.list (fbs (f :: gs)).reverse) :: .cell sn (.iset ks) :: .cell n2s (.dict (dE (KI prog w) (ents (f :: gs))) m) :: .frag G :: .cell f.b (.bm "method-wrapper" (.builtin "list_iterator.__next__") (.ref f.it)) :: .cell f.it (.iter f.x.sa f.i) :: (fcells gs ++ r)) := O
          repeat (walk_at "T")
          refine E_try U ?_
          repeat (walk_at "T")
          refine E_callAny0 rfl ?_
          repeat (walk_at "T")
          refine ⟨⟨itl, rfl, .inl ⟨_, hitl⟩⟩, X_last (by exact hitl) (by rw [fb_len]; walk_at "num") ?_⟩
          refine ⟨KF.bm (by walk_at "own") (.inr rfl), C_nextIt OF'.hh (by walk_at "own") (by walk_at "own") (by exact hsa) ?_ ?_⟩
          · intro v hv H2 hN
            obtain ⟨s, rfl, hs⟩ := nums_get hv
            have hil : f.i < f.x.succ.length := (List.getElem?_eq_some_iff.mp hs).1
            have O := Own.put (l' := _) O (by walk_at "put") hN
            clear hN
            repeat (walk_at "T")
            refine exi2 _ _ ⟨?_, ?hh, s, ⟨f.x, f.i + 1, f.it, f.b⟩ :: gs, ks, fin, m, rfl, rfl, hcl f.x hfx s (List.mem_of_getElem? hs), O, D.step hil, ⟨fun j s' hj hs' => ?_, hpr.2⟩, ⟨List.mem_of_getElem? hs, hch⟩, fun x hx => .inl (hseen x hx)⟩
            case hh => exact ⟨rfl, rfl, rfl, rfl, rfl, rfl, rfl, trivial⟩
            · have h1 : muF (f :: gs) = f.x.succ.length - f.i + 1 + muF gs := by unfold muF; rw [List.map_cons, List.sum_cons]
              have h2 : muF (⟨f.x, f.i + 1, f.it, f.b⟩ :: gs) = f.x.succ.length - (f.i + 1) + 1 + muF gs := by unfold muF; rw [List.map_cons, List.sum_cons]
              exact om1 (by assumption) hil h1 h2
            · have hs' : f.x.succ[j]? = some s' := hs'
              have hj : j < f.i + 1 := hj
              by_cases q : j = f.i
              · subst q; rw [hs] at hs'; exact .inr hs'
              · exact .inl ((hpr.1 j s' (by walk_at "num") hs').resolve_right nofun)
          · intro hx H2 hN
            have hil : f.i = f.x.succ.length := by
              have h1 := List.getElem?_eq_none_iff.mp hx
              rw [nums_len] at h1
              have := D.idx f List.mem_cons_self
              walk_at "num"
            have O := (O.take (.there (.there (.there (.there (.there (.there .here))))))).del
            rw [← hN] at O
            clear hN
            refine E_exceptStop E rfl (by rfl) fun F2 E2 => ?_
            repeat (walk_at "T")
            refine exi3 stk _ _ ⟨rfl, by rw [← fk_push]; exact O.get (by walk_at "mem"), by rw [fk_len]; walk_at "num", ?_⟩
            intro H3 hN; have O := Own.put (l' := _) O (by walk_at "put") hN; clear hN
            refine Z_dict (by walk_at "own") (by rw [ents_some]; exact decide_eq_true List.mem_cons_self) (by rw [ents_len]; walk_at "num") ?_
            intro m2 H4 hN
            rw [ents_without (List.nodup_cons.mp D.nod).1] at hN
            have O := Own.put (l' := _) O (by walk_at "put") hN
            clear hN
            repeat (walk_at "T")
            refine exi3 itl _ _ ⟨rfl, by rw [← fb_push]; exact O.get (by walk_at "mem"), by rw [fb_len]; walk_at "num", ?_⟩
            intro H5 hN; have O := Own.put (l' := _) O (by walk_at "put") hN; clear hN
            repeat (walk_at "T")
            have O' : Own2 prog w H5 (DFl prog w stk itl sn n2s G gs ks m2 r) := O.sub (.cons_cons _ (.cons_cons _ (.cons_cons _ (.cons_cons _ (.cons_cons _ (.cons _ (List.Sublist.refl _)))))))
            refine exi2 gs.length _ ⟨Nat.lt_succ_self _, ?hh, gs, ks, fin ++ [f.x.key], m2, rfl, rfl, O', D.pop fun s hs => ?_, (hpr.2.more fun k hk => List.mem_append_left _ hk).into (List.mem_append_right _ List.mem_cons_self), hch.zero, hseen, ?_⟩
            case hh => exact ⟨rfl, rfl, rfl, rfl, rfl, rfl, trivial⟩
            · obtain ⟨j, hj, rfl⟩ := List.mem_iff_getElem.mp hs
              exact (hpr.1 j _ (by walk_at "num") (List.getElem?_eq_getElem hj)).resolve_right nofun
            · have h1 : muF (f :: gs) = f.x.succ.length - f.i + 1 + muF gs := by unfold muF; rw [List.map_cons, List.sum_cons]
              exact om3 (by assumption) h1
    · rintro H hx0_; refine ex3and3 hx0_ fun ks fin m O D hdone => ?_; try clear hx0_
      repeat (walk_at "T")
      refine .inl ⟨rfl, ?_, fin, D.tp, fun x hx => ?_⟩
      · exact (O.sub (.cons _ (.cons _ (.cons _ (.cons _ (List.Sublist.refl _)))))).thaw AG
      · obtain ⟨z, hz, rfl⟩ := List.mem_map.mp hx
        have : z.key ∈ ks := hdone z (by rw [nums_len, List.length_map, List.take_length]; exact hz)
        exact (D.dich _ this).resolve_right nofun
end
end
section
set_option maxRecDepth 100000
set_option Elab.async false
set_option linter.unusedVariables false
set_option maxHeartbeats 4000000
open PySem PySem.W PySem.Calls PyProof.Rows PySem.SeqAt
noncomputable def PS.frees (P : PS) : List Int := (P.nds.filter fun x => decide (x.np = 0)).map (·.key)
noncomputable def PS.prep (P : PS) : PS := { P with ready := some P.frees }
theorem frees_nds (S : Srt) : S.p.frees = (S.nds.filter fun x => decide (x.np = 0)).map (·.key) := by
  unfold PS.frees Srt.p
  rw [List.filter_map, List.map_map]; rfl
theorem Tp.nds {P P' : PS} (h : P'.nds = P.nds) {l : List Int} (t : Tp P l) : Tp P' l := by
  induction t with
  | nil => exact .nil
  | snoc _ hx hs ih => exact .snoc ih (by rw [h]; exact hx) hs
section
variable {prog : Program} {w : World} {mg mb : Str → Option Value}

noncomputable abbrev veBm : List Value := [.type "ValueError", .type "Exception", .type "BaseException", .type "object"]
theorem isNs_own {K : Frag} {h : Heap} {N : Addr} {o : Obj} {es : Array DictEntry} {ep : Nat} (X : K.In h) (q : K.lookup N = some o) (hd : o.data = .dict es ep) (e : (es.toList.all fun e => match e.key with | .str _ _ => true | _ => false) = true) : h.isNs N = true := by
  unfold Heap.isNs
  rw [X _ _ q]
  obtain ⟨c, d, dt, sl⟩ := o
  have hd : dt = .dict es ep := hd
  subst hd
  show (es.all fun e => match e.key with | .str _ _ => true | _ => false) = true
  rw [← Array.all_toList]
  exact e
theorem ns54 {F : Fc} (W : Wld (K2 w) F mg mb) : F.base.isNs 54 = true := isNs_own W.kx (by rfl) rfl (by rfl)
theorem cyc_own {F : Fc} (W : Wld (K2 w) F mg mb) : OwnExc 55 veBm "ValueError.__new__" F.base :=
  ⟨⟨_, _, _, _, _, _, _, _, _, _, _, _, _, _, _, _, _, W.kx 55 _ rfl, .of_isNs (ns54 W), ns_no W.kx (.of_isNs (ns54 W)) (by rfl) (by rfl) (by rfl), .base⟩⟩
theorem prep_spec {F : Fc} {n : Nat} {S : Srt} {H : AHeap} {l r : List As} (W : Wld (K2 w) F mg mb) (OF : F.Ok (n + 2)) (O : Own2 prog w H l) (t : Take (.srt S) l r) (hr : S.ready = none)
    (hn : S.nds.length ≤ 1000) (hcl : ∀ x ∈ S.nds, ∀ s ∈ x.succ, ∃ y ∈ S.nds, y.key = s) (hB : ∀ x ∈ S.nds, x.succ.length ≤ 100000) :
    Calls prog w F (.ref 92) [.ref S.self] H
      (fun v H' => v = .none ∧ ∃ S' rd, Own2 prog w H' (.srt S' :: r) ∧ Same S S' ∧ S'.p = S.p.prep ∧ S'.ready = some (rd, S.p.frees) ∧ S.p.Topo)
      (fun c a H' => c = .ref 55 ∧ ∃ S' rd, Own2 prog w H' (.srt S' :: r) ∧ Same S S' ∧ S'.p = S.p.prep ∧ S'.ready = some (rd, S.p.frees) ∧ S.p.Ring) := by
  refine Calls.ent (fd := _) (body := _) (names := ["self"]) W OF ⟨⟨_, W.kx _ _ rfl, rfl⟩, rfl, rfl, rfl, codeRec_of W.kx (by rfl), rfl, rfl, by decide +kernel⟩ (fun args' ha => ?_) (by decide) (by decide +kernel) rfl rfl rfl fun F' E U OF' => ?_
  · obtain ⟨a, rfl, _⟩ := one_of ha; rfl
  · have O := O.take t
    obtain ⟨G, OGA⟩ := O.freeze
    obtain ⟨m0, hdn⟩ := OGA.2.1.dn
    have hd := OGA.1.fragAt List.mem_cons_self _ _ hdn
    have AG := OGA.2.1
    dsimp only at E
    repeat (walk_at "T")
    refine ⟨_, rfl, (fun h => absurd h (by decide)), fun _ => ?_⟩
    repeat (walk_at "T")
    refine E_listComp (E_listM (α := Nd) E [] none rfl rfl (fun _ => rfl) OF'.hh ?_)
    repeat (walk_at "T")
    refine C_values (KI prog w) E (by exact hd) ?_
    intro va H1 hN
    have O := Own.new OGA.1 hN
    clear hN hd
    have hsrc : ∀ H vs, Own2 prog w H (.cell va (.vals S.dn) :: .frag G :: r) → Src ⟨vs, H⟩ (.ref va) (S.nds.map fun x => .ref x.a) (.vals S.dn (dE (KI prog w) S.es) m0) := fun H vs O =>
      ⟨va, rfl, O.get (by walk_at "mem"), O.fragAt (by walk_at "mem") _ _ hdn, by unfold dE Srt.es; rw [List.map_map, List.map_map]; rfl⟩
    refine ⟨trivial, exi6 (.vals S.dn (dE (KI prog w) S.es) m0) S.nds (fun x => .ref x.a) (fun H => Own2 prog w H (.cell va (.vals S.dn) :: .frag G :: r)) (fun x => decide (x.np = 0)) (fun x => vI x.key) ⟨hsrc _ _ O, by walk_at "num", O, hsrc, ?_, ?_⟩⟩
    · clear O
      intro F2 E2 hF x H hx O
      have O1 := (O.perm (.swap _ _ _)).thaw AG
      repeat (walk_at "T")
      refine ⟨_, rfl, fun h => ?_, fun h => ⟨by simpa using h, trivial, O⟩⟩
      repeat (walk_at "T")
      exact ⟨by simpa using h, rfl, trivial, O⟩
    · clear O
      intro H a H2 O hN
      have O := Own.new O hN
      clear hN
      have e : (S.nds.filter (fun x => decide (x.np = 0))).map (fun x => vI x.key) = nums S.p.frees := by rw [frees_nds, nums, List.map_map]; rfl
      rw [e] at O
      have O' := (O.sub (.cons_cons _ (.cons _ (List.Sublist.refl _)))).thaw2 AG
      clear O
      unfold Handed
      repeat (walk_at "T")
      refine S_rd E (by exact O') ⟨.here, rfl⟩ hr fun H3 O => ?_
      clear O'
      repeat (walk_at "T")
      have hp : ({ S with ready := some (a, S.p.frees) } : Srt).p = S.p.prep := rfl
      have hTop : ({ S with ready := some (a, S.p.frees) } : Srt).p.Topo → S.p.Topo := fun ⟨fin, h1, h2⟩ => ⟨fin, Tp.nds (P := ({ S with ready := some (a, S.p.frees) } : Srt).p) (P' := S.p) rfl h1, h2⟩
      refine C_code ((cycle_spec (S := { S with ready := some (a, S.p.frees) }) E.W OF' O .here hn hcl hB).mono ?_ (fun _ _ _ z => z.elim))
      rintro v H4 (⟨rfl, O, htop⟩ | ⟨ca, xs, rfl, hne, hxl, O, hring⟩)
      · repeat (walk_at "T")
        refine E_isName rfl ?_
        repeat (walk_at "T")
        refine ⟨nofun, fun _ => ?_⟩
        repeat (walk_at "T")
        exact ⟨rfl, exi2 _ a ⟨O, ⟨rfl, rfl, rfl⟩, hp, rfl, hTop htop⟩⟩
      · repeat (walk_at "T")
        refine E_isName rfl ?_
        repeat (walk_at "T")
        refine ⟨fun _ => ?_, fun h => ?_⟩
        · repeat (walk_at "T")
          refine E_raiseOwn2 PySem.F.excBase_ValueError (cyc_own E.W) E OF'.hh rfl (by rfl) rfl rfl ?_
          refine E_joined1 ?_
          repeat (walk_at "T")
          exact ⟨rfl, exi2 _ a ⟨O.tail, ⟨rfl, rfl, rfl⟩, hp, rfl, hring⟩⟩
        · cases xs with
          | nil => exact absurd rfl hne
          | cons _ _ => cases h
end
end
section
set_option maxRecDepth 100000
set_option Elab.async false
set_option linter.unusedVariables false
set_option maxHeartbeats 4000000
open PySem PySem.W PySem.Calls PyProof.Rows PySem.SeqAt
noncomputable def Ext (G G' : AHeap) : Prop := ∀ a o, G a = some o → G' a = some o
theorem Ext.refl (G : AHeap) : Ext G G := fun _ _ e => e
theorem Ext.trans {G G₁ G₂ : AHeap} (h : Ext G G₁) (k : Ext G₁ G₂) : Ext G G₂ := fun a o e => k a o (h a o e)
theorem Ext.upd {G : AHeap} {a : Addr} {o : AO} (h : G a = none) : Ext G (upd G a o) := fun b ob e => upd_keeps h b ob e
mutual
theorem Rd.mono {G G' : AHeap} (k : Ext G G') : ∀ {d : PyData} {v : Value}, Rd G d v → Rd G' d v
  | .none, _, h => h
  | .bool _, _, h => h
  | .int _, _, h => h
  | .str _, _, h => h
  | .list _, _, ⟨a, xs, e, ha, hr⟩ => ⟨a, xs, e, k _ _ ha, RdAll.mono k hr⟩
  | .tuple _, _, ⟨a, xs, e, ha, hr⟩ => ⟨a, xs, e, k _ _ ha, RdAll.mono k hr⟩
  | .dict _, _, h => h.elim
theorem RdAll.mono {G G' : AHeap} (k : Ext G G') : ∀ {ds : List PyData} {vs : List Value}, RdAll G ds vs → RdAll G' ds vs
  | [], [], _ => trivial
  | _ :: _, _ :: _, ⟨h1, h2⟩ => ⟨Rd.mono k h1, RdAll.mono k h2⟩
  | [], _ :: _, h => h.elim
  | _ :: _, [], h => h.elim
end
theorem RdAll.app {G : AHeap} : ∀ {ds es : List PyData} {vs us : List Value}, RdAll G ds vs → RdAll G es us → RdAll G (ds ++ es) (vs ++ us)
  | [], _, [], _, _, h => h
  | _ :: _, _, _ :: _, _, ⟨h1, h2⟩, h => ⟨h1, RdAll.app h2 h⟩
  | [], _, _ :: _, _, h, _ => h.elim
  | _ :: _, _, [], _, h, _ => h.elim
theorem RdAll.at {G : AHeap} : ∀ {ds : List PyData} {vs : List Value} {i : Nat} {d : PyData}, RdAll G ds vs → ds[i]? = some d → ∃ v, vs[i]? = some v ∧ Rd G d v
  | _ :: _, _ :: _, 0, _, ⟨h1, _⟩, e => by cases e; exact ⟨_, rfl, h1⟩
  | _ :: _, _ :: _, i + 1, _, ⟨_, h2⟩, e => RdAll.at h2 (i := i) e
  | [], _, _, _, _, e => by cases e
  | _ :: _, [], _, _, h, _ => h.elim
theorem RdAll.length {G : AHeap} : ∀ {ds : List PyData} {vs : List Value}, RdAll G ds vs → vs.length = ds.length
  | [], [], _ => rfl
  | _ :: _, _ :: _, ⟨_, h2⟩ => by rw [List.length_cons, List.length_cons, RdAll.length h2]
  | [], _ :: _, h => h.elim
  | _ :: _, [], h => h.elim
section
variable {prog : Program} {w : World} {cN cT : Addr} {H : AHeap} {l r : List As}
theorem Put.mid {a : Addr} {o o' : AO} : ∀ {l₁ l₂ : List As}, Put a o' (l₁ ++ .cell a o :: l₂) (l₁ ++ .cell a o' :: l₂)
  | [], _ => .here
  | _ :: l₁, _ => .there (Put.mid (l₁ := l₁))
theorem Own.layAll {G : AHeap} : ∀ {cs : List (Addr × AO)} {r : List As}, Own prog w cN cT H (cs.map (fun p => As.cell p.1 p.2) ++ .frag G :: r) → ∃ G', Own prog w cN cT H (.frag G' :: r) ∧ Ext G G' ∧ ∀ p ∈ cs, G' p.1 = some p.2
  | [], _, O => ⟨G, O, .refl _, fun _ hp => absurd hp List.not_mem_nil⟩
  | (a, o) :: cs, r, O => by
    have O1 : Own prog w cN cT H (cs.map (fun p => As.cell p.1 p.2) ++ .frag G :: (.cell a o :: r)) := O.perm (by
      show ((As.cell a o) :: (cs.map (fun p => As.cell p.1 p.2) ++ .frag G :: r)).Perm _
      refine List.perm_middle.symm.trans (List.Perm.append_left _ (.swap _ _ _)))
    obtain ⟨G', O2, x, h⟩ := Own.layAll O1
    have O3 := O2.perm (.swap _ _ _)
    have hn := O3.layNew
    refine ⟨upd G' a o, O3.lay, x.trans (.upd hn), fun p hp => ?_⟩
    rcases List.mem_cons.mp hp with rfl | hp
    · exact upd_at
    · exact Ext.upd hn _ _ (h p hp)
theorem Own.lay1 {G : AHeap} {a : Addr} {o : AO} (O : Own prog w cN cT H (.cell a o :: .frag G :: r)) : ∃ G', Own prog w cN cT H (.frag G' :: r) ∧ Ext G G' ∧ G' a = some o :=
  ⟨_, O.lay, .upd O.layNew, upd_at⟩
theorem Own.rd {G : AHeap} (O : Own prog w cN cT H l) (m : As.frag G ∈ l) {d : PyData} {v : Value} (h : Rd G d v) : Rd H d v := h.mono (O.fragAt m)
theorem Own.rdAll {G : AHeap} (O : Own prog w cN cT H l) (m : As.frag G ∈ l) {d : List PyData} {v : List Value} (h : RdAll G d v) : RdAll H d v := h.mono (O.fragAt m)
end
noncomputable abbrev NL := List (Int × Addr × List Int)
noncomputable def nents (L : NL) : List (Int × Value) := L.map fun e => (e.1, .ref e.2.1)
noncomputable def ncells (L : NL) : List As := L.map fun e => As.cell e.2.1 (.list (nums e.2.2))
noncomputable def npure (L : NL) : List (Int × List Int) := L.map fun e => (e.1, e.2.2)
structure NAt (prog : Program) (w : World) (G : AHeap) (d : Addr) (L : NL) : Prop where
  dict : ∃ n, G d = some (.dict (dE (KI prog w) (nents L)) n)
  list : ∀ e ∈ L, G e.2.1 = some (.list (nums e.2.2))
theorem nents_at {L : NL} (hn : (L.map (·.1)).Nodup) {e : Int × Addr × List Int} (he : e ∈ L) : valueAt (nents L) e.1 = some (.ref e.2.1) := by
  unfold valueAt nents
  induction L with
  | nil => cases he
  | cons z l ih =>
    rw [List.map_cons] at hn ⊢
    obtain ⟨h1, h2⟩ := List.nodup_cons.mp hn
    rw [List.find?_cons]
    rcases List.mem_cons.mp he with rfl | he
    · simp
    · have : z.1 ≠ e.1 := fun q => h1 (by rw [q]; exact List.mem_map_of_mem he)
      have q : decide ((z.1, Value.ref z.2.1).1 = e.1) = false := decide_eq_false this
      rw [q]
      exact ih h2 he
theorem nents_some {L : NL} {k : Int} : (valueAt (nents L) k).isSome = decide (k ∈ L.map (·.1)) := by
  unfold valueAt nents
  rw [Option.isSome_map, Bool.eq_iff_iff, List.find?_isSome, decide_eq_true_eq]
  constructor
  · rintro ⟨p, hp, e⟩
    obtain ⟨z, hz, rfl⟩ := List.mem_map.mp hp
    exact List.mem_map.mpr ⟨z, hz, of_decide_eq_true e⟩
  · intro h
    obtain ⟨z, hz, rfl⟩ := List.mem_map.mp h
    exact ⟨_, List.mem_map_of_mem hz, by simp⟩
theorem nents_new {L : NL} {k : Int} {a : Addr} (h : k ∉ L.map (·.1)) (xs : List Int) : stored (nents L) k (.ref a) = nents (L ++ [(k, a, xs)]) := by
  unfold stored nents
  rw [if_neg]
  · rw [List.map_append]; rfl
  · rw [Bool.not_eq_true, List.any_eq_false]
    intro p hp e
    obtain ⟨z, hz, rfl⟩ := List.mem_map.mp hp
    exact h (List.mem_map.mpr ⟨z, hz, of_decide_eq_true e⟩)
theorem nkeysE {prog : Program} {w : World} (L : NL) : nums (L.map (·.1)) = (dE (KI prog w) (nents L)).map (·.1) := by
  unfold nums dE nents
  rw [List.map_map, List.map_map, List.map_map]; rfl
section
variable {prog : Program} {w : World} {K : Frag} {mg mb : Str → Option Value} {nm : List (Str × NameKind)} {F : Fx} {st : St} {X : Value → List Value → St → Prop} {Q : Value → St → Prop} {pos : Pos} {x : Str} {v : Value}
theorem E_tuple2 {a b : Expr} {k : Nat} (he : starEach [a, b] F.env = [(false, eval a F.env), (false, eval b F.env)])
    (h : T prog w F (eval a F.env) (fun v st₁ => T prog w F (eval b F.env) (fun u st₂ => ∀ t H', New st₂.H t (.tup [v, u]) H' → Q (.ref t) ⟨st₂.vars, H'⟩) X st₁) X st) : T prog w F (eval (.Tuple [a, b] k pos) F.env) Q X st :=
  T_tuple (trees := [(false, eval a F.env), (false, eval b F.env)]) (by rw [he]; rfl) (T_sp1 (h.post fun _ _ q => T_sp1 (q.post fun _ _ q => T_sp0 ⟨by simp, fun t ht => q t _ ⟨ht, rfl⟩⟩)))
theorem E_tuple3 {a b c : Expr} {k : Nat} (he : starEach [a, b, c] F.env = [(false, eval a F.env), (false, eval b F.env), (false, eval c F.env)])
    (h : T prog w F (eval a F.env) (fun v st₁ => T prog w F (eval b F.env) (fun u st₂ => T prog w F (eval c F.env) (fun z st₃ => ∀ t H', New st₃.H t (.tup [v, u, z]) H' → Q (.ref t) ⟨st₃.vars, H'⟩) X st₂) X st₁) X st) : T prog w F (eval (.Tuple [a, b, c] k pos) F.env) Q X st :=
  T_tuple (trees := [(false, eval a F.env), (false, eval b F.env), (false, eval c F.env)]) (by rw [he]; rfl) (T_sp1 (h.post fun _ _ q => T_sp1 (q.post fun _ _ q => T_sp1 (q.post fun _ _ q => T_sp0 ⟨by simp, fun t ht => q t _ ⟨ht, rfl⟩⟩))))
theorem E_list3 {a b c : Expr} (he : starEach [a, b, c] F.env = [(false, eval a F.env), (false, eval b F.env), (false, eval c F.env)])
    (h : T prog w F (eval a F.env) (fun v st₁ => T prog w F (eval b F.env) (fun u st₂ => T prog w F (eval c F.env) (fun z st₃ => ∀ t H', New st₃.H t (.list [v, u, z]) H' → Q (.ref t) ⟨st₃.vars, H'⟩) X st₂) X st₁) X st) : T prog w F (eval (.List [a, b, c] pos) F.env) Q X st :=
  T_list (trees := [(false, eval a F.env), (false, eval b F.env), (false, eval c F.env)]) (by rw [he]; rfl) (T_sp1 (h.post fun _ _ q => T_sp1 (q.post fun _ _ q => T_sp1 (q.post fun _ _ q => T_sp0 ⟨by simp, fun t ht => q t _ ⟨ht, rfl⟩⟩))))
theorem E_list4 {a b c d : Expr} (he : starEach [a, b, c, d] F.env = [(false, eval a F.env), (false, eval b F.env), (false, eval c F.env), (false, eval d F.env)])
    (h : T prog w F (eval a F.env) (fun v st₁ => T prog w F (eval b F.env) (fun u st₂ => T prog w F (eval c F.env) (fun z st₃ => T prog w F (eval d F.env) (fun y st₄ => ∀ t H', New st₄.H t (.list [v, u, z, y]) H' → Q (.ref t) ⟨st₄.vars, H'⟩) X st₃) X st₂) X st₁) X st) : T prog w F (eval (.List [a, b, c, d] pos) F.env) Q X st :=
  T_list (trees := [(false, eval a F.env), (false, eval b F.env), (false, eval c F.env), (false, eval d F.env)]) (by rw [he]; rfl) (T_sp1 (h.post fun _ _ q => T_sp1 (q.post fun _ _ q => T_sp1 (q.post fun _ _ q => T_sp1 (q.post fun _ _ q => T_sp0 ⟨by simp, fun t ht => q t _ ⟨ht, rfl⟩⟩)))))
theorem E_exceptOwn {C : Addr} {bmB : List Value} {newId : String} (Oc : OwnExc C bmB newId F.base) (hbase : bmB.contains (.type "BaseException") = true) {args : List Value} {p : Pos} {b₀ : Stmt} {suite : List Stmt} {hpos : Pos} {rest : List ExceptHandler} {Q : Flow → St → Prop} (E : Ent K mg mb nm F)
    (hk : nm.lookup x = some .globalImplicit) (e : nsIn K mainGlobals x = some (some (.ref C))) (hd : (x == ("__debug__" : Str)) = false)
    (h : ∀ F', Ent K mg mb nm F' → T prog w F' (execs (b₀ :: suite) F'.env) Q NoX st) :
    Caught prog w F (.ExceptHandler (some (.Name x p)) none (b₀ :: suite) hpos :: rest) (.ref C) args Q X st :=
  Caught.own Oc hbase (.nameG (mb := mb) ⟨E.W.g, E.W.b⟩ E.gl (mg_of E.W.kx E.W.g e) (E.glob hk) E.kind hd) fun ea => h _ (E.mark ea)
theorem ve_exc : isSubtype (.type "ValueError") (.type "BaseException") = pure true := by rw [isSubtype_type]; kernel_rfl
theorem ve_nt : isSubtype (.type ((Manifest.find? "ValueError").elim "type" fun x => x.metatype)) (.type "tuple") = pure false := by
  rw [show ((Manifest.find? "ValueError").elim "type" fun x => x.metatype) = "type" from by kernel_rfl, isSubtype_type]; kernel_rfl
theorem ve_self : isSubtype (.type "ValueError") (.type "ValueError") = pure true := by rw [isSubtype_type]; kernel_rfl
theorem E_exceptVal {args : List Value} {n : Str} {p : Pos} {b₀ : Stmt} {suite : List Stmt} {hpos : Pos} {rest : List ExceptHandler} {Q : Flow → St → Prop} (E : Ent K mg mb nm F) (hk : nm.lookup ("ValueError" : Str) = some .globalImplicit) (e : nsIn K mainGlobals ("ValueError" : Str) = some none)
    (hn : nm.lookup n = some .local)
    (h : ∀ F', Ent K mg mb nm F' → F'.A.units = F.A.units → ∀ ea ta, ta ≠ ea → st.H ta = none → st.H ea = none → T prog w F' (execs (b₀ :: suite) F'.env) (fun f st' => Q f ⟨dropV st'.vars n, st'.H⟩) NoX ⟨setV st.vars n (.ref ea), upd (upd st.H ta (.args args)) ea (.exc (.type "ValueError") ta)⟩) :
    Caught prog w F (.ExceptHandler (some (.Name "ValueError" p)) (some n) (b₀ :: suite) hpos :: rest) (.type "ValueError") args Q X st :=
  Caught.builtinAs ve_exc ve_nt ve_self (.nameB ⟨E.W.g, E.W.b⟩ E.gl E.bi (mg_none_of E.W.kx E.W.g e) ((E.W.bi _ (by decide)).trans rfl) (E.glob hk) E.kind rfl) (E.local hn) E.kind E.loc fun ea ta h1 h2 h3 => h _ (E.mark ea) rfl ea ta h1 h2 h3
theorem Caught.mono {hs : List ExceptHandler} {cls : Value} {args : List Value} {Q Q' : Flow → St → Prop} (h : Caught prog w F hs cls args Q X st) (hq : ∀ f st', Q f st' → Q' f st') : Caught prog w F hs cls args Q' X st :=
  fun s ea H₀ s₀ R x r A => wpAny_mono (h s ea H₀ s₀ R x r A) (fun f s' ⟨st', a, b, c⟩ => ⟨st', a, b, hq _ _ c⟩) fun _ _ e => e
theorem E_tryJ (U : Fun F) {body rest : List Stmt} {h₀ : ExceptHandler} {hs : List ExceptHandler} {Q : Flow → St → Prop} (M : St → Prop)
    (h : T prog w F (execs body F.env) (fun f st₁ => match f with | .next => M st₁ | f => Q f st₁) (fun cls args st₁ => Caught prog w F (h₀ :: hs) cls args (fun f st₂ => match f with | .next => M st₂ | f => Q f st₂) X st₁) st)
    (k : ∀ st', M st' → T prog w F (execs rest F.env) Q X st') : T prog w F (execs (.Try body (h₀ :: hs) [] [] pos :: rest) F.env) Q X st := by
  refine E_cons (E_try U (h.mono (fun f st₁ q => ?_) fun c a st₁ q => q.mono fun f st₂ q => ?_))
  · cases f with
    | next => exact T_nil (k _ q)
    | _ => exact q
  · cases f with
    | next => exact k _ q
    | _ => exact q
theorem Calls.bound {F : Fc} {a : Addr} {f self : Value} {args : List Value} {H : AHeap} {Q : Value → AHeap → Prop} {X : Value → List Value → AHeap → Prop} (ha : H a = some (.meth f self)) (hself : er self = self) (h : Calls prog w F f (self :: args) H Q X) : Calls prog w F (.ref a) args H Q X := fun s args' e R => by
  obtain ⟨o, ho, hr⟩ := R.cells a _ ha
  have hr : o = methodObj f self := hr
  subst hr
  exact method_call ho (h s (self :: args') (by rw [List.map_cons, hself, e]) R)
noncomputable abbrev bmTree (o : Expr) (name : Str) (apos pos : Pos) (args : List Expr) (env : Env) : Sem Value := do
      let ov ← eval o env
      standAt apos.atName
      let (f, first) ← holding [ov] (do pure (← getAttr ov name true, []))
      callWith pos f first (backTo pos (starEach args env)) []
theorem E_bmS {o a b : Expr} {name : Str} {apos p : Pos} (hs : starEach [a, .Starred b p] F.env = [(false, eval a F.env), (true, eval b F.env)]) (he : eval (.Call (.Attribute o name apos) [a, .Starred b p] [] pos) F.env = bmTree o name apos pos [a, .Starred b p] F.env)
    (h : T prog w F (eval o F.env) (fun ov st₁ => AttrE prog w F ov name (fun f st₂ => T prog w F (eval a F.env) (fun v st₃ => T prog w F (eval b F.env) (fun u st₄ => ∃ xs, Spread st₄ u xs ∧ KF prog w F f st₄ ∧ CallE prog w F f (v :: xs) Q X st₄) X st₃) X st₂) X st₁) X st) : T prog w F (eval (.Call (.Attribute o name apos) [a, .Starred b p] [] pos) F.env) Q X st :=
  T_callMethS (trees := [(false, eval a F.env), (true, starTree (eval b F.env) pos)]) (by rw [hs]; rfl) he (h.post fun _ _ q ov' ho => (q ov' ho).post fun _ _ q f' hf => T_callS rfl (T_sp1 (q.post fun _ _ q => T_spS (q.post fun _ _ ⟨xs, hsp, hk, q⟩ => ⟨xs, hsp, T_sp0 (by
    rw [hk.1 f' hf]; exact ⟨hk.2, fun vs' hv => q _ (by rw [List.nil_append, hv, List.append_nil])⟩)⟩))))
theorem A_bound {C d y f : Addr} {es : List (Str × Value)} (E : Ent K mg mb nm F) (hx : st.H y = some (.inst C d)) (hd : st.H d = some (.ns es)) (hl : es.lookup x = none)
    (hg : plainGet K C x = true) (hh : hasDictIn K C = true) (ha : findIn K (.ref C) x = some (some (.ref f))) (hf : isFn K (.ref f) = true)
    (hgf : specialIn K (.ref f) "__get__" = some (some (.builtin "function.__get__"))) (ht : takesIn K (.ref f) = some false) (hc : copiedNames.contains x = false)
    (h : ∀ a H', New st.H a (.meth (.ref f) (.ref y)) H' → Q (.ref a) ⟨st.vars, H'⟩) : AttrE prog w F (.ref y) x Q X st := fun o ho => by
  rw [er_ref ho]; exact T_bound E.W.kx hx hd hl hg hh ha hf hgf ht hc fun a ha => h a _ ⟨ha, rfl⟩
end
end
section
set_option maxRecDepth 100000
set_option Elab.async false
set_option linter.unusedVariables false
set_option maxHeartbeats 4000000
open PySem PySem.W PySem.Calls PyProof.Rows PySem.SeqAt
noncomputable def upTo (n : Int) : List Int := (List.range n.toNat).map fun (i : Nat) => (i : Int)
theorem upTo_src (n : Int) : nums (upTo n) = intsFrom 0 (n - 0).toNat := by
  unfold nums upTo intsFrom
  rw [List.map_map, Int.sub_zero]
  refine List.map_congr_left fun i _ => ?_
  simp
theorem upTo_get {n k : Int} {i : Nat} (h : (upTo n)[i]? = some k) : k = (i : Int) ∧ 0 ≤ k ∧ k < n := by
  unfold upTo at h
  rw [List.getElem?_map] at h
  obtain ⟨j, h1, rfl⟩ := Option.map_eq_some_iff.mp h
  obtain ⟨h2, h3⟩ := List.getElem?_eq_some_iff.mp h1
  rw [List.getElem_range] at h3
  rw [List.length_range] at h2
  omega
theorem upTo_mem {n k : Int} (h : k ∈ upTo n) : 0 ≤ k ∧ k < n := by
  obtain ⟨i, hi⟩ := List.getElem?_of_mem h
  exact (upTo_get hi).2
theorem mem_upTo {n k : Int} (h0 : 0 ≤ k) (h1 : k < n) : k ∈ upTo n := by
  unfold upTo
  exact List.mem_map.mpr ⟨k.toNat, List.mem_range.mpr (by omega), by omega⟩
theorem upTo_len (n : Int) : (upTo n).length = n.toNat := by unfold upTo; simp
theorem upTo_nodup (n : Int) : (upTo n).Nodup := by
  unfold upTo
  exact List.pairwise_map.mpr (List.nodup_range.imp fun h e => h (by omega))
theorem bits_le {k : Int} (h : k.natAbs < 2 ^ 60) : Builtin.Int.intBits k ≤ 64 := by
  unfold Builtin.Int.intBits
  split
  · omega
  · rename_i h0
    have h0 : k ≠ 0 := by simpa using h0
    have : k.natAbs.log2 < 60 := (Nat.log2_lt (by omega)).mpr h
    omega
theorem pow2_ok (n : Nat) (h : n ≤ 9) : ((2 : Int) ^ n ≠ 0) ∧ ((2 : Int) ^ n).natAbs < 1073741824 := by
  exact (by decide +kernel : ∀ k : Fin 10, ((2 : Int) ^ k.val ≠ 0) ∧ ((2 : Int) ^ k.val).natAbs < 1073741824) ⟨n, Nat.lt_succ_of_le h⟩
theorem tri_ok {k : Int} (h0 : 0 ≤ k) (h1 : k < 5) : 0 ≤ (k * (k - 1)).fdiv 2 ∧ (k * (k - 1)).fdiv 2 ≤ 6 ∧ (k * (k - 1)).natAbs < 100 := by
  obtain ⟨n, rfl⟩ := Int.eq_ofNat_of_zero_le h0
  exact (by decide +kernel : ∀ k : Fin 5, 0 ≤ ((k.val : Int) * ((k.val : Int) - 1)).fdiv 2 ∧ ((k.val : Int) * ((k.val : Int) - 1)).fdiv 2 ≤ 6 ∧ ((k.val : Int) * ((k.val : Int) - 1)).natAbs < 100) ⟨n, Int.ofNat_lt.mp h1⟩
theorem nums_app (a b : List Int) : nums (a ++ b) = nums a ++ nums b := List.map_append
theorem nums_take (a : List Int) (n : Nat) : nums (a.take n) = (nums a).take n := List.map_take
theorem nums_drop (a : List Int) (n : Nat) : nums (a.drop n) = (nums a).drop n := List.map_drop
theorem filter_len {α : Type} (p : α → Bool) (l : List α) : (l.filter p).length ≤ l.length := List.length_filter_le _ _
section
variable {prog : Program} {w : World} {mg mb : Str → Option Value}

theorem needs_spec {F : Fc} {n : Nat} {told size : Int} {H : AHeap} {l : List As} (W : Wld (K2 w) F mg mb) (OF : F.Ok (n + 1)) (O : Own2 prog w H l) (h0 : 0 ≤ told) (hs : 3 ≤ size ∧ size ≤ 5) :
    Calls prog w F (.ref 190) [vI told, vI size] H
      (fun v H' => ∃ d L G, v = .ref d ∧ Own2 prog w H' (.frag G :: l) ∧ NAt prog w G d L ∧ L.map (·.1) = upTo size ∧ ∀ e ∈ L, e.2.2.length ≤ 20 ∧ ∀ x ∈ e.2.2, 0 ≤ x ∧ x < size) (fun _ _ _ => False) := by
  refine Calls.ent (fd := _) (body := _) (names := ["told", "size"]) W OF ⟨⟨_, W.kx _ _ rfl, rfl⟩, rfl, rfl, rfl, codeRec_of W.kx (by rfl), rfl, rfl, by decide +kernel⟩ (fun args' ha => ?_) (by decide) (by decide +kernel) rfl rfl rfl fun F' E U OF' => ?_
  · obtain ⟨a, b, rfl, _⟩ := two_of ha; rfl
  · dsimp only at E
    repeat (walk_at "T")
    intro d H1 hN; have O := Own.new O hN; clear hN
    repeat (walk_at "T")
    refine E_forB [(("told" : Str), vI told), (("size" : Str), vI size), (("needs" : Str), .ref d)] E U OF'.hh (fun _ => rfl) (by rfl) ?_
    repeat (walk_at "T")
    intro rg H2 hN; have O := Own.new O hN; clear hN
    refine exi3 (nums (upTo size)) (.rng 0 size) (fun i H => ∃ L m, Own2 prog w H (.cell d (.dict (dE (KI prog w) (nents L)) m) :: .cell rg (.rng 0 size) :: (ncells L ++ l)) ∧ L.map (·.1) = (upTo size).take i ∧ ∀ e ∈ L, e.2.2.length ≤ 10 ∧ ∀ x ∈ e.2.2, 0 ≤ x ∧ x < size) ⟨⟨rg, rfl, O.get (by walk_at "mem"), upTo_src size, by walk_at "num", by walk_at "num", by walk_at "num", by walk_at "num"⟩, ⟨rfl, rfl, rfl, trivial⟩, ⟨[], 0, O.perm (.swap _ _ _), rfl, nofun⟩, ?_, ?_, ?_⟩
    · rintro i H vs ⟨L, m, O, _⟩
      exact ⟨rg, rfl, O.get (by walk_at "mem"), upTo_src size, by walk_at "num", by walk_at "num", by walk_at "num", by walk_at "num"⟩
    · rintro i x0 H hi hx0_; refine ex2and3 hx0_ fun L m O hL hLe => ?_; try clear hx0_
      obtain ⟨k, rfl, hk⟩ := nums_get hi
      obtain ⟨hki, hk0, hk1⟩ := upTo_get hk
      repeat (walk_at "T")
      refine E_listM (α := Int) E [(("told" : Str), vI told), (("y" : Str), vI k)] _ rfl rfl (fun _ => rfl) OF'.hh ?_
      repeat (walk_at "T")
      intro rg2 H3 hN; have O := Own.new O hN; clear hN
      have hsrc : ∀ H vs, Own2 prog w H (.cell rg2 (.rng 0 k) :: .cell d (.dict (dE (KI prog w) (nents L)) m) :: .cell rg (.rng 0 size) :: (ncells L ++ l)) → Src ⟨vs, H⟩ (.ref rg2) ((upTo k).map vI) (.rng 0 k) := fun H vs O =>
        ⟨rg2, rfl, O.get (by walk_at "mem"), upTo_src k, by walk_at "num", by walk_at "num", by walk_at "num", by walk_at "num"⟩
      refine ⟨⟨rfl, rfl, trivial⟩, exi6 (.rng 0 k) (upTo k) vI (fun H => Own2 prog w H (.cell rg2 (.rng 0 k) :: .cell d (.dict (dE (KI prog w) (nents L)) m) :: .cell rg (.rng 0 size) :: (ncells L ++ l))) (fun x => (told.fdiv (2 ^ ((k * (k - 1)).fdiv 2 + x).toNat)).fmod 2 == 1) (fun x => vI x) ⟨hsrc _ _ O, by rw [upTo_len]; walk_at "num", O, hsrc, ?_, ?_⟩⟩
      · clear O
        intro F2 E2 hF x H hx O
        obtain ⟨hx0, hx1⟩ := upTo_mem hx
        repeat (walk_at "T")
        have ht := tri_ok hk0 (by walk_at "num")
        refine B_mulI (.of_left (bits_le (by walk_at "num"))) ?_
        repeat (walk_at "T")
        have he0 : 0 ≤ (k * (k - 1)).fdiv 2 + x := Int.add_nonneg ht.1 hx0
        have he9 : ((k * (k - 1)).fdiv 2 + x).toNat ≤ 9 := om11 ht.2.1 hx1 hk1 hs.2
        refine B_powI he0 (by
          have : Builtin.Int.intBits 2 = 2 := by decide
          rw [this]; walk_at "num") ?_
        repeat (walk_at "T")
        refine B_divI (pow2_ok _ he9).1 (pow2_ok _ he9).2 ?_
        repeat (walk_at "T")
        refine ⟨_, rfl, fun h => ?_, fun h => ⟨h, ⟨rfl, rfl, trivial⟩, O⟩⟩
        repeat (walk_at "T")
        exact ⟨h, rfl, ⟨rfl, rfl, trivial⟩, O⟩
      · clear O
        intro H a H4 O hN
        have O := Own.new O hN
        clear hN
        generalize hR : (upTo k).filter (fun x => (told.fdiv (2 ^ ((k * (k - 1)).fdiv 2 + x).toNat)).fmod 2 == 1) = R at O
        have hRl : R.length ≤ 5 := by
          have h1 := filter_len (fun x => (told.fdiv (2 ^ ((k * (k - 1)).fdiv 2 + x).toNat)).fmod 2 == 1) (upTo k)
          rw [hR, upTo_len] at h1
          walk_at "num"
        have hRm : ∀ x ∈ R, 0 ≤ x ∧ x < size := fun x hx => by
          rw [← hR] at hx
          have := upTo_mem (List.mem_filter.mp hx).1
          walk_at "num"
        have O : Own2 prog w H4 (.cell a (.list (nums R)) :: .cell rg2 (.rng 0 k) :: .cell d (.dict (dE (KI prog w) (nents L)) m) :: .cell rg (.rng 0 size) :: (ncells L ++ l)) := O
        have hLl : L.length ≤ 5 := by
          have := congrArg List.length hL
          rw [List.length_map, List.length_take, upTo_len] at this
          walk_at "num"
        repeat (walk_at "T")
        have hj0 : 0 ≤ (told.fdiv 1024).fmod 2 := Int.fmod_nonneg_of_pos _ (by decide)
        refine exi3 a _ (((told.fdiv 1024).fmod 2).toNat) ⟨rfl, by rw [Int.toNat_of_nonneg hj0], O.get (by walk_at "mem"), by rw [nums_len]; walk_at "num", ?_⟩
        intro b H5 hN; have O := Own.new O hN; clear hN
        refine B_addL (by walk_at "own") (by walk_at "own") (by rw [List.length_take, nums_len]; walk_at "num") ?_
        intro c H6 hN; have O := Own.new O hN; clear hN
        repeat (walk_at "T")
        refine Y_dict (by walk_at "own") (by unfold nents; rw [List.length_map]; walk_at "num") ?_
        intro m2 H7 hN
        have hkL : k ∉ L.map (·.1) := fun h => by
          rw [hL] at h
          obtain ⟨j, hj1, hj2⟩ := List.mem_iff_getElem.mp h
          rw [List.length_take] at hj1
          rw [List.getElem_take] at hj2
          have := (upTo_get (List.getElem?_eq_getElem (by walk_at "num" : j < (upTo size).length))).1
          rw [hj2] at this
          walk_at "num"
        rw [nents_new hkL (R ++ R.take ((told.fdiv 1024).fmod 2).toNat)] at hN
        have O := Own.put (l' := _) O (by walk_at "put") hN
        clear hN
        repeat (walk_at "T")
        have O' : Own2 prog w H7 (.cell d (.dict (dE (KI prog w) (nents (L ++ [(k, c, R ++ R.take ((told.fdiv 1024).fmod 2).toNat)]))) m2) :: .cell rg (.rng 0 size) :: (ncells (L ++ [(k, c, R ++ R.take ((told.fdiv 1024).fmod 2).toNat)]) ++ l)) := by
          have e : ncells (L ++ [(k, c, R ++ R.take ((told.fdiv 1024).fmod 2).toNat)]) ++ l = ncells L ++ As.cell c (.list (nums R ++ (nums R).take ((told.fdiv 1024).fmod 2).toNat)) :: l := by
            unfold ncells
            rw [List.map_append, List.append_assoc, ← nums_take, ← nums_app]; rfl
          rw [e]
          exact (O.sub (.cons_cons _ (.cons _ (.cons _ (.cons _ (List.Sublist.refl _)))))).perm (List.perm_middle (l₁ := [_, _] ++ ncells L)).symm
        refine ⟨⟨rfl, rfl, rfl, trivial⟩, exi2 _ m2 ⟨O', ?_, fun e he => ?_⟩⟩
        · rw [List.map_append, hL, List.take_add_one, hk]; rfl
        · rcases List.mem_append.mp he with he | he
          · exact hLe e he
          · rw [List.mem_singleton.mp he]
            refine ⟨by rw [List.length_append, List.length_take]; walk_at "num", fun x hx => ?_⟩
            rcases List.mem_append.mp hx with hx | hx
            · exact hRm x hx
            · exact hRm x (List.mem_of_mem_take hx)
    · rintro H hx0_; refine ex2and3 hx0_ fun L m O hL hLe => ?_; try clear hx0_
      rw [nums_len, List.take_length] at hL
      walk_at "T"
      walk_at "T"
      refine E_ifJ (fun st' => ∃ L m, Has st'.vars [(("needs" : Str), .ref d)] ∧ Own2 prog w st'.H (.cell d (.dict (dE (KI prog w) (nents L)) m) :: .cell rg (.rng 0 size) :: (ncells L ++ l)) ∧ L.map (·.1) = upTo size ∧ ∀ e ∈ L, e.2.2.length ≤ 20 ∧ ∀ x ∈ e.2.2, 0 ≤ x ∧ x < size) ?_ ?_
      · repeat (walk_at "T")
        refine ⟨_, rfl, fun h => ?_, fun h => ?_⟩
        · have hk0 : 0 ≤ (told.fdiv 2048).fmod size := Int.fmod_nonneg_of_pos _ (by walk_at "num")
          have hk1 : (told.fdiv 2048).fmod size < size := Int.fmod_lt_of_pos _ (by walk_at "num")
          obtain ⟨e, he, hek⟩ : ∃ e ∈ L, e.1 = (told.fdiv 2048).fmod size := by
            have := mem_upTo hk0 hk1
            rw [← hL] at this
            obtain ⟨e, he, q⟩ := List.mem_map.mp this
            exact ⟨e, he, q⟩
          have hv := nents_at (by rw [hL]; exact upTo_nodup size) he
          rw [hek] at hv
          obtain ⟨L1, L2, rfl⟩ := List.append_of_mem he
          have hc : H e.2.1 = some (.list (nums e.2.2)) := O.get (by
            refine List.mem_cons_of_mem _ (List.mem_cons_of_mem _ (List.mem_append_left _ ?_))
            exact List.mem_map_of_mem (f := fun e : Int × Addr × List Int => As.cell e.2.1 (.list (nums e.2.2))) he)
          have hel := (hLe e he).1
          repeat (walk_at "T")
          refine ⟨⟨d, rfl, .inr (.inr ⟨_, _, O.get (by walk_at "mem")⟩)⟩, X_dict (by walk_at "own") hv ?_⟩
          refine M_append (by exact hc) ?_
          repeat (walk_at "T")
          refine C_append (by exact hc) (by rw [nums_len]; walk_at "num") ?_
          intro H2 hN
          have ec : ncells (L1 ++ e :: L2) ++ l = ncells L1 ++ As.cell e.2.1 (.list (nums e.2.2)) :: (ncells L2 ++ l) := by
            unfold ncells
            rw [List.map_append, List.append_assoc]; rfl
          rw [ec] at O
          have O := Own.put (a := e.2.1) (o' := .list (nums e.2.2 ++ [vI (((told.fdiv 2048).fdiv size).fmod size)])) O (.there (.there Put.mid)) hN
          clear hN ec
          repeat (walk_at "T")
          refine exi2 (L1 ++ (e.1, e.2.1, e.2.2 ++ [((told.fdiv 2048).fdiv size).fmod size]) :: L2) m ⟨⟨rfl, trivial⟩, ?_, ?_, ?_⟩
          · have e1 : ncells (L1 ++ (e.1, e.2.1, e.2.2 ++ [((told.fdiv 2048).fdiv size).fmod size]) :: L2) ++ l = ncells L1 ++ As.cell e.2.1 (.list (nums e.2.2 ++ [vI (((told.fdiv 2048).fdiv size).fmod size)])) :: (ncells L2 ++ l) := by
              unfold ncells
              rw [List.map_append, List.append_assoc, List.map_cons, nums_snoc]; rfl
            have e2 : nents (L1 ++ (e.1, e.2.1, e.2.2 ++ [((told.fdiv 2048).fdiv size).fmod size]) :: L2) = nents (L1 ++ e :: L2) := by unfold nents; simp
            rw [e1, e2]; exact O
          · rw [← hL]; simp
          · intro z hz
            rcases List.mem_append.mp hz with hz | hz
            · have := hLe z (List.mem_append_left _ hz); exact ⟨by walk_at "num", this.2⟩
            · rcases List.mem_cons.mp hz with rfl | hz
              · refine ⟨by rw [List.length_append, List.length_cons, List.length_nil]; walk_at "num", fun x hx => ?_⟩
                rcases List.mem_append.mp hx with hx | hx
                · exact (hLe e he).2 x hx
                · rw [List.mem_singleton.mp hx]
                  exact ⟨Int.fmod_nonneg_of_pos _ (by walk_at "num"), Int.fmod_lt_of_pos _ (by walk_at "num")⟩
              · have := hLe z (List.mem_append_right _ (List.mem_cons_of_mem _ hz)); exact ⟨by walk_at "num", this.2⟩
        · repeat (walk_at "T")
          exact exi2 L m ⟨⟨rfl, trivial⟩, O, hL, fun e he => ⟨by have := (hLe e he).1; walk_at "num", (hLe e he).2⟩⟩
      · clear O hL hLe
        rintro ⟨vs, H⟩ hx0_; refine ex2and4 hx0_ fun L m hv O hL hLe => ?_; try clear hx0_
        refine T.keepVars [(("needs" : Str), .ref d)] hv ?_
        repeat (walk_at "T")
        have O1 := (O.sub (.cons_cons _ (.cons _ (List.Sublist.refl _)))).frag0
        have O2 : Own2 prog w H (((d, AO.dict (dE (KI prog w) (nents L)) m) :: L.map fun e => (e.2.1, AO.list (nums e.2.2))).map (fun p => As.cell p.1 p.2) ++ .frag noF :: l) := by
          rw [List.map_cons, List.map_map]
          exact O1.perm (List.perm_middle (l₁ := As.cell d (.dict (dE (KI prog w) (nents L)) m) :: ncells L)).symm
        obtain ⟨G, O3, _, hG⟩ := O2.layAll
        exact exi3 d L G ⟨rfl, O3, ⟨⟨m, hG _ List.mem_cons_self⟩, fun e he => hG (e.2.1, _) (List.mem_cons_of_mem _ (List.mem_map_of_mem he))⟩, hL, hLe⟩
end
end
section
set_option maxRecDepth 100000
set_option Elab.async false
set_option linter.unusedVariables false
open PySem PySem.W PySem.Calls PyProof.Rows PySem.SeqAt
noncomputable def PS.has (P : PS) (k : Int) : Prop := ∃ y ∈ P.nds, y.key = k
noncomputable def PS.closed (P : PS) : Prop := ∀ x ∈ P.nds, ∀ s ∈ x.succ, P.has s
theorem PS.has.touch {P : PS} {j : Int} (h : P.has j) (k : Int) : (P.touch k).has j := by
  obtain ⟨y, hy, e⟩ := h
  unfold PS.touch
  split
  · exact ⟨y, hy, e⟩
  · exact ⟨y, List.mem_append_left _ hy, e⟩
theorem touch_has (P : PS) (k : Int) : (P.touch k).has k := by
  unfold PS.touch
  split
  · rename_i h
    obtain ⟨y, hy, e⟩ := List.any_eq_true.mp h
    exact ⟨y, hy, of_decide_eq_true e⟩
  · exact ⟨_, List.mem_append_right _ List.mem_cons_self, rfl⟩
theorem PS.has.on {P : PS} {j : Int} (h : P.has j) {k : Int} {f : PN → PN} (hf : ∀ x, (f x).key = x.key) : (P.on k f).has j := by
  obtain ⟨y, hy, e⟩ := h
  refine ⟨_, List.mem_map_of_mem hy, ?_⟩
  split
  · rw [hf]; exact e
  · exact e
theorem PS.closed.touch {P : PS} (h : P.closed) (k : Int) : (P.touch k).closed := by
  intro x hx s hs
  have : (x ∈ P.nds) ∨ x.succ = [] := by
    unfold PS.touch at hx
    split at hx
    · exact .inl hx
    · rcases List.mem_append.mp hx with hx | hx
      · exact .inl hx
      · rw [List.mem_singleton.mp hx]; exact .inr rfl
  rcases this with hx | e
  · exact (h x hx s hs).touch k
  · rw [e] at hs; cases hs
theorem PS.closed.bump {P : PS} (h : P.closed) (k n : Int) : (P.bump k n).closed := by
  intro x hx s hs
  obtain ⟨y, hy, rfl⟩ := List.mem_map.mp hx
  refine PS.has.on (h y hy s ?_) fun _ => rfl
  split at hs <;> exact hs
theorem PS.closed.push {P : PS} (h : P.closed) (k : Int) {s : Int} (hs : P.has s) : (P.push k s).closed := by
  intro x hx t ht
  obtain ⟨y, hy, rfl⟩ := List.mem_map.mp hx
  split at ht
  · rcases List.mem_append.mp ht with ht | ht
    · exact PS.has.on (h y hy t ht) fun _ => rfl
    · rw [List.mem_singleton.mp ht]; exact PS.has.on hs fun _ => rfl
  · exact PS.has.on (h y hy t ht) fun _ => rfl
theorem addTo_ok {k : Int} : ∀ {ps : List Int} {P : PS}, P.closed → P.has k → (PS.addTo k P ps).closed ∧ (PS.addTo k P ps).has k
  | [], P, h1, h2 => ⟨h1, h2⟩
  | p :: r, P, h1, h2 => addTo_ok (ps := r) ((h1.touch p).push p (h2.touch p)) (PS.has.on (h2.touch p) fun _ => rfl)
theorem PS.closed.add {P : PS} (h : P.closed) (k : Int) (ps : List Int) : (P.add k ps).closed :=
  (addTo_ok ((h.touch k).bump k _) (PS.has.on (touch_has P k) fun _ => rfl)).1
theorem add_len (P : PS) (k : Int) (ps : List Int) : (P.add k ps).nds.length ≤ P.nds.length + 1 + ps.length := by
  have h1 := addTo_len k ps ((P.touch k).bump k ps.length)
  have h2 : ((P.touch k).bump k ps.length).nds.length = (P.touch k).nds.length := on_len _ _ _
  have h3 := touch_len P k
  show (PS.addTo k ((P.touch k).bump k ps.length) ps).nds.length ≤ _
  omega
theorem PS.sl.add {P : PS} {B : Nat} (h : P.sl B) (k : Int) (ps : List Int) : (P.add k ps).sl (B + ps.length) := ((h.touch k).bump k _).addTo
noncomputable def P00 : PS := ⟨[], none, 0, 0⟩
noncomputable def addE (P : PS) (e : Int × List Int) : PS := (P.add e.1 (e.2.take 1)).add e.1 (e.2.drop 1)
noncomputable def bldA (N : List (Int × List Int)) : PS := N.foldl (fun P e => P.add e.1 []) P00
noncomputable def bld (N : List (Int × List Int)) : PS := N.foldl addE (bldA N)
theorem bld_closed (N : List (Int × List Int)) : (bld N).closed := by
  have hA : ∀ (M : List (Int × List Int)) (P : PS), P.closed → (M.foldl (fun P e => P.add e.1 []) P).closed := by
    intro M
    induction M with
    | nil => exact fun P h => h
    | cons e M ih => exact fun P h => ih _ (h.add _ _)
  have hB : ∀ (M : List (Int × List Int)) (P : PS), P.closed → (M.foldl addE P).closed := by
    intro M
    induction M with
    | nil => exact fun P h => h
    | cons e M ih => exact fun P h => ih _ ((h.add _ _).add _ _)
  exact hB _ _ (hA _ _ nofun)
end
section
set_option maxRecDepth 100000
set_option Elab.async false
set_option linter.unusedVariables false
set_option maxHeartbeats 4000000
open PySem PySem.W PySem.Calls PyProof.Rows PySem.SeqAt
section
variable {prog : Program} {w : World} {mg mb : Str → Option Value} {nm : List (Str × NameKind)} {F : Fx} {st : St} {X : Value → List Value → St → Prop} {Q : Value → St → Prop} {l : List As} {S : Srt} {y : Addr}
theorem fold_take {α β : Type} {f : β → α → β} {P : β} {l : List α} {i : Nat} {x : α} (h : l[i]? = some x) : (l.take (i + 1)).foldl f P = f ((l.take i).foldl f P) x := by
  rw [List.take_add_one, h, List.foldl_append]; rfl
theorem npure_at {L : NL} {i : Nat} {e : Int × Addr × List Int} (h : L[i]? = some e) : (npure L)[i]? = some (e.1, e.2.2) := by
  unfold npure; rw [List.getElem?_map, h]; rfl
theorem A_badd (E : Ent (K2 w) mg mb nm F) (O : Own2 prog w st.H l) (m : SAt S y l) (h : ∀ a H', New st.H a (.meth (.ref 87) (.ref S.self)) H' → Q (.ref a) ⟨st.vars, H'⟩) : AttrE prog w F (.ref y) "add" Q X st := by
  obtain ⟨m, rfl⟩ := m
  exact A_bound E (O.srtAt m).self (O.srtAt m).ns (by rfl) (by rfl) (by rfl) (by rfl) (by rfl) (by rfl) (by rfl) (by decide) h
end
section
variable {prog : Program} {w : World} {mg mb : Str → Option Value}

theorem lsorter_spec {F : Fc} {n : Nat} {d : Addr} {L : NL} {G H : AHeap} {l r : List As} (W : Wld (K2 w) F mg mb) (OF : F.Ok (n + 6)) (O : Own2 prog w H l) (t : Take (.frag G) l r) (hG : NAt prog w G d L) (hL : (L.map (·.1)).Nodup) (hLl : L.length ≤ 10) (hLe : ∀ e ∈ L, e.2.2.length ≤ 20) :
    Calls prog w F (.ref 197) [.ref d] H
      (fun v H' => ∃ q S rd a b, v = .ref q ∧ Own2 prog w H' (.cell q (.tup [.ref S.self, .bool b, .ref a]) :: .cell a (.tup (nums (bld (npure L)).frees)) :: .srt S :: .frag G :: r) ∧ S.p = (bld (npure L)).prep.gr ∧ S.ready = some (rd, []) ∧ (b = true → (bld (npure L)).Ring) ∧ (b = false → (bld (npure L)).Topo)) (fun _ _ _ => False) := by
  refine Calls.ent (fd := _) (body := _) (names := ["needs"]) W OF ⟨⟨_, W.kx _ _ rfl, rfl⟩, rfl, rfl, rfl, codeRec_of W.kx (by rfl), rfl, rfl, by decide +kernel⟩ (fun args' ha => ?_) (by decide) (by decide +kernel) rfl rfl rfl fun F' E U OF' => ?_
  · obtain ⟨a, rfl, _⟩ := one_of ha; rfl
  · dsimp only at E
    have O := O.take t
    obtain ⟨m0, hdd⟩ := hG.dict
    repeat (walk_at "T")
    refine C_code ((sorter_own E.W OF' O).mono ?_ (fun _ _ _ z => z.elim))
    rintro v H1 hx0_; refine ex1and5 hx0_ fun S0 y1_ O p0 r0 n0 => ?_; try clear hx0_; obtain rfl := y1_
    generalize hs0 : S0.self = s0
    repeat (walk_at "T")
    refine E_forB [(("needs" : Str), .ref d), (("sorter" : Str), .ref s0)] E U OF'.hh (fun _ => rfl) (by rfl) ?_
    repeat (walk_at "T")
    refine exi3 (nums (L.map (·.1))) (.keys (dE (KI prog w) (nents L)) m0) (fun i H => ∃ S, Own2 prog w H (.srt S :: .frag G :: r) ∧ S.self = s0 ∧ S.p = ((npure L).take i).foldl (fun P e => P.add e.1 []) P00 ∧ S.ready = none ∧ S.nds.length ≤ i ∧ S.p.sl 0) ⟨⟨d, rfl, O.fragAt (by walk_at "mem") _ _ hdd, nkeysE L⟩, ⟨rfl, rfl, trivial⟩, ⟨S0, O, hs0, p0, r0, by rw [n0]; exact Nat.le_refl _, by rw [p0]; exact nofun⟩, ?_, ?_, ?_⟩
    · rintro i H vs ⟨S, O, _⟩
      exact ⟨d, rfl, O.fragAt (by walk_at "mem") _ _ hdd, nkeysE L⟩
    · rintro i x0 H hi hx0_; refine ex1and6 hx0_ fun S O y2_ hp hr hnl hsl => ?_; try clear hx0_; obtain rfl := y2_
      obtain ⟨k, rfl, hk⟩ := nums_get hi
      rw [List.getElem?_map] at hk
      obtain ⟨e, he, rfl⟩ := Option.map_eq_some_iff.mp hk
      have hil : i < L.length := (List.getElem?_eq_some_iff.mp he).1
      repeat (walk_at "T")
      refine C_code (args := [.ref S.self, vI e.1] ++ nums []) ((add_spec (n := n + 1) E.W OF' O (by walk_at "take") hr (by simp only [List.length_nil]; walk_at "num") hsl (by simp)).mono ?_ (fun _ _ _ z => z.elim))
      rintro v H2 hx0_; refine ex0and2 hx0_ fun y0_ y1_ => ?_; try clear hx0_; obtain rfl := y0_; obtain ⟨S', O, s', p', r'⟩ := y1_
      repeat (walk_at "T")
      refine ⟨⟨rfl, rfl, trivial⟩, S', O, s', ?_, r', ?_, ?_⟩
      · rw [p', hp, fold_take (npure_at he)]
      · have := add_len S.p e.1 []
        rw [← p', p_len, p_len, List.length_nil] at this
        walk_at "num"
      · rw [p']; exact hsl.add e.1 []
    · rintro H hx0_; refine ex1and6 hx0_ fun S O y2_ hp hr hnl hsl => ?_; try clear hx0_; obtain rfl := y2_
      rw [nums_len, List.length_map] at hp hnl
      have hp : S.p = bldA (npure L) := by
        rw [hp, List.take_of_length_le (by unfold npure; rw [List.length_map]; exact Nat.le_refl _)]; rfl
      generalize hs0 : S.self = s0
      walk_at "T"
      walk_at "T"
      walk_at "T"
      refine E_forB [(("needs" : Str), .ref d), (("sorter" : Str), .ref s0)] E U OF'.hh (fun _ => rfl) (by rfl) ?_
      repeat (walk_at "T")
      refine exi3 (nums (L.map (·.1))) (.keys (dE (KI prog w) (nents L)) m0) (fun i H => ∃ S, Own2 prog w H (.srt S :: .frag G :: r) ∧ S.self = s0 ∧ S.p = ((npure L).take i).foldl addE (bldA (npure L)) ∧ S.ready = none ∧ S.nds.length ≤ 10 + 50 * i ∧ S.p.sl (50 * i)) ⟨⟨d, rfl, O.fragAt (by walk_at "mem") _ _ hdd, nkeysE L⟩, ⟨rfl, rfl, trivial⟩, ⟨S, O, hs0, hp, hr, by walk_at "num", hsl⟩, ?_, ?_, ?_⟩
      · rintro i H vs ⟨S, O, _⟩
        exact ⟨d, rfl, O.fragAt (by walk_at "mem") _ _ hdd, nkeysE L⟩
      · clear hp hr hnl hsl hs0 O
        rintro i x0 H hi hx0_; refine ex1and6 hx0_ fun S O y2_ hp hr hnl hsl => ?_; try clear hx0_; obtain rfl := y2_
        obtain ⟨k, rfl, hk⟩ := nums_get hi
        rw [List.getElem?_map] at hk
        obtain ⟨e, he, rfl⟩ := Option.map_eq_some_iff.mp hk
        have hil : i < L.length := (List.getElem?_eq_some_iff.mp he).1
        have hem := List.mem_of_getElem? he
        have hel := hLe e hem
        have t1 : (e.2.2.take 1).length ≤ 20 := by rw [List.length_take]; walk_at "num"
        have t2 : (e.2.2.drop 1).length ≤ 20 := by rw [List.length_drop]; walk_at "num"
        repeat (walk_at "T")
        repeat (walk_at "T")
        intro ba H2a hN; have O := Own.new O hN; clear hN
        repeat (walk_at "T")
        refine ⟨⟨d, rfl, .inr (.inr ⟨_, _, O.fragAt (by walk_at "mem") _ _ hdd⟩)⟩, X_dict (by exact O.fragAt (by walk_at "mem") _ _ hdd) (nents_at hL hem) ?_⟩
        repeat (walk_at "T")
        refine exi3 e.2.1 _ 1 ⟨rfl, rfl, O.fragAt (by walk_at "mem") _ _ (hG.list e hem), by rw [nums_len]; walk_at "num", ?_⟩
        intro b H2 hN; have O := Own.new O hN; clear hN
        rw [← nums_take] at O
        refine ⟨nums (e.2.2.take 1), ⟨b, rfl, .inl (O.get (by walk_at "mem")), by rw [nums_len]; walk_at "num"⟩, KF.meth E (by walk_at "own") (by rfl), ?_⟩
        refine C_code (.bound (by walk_at "own") rfl ?_)
        refine (show Calls _ _ _ _ ([.ref S.self, vI e.1] ++ nums (e.2.2.take 1)) _ _ _ from (add_spec (n := n + 1) E.W OF' O (by walk_at "take") hr (by walk_at "num") hsl (by walk_at "num")).mono ?_ (fun _ _ _ z => z.elim))
        rintro v H3 hx0_; refine ex0and2 hx0_ fun y0_ y1_ => ?_; try clear hx0_; obtain rfl := y0_; obtain ⟨S', O, s', p', r'⟩ := y1_
        have hn' := add_len S.p e.1 (e.2.2.take 1)
        rw [← p', p_len, p_len] at hn'
        have hs' : S'.p.sl (50 * i + 20) := by rw [p']; exact (hsl.add e.1 (e.2.2.take 1)).le (by walk_at "num")
        rw [← s']
        repeat (walk_at "T")
        intro bc H4a hN; have O := Own.new O hN; clear hN
        repeat (walk_at "T")
        refine ⟨⟨d, rfl, .inr (.inr ⟨_, _, O.fragAt (by walk_at "mem") _ _ hdd⟩)⟩, X_dict (by exact O.fragAt (by walk_at "mem") _ _ hdd) (nents_at hL hem) ?_⟩
        repeat (walk_at "T")
        refine exi3 e.2.1 _ 1 ⟨rfl, rfl, O.fragAt (by walk_at "mem") _ _ (hG.list e hem), by rw [nums_len]; walk_at "num", ?_⟩
        intro c H4 hN; have O := Own.new O hN; clear hN
        rw [← nums_drop] at O
        refine ⟨nums (e.2.2.drop 1), ⟨c, rfl, .inl (O.get (by walk_at "mem")), by rw [nums_len]; walk_at "num"⟩, KF.meth E (by walk_at "own") (by rfl), ?_⟩
        refine C_code (.bound (by walk_at "own") rfl ?_)
        refine (show Calls _ _ _ _ ([.ref S'.self, vI e.1] ++ nums (e.2.2.drop 1)) _ _ _ from (add_spec (n := n + 1) E.W OF' O (by walk_at "take") r' (by walk_at "num") hs' (by walk_at "num")).mono ?_ (fun _ _ _ z => z.elim))
        rintro v H5 hx0_; refine ex0and2 hx0_ fun y0_ y1_ => ?_; try clear hx0_; obtain rfl := y0_; obtain ⟨S'', O, s'', p'', r''⟩ := y1_
        repeat (walk_at "T")
        refine ⟨⟨rfl, congrArg (fun z => some (Value.ref z)) s', trivial⟩, S'', O.sub (.cons_cons _ (.cons _ (.cons _ (.cons _ (.cons _ (List.Sublist.refl _)))))), s''.trans s', ?_, r'', ?_, ?_⟩
        · rw [p'', p', hp, fold_take (npure_at he)]; rfl
        · have := add_len S'.p e.1 (e.2.2.drop 1)
          rw [← p'', p_len, p_len] at this
          walk_at "num"
        · rw [p'']; exact (hs'.add e.1 (e.2.2.drop 1)).le (by walk_at "num")
      · clear hp hr hnl hsl hs0 O
        rintro H hx0_; refine ex1and6 hx0_ fun S O y2_ hp hr hnl hsl => ?_; try clear hx0_; obtain rfl := y2_
        rw [nums_len, List.length_map] at hp hnl hsl
        have hp : S.p = bld (npure L) := by
          rw [hp, List.take_of_length_le (by unfold npure; rw [List.length_map]; exact Nat.le_refl _)]; rfl
        have hcl : ∀ x ∈ S.nds, ∀ s ∈ x.succ, ∃ y ∈ S.nds, y.key = s := fun x hx s hs => by
          have hc := bld_closed (npure L)
          rw [← hp] at hc
          obtain ⟨y, hy, e⟩ := hc x.p (List.mem_map_of_mem hx) s hs
          obtain ⟨z, hz, rfl⟩ := List.mem_map.mp hy
          exact ⟨z, hz, e⟩
        have hB : ∀ x ∈ S.nds, x.succ.length ≤ 100000 := fun x hx => by
          have := hsl.at hx
          walk_at "num"
        have hfl : S.p.frees.length ≤ 100000 := by
          unfold PS.frees
          rw [List.length_map]
          have := filter_len (fun x : PN => decide (x.np = 0)) S.p.nds
          rw [p_len] at this
          walk_at "num"
        have hfk : ∀ k ∈ S.p.frees, ∃ x ∈ S.nds, x.key = k := fun k hk => by
          rw [frees_nds] at hk
          obtain ⟨x, hx, rfl⟩ := List.mem_map.mp hk
          exact ⟨x, (List.mem_filter.mp hx).1, rfl⟩
        walk_at "T"
        walk_at "T"
        walk_at "T"
        refine E_try U ?_
        repeat (walk_at "T")
        refine C_code ((prep_spec (n := n + 3) E.W OF' O (by walk_at "take") hr (by walk_at "num") hcl hB).mono ?_ ?_)
        · rintro v H2 hx0_; refine ex0and2 hx0_ fun y0_ y1_ => ?_; try clear hx0_; obtain rfl := y0_; obtain ⟨S', rd, O, s', p', r', htop⟩ := y1_
          repeat (walk_at "T")
          refine ⟨_, rfl, fun _ => ?_, fun h => absurd h (by decide)⟩
          rw [← s'.self]
          repeat (walk_at "T")
          refine C_code ((ready_spec (n := n + 4) E.W OF' O (by walk_at "take") r' hfl (fun k hk => s'.keyed (hfk k hk))).mono ?_ (fun _ _ _ z => z.elim))
          rintro v H3 hx0_; refine ex2and5 hx0_ fun a S2 y2_ O s2 p2 r2 => ?_; try clear hx0_; obtain rfl := y2_
          repeat (walk_at "T")
          have hpf : S.p.frees = (bld (npure L)).frees := by rw [hp]
          rw [hpf] at O
          intro tt H4 hN; have O := Own.new O hN; clear hN
          repeat (walk_at "T")
          refine exi5 tt S2 rd a false ⟨rfl, ?_, by rw [p2, p', hp], r2, nofun, fun _ => by rw [← hp]; exact htop⟩
          rw [s2.self]
          exact O.perm (.cons _ (.swap _ _ _))
        · rintro c as H2 hx0_; refine ex0and2 hx0_ fun y0_ y1_ => ?_; try clear hx0_; obtain rfl := y0_; obtain ⟨S', rd, O, s', p', r', hring⟩ := y1_
          refine E_exceptOwn (cyc_own E.W) (by rfl) E rfl (by rfl) rfl fun F2 E2 => ?_
          rw [← s'.self]
          repeat (walk_at "T")
          refine C_code ((ready_spec (n := n + 4) E.W OF' O (by walk_at "take") r' hfl (fun k hk => s'.keyed (hfk k hk))).mono ?_ (fun _ _ _ z => z.elim))
          rintro v H3 hx0_; refine ex2and5 hx0_ fun a S2 y2_ O s2 p2 r2 => ?_; try clear hx0_; obtain rfl := y2_
          repeat (walk_at "T")
          have hpf : S.p.frees = (bld (npure L)).frees := by rw [hp]
          rw [hpf] at O
          intro tt H4 hN; have O := Own.new O hN; clear hN
          repeat (walk_at "T")
          refine exi5 tt S2 rd a true ⟨rfl, ?_, by rw [p2, p', hp], r2, (fun _ => by rw [← hp]; exact hring), nofun⟩
          rw [s2.self]
          exact O.perm (.cons _ (.swap _ _ _))
end
end
section
set_option maxRecDepth 100000
set_option Elab.async false
set_option linter.unusedVariables false
set_option maxHeartbeats 4000000
open PySem PySem.W PySem.Calls PyProof.Rows PySem.SeqAt
structure Ans where
  msg : Option Str
  a1 : Bool
  rs : List Int
  a2 : Bool
noncomputable def msgD : Option Str → PyData
  | none => .none
  | some s => .list [.str "refused", .str s]
noncomputable def ansD (a : Ans) : PyData := .list [msgD a.msg, .bool a.a1, .tuple (a.rs.map .int), .bool a.a2]
noncomputable def PS.tell (P : PS) (x : Int) : PS × Ans := ((P.doneN [x]).1.gr, ⟨(P.doneN [x]).2, (P.doneN [x]).1.act, (P.doneN [x]).1.ready.getD [], (P.doneN [x]).1.gr.act⟩)
noncomputable def tellsF (c : PS × List Ans) (x : Int) : PS × List Ans := ((c.1.tell x).1, c.2 ++ [(c.1.tell x).2])
noncomputable def PS.tells (P : PS) (row : List Int) : PS × List Ans := row.foldl tellsF (P, [])
structure Tells (I : PS → Prop) (row : List Int) : Prop where
  step : ∀ P x, x ∈ row → I P → I (P.tell x).1
  sane : ∀ P, I P → ∀ y ∈ P.nds, -2 ≤ y.np
  empty : ∀ P, I P → P.ready = some []
  news : ∀ P x, x ∈ row → I P → ∀ k ∈ (P.doneN [x]).1.ready.getD [], P.has k
  few : ∀ P x, x ∈ row → I P → ((P.doneN [x]).1.ready.getD []).length ≤ 50000
theorem Own.layT {prog : Program} {w : World} {cN cT : Addr} {H G : AHeap} {l l' r : List As} {a : Addr} {o : AO} (O : Own prog w cN cT H l) (t : Take (.cell a o) l l') (t2 : Take (.frag G) l' r) : ∃ G', Own prog w cN cT H (.frag G' :: r) ∧ Ext G G' ∧ G' a = some o :=
  ((O.take t).perm (.cons _ t2.perm)).lay1
section
variable {prog : Program} {w : World} {mg mb : Str → Option Value}

theorem ltold_spec {F : Fc} {n : Nat} {S : Srt} {rd ra : Addr} {row : List Int} {G H : AHeap} {l l1 r : List As} (I : PS → Prop) (W : Wld (K2 w) F mg mb) (OF : F.Ok (n + 3)) (O : Own2 prog w H l) (t : Take (.srt S) l l1) (t1 : Take (.frag G) l1 r)
    (hrow : G ra = some (.list (nums row))) (hrl : row.length ≤ 1000) (h10 : ∀ k ∈ row, 0 ≤ k ∧ k < 10) (hr : S.ready = some (rd, [])) (hcl : ∀ x ∈ S.nds, ∀ s ∈ x.succ, ∃ y ∈ S.nds, y.key = s) (hB : ∀ x ∈ S.nds, x.succ.length ≤ 1000)
    (hI : I S.p) (TI : Tells I row) :
    Calls prog w F (.ref 204) [.ref S.self, .ref ra] H
      (fun v H' => ∃ a S' G', v = .ref a ∧ Own2 prog w H' (.srt S' :: .frag G' :: r) ∧ Same S S' ∧ S'.p = (S.p.tells row).1 ∧ S'.ready = some (rd, []) ∧ Ext G G' ∧ Rd G' (.list ((S.p.tells row).2.map ansD)) (.ref a)) (fun _ _ _ => False) := by
  refine Calls.ent (fd := _) (body := _) (names := ["sorter", "row"]) W OF ⟨⟨_, W.kx _ _ rfl, rfl⟩, rfl, rfl, rfl, codeRec_of W.kx (by rfl), rfl, rfl, by decide +kernel⟩ (fun args' ha => ?_) (by decide) (by decide +kernel) rfl rfl rfl fun F' E U OF' => ?_
  · obtain ⟨a, b, rfl, _⟩ := two_of ha; rfl
  · dsimp only at E
    have O : Own2 prog w H (.srt S :: .frag G :: r) := (O.take t).perm (.cons _ t1.perm)
    repeat (walk_at "T")
    intro an H1 hN; have O := Own.new O hN; clear hN
    repeat (walk_at "T")
    refine E_forB [(("sorter" : Str), .ref S.self), (("answers" : Str), .ref an)] E U OF'.hh (fun _ => rfl) (by rfl) ?_
    repeat (walk_at "T")
    refine exi3 (nums row) .list (fun i H => ∃ S' vs G', Own2 prog w H (.cell an (.list vs) :: .srt S' :: .frag G' :: r) ∧ Same S S' ∧ S'.p = (S.p.tells (row.take i)).1 ∧ S'.ready = some (rd, []) ∧ Ext G G' ∧ RdAll G' ((S.p.tells (row.take i)).2.map ansD) vs ∧ I S'.p ∧ vs.length ≤ i) ⟨⟨ra, rfl, O.fragAt (by walk_at "mem") _ _ hrow⟩, ⟨rfl, rfl, trivial⟩, ⟨S, [], G, O, .refl _, rfl, hr, .refl _, trivial, hI, Nat.le_refl _⟩, ?_, ?_, ?_⟩
    · rintro i H vs hx0_; refine ex3and6 hx0_ fun S' vs' G' O _ _ _ hx _ => ?_; try clear hx0_
      exact ⟨ra, rfl, O.fragAt (by walk_at "mem") _ _ (hx _ _ hrow)⟩
    · clear O
      rintro i x0 H hi hx0_; refine ex3and8 hx0_ fun S' vs G' O s' p' r' hx hvs hI' hvl => ?_; try clear hx0_
      obtain ⟨k, rfl, hk⟩ := nums_get hi
      have hkm := List.mem_of_getElem? hk
      have hil : i < row.length := (List.getElem?_eq_some_iff.mp hk).1
      have hcl' : ∀ x ∈ S'.nds, ∀ s ∈ x.succ, ∃ y ∈ S'.nds, y.key = s := fun x hx s hs => by
        refine ex1and5 ((Same.mk s'.self.symm s'.dn.symm s'.sk.symm).at hx) fun z hz e1 e2 e3 e4 => ?_
        exact s'.keyed (hcl z hz s (e4 ▸ hs))
      have hB' : ∀ x ∈ S'.nds, x.succ.length ≤ 1000 := fun x hx => by
        refine ex1and5 ((Same.mk s'.self.symm s'.dn.symm s'.sk.symm).at hx) fun z hz e1 e2 e3 e4 => ?_
        rw [← e4]; exact hB z hz
      have hnews := TI.news S'.p k hkm hI'
      have hfew := TI.few S'.p k hkm hI'
      rw [← s'.self]
      refine AbsT.mk fun _ _ => ?_
      refine E_tryJ U (fun st' => ∃ S1 v ns1 G1, Has st'.vars [(("sorter" : Str), .ref S'.self), (("answers" : Str), .ref an), (("answer" : Str), v)] ∧ Own2 prog w st'.H (.cell an (.list vs) :: .srt S1 :: .frag G1 :: r) ∧ Same S' S1 ∧ S1.p = (S'.p.doneN [k]).1 ∧ S1.ready = some (rd, ns1) ∧ Ext G' G1 ∧ Rd G1 (msgD (S'.p.doneN [k]).2) v) ?_ ?_
      · repeat (walk_at "T")
        change CallE _ _ _ _ ([.ref S'.self] ++ nums [k]) _ _ _
        refine C_code ((done_spec (ks := [k]) (B := 0) (fun i P => i = 0 → I P) E.W OF' O (by walk_at "take") r' (by simp) (fun j hj => by rw [List.mem_singleton.mp hj]; exact h10 k hkm) hcl' hB' (fun _ => hI') (fun i _ _ _ _ _ h => absurd h (Nat.succ_ne_zero i)) (fun i P hi h => ?_)).mono ?_ ?_)
        · have hi : i < 1 := hi
          have := h (by walk_at "num")
          exact ⟨TI.sane P this, by rw [TI.empty P this]; exact Nat.zero_le _⟩
        · rintro v H2 hx0_; refine ex0and2 hx0_ fun y0_ y1_ => ?_; try clear hx0_; obtain rfl := y0_; obtain ⟨S1, ns1, O, s1, d1, r1⟩ := y1_
          repeat (walk_at "T")
          exact exi4 S1 .none ns1 G' ⟨⟨rfl, rfl, rfl, trivial⟩, O.perm (.swap _ _ _), s1, by rw [d1], r1, .refl _, by rw [d1]; rfl⟩
        · rintro c as H2 hx0_; refine ex0and2 hx0_ fun y0_ y1_ => ?_; try clear hx0_; obtain rfl := y0_; obtain ⟨S1, ns1, m, rfl, O, s1, d1, r1⟩ := y1_
          refine E_exceptVal E rfl (by rfl) rfl fun F2 E2 hu ea ta hne hta hea => ?_
          have O := Own.new (o := .args [vS m]) O ⟨hta, rfl⟩
          have O := Own.new (o := .exc (.type "ValueError") ta) O (a := ea) ⟨(upd_ne (Ne.symm hne)).trans hea, rfl⟩
          have hun := OF'.units
          repeat (walk_at "T")
          refine C_strExc PySem.F.excStr_ValueError (by walk_at "own") (by walk_at "own") (by rw [hu]; walk_at "num") ?_
          intro e H3 hN; have O := Own.new O hN; clear hN
          repeat (walk_at "T")
          obtain ⟨G2, O, x2, h2⟩ := Own.layT (a := e) O (by walk_at "take") (by walk_at "take")
          have O' : Own2 prog w H3 (.cell an (.list vs) :: .srt S1 :: .frag G2 :: r) := (O.sub (.cons_cons _ (.cons _ (.cons _ (List.Sublist.refl _))))).perm ((List.reverse_perm [As.frag G2, As.srt S1, As.cell an _]).symm.append_right _)
          exact exi4 S1 (.ref e) ns1 G2 ⟨⟨rfl, rfl, rfl, trivial⟩, O', s1, by rw [d1], r1, x2, by rw [d1]; exact ⟨e, _, rfl, h2, ⟨rfl, rfl, trivial⟩⟩⟩
      · rintro ⟨vs', H⟩ hx0_; refine ex4and7 hx0_ fun S1 v ns1 G1 hv O s1 p1 r1 x1 hrd => ?_; try clear hx0_
        refine T.keepVars [(("sorter" : Str), .ref S'.self), (("answers" : Str), .ref an), (("answer" : Str), v)] hv ?_
        rw [← s1.self]
        repeat (walk_at "T")
        have hns1 : (S'.p.doneN [k]).1.ready = some ns1 := by rw [← p1]; unfold Srt.p; rw [r1]; rfl
        rw [hns1] at hnews hfew
        have hfew : ns1.length ≤ 50000 := hfew
        have hnews : ∀ j ∈ ns1, ∃ x ∈ S1.nds, x.key = j := fun j hj => by
          obtain ⟨y, hy, e⟩ := hnews j hj
          obtain ⟨z, hz, rfl⟩ := List.mem_map.mp hy
          exact s1.keyed ⟨z, hz, e⟩
        refine C_code ((active_spec (n := n + 1) E.W OF' O (by walk_at "mem") r1 (by walk_at "num")).mono ?_ (fun _ _ _ z => z.elim))
        rintro v2 H2 ⟨rfl, O⟩
        repeat (walk_at "T")
        refine C_code ((ready_spec (n := n + 1) E.W OF' O (by walk_at "take") r1 (by walk_at "num") hnews).mono ?_ (fun _ _ _ z => z.elim))
        rintro v3 H3 hx0_; refine ex2and5 hx0_ fun tp S2 y2_ O s2 p2 r2 => ?_; try clear hx0_; obtain rfl := y2_
        rw [← s2.self]
        repeat (walk_at "T")
        refine C_code ((active_spec (n := n + 1) E.W OF' O (by walk_at "mem") r2 (by simp)).mono ?_ (fun _ _ _ z => z.elim))
        rintro v4 H4 ⟨rfl, O⟩
        repeat (walk_at "T")
        intro tt H5 hN; have O := Own.new O hN; clear hN
        repeat (walk_at "T")
        refine C_append (by walk_at "own") (by walk_at "num") ?_
        intro H6 hN; have O := Own.put (l' := _) O (by walk_at "put") hN; clear hN
        repeat (walk_at "T")
        obtain ⟨G2, O, x2, h2⟩ := Own.layT (a := tp) O (by walk_at "take") (by walk_at "take")
        obtain ⟨G3, O, x3, h3⟩ := Own.layT (a := tt) O (by walk_at "take") (by walk_at "take")
        have O' : Own2 prog w H6 (.cell an (.list (vs ++ [.ref tt])) :: .srt S2 :: .frag G3 :: r) := O.perm ((List.reverse_perm [As.frag G3, As.srt S2, As.cell an _]).symm.append_right _)
        have hb : ∀ b : Bool, (b == true) = b := by decide
        have pt : S2.p = (S'.p.tell k).1 := by rw [p2, p1]; rfl
        have et : S.p.tells (row.take (i + 1)) = tellsF (S.p.tells (row.take i)) k := fold_take hk
        refine ⟨⟨congrArg (fun z => some (Value.ref z)) (s2.self.trans s1.self), rfl, trivial⟩, exi3 S2 (vs ++ [.ref tt]) G3 ⟨O', s'.trans (s1.trans s2), ?_, r2, hx.trans (x1.trans (x2.trans x3)), ?_, ?_, by rw [List.length_append, List.length_cons, List.length_nil]; walk_at "num"⟩⟩
        · rw [et, pt, p']; rfl
        · rw [et]
          unfold tellsF
          rw [← p', List.map_append]
          refine RdAll.app (hvs.mono (x1.trans (x2.trans x3))) ⟨⟨tt, _, rfl, h3, hrd.mono (x2.trans x3), ?_, ⟨tp, nums ns1, rfl, x3 _ _ h2, ?_⟩, ?_, trivial⟩, trivial⟩
          · show Value.bool _ = Value.bool _
            rw [hb, p1]; rfl
          · show RdAll _ ((S'.p.tell k).2.rs.map .int) _
            have : (S'.p.tell k).2.rs = ns1 := by show ((S'.p.doneN [k]).1.ready.getD []) = _; rw [hns1]; rfl
            rw [this]; exact RdAll.nums _ _
          · show Value.bool _ = Value.bool _
            rw [hb, p2, p1]; rfl
        · rw [pt]; exact TI.step S'.p k hkm hI'
    · clear O
      rintro H hx0_; refine ex3and8 hx0_ fun S' vs G' O s' p' r' hx hvs hI' hvl => ?_; try clear hx0_
      rw [nums_len, List.take_length] at p' hvs
      repeat (walk_at "T")
      obtain ⟨G2, O2, x2, h2⟩ := (O.perm (.trans (.cons _ (.swap _ _ _)) (.refl _))).lay1
      exact exi3 an S' G2 ⟨rfl, O2.perm (.swap _ _ _), s', p', r', hx.trans x2, an, vs, rfl, h2, hvs.mono x2⟩
end
end
section
set_option maxRecDepth 100000
set_option Elab.async false
set_option linter.unusedVariables false
set_option maxHeartbeats 4000000
open PySem PySem.W PySem.Calls PyProof.Rows PySem.SeqAt
noncomputable def envN (nm : List (Str × NameKind)) : Env := { (default : Env) with scope := { (default : Scope) with kind := .function, names := nm } }
section
variable {prog : Program} {w : World} {K : Frag} {mg mb : Str → Option Value} {nm : List (Str × NameKind)} {F : Fx} {st : St} {X : Value → List Value → St → Prop} {pos : Pos} {x : Str} {v : Value}
noncomputable def envK (k : ScopeKind) (nm : List (Str × NameKind)) : Env := { (default : Env) with scope := { (default : Scope) with kind := k, names := nm } }
theorem swaps_env (ts : List Expr) (v : Expr) (env : Env) : swappedStores ts v env = swappedStores ts v (envK env.scope.kind env.scope.names) := rfl
theorem swaps_eq (E : Ent K mg mb nm F) (ts : List Expr) (v : Expr) : swappedStores ts v F.env = swappedStores ts v (envN nm) := by
  rw [swaps_env ts v F.env, E.kind, E.names]; rfl
theorem E_assignTup {ts vs : List Expr} {k k' : Nat} {p p' : Pos} {Q : Flow → St → Prop} (E : Ent K mg mb nm F) (hr : swappedStores [.Tuple ts k p] (.Tuple vs k' p') (envN nm) = pure none)
    (h : T prog w F (eval (.Tuple vs k' p') F.env) (fun v st₁ => AssignE prog w F (.Tuple ts k p) v (fun _ => Q .next) X st₁) X st) :
    T prog w F (exec (.Assign [.Tuple ts k p] (.Tuple vs k' p') pos) F.env) Q X st := E_assign1 rfl ((swaps_eq E _ _).trans hr) rfl h
theorem E_assignSw {ts vs : List Expr} {k k' : Nat} {p p' : Pos} {n₁ n₂ : Str} {Q : Flow → St → Prop} (E : Ent K mg mb nm F) (hh : F.A.handled = none) (hr : swappedStores [.Tuple ts k p] (.Tuple vs k' p') (envN nm) = pure (some [n₁, n₂]))
    (h : T prog w F (eval (.Tuple vs k' p') F.env) (fun v st₁ => ∃ t u₁ u₂, v = .ref t ∧ st₁.H t = some (.tup [u₁, u₂]) ∧ StoreE prog w F n₂ u₂ (fun _ st₂ => StoreE prog w F n₁ u₁ (fun _ => Q .next) X st₂) X st₁) X st) :
    T prog w F (exec (.Assign [.Tuple ts k p] (.Tuple vs k' p') pos) F.env) Q X st := fun s R => by
  refine Assign_Tuple_swapped (h.then R (.refl _ _ _ _) fun v s₁ st₁ R₁ A₁ hz => ?_) rfl ((swaps_eq E _ _).trans hr)
  refine ex3and3 hz fun t u₁ u₂ e1 e2 q => ?_
  clear hz
  rw [er_ref e1]
  obtain ⟨items, hi, he⟩ := tup_at R₁.1 e2
  refine ex2and3 (two_of he) fun y₁ y₂ hl h1 h2 => ?_
  have hn : [n₁, n₂].length = items.size := by
    have := congrArg List.length hl
    rw [Array.length_toList] at this
    rw [this]; rfl
  rw [hn]
  refine unpackItems_tuple hh hi fun h' hx => ?_
  have hk : ∀ b o, s₁.heap.get? b = some o → h'.get? b = some o := fun b o e => hx b o (Nat.ne_of_lt (Heap.lt_size e)) e
  have R₂ := R₁.grow (s' := { s₁ with heap := h' }) hk rfl rfl
  have A₂ := A₁.trans (.grow (s' := { s₁ with heap := h' }) _ _ hk)
  rw [hl]
  refine wpAny_assignInOrder_more (bindName_ ((q y₂ h2).then R₂ A₂ fun _ s₃ st₃ R₃ A₃ q => ?_))
  exact wpAny_assignInOrder_more (bindName_ ((q y₁ h1).then R₃ A₃ fun _ s₄ st₄ R₄ A₄ q => wpAny_pure ⟨st₄, R₄, A₄, q⟩))
theorem E_tupAsg (E : Ent K mg mb nm F) {value : Expr} {ts : List Expr} {k : Nat} {p : Pos} {Q : Flow → St → Prop} (hs : swapsWithSole [.Tuple ts k p] value pos.line F.env = pure false) (hw : swappedStores [.Tuple ts k p] value F.env = pure none)
    (h : T prog w F (eval value F.env) (fun v st₁ => AssignE prog w F (.Tuple ts k p) v (fun _ => Q .next) X st₁) X st) :
    T prog w F (exec (.Assign [.Tuple ts k p] value pos) F.env) Q X st := E_assign1 hs hw rfl h
end
end
section
set_option maxRecDepth 100000
set_option Elab.async false
set_option linter.unusedVariables false
set_option maxHeartbeats 4000000
open PySem PySem.W PySem.Calls PyProof.Rows PySem.SeqAt
noncomputable def nowOf (N : List (Int × List Int)) (D : List Int) : List Int := (N.filter fun e => (e.2.filter fun a => !decide (a ∈ D)) == []).map (·.1)
noncomputable def frees0 (N : List (Int × List Int)) : List Int := (N.filter fun e => e.2 == []).map (·.1)
noncomputable def bookMsg (N : List (Int × List Int)) (D F : List Int) (x : Int) : Option Str :=
  if x ∉ N.map (·.1) then some ("node " ++ txt x ++ " was not added using add()")
  else if x ∈ D then some ("node " ++ txt x ++ " was already marked done")
  else if x ∉ F then some ("node " ++ txt x ++ " was not passed out (still not ready)") else none
structure Bk where
  D : List Int
  F : List Int
  as : List Ans
noncomputable def bookD (N : List (Int × List Int)) (c : Bk) (x : Int) : List Int := if bookMsg N c.D c.F x = none then c.D ++ [x] else c.D
noncomputable def bookStep (N : List (Int × List Int)) (c : Bk) (x : Int) : Bk :=
  ⟨bookD N c x, nowOf N (bookD N c x), c.as ++ [⟨bookMsg N c.D c.F x, decide (((nowOf N (bookD N c x)).length : Int) > (bookD N c x).length), (nowOf N (bookD N c x)).filter (fun y => !decide (y ∈ c.F)), decide (((nowOf N (bookD N c x)).length : Int) > (bookD N c x).length)⟩]⟩
noncomputable def book (N : List (Int × List Int)) (row : List Int) : Bk := row.foldl (bookStep N) ⟨[], frees0 N, []⟩
noncomputable def sweep (N : List (Int × List Int)) (F : List Int) (n : Nat) : List Int := Nat.rec F (fun _ F => nowOf N F) n
theorem nums_now (L : NL) (D : List Int) : (L.filter fun e => (e.2.2.filter fun a => !decide (a ∈ D)) == []).map (fun e => vI e.1) = nums (nowOf (npure L) D) := by
  unfold nowOf npure nums
  rw [List.filter_map, List.map_map, List.map_map]; rfl
theorem nums_frees0 (L : NL) : (L.filter fun e => e.2.2 == []).map (fun e => vI e.1) = nums (frees0 (npure L)) := by
  unfold frees0 npure nums
  rw [List.filter_map, List.map_map, List.map_map]; rfl
theorem nkeysE' {prog : Program} {w : World} (L : NL) : (L.map fun e => vI e.1) = (dE (KI prog w) (nents L)).map (·.1) := by
  rw [← nkeysE (prog := prog) (w := w)]; unfold nums; rw [List.map_map]; rfl
theorem now_len (L : NL) (D : List Int) : (nowOf (npure L) D).length ≤ L.length := by
  unfold nowOf
  rw [List.length_map]
  exact Nat.le_trans (filter_len _ _) (by unfold npure; rw [List.length_map]; exact Nat.le_refl _)
theorem nkeys_pure (L : NL) : (npure L).map (·.1) = L.map (·.1) := by unfold npure; rw [List.map_map]; rfl
theorem P_eqLI {prog : Program} {w : World} {F : Fx} {st : St} {X : Value → List Value → St → Prop} {Q : Value → St → Prop} {a b : Addr} {ns ms : List Int} (hl : st.H a = some (.list (nums ns))) (hb : st.H b = some (.list (nums ms))) (hu : F.A.units < 9000) (h : Q (.bool (ns == ms)) st) : CmpE prog w F .Eq (.ref a) (.ref b) Q X st := by
  refine P_eqD (da := .list (ns.map .int)) (db := .list (ms.map .int)) ⟨a, _, rfl, hl, RdAll.nums _ _⟩ ⟨b, _, rfl, hb, RdAll.nums _ _⟩ (lay_nums ns) (lay_nums ms) ?_ ?_
  · have h1 : PyData.depth (.list (ns.map .int)) ≤ 10 := by
      show PyData.depthAll (ns.map .int) + 1 ≤ 10
      rw [depth_nums]; decide
    have : cLine = 9900 := rfl
    omega
  · have : PyData.eqv (.list (ns.map .int)) (.list (ms.map .int)) = (ns == ms) := eqvAll_nums ns ms
    rw [this]; exact h
theorem txt_short {i : Int} (h0 : 0 ≤ i) (h1 : i < 10) : (txt i).length ≤ 1 := by
  obtain ⟨n, rfl⟩ := Int.eq_ofNat_of_zero_le h0
  exact (by decide +kernel : ∀ k : Fin 10, (txt (k.val : Int)).length ≤ 1) ⟨n, Int.ofNat_lt.mp h1⟩
theorem node_len {k : Int} (h0 : 0 ≤ k) (h1 : k < 10) : ("node " ++ txt k : Str).length ≤ 6 := by
  rw [app_len]
  have := txt_short h0 h1
  have : ("node " : Str).length = 5 := by decide
  omega
theorem node_ok {k : Int} (h0 : 0 ≤ k) (h1 : k < 10) : ("node " : Str).length + (txt k).length ≤ 100000 := by
  have := txt_short h0 h1
  have : ("node " : Str).length = 5 := by decide
  omega
theorem msg_ok {k : Int} (h0 : 0 ≤ k) (h1 : k < 10) {s : Str} (hs : s.length ≤ 100) : ("node " ++ txt k : Str).length + s.length ≤ 100000 := by
  have := node_len h0 h1; omega
section
variable {prog : Program} {w : World} {mg mb : Str → Option Value}

theorem lbook_spec {F : Fc} {n : Nat} {d ra : Addr} {L : NL} {row : List Int} {G H : AHeap} {l r : List As} (W : Wld (K2 w) F mg mb) (OF : F.Ok (n + 1)) (O : Own2 prog w H l) (t : Take (.frag G) l r) (hG : NAt prog w G d L) (hL : (L.map (·.1)).Nodup) (hLl : L.length ≤ 10) (hLe : ∀ e ∈ L, e.2.2.length ≤ 20)
    (hrow : G ra = some (.list (nums row))) (hrl : row.length ≤ 100) (h10 : ∀ k ∈ row, 0 ≤ k ∧ k < 10) :
    Calls prog w F (.ref 209) [.ref d, .ref ra] H
      (fun v H' => ∃ G', Own2 prog w H' (.frag G' :: r) ∧ Ext G G' ∧ Rd G' (.list [.tuple ((frees0 (npure L)).map .int), .list ((book (npure L) row).as.map ansD), .bool (decide (((sweep (npure L) (book (npure L) row).F L.length).length : Int) < L.length))]) v) (fun _ _ _ => False) := by
  refine Calls.ent (fd := _) (body := _) (names := ["needs", "row"]) W OF ⟨⟨_, W.kx _ _ rfl, rfl⟩, rfl, rfl, rfl, codeRec_of W.kx (by rfl), rfl, rfl, by decide +kernel⟩ (fun args' ha => ?_) (by decide) (by decide +kernel) rfl rfl rfl fun F' E U OF' => ?_
  · obtain ⟨a, b, rfl, _⟩ := two_of ha; rfl
  · dsimp only at E
    have O := O.take t
    obtain ⟨m0, hdd⟩ := hG.dict
    repeat (walk_at "T")
    refine E_listM (α := Int × Addr × List Int) E [(("needs" : Str), .ref d)] none rfl rfl (fun _ => rfl) OF'.hh ?_
    repeat (walk_at "T")
    have hun := OF'.units
    have hks : ∀ {H : AHeap} {vs : List (Str × Value)} {G' : AHeap} {l : List As}, Ext G G' → Own2 prog w H l → As.frag G' ∈ l → Src ⟨vs, H⟩ (.ref d) (L.map fun e => vI e.1) (.keys (dE (KI prog w) (nents L)) m0) := fun hx O m => ⟨d, rfl, O.fragAt m _ _ (hx _ _ hdd), nkeysE' L⟩
    refine ⟨⟨rfl, trivial⟩, exi6 (.keys (dE (KI prog w) (nents L)) m0) L (fun e => vI e.1) (fun H => Own2 prog w H (.frag G :: r)) (fun e => e.2.2 == []) (fun e => vI e.1) ⟨hks (.refl _) O (by walk_at "mem"), by walk_at "num", O, fun H vs O => hks (.refl _) O (by walk_at "mem"), ?_, ?_⟩⟩
    · clear O
      intro F2 E2 hF e H he O
      have hu : F2.A.units < 9000 := by rw [show F2.A = F'.A from congrArg Fc.A hF]; walk_at "num"
      repeat (walk_at "T")
      refine ⟨⟨d, rfl, .inr (.inr ⟨_, _, O.fragAt (by walk_at "mem") _ _ hdd⟩)⟩, X_dict (by exact O.fragAt (by walk_at "mem") _ _ hdd) (nents_at hL he) ?_⟩
      repeat (walk_at "T")
      intro b H2 hN; have O := Own.new O hN; clear hN
      refine P_eqLI (ns := e.2.2) (ms := []) (by exact O.fragAt (by walk_at "mem") _ _ (hG.list e he)) (by exact O.get (o := .list []) (by walk_at "mem")) hu ?_
      refine ⟨_, rfl, fun h => ?_, fun h => ⟨h, ⟨rfl, trivial⟩, O.tail⟩⟩
      repeat (walk_at "T")
      exact ⟨h, rfl, ⟨rfl, trivial⟩, O.tail⟩
    clear O
    intro H fa H1 O hN
    have O := Own.new O hN
    clear hN
    rw [nums_frees0] at O
    have hf0 : (frees0 (npure L)).length ≤ 10 := by
      unfold frees0
      rw [List.length_map]
      have h1 := filter_len (fun e : Int × List Int => e.2 == []) (npure L)
      have h2 : (npure L).length = L.length := List.length_map _
      walk_at "num"
    repeat (walk_at "T")
    intro da H2 hN; have O := Own.new O hN; clear hN
    repeat (walk_at "T")
    intro an H3 hN; have O := Own.new O hN; clear hN
    repeat (walk_at "T")
    intro tt H4 hN; have O := Own.new O hN; clear hN
    repeat (walk_at "T")
    intro ft H5 hN; have O := Own.new O hN; clear hN
    repeat (walk_at "T")
    have hb0 : Has (setV (setV (setV (setV [(("needs" : Str), .ref d), (("row" : Str), .ref ra)] "free" (.ref fa)) "done" (.ref da)) "answers" (.ref an)) "first" (.ref ft)) [(("needs" : Str), .ref d), (("row" : Str), .ref ra), (("free" : Str), .ref fa), (("done" : Str), .ref da), (("answers" : Str), .ref an), (("first" : Str), .ref ft)] := ⟨rfl, rfl, rfl, rfl, rfl, rfl, trivial⟩
    refine E_for E U OF'.hh (fun _ => rfl) (by rfl) ?_
    repeat (walk_at "T")
    refine exi3 (nums row) .list (fun i b H => ∃ fa vs G', b = [(("needs" : Str), .ref d), (("row" : Str), .ref ra), (("free" : Str), .ref fa), (("done" : Str), .ref da), (("answers" : Str), .ref an), (("first" : Str), .ref ft)] ∧ Own2 prog w H (.cell da (.list (nums (book (npure L) (row.take i)).D)) :: .cell an (.list vs) :: .cell fa (.list (nums (book (npure L) (row.take i)).F)) :: .cell ft (.tup (nums (frees0 (npure L)))) :: .frag G' :: r) ∧ Ext G G' ∧ RdAll G' ((book (npure L) (row.take i)).as.map ansD) vs ∧ vs.length ≤ i ∧ (book (npure L) (row.take i)).D.length ≤ i ∧ (book (npure L) (row.take i)).F.length ≤ 10) ⟨⟨ra, rfl, O.fragAt (by walk_at "mem") _ _ hrow⟩, ⟨_, hb0, fa, [], G, rfl, ?_, .refl _, trivial, Nat.le_refl _, Nat.le_refl _, hf0⟩, ?_, ?_, ?_⟩
    · exact ((O.sub (.cons_cons _ (.cons _ (List.Sublist.refl _)))).perm (List.perm_middle (l₁ := [As.cell an _, As.cell da _, As.cell fa _])).symm).perm (.swap _ _ _)
    · rintro i b H vs hx0_; refine ex3and4 hx0_ fun fa vs' G' _ O hx _ => ?_; try clear hx0_
      exact ⟨ra, rfl, O.fragAt (by walk_at "mem") _ _ (hx _ _ hrow)⟩
    · clear O hb0 hf0
      rintro i x0 b H hi hx0_; refine ex3and7 hx0_ fun fa vs G' y3_ O hx hvs hvl hDl hFl => ?_; try clear hx0_; obtain rfl := y3_
      obtain ⟨k, rfl, hk⟩ := nums_get hi
      have hkm := List.mem_of_getElem? hk
      obtain ⟨k0, k1⟩ := h10 k hkm
      have hil : i < row.length := (List.getElem?_eq_some_iff.mp hk).1
      have ebk : book (npure L) (row.take (i + 1)) = bookStep (npure L) (book (npure L) (row.take i)) k := fold_take hk
      generalize hbk : book (npure L) (row.take i) = C at O hvs hDl hFl ebk
      have hDl' : (bookD (npure L) C k).length ≤ i + 1 := by
        unfold bookD; split
        · rw [List.length_append, List.length_cons, List.length_nil]; walk_at "num"
        · walk_at "num"
      walk_at "T"
      walk_at "T"
      walk_at "T"
      walk_at "T"
      walk_at "T"
      walk_at "T"
      refine E_ifJ (fun st' => ∃ v, Has st'.vars [(("needs" : Str), .ref d), (("row" : Str), .ref ra), (("free" : Str), .ref fa), (("done" : Str), .ref da), (("answers" : Str), .ref an), (("first" : Str), .ref ft), (("answer" : Str), v)] ∧ ((bookMsg (npure L) C.D C.F k = none ∧ v = .none) ∨ ∃ s, bookMsg (npure L) C.D C.F k = some s ∧ v = vS s) ∧ Own2 prog w st'.H (.cell da (.list (nums (bookD (npure L) C k))) :: .cell an (.list vs) :: .cell fa (.list (nums C.F)) :: .cell ft (.tup (nums (frees0 (npure L)))) :: .frag G' :: r)) ?_ ?_
      · repeat (walk_at "T")
        refine P_notInD E (by exact O.fragAt (by walk_at "mem") _ _ (hx _ _ hdd)) ?_
        rw [nents_some, ← nkeys_pure]
        refine ⟨_, rfl, fun h1 => ?_, fun h1 => ?_⟩
        · have h1 : k ∉ (npure L).map (·.1) := by simpa using h1
          repeat (walk_at "T")
          refine C_strI (by walk_at "num") ?_
          refine B_addS (x := "node ") (y := txt k) (node_ok k0 k1) ?_
          repeat (walk_at "T")
          refine B_addS (msg_ok k0 k1 (by decide)) ?_
          repeat (walk_at "T")
          have em : bookMsg (npure L) C.D C.F k = some ("node " ++ txt k ++ " was not added using add()") := by unfold bookMsg; rw [if_pos h1]
          refine ⟨_, ⟨rfl, rfl, rfl, rfl, rfl, rfl, rfl, trivial⟩, .inr ⟨_, em, rfl⟩, ?_⟩
          have eD : bookD (npure L) C k = C.D := by unfold bookD; rw [em, if_neg nofun]
          rw [eD]; exact O
        · have h1 : k ∈ (npure L).map (·.1) := by simpa using h1
          repeat (walk_at "T")
          refine P_inI (by walk_at "own") (by walk_at "num") ?_
          refine ⟨_, rfl, fun h2 => ?_, fun h2 => ?_⟩
          · have h2 : k ∈ C.D := of_decide_eq_true h2
            repeat (walk_at "T")
            refine C_strI (by walk_at "num") ?_
            refine B_addS (x := "node ") (y := txt k) (node_ok k0 k1) ?_
            repeat (walk_at "T")
            refine B_addS (msg_ok k0 k1 (by decide)) ?_
            repeat (walk_at "T")
            have em : bookMsg (npure L) C.D C.F k = some ("node " ++ txt k ++ " was already marked done") := by unfold bookMsg; rw [if_neg (fun q => q h1), if_pos h2]
            refine ⟨_, ⟨rfl, rfl, rfl, rfl, rfl, rfl, rfl, trivial⟩, .inr ⟨_, em, rfl⟩, ?_⟩
            have eD : bookD (npure L) C k = C.D := by unfold bookD; rw [em, if_neg nofun]
            rw [eD]; exact O
          · have h2 : k ∉ C.D := of_decide_eq_false h2
            repeat (walk_at "T")
            refine P_notInI (by walk_at "own") (by walk_at "num") ?_
            refine ⟨_, rfl, fun h3 => ?_, fun h3 => ?_⟩
            · have h3 : k ∉ C.F := by simpa using h3
              repeat (walk_at "T")
              refine C_strI (by walk_at "num") ?_
              refine B_addS (x := "node ") (y := txt k) (node_ok k0 k1) ?_
              repeat (walk_at "T")
              refine B_addS (msg_ok k0 k1 (by decide)) ?_
              repeat (walk_at "T")
              have em : bookMsg (npure L) C.D C.F k = some ("node " ++ txt k ++ " was not passed out (still not ready)") := by unfold bookMsg; rw [if_neg (fun q => q h1), if_neg h2, if_pos h3]
              refine ⟨_, ⟨rfl, rfl, rfl, rfl, rfl, rfl, rfl, trivial⟩, .inr ⟨_, em, rfl⟩, ?_⟩
              have eD : bookD (npure L) C k = C.D := by unfold bookD; rw [em, if_neg nofun]
              rw [eD]; exact O
            · have h3 : k ∈ C.F := by simpa using h3
              repeat (walk_at "T")
              refine C_append (by walk_at "own") (by rw [nums_len]; walk_at "num") ?_
              intro H2 hN; have O := Own.put (l' := _) O (by walk_at "put") hN; clear hN
              repeat (walk_at "T")
              have em : bookMsg (npure L) C.D C.F k = none := by unfold bookMsg; rw [if_neg (fun q => q h1), if_neg h2, if_neg (fun q => q h3)]
              refine ⟨_, ⟨rfl, rfl, rfl, rfl, rfl, rfl, rfl, trivial⟩, .inl ⟨em, rfl⟩, ?_⟩
              have eD : bookD (npure L) C k = C.D ++ [k] := by unfold bookD; rw [em, if_pos rfl]
              rw [eD, nums_snoc]; exact O
      · clear O
        rintro ⟨vs', H⟩ ⟨v, hv, hm, O⟩
        refine T.keepVars [(("needs" : Str), .ref d), (("row" : Str), .ref ra), (("free" : Str), .ref fa), (("done" : Str), .ref da), (("answers" : Str), .ref an), (("first" : Str), .ref ft), (("answer" : Str), v)] hv ?_
        clear hv
        generalize hD : bookD (npure L) C k = D at O hDl' ebk
        repeat (walk_at "T")
        refine E_listM (α := Int × Addr × List Int) E [(("needs" : Str), .ref d), (("done" : Str), .ref da)] _ rfl rfl (fun _ => rfl) OF'.hh ?_
        repeat (walk_at "T")
        refine ⟨⟨rfl, rfl, trivial⟩, exi6 (.keys (dE (KI prog w) (nents L)) m0) L (fun e => vI e.1) (fun H => Own2 prog w H (.cell da (.list (nums D)) :: .cell an (.list vs) :: .cell fa (.list (nums C.F)) :: .cell ft (.tup (nums (frees0 (npure L)))) :: .frag G' :: r)) (fun e => (e.2.2.filter fun a => !decide (a ∈ D)) == []) (fun e => vI e.1) ⟨hks hx O (by walk_at "mem"), by walk_at "num", O, fun H vs O => hks hx O (by walk_at "mem"), ?_, ?_⟩⟩
        · clear O
          intro F2 E2 hF e H he O
          have hA : F2.A = F'.A := congrArg Fc.A hF
          have hu : F2.A.units < 9000 := by rw [hA]; walk_at "num"
          have hh2 : F2.A.handled = none := by rw [hA]; exact OF'.hh
          have hel := hLe e he
          repeat (walk_at "T")
          refine E_listM (α := Int) E2 [(("done" : Str), .ref da)] none rfl rfl (fun _ => rfl) hh2 ?_
          repeat (walk_at "T")
          refine ⟨⟨d, rfl, .inr (.inr ⟨_, _, O.fragAt (by walk_at "mem") _ _ (hx _ _ hdd)⟩)⟩, X_dict (by exact O.fragAt (by walk_at "mem") _ _ (hx _ _ hdd)) (nents_at hL he) ?_⟩
          refine ⟨⟨rfl, trivial⟩, exi6 .list e.2.2 vI (fun H => Own2 prog w H (.cell da (.list (nums D)) :: .cell an (.list vs) :: .cell fa (.list (nums C.F)) :: .cell ft (.tup (nums (frees0 (npure L)))) :: .frag G' :: r)) (fun a => !decide (a ∈ D)) vI ⟨⟨e.2.1, rfl, O.fragAt (by walk_at "mem") _ _ (hx _ _ (hG.list e he))⟩, by walk_at "num", O, fun H vs O => ⟨e.2.1, rfl, O.fragAt (by walk_at "mem") _ _ (hx _ _ (hG.list e he))⟩, ?_, ?_⟩⟩
          · clear O
            intro F3 E3 hF3 a H ha O
            have hu3 : F3.A.units < 9000 := by rw [show F3.A = F2.A from congrArg Fc.A hF3]; exact hu
            repeat (walk_at "T")
            refine P_notInI (by walk_at "own") hu3 ?_
            refine ⟨_, rfl, fun h => ?_, fun h => ⟨h, ⟨rfl, trivial⟩, O⟩⟩
            repeat (walk_at "T")
            exact ⟨h, rfl, ⟨rfl, trivial⟩, O⟩
          · clear O
            intro H b H2 O hN
            have O := Own.new O hN
            clear hN
            repeat (walk_at "T")
            intro c H3 hN; have O := Own.new O hN; clear hN
            refine P_eqLI (ns := e.2.2.filter fun a => !decide (a ∈ D)) (ms := []) (by exact O.get (o := .list (nums (e.2.2.filter fun a => !decide (a ∈ D)))) (.tail _ (.head _))) (by exact O.get (o := .list []) (by walk_at "mem")) hu ?_
            refine ⟨_, rfl, fun h => ?_, fun h => ⟨h, ⟨rfl, rfl, trivial⟩, O.tail.tail⟩⟩
            repeat (walk_at "T")
            exact ⟨h, rfl, ⟨rfl, rfl, trivial⟩, O.tail.tail⟩
        clear O
        intro H nw H2 O hN
        have O := Own.new O hN
        clear hN
        rw [nums_now] at O
        have hnl := now_len L D
        walk_at "T"
        walk_at "T"
        walk_at "T"
        walk_at "T"
        refine T.keepVars [(("needs" : Str), .ref d), (("row" : Str), .ref ra), (("free" : Str), .ref fa), (("done" : Str), .ref da), (("answers" : Str), .ref an), (("first" : Str), .ref ft), (("answer" : Str), v), (("now" : Str), .ref nw)] ⟨rfl, rfl, rfl, rfl, rfl, rfl, rfl, rfl, trivial⟩ ?_
        refine E_cons (E_assign rfl (T.post (Q := fun v2 st₂ => ∃ G2, st₂.vars = [(("needs" : Str), .ref d), (("row" : Str), .ref ra), (("free" : Str), .ref fa), (("done" : Str), .ref da), (("answers" : Str), .ref an), (("first" : Str), .ref ft), (("answer" : Str), v), (("now" : Str), .ref nw)] ∧ Own2 prog w st₂.H (.cell nw (.list (nums (nowOf (npure L) D))) :: .cell da (.list (nums D)) :: .cell an (.list vs) :: .cell fa (.list (nums C.F)) :: .cell ft (.tup (nums (frees0 (npure L)))) :: .frag G2 :: r) ∧ Ext G' G2 ∧ Rd G2 (msgD (bookMsg (npure L) C.D C.F k)) v2) ?_ ?_))
        · repeat (walk_at "T")
          rcases hm with ⟨em, rfl⟩ | ⟨s, em, rfl⟩
          · refine ⟨_, rfl, fun _ => ?_, fun h => absurd h (by decide)⟩
            repeat (walk_at "T")
            exact ⟨G', rfl, O, .refl _, by rw [em]; rfl⟩
          · refine ⟨_, rfl, (fun h => by cases h), fun _ => ?_⟩
            repeat (walk_at "T")
            intro e H3 hN; have O := Own.new O hN; clear hN
            obtain ⟨G2, O, x2, h2⟩ := Own.layT (a := e) O (by walk_at "take") (by walk_at "take")
            exact ⟨G2, rfl, O.perm (List.perm_middle (l₁ := [As.cell nw _, As.cell da _, As.cell an _, As.cell fa _, As.cell ft _])).symm, x2, by rw [em]; exact ⟨e, _, rfl, h2, ⟨rfl, rfl, trivial⟩⟩⟩
        clear O hm
        rintro v2 ⟨_, H⟩ hx0_; refine ex1and4 hx0_ fun G2 y1_ O x2 hr2 => ?_; try clear hx0_; obtain rfl := y1_
        repeat (walk_at "T")
        refine E_listM (α := Int) E [(("free" : Str), .ref fa)] none rfl rfl (fun _ => rfl) OF'.hh ?_
        repeat (walk_at "T")
        refine ⟨⟨rfl, trivial⟩, exi6 .list (nowOf (npure L) D) vI (fun H => Own2 prog w H (.cell nw (.list (nums (nowOf (npure L) D))) :: .cell da (.list (nums D)) :: .cell an (.list vs) :: .cell fa (.list (nums C.F)) :: .cell ft (.tup (nums (frees0 (npure L)))) :: .frag G2 :: r)) (fun y => !decide (y ∈ C.F)) vI ⟨⟨nw, rfl, O.get (.head _)⟩, by walk_at "num", O, fun H vs O => ⟨nw, rfl, O.get (.head _)⟩, ?_, ?_⟩⟩
        · clear O
          intro F3 E3 hF3 y H hy O
          have hu3 : F3.A.units < 9000 := by rw [show F3.A = F'.A from congrArg Fc.A hF3]; walk_at "num"
          repeat (walk_at "T")
          refine P_notInI (by walk_at "own") hu3 ?_
          refine ⟨_, rfl, fun h => ?_, fun h => ⟨h, ⟨rfl, trivial⟩, O⟩⟩
          repeat (walk_at "T")
          exact ⟨h, rfl, ⟨rfl, trivial⟩, O⟩
        clear O
        intro H b H3 O hN
        have O := Own.new O hN
        clear hN
        have hfl : ((nowOf (npure L) D).filter fun y => !decide (y ∈ C.F)).length ≤ 10 := Nat.le_trans (filter_len _ _) (by walk_at "num")
        have hfl' : (((nowOf (npure L) D).filter fun y => !decide (y ∈ C.F)).map vI).length ≤ 1000000 := by rw [List.length_map]; walk_at "num"
        repeat (walk_at "T")
        intro tp H4 hN; have O := Own.new O hN; clear hN
        repeat (walk_at "T")
        intro tt H5 hN; have O := Own.new O hN; clear hN
        repeat (walk_at "T")
        refine C_append (by walk_at "own") (by walk_at "num") ?_
        intro H6 hN; have O := Own.put (l' := _) O (by walk_at "put") hN; clear hN
        repeat (walk_at "T")
        obtain ⟨G3, O, x3, h3⟩ := Own.layT (a := tp) O (by walk_at "take") (by walk_at "take")
        obtain ⟨G4, O, x4, h4⟩ := Own.layT (a := tt) O (by walk_at "take") (by walk_at "take")
        have O1 := O.sub (.cons_cons _ (.cons _ (.cons_cons _ (.cons_cons _ (.cons_cons _ (.cons _ (.cons_cons _ (List.Sublist.refl _))))))))
        have O2 := (O1.perm (List.perm_middle (l₁ := [As.cell nw _, As.cell da _, As.cell an _, As.cell ft _])).symm).perm (List.perm_middle (l₁ := [As.cell da _, As.cell an _])).symm
        refine ⟨_, ?hh, nw, vs ++ [.ref tt], G4, rfl, ?_, hx.trans (x2.trans (x3.trans x4)), ?_, by rw [List.length_append, List.length_cons, List.length_nil]; walk_at "num", ?_, ?_⟩
        case hh => exact ⟨rfl, rfl, rfl, rfl, rfl, rfl, trivial⟩
        · rw [ebk]; unfold bookStep; rw [hD]; exact O2
        · rw [ebk]
          unfold bookStep
          rw [hD, List.map_append]
          refine RdAll.app (hvs.mono (x2.trans (x3.trans x4))) ⟨⟨tt, _, rfl, h4, hr2.mono (x3.trans x4), ?_, ⟨tp, nums ((nowOf (npure L) D).filter fun y => !decide (y ∈ C.F)), rfl, x4 _ _ h3, RdAll.nums _ _⟩, ?_, trivial⟩, trivial⟩
          · show Value.bool _ = Value.bool _
            rw [nums_len, nums_len]
          · show Value.bool _ = Value.bool _
            rw [nums_len, nums_len]
        · rw [ebk]; unfold bookStep; rw [hD]; exact hDl'
        · rw [ebk]; unfold bookStep; rw [hD]; show (nowOf (npure L) D).length ≤ 10; walk_at "num"
    · clear O hb0 hf0
      rintro b H hx0_; refine ex3and7 hx0_ fun fa vs G' y3_ O hx hvs hvl hDl hFl => ?_; try clear hx0_; obtain rfl := y3_
      rw [nums_len, List.take_length] at O hvs hFl
      generalize hF0 : (book (npure L) row).F = F0 at O hFl
      walk_at "T"
      walk_at "T"
      walk_at "T"
      refine E_for E U OF'.hh (fun _ => rfl) (by rfl) ?_
      repeat (walk_at "T")
      refine exi3 (nums (L.map (·.1))) (.keys (dE (KI prog w) (nents L)) m0) (fun i b H => ∃ fa FF, FF = sweep (npure L) F0 i ∧ b = [(("needs" : Str), .ref d), (("row" : Str), .ref ra), (("free" : Str), .ref fa), (("done" : Str), .ref da), (("answers" : Str), .ref an), (("first" : Str), .ref ft)] ∧ Own2 prog w H (.cell fa (.list (nums FF)) :: .cell an (.list vs) :: .cell ft (.tup (nums (frees0 (npure L)))) :: .frag G' :: r) ∧ FF.length ≤ 10) ⟨⟨d, rfl, O.fragAt (by walk_at "mem") _ _ (hx _ _ hdd), nkeysE L⟩, ⟨_, ?hh, fa, F0, rfl, rfl, ?_, hFl⟩, ?_, ?_, ?_⟩
      case hh => exact ⟨rfl, rfl, rfl, rfl, rfl, rfl, trivial⟩
      · exact (O.sub (.cons _ (.cons_cons _ (.cons_cons _ (List.Sublist.refl _))))).perm (.swap _ _ _)
      · rintro i b H vs' hx0_; refine ex2and4 hx0_ fun fa FF _ _ O _ => ?_; try clear hx0_
        exact ⟨d, rfl, O.fragAt (by walk_at "mem") _ _ (hx _ _ hdd), nkeysE L⟩
      · clear O
        rintro i x0 b H hi hx0_; refine ex2and4 hx0_ fun fa FF hFF y3_ O hFl => ?_; try clear hx0_; obtain rfl := y3_
        repeat (walk_at "T")
        refine E_listM (α := Int × Addr × List Int) E [(("needs" : Str), .ref d), (("free" : Str), .ref fa)] none rfl rfl (fun _ => rfl) OF'.hh ?_
        repeat (walk_at "T")
        refine ⟨⟨rfl, rfl, trivial⟩, exi6 (.keys (dE (KI prog w) (nents L)) m0) L (fun e => vI e.1) (fun H => Own2 prog w H (.cell fa (.list (nums FF)) :: .cell an (.list vs) :: .cell ft (.tup (nums (frees0 (npure L)))) :: .frag G' :: r)) (fun e => (e.2.2.filter fun a => !decide (a ∈ FF)) == []) (fun e => vI e.1) ⟨hks hx O (by walk_at "mem"), by walk_at "num", O, fun H vs O => hks hx O (by walk_at "mem"), ?_, ?_⟩⟩
        · clear O
          intro F2 E2 hF e H he O
          have hA : F2.A = F'.A := congrArg Fc.A hF
          have hu : F2.A.units < 9000 := by rw [hA]; walk_at "num"
          have hh2 : F2.A.handled = none := by rw [hA]; exact OF'.hh
          have hel := hLe e he
          repeat (walk_at "T")
          refine E_listM (α := Int) E2 [(("free" : Str), .ref fa)] none rfl rfl (fun _ => rfl) hh2 ?_
          repeat (walk_at "T")
          refine ⟨⟨d, rfl, .inr (.inr ⟨_, _, O.fragAt (by walk_at "mem") _ _ (hx _ _ hdd)⟩)⟩, X_dict (by exact O.fragAt (by walk_at "mem") _ _ (hx _ _ hdd)) (nents_at hL he) ?_⟩
          refine ⟨⟨rfl, trivial⟩, exi6 .list e.2.2 vI (fun H => Own2 prog w H (.cell fa (.list (nums FF)) :: .cell an (.list vs) :: .cell ft (.tup (nums (frees0 (npure L)))) :: .frag G' :: r)) (fun a => !decide (a ∈ FF)) vI ⟨⟨e.2.1, rfl, O.fragAt (by walk_at "mem") _ _ (hx _ _ (hG.list e he))⟩, by walk_at "num", O, fun H vs O => ⟨e.2.1, rfl, O.fragAt (by walk_at "mem") _ _ (hx _ _ (hG.list e he))⟩, ?_, ?_⟩⟩
          · clear O
            intro F3 E3 hF3 a H ha O
            have hu3 : F3.A.units < 9000 := by rw [show F3.A = F2.A from congrArg Fc.A hF3]; exact hu
            repeat (walk_at "T")
            refine P_notInI (by walk_at "own") hu3 ?_
            refine ⟨_, rfl, fun h => ?_, fun h => ⟨h, ⟨rfl, trivial⟩, O⟩⟩
            repeat (walk_at "T")
            exact ⟨h, rfl, ⟨rfl, trivial⟩, O⟩
          · clear O
            intro H b H2 O hN
            have O := Own.new O hN
            clear hN
            repeat (walk_at "T")
            intro c H3 hN; have O := Own.new O hN; clear hN
            refine P_eqLI (ns := e.2.2.filter fun a => !decide (a ∈ FF)) (ms := []) (by exact O.get (o := .list (nums (e.2.2.filter fun a => !decide (a ∈ FF)))) (.tail _ (.head _))) (by exact O.get (o := .list []) (by walk_at "mem")) hu ?_
            refine ⟨_, rfl, fun h => ?_, fun h => ⟨h, ⟨rfl, rfl, trivial⟩, O.tail.tail⟩⟩
            repeat (walk_at "T")
            exact ⟨h, rfl, ⟨rfl, rfl, trivial⟩, O.tail.tail⟩
        clear O
        intro H nw H2 O hN
        have O := Own.new O hN
        clear hN
        rw [nums_now] at O
        have hnl := now_len L FF
        repeat (walk_at "T")
        refine ⟨_, ?hh, nw, nowOf (npure L) FF, by rw [hFF]; rfl, rfl, O.sub (.cons_cons _ (.cons _ (List.Sublist.refl _))), by walk_at "num"⟩
        case hh => exact ⟨rfl, rfl, rfl, rfl, rfl, rfl, trivial⟩
      · clear O
        rintro b H hx0_; refine ex2and4 hx0_ fun fa FF hFF y3_ O hFl => ?_; try clear hx0_; obtain rfl := y3_
        rw [nums_len, List.length_map] at hFF
        repeat (walk_at "T")
        refine C_lenD (KI prog w) E (by exact O.fragAt (by walk_at "mem") _ _ (hx _ _ hdd)) (by unfold nents; rw [List.length_map]; walk_at "num") ?_
        repeat (walk_at "T")
        intro res H2 hN; have O := Own.new O hN; clear hN
        obtain ⟨G3, O, x3, h3⟩ := Own.layT (a := an) O (by walk_at "take") (by walk_at "take")
        obtain ⟨G4, O, x4, h4⟩ := Own.layT (a := ft) O (by walk_at "take") (by walk_at "take")
        obtain ⟨G5, O, x5, h5⟩ := Own.layT (a := res) O (by walk_at "take") (by walk_at "take")
        repeat (walk_at "T")
        refine ⟨G5, O.sub (.cons_cons _ (.cons _ (List.Sublist.refl _))), hx.trans (x3.trans (x4.trans x5)), res, _, rfl, h5, ⟨ft, _, rfl, x5 _ _ h4, RdAll.nums _ _⟩, ⟨an, vs, rfl, (x4.trans x5) _ _ h3, hvs.mono (x3.trans (x4.trans x5))⟩, ?_, trivial⟩
        show Value.bool _ = Value.bool _
        have hn : (nents L).length = L.length := by unfold nents; rw [List.length_map]
        rw [nums_len, hn, hFF, hF0]
end
end
section
set_option maxRecDepth 100000
set_option Elab.async false
set_option linter.unusedVariables false
set_option maxHeartbeats 4000000
open PySem PySem.W PySem.Calls PyProof.Rows PySem.SeqAt
section
variable {prog : Program} {w : World} {A : Around} {R : Result → Shared → Prop} {s : Shared} {elt t₁ t₂ i₁ i₂ : Expr} {scope : Scope} {pos : Pos} {it acc : Value} {env : Env}
noncomputable abbrev comp2 (elt t₁ i₁ t₂ i₂ : Expr) (scope : Scope) (pos : Pos) : Expr := .ListComp elt [⟨t₁, i₁, [], 0⟩, ⟨t₂, i₂, [], 0⟩] scope pos
theorem turn_in : compTurn (comp2 elt t₁ i₁ t₂ i₂ scope pos) 1 it acc env = (standAt i₂.pos >>= fun _ => pyNext it >>= fun r => match r with
      | none => pure (.done .next)
      | some v => letOwnedTupleGo t₂ it v >>= fun _ => assign t₂ env v >>= fun _ =>
        (eval elt env >>= fun x => call (.builtin "list.append") [acc, x] >>= fun _ => pure ()) >>= fun _ =>
          again (.compLoop (comp2 elt t₁ i₁ t₂ i₂ scope pos) 1 it acc env)) := by rfl
theorem turn_out : compTurn (comp2 elt t₁ i₁ t₂ i₂ scope pos) 0 it acc env = (standAt i₁.pos >>= fun _ => pyNext it >>= fun r => match r with
      | none => pure (.done .next)
      | some v => letOwnedTupleGo t₁ it v >>= fun _ => assign t₁ env v >>= fun _ =>
        eval i₂ env >>= fun x => standAt i₂.pos >>= fun _ => foldedSetIterable i₂ env x >>= fun x => holding [x] (pyIter x) >>= fun i => runOwn (.compStart (comp2 elt t₁ i₁ t₂ i₂ scope pos) 1 i acc env) env >>= fun _ =>
          again (.compLoop (comp2 elt t₁ i₁ t₂ i₂ scope pos) 0 it acc env)) := by rfl
theorem loop_in (I : Nat → Shared → Prop)
    (turn : ∀ n s, I n s → wpAny (model prog w) A (pyNext it) (fun r s₁ => match r with
      | none => R (.ok .next) s₁
      | some v => wpAny (model prog w) A (assign t₂ env v) (fun _ s₂ => wpAny (model prog w) A (eval elt env) (fun x s₃ =>
          wpAny (model prog w) A (call (.builtin "list.append") [acc, x]) (fun _ s₄ => ∃ m, m < n ∧ I m s₄) (notedBy (model prog w) A env fun e s' => R (.error e) s') s₃)
          (notedBy (model prog w) A env fun e s' => R (.error e) s') s₂) (notedBy (model prog w) A env fun e s' => R (.error e) s') s₁) (notedBy (model prog w) A env fun e s' => R (.error e) s') s)
    (n : Nat) (h : I n s) (ht : ∀ v, letOwnedTupleGo t₂ it v = pure ()) :
    codeAny (model prog w) A (.compLoop (comp2 elt t₁ i₁ t₂ i₂ scope pos) 1 it acc env) R s := by
  refine codeAny_loop rfl I (fun n s hI => ?_) n h
  show wpAny _ _ ((compTurn (comp2 elt t₁ i₁ t₂ i₂ scope pos) 1 it acc env).onRaise (fun x => do noteFrame x env; theTreesLotGoes x)) _ _ s
  refine wpAny_noted ?_
  rw [turn_in]
  refine wpAny_bind (wpAny_standAt (wpAny_bind (wpAny_mono (turn n s hI) (fun r s₁ h₁ => ?_) fun _ _ h' => h')))
  cases r with
  | none => exact wpAny_pure h₁
  | some v =>
    refine wpAny_bind (wpAny_of_eq (ht v) ?_)
    exact wpAny_bind (wpAny_mono h₁ (fun _ s₂ h₂ => wpAny_bind (wpAny_bind (wpAny_mono h₂ (fun x s₃ h₃ => wpAny_bind (wpAny_mono h₃
      (fun _ s₄ h₄ => wpAny_pure (wpAny_pure ⟨rfl, h₄⟩)) fun _ _ h' => h')) fun _ _ h' => h'))) fun _ _ h' => h')
theorem start_in
    (h0 : codeAny (model prog w) A (.compLoop (comp2 elt t₁ i₁ t₂ i₂ scope pos) 1 it acc env) R s)
    (h : wpAny (model prog w) A (pyIter it) (fun it' s' => codeAny (model prog w) A (.compLoop (comp2 elt t₁ i₁ t₂ i₂ scope pos) 1 it' acc env) R s')
      (notedBy (model prog w) A env fun x s' => R (.error x) s') s) :
    codeAny (model prog w) A (.compStart (comp2 elt t₁ i₁ t₂ i₂ scope pos) 1 it acc env) R s := by
  refine codeAny_of_tree ?_
  show wpAny _ _ ((compStart (comp2 elt t₁ i₁ t₂ i₂ scope pos) 1 it acc env).onRaise (fun x => do noteFrame x env; standAt theWindowsPlace)) _ _ s
  refine wpAny_notedAt ?_
  unfold compStart
  show wpAny _ _ (ask >>= _) _ _ s
  refine wpAny_bind (wpAny_askSetting (wpAny_ite ?_))
  split
  · first
      | exact wpAny_bind (wpAny_pure (wpAny_pure (And.intro rfl h0)))
      | exact wpAny_pure (And.intro rfl h0)
  · first
      | exact wpAny_bind (wpAny_rule (wpAny_bind (wpAny_standAt (wpAny_bind (wpAny_mono h (fun it' s' h' => wpAny_pure (And.intro rfl h')) fun _ _ x => x)))))
      | (refine wpAny_bind (wpAny_rule ?_); show wpAny _ _ (standAt i₂.pos >>= _) _ _ s; exact wpAny_bind (wpAny_standAt (wpAny_bind (wpAny_mono h (fun it' s' h' => wpAny_pure (And.intro rfl h')) fun _ _ x => x))))
theorem loop_out (hs : ∀ x, foldedSetIterable i₂ env x = pure x) (hA : A.mark none = A) (I : Nat → Shared → Prop)
    (turn : ∀ n s, I n s → wpAny (model prog w) A (pyNext it) (fun r s₁ => match r with
      | none => R (.ok .next) s₁
      | some v => wpAny (model prog w) A (assign t₁ env v) (fun _ s₂ => wpAny (model prog w) A (eval i₂ env) (fun x s₃ =>
          wpAny (model prog w) A (pyIter x) (fun i s₄ => codeAny (model prog w) A (.compStart (comp2 elt t₁ i₁ t₂ i₂ scope pos) 1 i acc env) (fun r s₅ => match r with | .ok _ => ∃ m, m < n ∧ I m s₅ | .error _ => False) s₄) (notedBy (model prog w) A env fun e s' => R (.error e) s') s₃)
          (notedBy (model prog w) A env fun e s' => R (.error e) s') s₂) (notedBy (model prog w) A env fun e s' => R (.error e) s') s₁) (notedBy (model prog w) A env fun e s' => R (.error e) s') s)
    (n : Nat) (h : I n s) (ht : ∀ v, letOwnedTupleGo t₁ it v = pure ()) :
    codeAny (model prog w) A (.compLoop (comp2 elt t₁ i₁ t₂ i₂ scope pos) 0 it acc env) R s := by
  refine codeAny_loop rfl I (fun n s hI => ?_) n h
  show wpAny _ _ ((compTurn (comp2 elt t₁ i₁ t₂ i₂ scope pos) 0 it acc env).onRaise (fun x => do noteFrame x env; theTreesLotGoes x)) _ _ s
  refine wpAny_noted ?_
  rw [turn_out]
  refine wpAny_bind (wpAny_standAt (wpAny_bind (wpAny_mono (turn n s hI) (fun r s₁ h₁ => ?_) fun _ _ h' => h')))
  cases r with
  | none => exact wpAny_pure h₁
  | some v =>
    refine wpAny_bind (wpAny_of_eq (ht v) ?_)
    refine wpAny_bind (wpAny_mono h₁ (fun _ s₂ h₂ => wpAny_bind (wpAny_mono h₂ (fun x s₃ h₃ => wpAny_bind (wpAny_standAt (wpAny_bind (wpAny_of_eq (hs x) (wpAny_bind (wpAny_holding (wpAny_mono h₃ (fun i s₄ h₄ => wpAny_bind (wpAny_runOwn ?_)) fun _ _ h' => h'))))))) fun _ _ h' => h')) fun _ _ h' => h')
    show codeAny (model prog w) (A.mark none) _ _ _
    rw [hA]
    refine codeAny_mono h₄ fun r s₅ h₅ => ?_
    cases r with
    | ok f => exact wpAny_pure ⟨rfl, h₅⟩
    | error e => exact h₅.elim
end
section
variable {prog : Program} {w : World} {F : Fx} {st : St} {s s' s₀ : Shared} {H₀ H H' : AHeap} {X : Value → List Value → St → Prop}
theorem mark_none (A : Around) : A.mark none = A := rfl
theorem T_listCore2 {elt i₁ i₂ : Expr} {x₁ x₂ : Str} {p₁ p₂ : Pos} {scope : Scope} {cl : List (Str × Addr)} {pos : Pos} (cv : List (Str × Value)) {Q : Value → St → Prop} (u : Option (Value → Sem Unit))
    (hclos : closureFor scope F.env = pure cl) (hcl : Clos F.env cl) (hcell : ∀ y ∈ scope.names, y.2 ≠ .cell) (hkind : scope.kind = .function)
    (hnames : ∀ y ∈ scope.names, y.2 = .local → scope.names.lookup y.1 = some .local) (hx₁ : scope.names.lookup x₁ = some .local) (hx₂ : scope.names.lookup x₂ = some .local)
    (hs : ∀ x, foldedSetIterable i₁ F.env x = pure x) (hs2 : ∀ C x, foldedSetIterable i₂ (cfx F scope cl C).env x = pure x) (hh : F.A.handled = none) (N : NoSys F.toFc)
    (h : T prog w F (eval i₁ F.env) (fun v st₁ => Cap st₁.vars F.env scope cl cv ∧ ∃ xs k, ∃ I : Nat → List Value → AHeap → Prop, Src st₁ v xs k ∧ I 0 [] st₁.H ∧ (∀ i acc H vs, I i acc H → Src ⟨vs, H⟩ v xs k) ∧
      (∀ C i x' acc H, xs[i]? = some x' → I i acc H → T prog w (cfx F scope cl C) (eval i₂ (cfx F scope cl C).env) (fun v₂ st₂ => ∃ ys k₂, ∃ J : Nat → List Value → AHeap → Prop, Src st₂ v₂ ys k₂ ∧ J 0 acc st₂.H ∧ (∀ j acc H vs, J j acc H → Src ⟨vs, H⟩ v₂ ys k₂) ∧ (∀ j acc H, J j acc H → acc.length ≤ 1000000) ∧ (∀ z u, cv.lookup z = some u → st₂.vars.lookup z = some u) ∧
        (∀ j y' acc H, ys[j]? = some y' → J j acc H → T prog w (cfx F scope cl C) (eval elt (cfx F scope cl C).env) (fun y st₃ => J (j + 1) (acc ++ [y]) st₃.H ∧ ∀ z u, cv.lookup z = some u → st₃.vars.lookup z = some u) NoX ⟨setV cv x₂ y', H⟩) ∧
        (∀ acc H, J ys.length acc H → I (i + 1) acc H)) NoX ⟨setV cv x₁ x', H⟩) ∧
      (∀ acc H a, I xs.length acc H → H a = none → Handed prog w F Q X u a ⟨st₁.vars, upd H a (.list acc)⟩)) X st) :
    T prog w F (comprehension (comp2 elt (.Name x₁ p₁) i₁ (.Name x₂ p₂) i₂ scope pos) scope F.env (firstIterPos [⟨.Name x₁ p₁, i₁, [], 0⟩, ⟨.Name x₂ p₂, i₂, [], 0⟩] pos) (newList []) false (eval i₁ F.env) u) Q X st := by
  intro s R
  refine wpAny_comprehension_free rfl hs hclos hkind hnames (h.then R (.refl _ _ _ _) fun v s₁ st₁ R₁ A₁ hv => ?_)
  refine ex0and2 hv fun hcv y1_ => ?_; try clear hv; obtain ⟨xs, k, I, hsrc, hI0, hIs, hstep, hend⟩ := y1_
  have hsame : Er.e v = v := Src.same hsrc
  rw [hsame] at hsrc hIs
  refine pyIter_src R₁ hsrc N fun o₀ hito hfr => ?_
  refine wpAny_newObj_type (wpAny_newFunctionEnv hcell (by intro y hy; simp at hy) (fun h₁ hns₁ hsb₁ => ?_) hkind) (by size_fits)
  dsimp only at hns₁ hsb₁ ⊢
  refine ex3and16 (comp_start (tk := s₁.toks) R₁ hcl hcv hfr rfl hns₁ hsb₁) fun ia D C eI eD eC hID hIC hCD hI1 hD1 hC1 hia hDa R0 A0 hHI0 hHD0 hHC0 => ?_
  rw [← eI, ← eD, ← eC]
  have notB : ∀ {a : Addr}, s₁.heap.get? a = none → F.base.get? a = none := fun {a} e => by
    cases q : F.base.get? a with
    | none => rfl
    | some ob => rw [R₁.1.stays _ _ q] at e; cases e
  have hB := notB hI1
  let Inv : Nat → Shared → Prop := fun n s' => ∃ i acc H o ys ep, n = xs.length - i ∧ i ≤ xs.length ∧ I i acc H ∧ Rel prog w (cfx F scope cl C) ⟨cv, H⟩ s' ∧ After (frAddrs F.stk) [C] st₁.H s₁ H s' ∧
    s'.heap.get? ia = some o ∧ ItO v xs i k o ∧ H ia = none ∧ s'.heap.get? D = some { cls := .type "list", dict := none, data := .seq ys ep, slots := #[] } ∧ ys.toList.map er = acc ∧ H D = none ∧ H C = none
  have start : Inv xs.length { s₁ with heap := h₁, toks := s₁.toks } :=
    ⟨0, [], st₁.H, o₀, #[], 0, (Nat.sub_zero _).symm, Nat.zero_le _, hI0, R0, A0, hia, hito, hHI0, hDa, rfl, hHD0, hHC0⟩
  have hDown : D ∉ [C] := fun hm => hCD (List.mem_singleton.mp hm).symm
  have hIown : ia ∉ [C] := fun hm => hIC (List.mem_singleton.mp hm)
  have stores : ∀ {x : Str} {x' x₀ : Value} {H : AHeap}, er x₀ = x' → scope.names.lookup x = some .local → T prog w (cfx F scope cl C) (storeName (cfx F scope cl C).env x x₀) (fun _ st => st = ⟨setV cv x x', H⟩) NoX ⟨cv, H⟩ := fun e hx =>
    T_storeL e (kindOf_comp hx) (by show (relabel scope F.env).kind = _; exact hkind) List.mem_cons_self rfl
  have loop : ∀ n s', Inv n s' → codeAny (model prog w) F.A (.compLoop (comp2 elt (.Name x₁ p₁) i₁ (.Name x₂ p₂) i₂ scope pos) 0 (.ref ia) (.ref D) (compEnvC scope cl C F.env))
      (compPost (model prog w) F.A (XPost prog w F X st.H s) u (fun v s' => ∃ st', Rel prog w F st' s' ∧ After (frAddrs F.stk) F.own st.H s st'.H s' ∧ Q (Er.e v) st') (.ref D) C) s' := by
    intro n s' hInv
    refine loop_out (hs2 C) (mark_none _) Inv ?_ n hInv (fun _ => rfl)
    clear hInv n s'
    rintro n s' hx0_; refine ex6and12 hx0_ fun i acc H o ys ep y6_ hile hI R' A' hia' hit hHI hDx hys hHD hHC => ?_; try clear hx0_; obtain rfl := y6_
    have hsi : Src ⟨cv, H⟩ v xs k := hIs i acc H cv hI
    have hfl := hit.fields
    cases hxi : xs[i]? with
    | none =>
      have hi : i = xs.length := Nat.le_antisymm hile (List.getElem?_eq_none_iff.mp hxi)
      subst hi
      refine next_done hh R' hsi hia' hit hxi hile fun h' hext => ?_
      have R2 := R'.hid (s' := { s' with heap := h' }) hia' hHI hB hext rfl rfl hfl
      have A2 := After.hid (s' := { s' with heap := h' }) (st := ⟨cv, H⟩) A' hI1 hext
      exact comp_end R₁ A₁ hC1 hD1 hCD R2 A2 (ao := .list acc) (hext D _ (Ne.symm hID) hDx) ⟨rfl, rfl, rfl, ys, ep, rfl, hys⟩ hHC (hend acc H D hI hHD)
    | some x' =>
      have hi : i < xs.length := (List.getElem?_eq_some_iff.mp hxi).1
      refine next_item R' hsi hia' hit hxi fun x₀ h' o' tk hx' hia2 hit2 hsb => ?_
      have R2 := R'.hid (s' := { s' with heap := h', toks := tk }) hia' hHI hB hsb.extBut rfl rfl hfl
      have A2 := After.hid (s' := { s' with heap := h', toks := tk }) (st := ⟨cv, H⟩) A' hI1 hsb.extBut
      have hD2 : ({ s' with heap := h', toks := tk } : Shared).heap.get? D = _ := hsb.extBut D _ (Ne.symm hID) hDx
      refine wpAny_assign_Name ((stores hx' hx₁).thenN (F := cfx F scope cl C) R2 (.refl _ _ _ _) fun _ s₃ st₃ R₃ A₃ e₃ => ?_)
      subst e₃
      obtain ⟨mC, ⟨oC, _, _, eC2, _⟩, _⟩ := R2.2.loc
      have eC2 : ({ s' with heap := h', toks := tk } : Shared).heap.get? C = some oC := eC2
      have still : ∀ {H₅ : AHeap} {s₅ : Shared} {a : Addr} {ob : Obj}, a ∉ [C] → a ∉ frAddrs F.stk → H a = none → ({ s' with heap := h', toks := tk } : Shared).heap.get? a = some ob → After (frAddrs F.stk) [C] H { s' with heap := h', toks := tk } H₅ s₅ → s₅.heap.get? a = some ob ∧ H₅ a = none := by
        intro H₅ s₅ a ob h1 h2 h3 h4 A5
        obtain ⟨sl, e1, c1⟩ := A5.keep a ob h4 h3 h1
        refine ⟨by rw [e1, c1 h2], ?_⟩
        cases q : H₅ a with
        | none => rfl
        | some z =>
          rcases A5.dom a (by rw [q]; exact nofun) with h | h
          · exact absurd h3 h
          · rw [h4] at h; cases h
      have cnone : ∀ {H₅ : AHeap} {s₅ : Shared}, After (frAddrs F.stk) [C] H { s' with heap := h', toks := tk } H₅ s₅ → H₅ C = none := by
        intro H₅ s₅ A5
        cases q : H₅ C with
        | none => rfl
        | some z =>
          rcases A5.dom C (by rw [q]; exact nofun) with h | h
          · exact absurd hHC h
          · rw [eC2] at h; cases h
      refine (hstep C i x' acc H hxi hI).thenN (F := cfx F scope cl C) R₃ A₃ fun v₂ s₄ st₄ R₄ A₄ hq => ?_
      refine ex3and7 hq fun zs k₂ J hsrc2 hJ0 hJs hJl hkeep hJstep hJend => ?_; try clear hq
      have hsame2 : Er.e v₂ = v₂ := Src.same hsrc2
      rw [hsame2] at hsrc2 hJs
      refine pyIter_src (F := cfx F scope cl C) R₄ hsrc2 N fun o₂ hit₂ hfr₂ => ?_
      obtain ⟨t1, t2⟩ := still hIown (R₁.apart hI1).2.1 hHI hia2 A₄
      obtain ⟨t3, t4⟩ := still hDown (R₁.apart hD1).2.1 hHD hD2 A₄
      have t5 := cnone A₄
      have hj : s₄.heap.get? s₄.heap.objs.size = none := Heap.get?_none_of_le (Nat.le_refl _)
      generalize hja : s₄.heap.objs.size = ja at hj
      have hk4 : ∀ b o, s₄.heap.get? b = some o → (s₄.heap.push o₂).get? b = some o := fun b o e => Heap.get?_push_of_some _ e
      have hjI : ja ≠ ia := fun q => by rw [q, t1] at hj; cases hj
      have hjD : ja ≠ D := fun q => by rw [q, t3] at hj; cases hj
      have hjB : F.base.get? ja = none := by
        cases q : F.base.get? ja with
        | none => rfl
        | some ob => rw [R₄.1.stays _ _ q] at hj; cases hj
      have hjH : st₄.H ja = none := R₄.1.none_of hj
      have hj0 : s₁.heap.get? ja = none := by
        cases q : s₁.heap.get? ja with
        | none => rfl
        | some ob => exact absurd hj ((A2.trans A₄).alive ja (by rw [q]; exact nofun))
      have hja4 : (s₄.heap.push o₂).get? ja = some o₂ := by rw [← hja]; exact Heap.get?_push_size _ hfr₂
      have R5 : Rel prog w (cfx F scope cl C) ⟨cv, st₄.H⟩ { s₄ with heap := s₄.heap.push o₂ } := (R₄.grow (s' := { s₄ with heap := s₄.heap.push o₂ }) hk4 rfl rfl).forget (st' := ⟨cv, st₄.H⟩) hkeep fun _ _ e => e
      have A5 : After (frAddrs F.stk) [C] st₁.H s₁ st₄.H { s₄ with heap := s₄.heap.push o₂ } := (A2.trans A₄).trans (.grow (s' := { s₄ with heap := s₄.heap.push o₂ }) _ _ hk4)
      let Inv2 : Nat → Shared → Prop := fun n s' => ∃ j acc H o2 ys ep, n = zs.length - j ∧ j ≤ zs.length ∧ J j acc H ∧ Rel prog w (cfx F scope cl C) ⟨cv, H⟩ s' ∧ After (frAddrs F.stk) [C] st₁.H s₁ H s' ∧
        s'.heap.get? ja = some o2 ∧ ItO v₂ zs j k₂ o2 ∧ H ja = none ∧ s'.heap.get? D = some { cls := .type "list", dict := none, data := .seq ys ep, slots := #[] } ∧ ys.toList.map er = acc ∧ H D = none ∧ H C = none ∧ s'.heap.get? ia = some o' ∧ H ia = none
      have start2 : Inv2 zs.length { s₄ with heap := s₄.heap.push o₂ } :=
        ⟨0, acc, st₄.H, o₂, ys, ep, (Nat.sub_zero _).symm, Nat.zero_le _, hJ0, R5, A5, hja4, hit₂, hjH, hk4 _ _ t3, hys, t4, t5, hk4 _ _ t1, t2⟩
      have loop2 : ∀ n s', Inv2 n s' → codeAny (model prog w) F.A (.compLoop (comp2 elt (.Name x₁ p₁) i₁ (.Name x₂ p₂) i₂ scope pos) 1 (.ref ja) (.ref D) (compEnvC scope cl C F.env))
          (fun r s₅ => match r with | .ok _ => ∃ m, m < xs.length - i ∧ Inv m s₅ | .error _ => False) s' := by
        intro n s' hInv
        refine loop_in Inv2 ?_ n hInv (fun _ => rfl)
        clear hInv n s' start2
        rintro n s₆ hx0_; refine ex6and14 hx0_ fun j acc₆ H₆ o₆ ys₆ ep₆ y6_ hjle hJ R6 A6 hja6 hit6 hjH6 hD6 hys6 hHD6 hHC6 hia6 hHI6 => ?_; try clear hx0_; obtain rfl := y6_
        have hsj : Src ⟨cv, H₆⟩ v₂ zs k₂ := hJs j acc₆ H₆ cv hJ
        have hfl6 := hit6.fields
        have hDj : D ≠ ja := Ne.symm hjD
        have hIj : ia ≠ ja := Ne.symm hjI
        cases hzj : zs[j]? with
        | none =>
          have hjz : j = zs.length := Nat.le_antisymm hjle (List.getElem?_eq_none_iff.mp hzj)
          subst hjz
          refine next_done hh R6 hsj hja6 hit6 hzj hjle fun h'' hext => ?_
          have R7 := R6.hid (s' := { s₆ with heap := h'' }) hja6 hjH6 hjB hext rfl rfl hfl6
          have A7 := After.hid (s' := { s₆ with heap := h'' }) (st := ⟨cv, H₆⟩) A6 hj0 hext
          exact ⟨xs.length - (i + 1), Nat.sub_lt_sub_left hi (Nat.lt_succ_self i), i + 1, acc₆, H₆, o', ys₆, ep₆, rfl, hi, hJend _ _ hJ, R7, A7, hext ia _ hIj hia6, hit2, hHI6, hext D _ hDj hD6, hys6, hHD6, hHC6⟩
        | some y' =>
          have hjlt : j < zs.length := (List.getElem?_eq_some_iff.mp hzj).1
          refine next_item R6 hsj hja6 hit6 hzj fun y₀ h'' o'' tk'' hy' hja7 hit7 hsb7 => ?_
          have R7 := R6.hid (s' := { s₆ with heap := h'', toks := tk'' }) hja6 hjH6 hjB hsb7.extBut rfl rfl hfl6
          have A7 := After.hid (s' := { s₆ with heap := h'', toks := tk'' }) (st := ⟨cv, H₆⟩) A6 hj0 hsb7.extBut
          have hD7 : ({ s₆ with heap := h'', toks := tk'' } : Shared).heap.get? D = _ := hsb7.extBut D _ hDj hD6
          have hia7 : ({ s₆ with heap := h'', toks := tk'' } : Shared).heap.get? ia = _ := hsb7.extBut ia _ hIj hia6
          refine wpAny_assign_Name ((stores hy' hx₂).thenN (F := cfx F scope cl C) R7 (.refl _ _ _ _) fun _ s₈ st₈ R₈ A₈ e₈ => ?_)
          subst e₈
          obtain ⟨mC7, ⟨oC7, _, _, eC7, _⟩, _⟩ := R7.2.loc
          have eC7 : ({ s₆ with heap := h'', toks := tk'' } : Shared).heap.get? C = some oC7 := eC7
          have hjown : ja ∉ [C] := fun hm => by
            rw [List.mem_singleton.mp hm] at hj0 hja7
            exact absurd hj (by
              rw [List.mem_singleton.mp hm]
              obtain ⟨mC4, ⟨oC4, _, _, eC4, _⟩, _⟩ := R₄.2.loc
              have eC4 : s₄.heap.get? C = some oC4 := eC4
              rw [eC4]; exact nofun)
          have still2 : ∀ {H₅ : AHeap} {s₅ : Shared} {a : Addr} {ob : Obj}, a ∉ [C] → a ∉ frAddrs F.stk → H₆ a = none → ({ s₆ with heap := h'', toks := tk'' } : Shared).heap.get? a = some ob → After (frAddrs F.stk) [C] H₆ { s₆ with heap := h'', toks := tk'' } H₅ s₅ → s₅.heap.get? a = some ob ∧ H₅ a = none := by
            intro H₅ s₅ a ob h1 h2 h3 h4 A5
            obtain ⟨sl, e1, c1⟩ := A5.keep a ob h4 h3 h1
            refine ⟨by rw [e1, c1 h2], ?_⟩
            cases q : H₅ a with
            | none => rfl
            | some z =>
              rcases A5.dom a (by rw [q]; exact nofun) with h | h
              · exact absurd h3 h
              · rw [h4] at h; cases h
          refine (hJstep j y' acc₆ H₆ hzj hJ).thenN (F := cfx F scope cl C) R₈ A₈ fun y s₉ st₉ R₉ A₉ hy => ?_
          obtain ⟨u1, u2⟩ := still2 hDown (R₁.apart hD1).2.1 hHD6 hD7 A₉
          obtain ⟨u3, u4⟩ := still2 hIown (R₁.apart hI1).2.1 hHI6 hia7 A₉
          obtain ⟨u5, u6⟩ := still2 hjown (R₁.apart hj0).2.1 hjH6 hja7 A₉
          have u7 : st₉.H C = none := by
            cases q : st₉.H C with
            | none => rfl
            | some z =>
              rcases A₉.dom C (by rw [q]; exact nofun) with h | h
              · exact absurd hHC6 h
              · rw [eC7] at h; cases h
          have hsz : ys₆.size ≤ sizeLine := by
            have := hJl j acc₆ H₆ hJ
            rw [← hys6, List.length_map, Array.length_toList] at this
            exact line2 this
          refine wpAny_list_append_plain ⟨ep₆, u1⟩ (fun h₆ hl₆ hs₆ => ?_) hsz
          obtain ⟨ep', hD8⟩ := hl₆
          refine ex0and5 (R₁.apart hD1) fun b1 b2 b3 b4 b5 => ?_
          have R10 : Rel prog w (cfx F scope cl C) st₉ { s₉ with heap := h₆ } := R₉.quiet u2 b1 hs₆ b2 hCD (fun x c e => b4 x c (hcl.at x c e)) hDown
          exact ⟨zs.length - (j + 1), Nat.sub_lt_sub_left hjlt (Nat.lt_succ_self j), j + 1, acc₆ ++ [Er.e y], st₉.H, o'', ys₆.push y, ep', rfl, hjlt, hy.1, R10.forget (st' := ⟨cv, st₉.H⟩) hy.2 (fun _ _ e => e), (A7.trans A₉).aside hD1 hs₆, (hs₆.2 ja hjD).trans u5, hit7, u6, hD8, by rw [Array.toList_push, List.map_append, hys6]; rfl, u2, u7, (hs₆.2 ia hID).trans u3, u4⟩
      have := loop2 _ _ start2
      refine start_in this (pyIter_it hsrc2 R5 hja4 hit₂ this)
  exact codeAny_compStart_list (loop _ _ start) (pyIter_it hsrc R0 hia hito (loop _ _ start))
end
end
section
set_option maxRecDepth 100000
set_option Elab.async false
set_option linter.unusedVariables false
set_option maxHeartbeats 4000000
open PySem PySem.W PySem.Calls PyProof.Rows PySem.SeqAt
theorem flat_len {α β : Type} (zs : α → List β) (B : Nat) : ∀ {l : List α}, (∀ y ∈ l, (zs y).length ≤ B) → (l.flatMap zs).length ≤ l.length * B
  | [], _ => by simp
  | y :: l, h => by
    have h1 := h y List.mem_cons_self
    have h2 := flat_len zs B (l := l) fun z hz => h z (List.mem_cons_of_mem _ hz)
    rw [List.flatMap_cons, List.length_append, List.length_cons, Nat.succ_mul]
    omega
section
variable {prog : Program} {w : World} {K : Frag} {mg mb : Str → Option Value} {nm : List (Str × NameKind)} {F : Fx} {st : St} {X : Value → List Value → St → Prop} {Q : Value → St → Prop} {pos : Pos} {x₁ x₂ : Str} {v : Value}
theorem E_listM2 {α β : Type} (E : Ent K mg mb nm F) {elt i₁ i₂ : Expr} {p₁ p₂ : Pos} {scope : Scope} (cv : List (Str × Value)) (hsc : scOk scope nm x₁ = true) (hx₂ : scope.names.lookup x₂ = some .local) (hcv : cvOk scope cv = true)
    (hs : ∀ x, foldedSetIterable i₁ F.env x = pure x) (hs2 : ∀ C cl x, foldedSetIterable i₂ (cfx F scope cl C).env x = pure x) (hh : F.A.handled = none)
    (h : T prog w F (eval i₁ F.env) (fun v st₁ => Has st₁.vars cv ∧ ∃ k, ∃ (ys : List α) (g : α → Value) (zs : α → List β) (g2 : β → Value) (R : AHeap → Prop) (f : β → Value), Src st₁ v (ys.map g) k ∧ ys.length ≤ 1000 ∧ (∀ y ∈ ys, (zs y).length ≤ 900) ∧ R st₁.H ∧ (∀ H vs, R H → Src ⟨vs, H⟩ v (ys.map g) k) ∧
      (∀ F', Ent K mg mb (relabelN scope.names nm) F' → F'.toFc = F.toFc → ∀ y H, y ∈ ys → R H → T prog w F' (eval i₂ F'.env) (fun v₂ st₂ => ∃ k₂, Src st₂ v₂ ((zs y).map g2) k₂ ∧ R st₂.H ∧ Has st₂.vars cv ∧ (∀ H vs, R H → Src ⟨vs, H⟩ v₂ ((zs y).map g2) k₂) ∧
        (∀ b H, b ∈ zs y → R H → T prog w F' (eval elt F'.env) (fun z st₃ => z = f b ∧ Has st₃.vars cv ∧ R st₃.H) NoX ⟨setV cv x₂ (g2 b), H⟩)) NoX ⟨setV cv x₁ (g y), H⟩) ∧
      (∀ H a H', R H → New H a (.list ((ys.flatMap zs).map f)) H' → Q (.ref a) ⟨st₁.vars, H'⟩)) X st) :
    T prog w F (eval (.ListComp elt [⟨.Name x₁ p₁, i₁, [], 0⟩, ⟨.Name x₂ p₂, i₂, [], 0⟩] scope pos) F.env) Q X st := by
  have S := scOk_of hsc
  obtain ⟨cl, e1, e2, e3⟩ := clos_ok (env := F.env) (scope := scope) fun p hp hf => E.cel p.1 (S.free p hp hf)
  have key : T prog w F (comprehension (comp2 elt (.Name x₁ p₁) i₁ (.Name x₂ p₂) i₂ scope pos) scope F.env (firstIterPos [⟨.Name x₁ p₁, i₁, [], 0⟩, ⟨.Name x₂ p₂, i₂, [], 0⟩] pos) (newList []) false (eval i₁ F.env) none) Q X st := by
    refine T_listCore2 cv none e1 e2 S.cell S.kind S.names S.x hx₂ hs (fun C x => hs2 C cl x) hh E.W.ns (h.post fun v st₁ hq => ?_)
    refine ex0and2 hq fun q0 y1_ => ?_; try clear hq; obtain ⟨k, ys, g, zs, g2, R, f, q1, q2, q3, q4, q5, q6, q7⟩ := y1_
    refine ⟨cap_of E S e3 hcv q0, exi3 (ys.map g) k (fun i acc H => i ≤ ys.length ∧ acc = ((ys.take i).flatMap zs).map f ∧ R H) ⟨q1, ⟨Nat.zero_le _, rfl, q4⟩, fun i acc H vs hI => q5 H vs hI.2.2, ?_, fun acc H a hI ha => ?_⟩⟩
    · rintro C i x' acc H hx ⟨hi, rfl, hR⟩
      rw [List.getElem?_map] at hx
      obtain ⟨y, hy, rfl⟩ := Option.map_eq_some_iff.mp hx
      have hlt : i < ys.length := (List.getElem?_eq_some_iff.mp hy).1
      have hym := List.mem_of_getElem? hy
      refine (q6 (cfx F scope cl C) (E.comp S e3) rfl y H hym hR).post fun v₂ st₂ hq => ?_
      refine ex1and5 hq fun k₂ r1 r2 r3 r4 r5 => ?_; try clear hq
      refine exi3 ((zs y).map g2) k₂ (fun j acc H => j ≤ (zs y).length ∧ acc = ((ys.take i).flatMap zs ++ (zs y).take j).map f ∧ R H) ⟨r1, ⟨Nat.zero_le _, by rw [List.take_zero, List.append_nil], r2⟩, fun j acc H vs hJ => r4 H vs hJ.2.2, fun j acc H hJ => ?_, fun z u hz => Has.at r3 z u hz, ?_, ?_⟩
      · obtain ⟨hj, rfl, _⟩ := hJ
        have h1 := flat_len zs 900 (l := ys.take i) fun z hz => q3 z (List.mem_of_mem_take hz)
        have h2 : (ys.take i).length ≤ 1000 := by rw [List.length_take]; omega
        have h3 : (ys.take i).length * 900 ≤ 1000 * 900 := Nat.mul_le_mul_right _ h2
        have h4 := q3 y hym
        rw [List.length_map, List.length_append, List.length_take]
        exact om14 h1 h2 h4
      · rintro j y' acc H hj ⟨hjl, rfl, hR⟩
        rw [List.getElem?_map] at hj
        obtain ⟨b, hb, rfl⟩ := Option.map_eq_some_iff.mp hj
        have hlt2 : j < (zs y).length := (List.getElem?_eq_some_iff.mp hb).1
        refine (r5 b H (List.mem_of_getElem? hb) hR).post fun z st₃ ⟨z1, z2, z3⟩ => ⟨⟨by omega, ?_, z3⟩, fun z u hz => Has.at z2 z u hz⟩
        rw [z1, List.take_add_one, hb, ← List.append_assoc, List.map_append (l₂ := Option.toList (some b))]; rfl
      · rintro acc H ⟨_, rfl, hR⟩
        refine ⟨by omega, ?_, hR⟩
        rw [List.length_map, List.take_length, List.take_add_one, hy, List.flatMap_append]
        simp
    · obtain ⟨_, rfl, hR⟩ := hI
      rw [List.length_map, List.take_length]
      exact q7 H a _ hR ⟨ha, rfl⟩
  exact fun s R => key s R
end
end
section
set_option maxRecDepth 100000
set_option Elab.async false
set_option linter.unusedVariables false
set_option maxHeartbeats 4000000
open PySem PySem.W PySem.Calls PyProof.Rows PySem.SeqAt
theorem pick_mid {xs : List Value} {i j : Nat} (h : i ≤ j) : pickL xs (some (i : Int)) (some (j : Int)) none = (xs.take j).drop i := by
  rw [pickL_bounds (a := min i xs.length) (b := min j xs.length) (by
    unfold sliceBounds
    simp only [Option.getD_none]
    have h1 : ¬ ((i : Int) < 0) := by omega
    have h2 : ¬ ((j : Int) < 0) := by omega
    simp only [show ((1 : Int) > 0) from by decide, if_true, if_neg h1, if_neg h2]
    refine Prod.ext ?_ (Prod.ext ?_ rfl)
    · exact maxmin _ _
    · exact maxmin _ _) (by omega) (Nat.min_le_right _ _)]
  rw [List.drop_take]
  by_cases h1 : j ≤ xs.length
  · rw [Nat.min_eq_left h1, Nat.min_eq_left (by omega)]
  · rw [Nat.min_eq_right (by omega)]
    by_cases h2 : i ≤ xs.length
    · rw [Nat.min_eq_left h2, List.take_of_length_le (by rw [List.length_drop]; exact Nat.le_refl _), List.take_of_length_le (by rw [List.length_drop]; omega)]
    · rw [Nat.min_eq_right (by omega), List.drop_of_length_le (Nat.le_refl _), List.drop_of_length_le (by omega), List.take_nil, List.take_nil]
section
variable {prog : Program} {w : World} {mg mb : Str → Option Value}

theorem E_sliceMid {F : Fx} {st : St} {X : Value → List Value → St → Prop} {Q : Value → St → Prop} {pos : Pos} {value lo hi : Expr} {p : Pos} (h : T prog w F (eval value F.env) (fun ov st₁ => T prog w F (eval lo F.env) (fun lv st₂ => T prog w F (eval hi F.env) (fun hv st₃ => ∃ a xs, ∃ i j : Nat, ov = .ref a ∧ lv = vI i ∧ hv = vI j ∧ i ≤ j ∧ st₃.H a = some (.list xs) ∧ xs.length ≤ 1000000 ∧ ∀ b H', New st₃.H b (.list ((xs.take j).drop i)) H' → Q (.ref b) ⟨st₃.vars, H'⟩) X st₂) X st₁) X st) :
    T prog w F (eval (.Subscript value (.Slice (some lo) (some hi) none p) pos) F.env) Q X st :=
  T_slice (h.post fun ov st₁ q => T_partS (q.post fun lv st₂ q => T_partS (q.post fun hv st₃ hq => by
    refine ex4and7 hq fun a xs i j e1 e2 e3 hij e4 e5 q => ?_; try clear hq
    exact T_partN ⟨a, xs, some (i : Int), some (j : Int), none, e1, e4, e5, by subst e2; rfl, by subst e3; rfl, trivial, nofun, fun b hb => by
      rw [pick_mid hij]; exact q b _ ⟨hb, rfl⟩⟩)))
theorem early_spec {F : Fc} {n : Nat} {H : AHeap} {l : List As} (W : Wld (K2 w) F mg mb) (OF : F.Ok (n + 6)) (O : Own2 prog w H l) :
    Calls prog w F (.ref 216) [] H (fun v H' => ∃ a, v = .ref a ∧ Own2 prog w H' (.cell a (.list [vS "refused", vS "prepare() must be called first"]) :: l)) (fun _ _ _ => False) := by
  refine Calls.ent (fd := _) (body := _) (names := []) W OF ⟨⟨_, W.kx _ _ rfl, rfl⟩, rfl, rfl, rfl, codeRec_of W.kx (by rfl), rfl, rfl, by decide +kernel⟩ (fun args' ha => ?_) (by decide) (by decide +kernel) rfl rfl rfl fun F' E U OF' => ?_
  · rw [none_of ha]; rfl
  · dsimp only at E
    repeat (walk_at "T")
    refine C_code ((sorter_own (n := n + 3) E.W OF' O).mono ?_ (fun _ _ _ z => z.elim))
    rintro v H1 hx0_; refine ex1and5 hx0_ fun S y1_ O p0 r0 n0 => ?_; try clear hx0_; obtain rfl := y1_
    repeat (walk_at "T")
    refine C_code (args := [.ref S.self, vI 0] ++ nums []) ((add_spec (n := n + 1) (B := 0) E.W OF' O (by walk_at "take") r0 (by rw [n0]; decide) (by rw [p0]; exact nofun) (by decide)).mono ?_ (fun _ _ _ z => z.elim))
    rintro v H2 hx0_; refine ex0and2 hx0_ fun y0_ y1_ => ?_; try clear hx0_; obtain rfl := y0_; obtain ⟨S', O, s', p', r'⟩ := y1_
    rw [← s']
    repeat (walk_at "T")
    refine E_try U ?_
    repeat (walk_at "T")
    change CallE _ _ _ _ ([.ref S'.self] ++ [vI 0]) _ _ _
    refine C_code ((done_early (n := n + 4) E.W OF' O (by walk_at "mem") r').mono (fun _ _ z => z.elim) ?_)
    rintro c as H3 ⟨rfl, rfl, O⟩
    refine E_exceptVal E rfl (by rfl) rfl fun F2 E2 hu ea ta hne hta hea => ?_
    have O := Own.new (o := .args [vS "prepare() must be called first"]) O ⟨hta, rfl⟩
    have O := Own.new (o := .exc (.type "ValueError") ta) O (a := ea) ⟨(upd_ne (Ne.symm hne)).trans hea, rfl⟩
    have hun := OF'.units
    repeat (walk_at "T")
    refine C_strExc PySem.F.excStr_ValueError (by walk_at "own") (by walk_at "own") (by rw [hu]; walk_at "num") ?_
    intro e H4 hN; have O := Own.new O hN; clear hN
    repeat (walk_at "T")
    exact ⟨e, rfl, O.sub (.cons_cons _ (.cons _ (.cons _ (.cons _ (List.Sublist.refl _)))))⟩
end
end
section
set_option maxRecDepth 100000
set_option Elab.async false
set_option linter.unusedVariables false
open PySem PySem.W PySem.Calls PyProof.Rows PySem.SeqAt
noncomputable abbrev Nds := List (Int × List Int)
structure GN (N : Nds) : Prop where
  nd : (N.map (·.1)).Nodup
  srt : (N.map (·.1)).Pairwise (· ≤ ·)
  cl : ∀ e ∈ N, ∀ a ∈ e.2, a ∈ N.map (·.1)
  few : N.length ≤ 10
  len : ∀ e ∈ N, e.2.length ≤ 20
noncomputable def fset (f : Int → Int) (k v : Int) : Int → Int := fun j => if j = k then v else f j
noncomputable def mk (N : Nds) (f : Int → Int) (g : Int → List Int) (rd : Option (List Int)) (o n : Int) : PS := ⟨N.map fun e => ⟨e.1, f e.1, g e.1⟩, rd, o, n⟩
theorem key_mem {N : Nds} {e : Int × List Int} (he : e ∈ N) : e.1 ∈ N.map (·.1) := List.mem_map_of_mem (f := fun e : Int × List Int => e.1) he
theorem key_at {N : Nds} {e : Int × List Int} {k : Int} (he : e ∈ N) (q : e.1 = k) : k ∈ N.map (·.1) := q ▸ key_mem he
theorem mk_congr {N : Nds} {f f' : Int → Int} {g g' : Int → List Int} {rd : Option (List Int)} {o n : Int} (h : ∀ e ∈ N, f e.1 = f' e.1) (h2 : ∀ e ∈ N, g e.1 = g' e.1) : mk N f g rd o n = mk N f' g' rd o n := by
  unfold mk
  congr 1
  exact List.map_congr_left fun e he => by rw [h e he, h2 e he]
section
variable {N : Nds} {f : Int → Int} {g : Int → List Int} {rd : Option (List Int)} {o n : Int}
theorem mk_find (hn : (N.map (·.1)).Nodup) {e : Int × List Int} (he : e ∈ N) : (mk N f g rd o n).nds.find? (fun x => decide (x.key = e.1)) = some ⟨e.1, f e.1, g e.1⟩ := by
  unfold mk
  refine find_nd (x := ⟨e.1, f e.1, g e.1⟩) (List.mem_map_of_mem (f := fun e : Int × List Int => (⟨e.1, f e.1, g e.1⟩ : PN)) he) fun y hy q => ?_
  obtain ⟨e', he', rfl⟩ := List.mem_map.mp hy
  have q : e'.1 = e.1 := q
  show (⟨e'.1, f e'.1, g e'.1⟩ : PN) = ⟨e.1, f e.1, g e.1⟩
  rw [q]
theorem mk_np (hn : (N.map (·.1)).Nodup) {e : Int × List Int} (he : e ∈ N) : (mk N f g rd o n).npOf e.1 = some (f e.1) := by
  unfold PS.npOf; rw [mk_find hn he]; rfl
theorem mk_np0 {k : Int} (h : k ∉ N.map (·.1)) : (mk N f g rd o n).npOf k = none := by
  unfold PS.npOf
  rw [List.find?_eq_none.mpr]; rfl
  intro x hx
  obtain ⟨e, he, rfl⟩ := List.mem_map.mp hx
  intro q
  exact h (List.mem_map.mpr ⟨e, he, of_decide_eq_true q⟩)
theorem mk_succ (hn : (N.map (·.1)).Nodup) {e : Int × List Int} (he : e ∈ N) : (mk N f g rd o n).succOf e.1 = g e.1 := by
  unfold PS.succOf; rw [mk_find hn he]; rfl
theorem mk_onF (k : Int) (u : Int → Int) : (mk N f g rd o n).on k (fun x => { x with np := u x.np }) = mk N (fset f k (u (f k))) g rd o n := by
  unfold PS.on mk
  congr 1
  rw [List.map_map]
  refine List.map_congr_left fun e _ => ?_
  simp only [Function.comp, fset]
  by_cases q : e.1 = k
  · rw [if_pos q, if_pos q, q]
  · rw [if_neg q, if_neg q]
theorem mk_onG (k : Int) (u : List Int → List Int) : (mk N f g rd o n).on k (fun x => { x with succ := u x.succ }) = mk N f (fun j => if j = k then u (g k) else g j) rd o n := by
  unfold PS.on mk
  congr 1
  rw [List.map_map]
  refine List.map_congr_left fun e _ => ?_
  simp only [Function.comp]
  by_cases q : e.1 = k
  · rw [if_pos q, if_pos q, q]
  · rw [if_neg q, if_neg q]
theorem mk_setN (k v : Int) : (mk N f g rd o n).setN k v = mk N (fset f k v) g rd o n := mk_onF k fun _ => v
theorem mk_outs : ∀ (ns : List Int) (f : Int → Int), (mk N f g rd o n).outs ns = mk N (fun j => if j ∈ ns then -1 else f j) g rd o n
  | [], f => mk_congr (fun e _ => by simp) fun _ _ => rfl
  | k :: r, f => by
    show ((mk N f g rd o n).setN k (-1)).outs r = _
    rw [mk_setN, mk_outs r]
    refine mk_congr (fun e _ => ?_) fun _ _ => rfl
    simp only [fset, List.mem_cons]
    by_cases q1 : e.1 ∈ r
    · rw [if_pos q1, if_pos (.inr q1)]
    · by_cases q2 : e.1 = k
      · rw [if_neg q1, if_pos q2, if_pos (.inl q2)]
      · rw [if_neg q1, if_neg q2, if_neg (fun z => z.elim q2 q1)]
theorem mk_gr (ns : List Int) : (mk N f g (some ns) o n).gr = mk N (fun j => if j ∈ ns then -1 else f j) g (some []) (o + ns.length) n := by
  show { (mk N f g (some ns) o n).outs ns with ready := some [], out := (mk N f g (some ns) o n).out + ns.length } = _
  rw [mk_outs]; rfl
theorem mk_frees : (mk N f g rd o n).frees = (N.filter fun e => decide (f e.1 = 0)).map (·.1) := by
  unfold PS.frees mk
  rw [List.filter_map, List.map_map]; rfl
theorem mk_dec (hn : (N.map (·.1)).Nodup) {e : Int × List Int} (he : e ∈ N) {rd : List Int} : (mk N f g (some rd) o n).dec e.1 = mk N (fset f e.1 (f e.1 - 1)) g (some (if f e.1 - 1 = 0 then rd ++ [e.1] else rd)) o n := by
  unfold PS.dec
  rw [show (mk N f g (some rd) o n).on e.1 (fun x => { x with np := x.np - 1 }) = _ from mk_onF e.1 (fun i => i - 1)]
  simp only []
  rw [mk_np hn he]
  have : fset f e.1 (f e.1 - 1) e.1 = f e.1 - 1 := if_pos rfl
  rw [this]
  by_cases q : f e.1 - 1 = 0
  · rw [if_pos (by rw [q]), if_pos q]; rfl
  · rw [if_neg (fun z => q (Option.some.inj z)), if_neg q]
theorem mk_decs (hn : (N.map (·.1)).Nodup) {e : Int × List Int} (he : e ∈ N) : ∀ (c : Nat) (f : Int → Int) (rd : List Int), (c : Int) ≤ f e.1 ∨ c = 0 →
    (List.replicate c e.1).foldl PS.dec (mk N f g (some rd) o n) = mk N (fset f e.1 (f e.1 - c)) g (some (if 0 < c ∧ f e.1 = c then rd ++ [e.1] else rd)) o n
  | 0, f, rd, _ => by
    rw [if_neg (fun z => absurd z.1 (Nat.lt_irrefl 0))]
    refine mk_congr (fun e' _ => ?_) fun _ _ => rfl
    simp only [fset]
    by_cases q : e'.1 = e.1
    · rw [if_pos q, q]; simp
    · rw [if_neg q]
  | c + 1, f, rd, h => by
    have h : ((c : Int) + 1) ≤ f e.1 := by
      rcases h with h | h
      · push_cast at h; exact h
      · exact absurd h (Nat.succ_ne_zero c)
    rw [List.replicate_succ, List.foldl_cons, mk_dec hn he, mk_decs hn he c _ _ (by
      have : fset f e.1 (f e.1 - 1) e.1 = f e.1 - 1 := if_pos rfl
      rw [this]; left; omega)]
    have e0 : fset f e.1 (f e.1 - 1) e.1 = f e.1 - 1 := if_pos rfl
    rw [e0]
    have e1 : (if 0 < c ∧ f e.1 - 1 = c then (if f e.1 - 1 = 0 then rd ++ [e.1] else rd) ++ [e.1] else (if f e.1 - 1 = 0 then rd ++ [e.1] else rd)) = if 0 < c + 1 ∧ f e.1 = ((c + 1 : Nat) : Int) then rd ++ [e.1] else rd := by
      by_cases q : f e.1 - 1 = 0
      · have : c = 0 := by omega
        subst this
        rw [if_neg (fun z => absurd z.1 (Nat.lt_irrefl 0)), if_pos q, if_pos ⟨by decide, by push_cast; omega⟩]
      · rw [if_neg q]
        by_cases q2 : f e.1 = ((c + 1 : Nat) : Int)
        · rw [if_pos ⟨by push_cast at q2; omega, by push_cast at q2; omega⟩, if_pos ⟨Nat.succ_pos c, q2⟩]
        · rw [if_neg (fun z => q2 (by push_cast; omega)), if_neg (fun z => q2 z.2)]
    rw [e1]
    refine mk_congr (fun e' _ => ?_) fun _ _ => rfl
    simp only [fset]
    by_cases q : e'.1 = e.1
    · rw [if_pos q, if_pos q]; push_cast; omega
    · rw [if_neg q, if_neg q, if_neg q]
theorem mk_fold (hn : (N.map (·.1)).Nodup) (x : Int) : ∀ (M : Nds) (f : Int → Int) (rd : List Int), (∀ e ∈ M, e ∈ N) → (M.map (·.1)).Nodup → (∀ e ∈ M, (e.2.count x : Int) ≤ f e.1 ∨ e.2.count x = 0) →
    ∃ f', (M.flatMap fun e => List.replicate (e.2.count x) e.1).foldl PS.dec (mk N f g (some rd) o n) = mk N f' g (some (rd ++ (M.filter fun e => decide (0 < e.2.count x ∧ f e.1 = (e.2.count x : Int))).map (·.1))) o n ∧
      (∀ e ∈ M, f' e.1 = f e.1 - e.2.count x) ∧ ∀ k, k ∉ M.map (·.1) → f' k = f k
  | [], f, rd, _, _, _ => ⟨f, by simp, nofun, fun _ _ => rfl⟩
  | e :: M, f, rd, hM, hd, hc => by
    have hd1 := List.nodup_cons.mp hd
    have hne : ∀ e' ∈ M, e'.1 ≠ e.1 := fun e' he' q => hd1.1 (key_at he' q)
    obtain ⟨f', h1, h2, h3⟩ := mk_fold hn x M (fset f e.1 (f e.1 - e.2.count x)) (if 0 < e.2.count x ∧ f e.1 = (e.2.count x : Int) then rd ++ [e.1] else rd) (fun e' he' => hM e' (List.mem_cons_of_mem _ he')) hd1.2 (fun e' he' => by
      have : fset f e.1 (f e.1 - e.2.count x) e'.1 = f e'.1 := if_neg (hne e' he')
      rw [this]; exact hc e' (List.mem_cons_of_mem _ he'))
    refine ⟨f', ?_, ?_, ?_⟩
    · rw [List.flatMap_cons, List.foldl_append, mk_decs hn (hM e List.mem_cons_self) _ _ _ (hc e List.mem_cons_self), h1]
      congr 2
      have e2 : (M.filter fun e' => decide (0 < e'.2.count x ∧ fset f e.1 (f e.1 - e.2.count x) e'.1 = (e'.2.count x : Int))) = M.filter fun e' => decide (0 < e'.2.count x ∧ f e'.1 = (e'.2.count x : Int)) := by
        refine List.filter_congr fun e' he' => ?_
        have : fset f e.1 (f e.1 - e.2.count x) e'.1 = f e'.1 := if_neg (hne e' he')
        rw [this]
      rw [e2]
      by_cases q : 0 < e.2.count x ∧ f e.1 = (e.2.count x : Int)
      · rw [if_pos q, List.filter_cons_of_pos (by rw [decide_eq_true q]), List.map_cons, List.append_assoc]; rfl
      · rw [if_neg q, List.filter_cons_of_neg (by rw [decide_eq_false q]; exact Bool.false_ne_true)]
    · intro e' he'
      rcases List.mem_cons.mp he' with rfl | he'
      · rw [h3 _ hd1.1]; exact if_pos rfl
      · rw [h2 e' he']
        have : fset f e.1 (f e.1 - e.2.count x) e'.1 = f e'.1 := if_neg (hne e' he')
        rw [this]
    · intro k hk
      rw [h3 k (fun z => hk (List.mem_cons_of_mem _ z))]
      exact if_neg (fun q : k = e.1 => hk (by rw [q]; exact List.mem_cons_self))
end
end
section
set_option maxRecDepth 100000
set_option Elab.async false
set_option linter.unusedVariables false
open PySem PySem.W PySem.Calls PyProof.Rows PySem.SeqAt
noncomputable def needsOf (N : Nds) (k : Int) : List Int := ((N.find? fun e => decide (e.1 = k)).map (·.2)).getD []
noncomputable def lack (D : List Int) (e : Int × List Int) : List Int := e.2.filter fun a => !decide (a ∈ D)
noncomputable def npv (D : List Int) (e : Int × List Int) : Int := if e.1 ∈ D then -2 else if (lack D e).length = 0 then -1 else (lack D e).length
noncomputable def npf (N : Nds) (D : List Int) (k : Int) : Int := npv D (k, needsOf N k)
noncomputable def succs (N : Nds) (x : Int) : List Int := N.flatMap fun e => List.replicate (e.2.count x) e.1
structure Rep (N : Nds) (D : List Int) (P : PS) : Prop where
  eq : P = mk N (npf N D) (succs N) (some []) (nowOf N D).length D.length
  nd : D.Nodup
  sub : ∀ x ∈ D, x ∈ nowOf N D
theorem key_uniq {N : Nds} (hn : (N.map (·.1)).Nodup) {e e' : Int × List Int} (he : e ∈ N) (he' : e' ∈ N) (q : e'.1 = e.1) : e' = e := by
  induction N with
  | nil => cases he
  | cons a r ih =>
    have h := List.nodup_cons.mp hn
    rcases List.mem_cons.mp he with rfl | he0
    · rcases List.mem_cons.mp he' with rfl | he'
      · rfl
      · exact absurd (key_at he' q) h.1
    · rcases List.mem_cons.mp he' with rfl | he'
      · exact absurd (key_at he0 q.symm : e'.1 ∈ r.map (·.1)) h.1
      · exact ih h.2 he0 he'
theorem needsOf_at {N : Nds} (hn : (N.map (·.1)).Nodup) {e : Int × List Int} (he : e ∈ N) : needsOf N e.1 = e.2 := by
  unfold needsOf
  cases h : N.find? fun e' => decide (e'.1 = e.1) with
  | none => exact absurd (decide_eq_true rfl) (List.find?_eq_none.mp h e he)
  | some e' =>
    have h1 := List.mem_of_find?_eq_some h
    have h2 : e'.1 = e.1 := of_decide_eq_true (List.find?_some (p := fun e' : Int × List Int => decide (e'.1 = e.1)) h)
    rw [key_uniq hn he h1 h2]; rfl
theorem npf_at {N : Nds} (hn : (N.map (·.1)).Nodup) (D : List Int) {e : Int × List Int} (he : e ∈ N) : npf N D e.1 = npv D e := by
  unfold npf; rw [needsOf_at hn he]
theorem now_iff {N : Nds} (hn : (N.map (·.1)).Nodup) (D : List Int) {e : Int × List Int} (he : e ∈ N) : e.1 ∈ nowOf N D ↔ (lack D e).length = 0 := by
  unfold nowOf
  constructor
  · intro h
    obtain ⟨e', he', q⟩ := List.mem_map.mp h
    obtain ⟨h1, h2⟩ := List.mem_filter.mp he'
    rw [key_uniq hn he h1 q] at h2
    have h2 : (lack D e) = [] := by simpa [lack] using h2
    rw [h2]; rfl
  · intro h
    refine List.mem_map_of_mem (List.mem_filter.mpr ⟨he, ?_⟩)
    have : lack D e = [] := List.length_eq_zero_iff.mp h
    simpa [lack] using this
theorem now_key {N : Nds} {D : List Int} {x : Int} (h : x ∈ nowOf N D) : ∃ e ∈ N, e.1 = x := by
  obtain ⟨e, he, q⟩ := List.mem_map.mp h
  exact ⟨e, (List.mem_filter.mp he).1, q⟩
theorem now_sub (N : Nds) (D : List Int) : (nowOf N D).Sublist (N.map (·.1)) := (List.filter_sublist).map _
theorem lack_len {D : List Int} {x : Int} (hx : x ∉ D) (e : Int × List Int) : (lack (D ++ [x]) e).length + e.2.count x = (lack D e).length := by
  obtain ⟨k, l⟩ := e
  unfold lack
  show (l.filter fun a => !decide (a ∈ D ++ [x])).length + l.count x = (l.filter fun a => !decide (a ∈ D)).length
  induction l with
  | nil => rfl
  | cons a r ih =>
    by_cases q : a = x
    · subst q
      rw [List.filter_cons_of_neg (by simp), List.filter_cons_of_pos (by simp [hx]), List.count_cons_self, List.length_cons]
      omega
    · rw [List.count_cons_of_ne q]
      by_cases q2 : a ∈ D
      · rw [List.filter_cons_of_neg (by simp [q2]), List.filter_cons_of_neg (by simp [q2])]; exact ih
      · rw [List.filter_cons_of_pos (by simp [q2, q]), List.filter_cons_of_pos (by simp [q2]), List.length_cons, List.length_cons]; omega
theorem nodup_le : ∀ {D l : List Int}, D.Nodup → (∀ x ∈ D, x ∈ l) → D.length ≤ l.length
  | [], _, _, _ => Nat.zero_le _
  | a :: r, l, h, hs => by
    have h' := List.nodup_cons.mp h
    have h1 := nodup_le (l := l.erase a) h'.2 fun x hx => by
      have : x ≠ a := fun q => h'.1 (q ▸ hx)
      exact (List.mem_erase_of_ne this).mpr (hs x (List.mem_cons_of_mem _ hx))
    have h2 := List.length_erase_of_mem (hs a List.mem_cons_self)
    have h3 : 0 < l.length := List.length_pos_of_mem (hs a List.mem_cons_self)
    rw [List.length_cons]; omega
theorem filter_split {α : Type} {p p' : α → Bool} : ∀ (l : List α), (∀ a ∈ l, p a = true → p' a = true) → (l.filter p).length + (l.filter fun a => p' a && !p a).length = (l.filter p').length
  | [], _ => rfl
  | a :: r, h => by
    have ih := filter_split r fun x hx => h x (List.mem_cons_of_mem _ hx)
    have h1 := h a List.mem_cons_self
    cases q : p a
    · cases q' : p' a
      · rw [List.filter_cons_of_neg (by rw [q]; exact Bool.false_ne_true), List.filter_cons_of_neg (by rw [q']; exact Bool.false_ne_true), List.filter_cons_of_neg (by rw [q']; exact Bool.false_ne_true)]; exact ih
      · rw [List.filter_cons_of_neg (by rw [q]; exact Bool.false_ne_true), List.filter_cons_of_pos (by rw [q, q']; rfl), List.filter_cons_of_pos q', List.length_cons, List.length_cons]; omega
    · have q' := h1 q
      rw [List.filter_cons_of_pos q, List.filter_cons_of_neg (by rw [q, q']; exact Bool.false_ne_true), List.filter_cons_of_pos q', List.length_cons, List.length_cons]; omega
noncomputable def newly (N : Nds) (D D' : List Int) : List Int := (nowOf N D').filter fun y => !decide (y ∈ nowOf N D)
structure Stepped (N : Nds) (D : List Int) (P : PS) (x : Int) (D' : List Int) : Prop where
  msg : (P.doneN [x]).2 = bookMsg N D (nowOf N D) x
  rd : (P.doneN [x]).1.ready = some (newly N D D')
  act : (P.doneN [x]).1.act = decide (((nowOf N D').length : Int) > D'.length)
  rep : Rep N D' (P.doneN [x]).1.gr
theorem Rep.act {N : Nds} {D : List Int} {P : PS} (r : Rep N D P) : P.act = decide (((nowOf N D).length : Int) > D.length) := by
  rw [r.eq]
  unfold PS.act Mine.mk
  simp
theorem Rep.gr {N : Nds} {D : List Int} {P : PS} (r : Rep N D P) : P.gr = P := by
  rw [r.eq, mk_gr]
  unfold Mine.mk
  simp
theorem newly_self (N : Nds) (D : List Int) : newly N D D = [] := by
  unfold newly
  exact List.filter_eq_nil_iff.mpr fun y hy => by simp [hy]
theorem step_refused {N : Nds} {D : List Int} {P : PS} {x : Int} {m : Str} (r : Rep N D P) (h : P.doneN [x] = (P, some m)) (hb : bookMsg N D (nowOf N D) x = some m) : Stepped N D P x D where
  msg := by rw [h, hb]
  rd := by rw [h, newly_self, r.eq]; rfl
  act := by rw [h]; exact r.act
  rep := by rw [h]; show Rep N D P.gr; rw [r.gr]; exact r
theorem rep_step {N : Nds} {D : List Int} {P : PS} (g : GN N) (r : Rep N D P) (x : Int) : Stepped N D P x (if bookMsg N D (nowOf N D) x = none then D ++ [x] else D) := by
  have hdn : ∀ m, refusal (P.npOf x) x = some m → P.doneN [x] = (P, some m) := fun m h => by
    unfold PS.doneN; rw [h]
  by_cases hk : x ∈ N.map (·.1)
  · obtain ⟨e, he, rfl⟩ := List.mem_map.mp hk
    have hnp : P.npOf e.1 = some (npv D e) := by rw [r.eq, mk_np g.nd he, npf_at g.nd D he]
    by_cases hD : e.1 ∈ D
    · have hb : bookMsg N D (nowOf N D) e.1 = some ("node " ++ txt e.1 ++ " was already marked done") := by
        unfold bookMsg
        rw [if_neg (fun z => z hk), if_pos hD]
      rw [hb, if_neg nofun]
      refine step_refused r (hdn _ ?_) hb
      rw [hnp]
      unfold npv
      rw [if_pos hD]; rfl
    · by_cases hL : (lack D e).length = 0
      · have hb : bookMsg N D (nowOf N D) e.1 = none := by
          unfold bookMsg
          rw [if_neg (fun z => z hk), if_neg hD, if_neg (fun z => z ((now_iff g.nd D he).mpr hL))]
        rw [hb, if_pos rfl]
        have hdo : P.doneN [e.1] = (P.done1 e.1, none) := by
          unfold PS.doneN
          rw [hnp]
          have : refusal (some (npv D e)) e.1 = none := by
            unfold npv; rw [if_neg hD, if_pos hL]; rfl
          rw [this]; rfl
        let f1 : Int → Int := fset (npf N D) e.1 (-2)
        have hL0 : ∀ e' ∈ N, e'.1 ∈ D → (lack D e').length = 0 := fun e' he' h => (now_iff g.nd D he').mp (r.sub _ h)
        have hLx : ∀ e' ∈ N, e'.1 = e.1 → (lack D e').length = 0 := fun e' he' h => by rw [key_uniq g.nd he he' h]; exact hL
        have hf1 : ∀ e' ∈ N, f1 e'.1 = if e'.1 = e.1 then -2 else npv D e' := fun e' he' => by
          show (if e'.1 = e.1 then -2 else npf N D e'.1) = _
          rw [npf_at g.nd D he']
        obtain ⟨f', q1, q2, _⟩ := mk_fold (N := N) (g := succs N) (o := ((nowOf N D).length : Int)) (n := (D.length : Int)) g.nd e.1 N f1 [] (fun _ h => h) g.nd (fun e' he' => by
          have h1 := lack_len hD e'
          rw [hf1 e' he']
          unfold npv
          have h2 := hL0 e' he'
          have h3 := hLx e' he'
          by_cases c1 : e'.1 = e.1
          · right; have := h3 c1; omega
          · by_cases c2 : e'.1 ∈ D
            · right; have := h2 c2; omega
            · by_cases c3 : (lack D e').length = 0
              · right; omega
              · left; rw [if_neg c1, if_neg c2, if_neg c3]; omega)
        have hdone : P.done1 e.1 = mk N f' (succs N) (some (newly N D (D ++ [e.1]))) ((nowOf N D).length : Int) ((D.length : Int) + 1) := by
          unfold PS.done1
          rw [r.eq, mk_succ g.nd he, mk_setN]
          show { (N.flatMap fun e' : Int × List Int => List.replicate (e'.2.count e.1) e'.1).foldl PS.dec (mk N f1 (succs N) (some []) ((nowOf N D).length : Int) (D.length : Int)) with fin := ((N.flatMap fun e' : Int × List Int => List.replicate (e'.2.count e.1) e'.1).foldl PS.dec (mk N f1 (succs N) (some []) ((nowOf N D).length : Int) (D.length : Int))).fin + 1 } = _
          rw [q1]
          unfold Mine.mk
          have hr : ([] ++ (N.filter fun e' => decide (0 < e'.2.count e.1 ∧ f1 e'.1 = (e'.2.count e.1 : Int))).map (·.1)) = newly N D (D ++ [e.1]) := by
            rw [List.nil_append]
            unfold newly nowOf
            rw [List.filter_map, List.filter_filter]
            congr 1
            refine List.filter_congr fun e' he' => ?_
            have h1 := lack_len hD e'
            have h2 := hL0 e' he'
            have h3 := hLx e' he'
            have h4 := now_iff g.nd D he'
            have h5 := hf1 e' he'
            unfold npv at h5
            have h6 : ((e'.2.filter fun a => !decide (a ∈ D ++ [e.1])) == []) = decide ((lack (D ++ [e.1]) e').length = 0) := by
              rw [Bool.eq_iff_iff]
              simp only [beq_iff_eq, decide_eq_true_eq]
              exact List.length_eq_zero_iff.symm
            have h7 : decide (e'.1 ∈ (N.filter fun e => (e.2.filter fun a => !decide (a ∈ D)) == []).map (·.1)) = decide ((lack D e').length = 0) := by
              rw [Bool.eq_iff_iff]
              simp only [decide_eq_true_eq]
              exact h4
            simp only [Function.comp]
            rw [h6, h7, Bool.eq_iff_iff]
            simp only [decide_eq_true_eq, Bool.and_eq_true, Bool.not_eq_true', decide_eq_false_iff_not]
            by_cases c1 : e'.1 = e.1
            · have := h3 c1
              constructor
              · intro z; omega
              · intro z; omega
            · by_cases c2 : e'.1 ∈ D
              · have := h2 c2
                constructor
                · intro z; omega
                · intro z; omega
              · rw [if_neg c1, if_neg c2] at h5
                by_cases c3 : (lack D e').length = 0
                · constructor
                  · intro z; omega
                  · intro z; omega
                · rw [if_neg c3] at h5
                  constructor
                  · intro z; omega
                  · intro z; omega
          rw [hr]
        have hDn : (D ++ [e.1]).Nodup := List.nodup_append.mpr ⟨r.nd, by simp, fun a ha b hb q => by rw [List.mem_singleton.mp hb] at q; exact hD (q ▸ ha)⟩
        have hsub : ∀ y ∈ D ++ [e.1], y ∈ nowOf N D := fun y hy => by
          rcases List.mem_append.mp hy with hy | hy
          · exact r.sub y hy
          · rw [List.mem_singleton.mp hy]; exact (now_iff g.nd D he).mpr hL
        have hlen := nodup_le hDn hsub
        have hcount : (nowOf N D).length + (newly N D (D ++ [e.1])).length = (nowOf N (D ++ [e.1])).length := by
          unfold newly
          rw [show (nowOf N D).length = ((nowOf N (D ++ [e.1])).filter fun y => decide (y ∈ nowOf N D)).length from ?_]
          · have := filter_split (p := fun y => decide (y ∈ nowOf N D)) (p' := fun _ => true) (nowOf N (D ++ [e.1])) fun _ _ _ => rfl
            rw [List.filter_eq_self.mpr fun _ _ => rfl] at this
            simpa using this
          · unfold nowOf
            rw [List.filter_map, List.length_map, List.length_map, List.filter_filter]
            congr 1
            refine List.filter_congr fun e' he' => ?_
            have h1 := lack_len hD e'
            have h4 := now_iff g.nd D he'
            have h6 : ∀ D, ((e'.2.filter fun a => !decide (a ∈ D)) == []) = decide ((lack D e').length = 0) := fun D => by
              rw [Bool.eq_iff_iff]
              simp only [beq_iff_eq, decide_eq_true_eq]
              exact List.length_eq_zero_iff.symm
            have h7 : decide (e'.1 ∈ (N.filter fun e => (e.2.filter fun a => !decide (a ∈ D)) == []).map (·.1)) = decide ((lack D e').length = 0) := by
              rw [Bool.eq_iff_iff]
              simp only [decide_eq_true_eq]
              exact h4
            simp only [Function.comp]
            rw [h6, h6, h7, Bool.eq_iff_iff]
            simp only [decide_eq_true_eq, Bool.and_eq_true]
            first | exact om15 (by assumption) | omega
        refine ⟨by rw [hdo, hb], by rw [hdo, hdone]; rfl, ?_, ?_⟩
        · rw [hdo, hdone]
          unfold PS.act Mine.mk
          simp only [Option.getD_some]
          rw [List.length_append, List.length_singleton] at *
          cases hne : newly N D (D ++ [e.1]) with
          | nil =>
            rw [hne, List.length_nil] at hcount
            simp only [List.isEmpty_nil, Bool.not_true, Bool.or_false]
            congr 1
            rw [← hcount]
            push_cast
            simp
          | cons a b =>
            rw [hne, List.length_cons] at hcount
            simp only [List.isEmpty_cons, Bool.not_false, Bool.or_true]
            symm
            rw [decide_eq_true_eq]
            push_cast
            omega
        · rw [hdo, hdone]
          show Rep N (D ++ [e.1]) (PS.gr _)
          rw [mk_gr]
          refine ⟨?_, hDn, fun y hy => ?_⟩
          · have e1 : (((nowOf N D).length : Int) + (newly N D (D ++ [e.1])).length) = ((nowOf N (D ++ [e.1])).length : Int) := by rw [← hcount]; push_cast; rfl
            have e2 : ((D.length : Int) + 1) = ((D ++ [e.1]).length : Int) := by rw [List.length_append]; push_cast; rfl
            rw [e1, e2]
            refine mk_congr (fun e' he' => ?_) fun _ _ => rfl
            rw [npf_at g.nd _ he', q2 e' he']
            have h1 := lack_len hD e'
            have h2 := hL0 e' he'
            have h3 := hLx e' he'
            have h4 := now_iff g.nd D he'
            have h4' := now_iff g.nd (D ++ [e.1]) he'
            have h5 := hf1 e' he'
            unfold npv at h5 ⊢
            have hin : e'.1 ∈ newly N D (D ++ [e.1]) ↔ (lack (D ++ [e.1]) e').length = 0 ∧ ¬ (lack D e').length = 0 := by
              unfold newly
              rw [List.mem_filter, h4']
              simp [h4]
            have hD' : e'.1 ∈ D ++ [e.1] ↔ e'.1 ∈ D ∨ e'.1 = e.1 := by simp
            by_cases c0 : e'.1 ∈ newly N D (D ++ [e.1])
            · rw [if_pos c0]
              have := hin.mp c0
              rw [if_neg (fun z => (hD'.mp z).elim (fun z => this.2 (h2 z)) fun z => this.2 (h3 z)), if_pos this.1]
            · rw [if_neg c0]
              by_cases c1 : e'.1 = e.1
              · rw [if_pos c1] at h5
                have := h3 c1
                rw [if_pos (hD'.mpr (.inr c1)), h5]; omega
              · by_cases c2 : e'.1 ∈ D
                · rw [if_neg c1, if_pos c2] at h5
                  have := h2 c2
                  rw [if_pos (hD'.mpr (.inl c2)), h5]; omega
                · rw [if_neg c1, if_neg c2] at h5
                  rw [if_neg (fun z => (hD'.mp z).elim c2 c1)]
                  by_cases c3 : (lack D e').length = 0
                  · rw [if_pos c3] at h5
                    rw [if_pos (by omega), h5]; omega
                  · rw [if_neg c3] at h5
                    rw [if_neg (fun z => c0 (hin.mpr ⟨z, c3⟩)), h5]; omega
          · obtain ⟨e', he', rfl⟩ := now_key (hsub y hy)
            have h1 := lack_len hD e'
            have := (now_iff g.nd D he').mp (hsub _ hy)
            exact (now_iff g.nd _ he').mpr (by omega)
      · have hb : bookMsg N D (nowOf N D) e.1 = some ("node " ++ txt e.1 ++ " was not passed out (still not ready)") := by
          unfold bookMsg
          rw [if_neg (fun z => z hk), if_neg hD, if_pos (fun z => hL ((now_iff g.nd D he).mp z))]
        rw [hb, if_neg nofun]
        refine step_refused r (hdn _ ?_) hb
        rw [hnp]
        unfold npv
        rw [if_neg hD, if_neg hL]
        unfold refusal
        simp only []
        rw [if_neg (by omega), if_pos (by omega)]
  · have hb : bookMsg N D (nowOf N D) x = some ("node " ++ txt x ++ " was not added using add()") := by
      unfold bookMsg
      rw [if_pos hk]
    rw [hb, if_neg nofun]
    refine step_refused r (hdn _ ?_) hb
    rw [r.eq, mk_np0 hk]; rfl
end
section
set_option maxRecDepth 100000
set_option Elab.async false
set_option linter.unusedVariables false
open PySem PySem.W PySem.Calls PyProof.Rows PySem.SeqAt
theorem mk_touch {N : Nds} {f : Int → Int} {g : Int → List Int} {rd : Option (List Int)} {o n k : Int} (h : k ∈ N.map (·.1)) : (mk N f g rd o n).touch k = mk N f g rd o n := by
  unfold PS.touch
  rw [if_pos]
  obtain ⟨e, he, rfl⟩ := List.mem_map.mp h
  exact List.any_eq_true.mpr ⟨⟨e.1, f e.1, g e.1⟩, List.mem_map_of_mem (f := fun e : Int × List Int => (⟨e.1, f e.1, g e.1⟩ : PN)) he, decide_eq_true rfl⟩
theorem mk_push {N : Nds} {f : Int → Int} {g : Int → List Int} {rd : Option (List Int)} {o n k s : Int} : (mk N f g rd o n).push k s = mk N f (fun j => if j = k then g k ++ [s] else g j) rd o n := mk_onG k fun l => l ++ [s]
theorem mk_bump {N : Nds} {f : Int → Int} {g : Int → List Int} {rd : Option (List Int)} {o n k v : Int} : (mk N f g rd o n).bump k v = mk N (fset f k (f k + v)) g rd o n := mk_onF k fun i => i + v
theorem mk_addTo {N : Nds} {f : Int → Int} {rd : Option (List Int)} {o n k : Int} : ∀ (ps : List Int) (g : Int → List Int), (∀ p ∈ ps, p ∈ N.map (·.1)) → PS.addTo k (mk N f g rd o n) ps = mk N f (fun j => g j ++ List.replicate (ps.count j) k) rd o n
  | [], g, _ => mk_congr (fun _ _ => rfl) fun e _ => by simp
  | p :: r, g, h => by
    show PS.addTo k (((mk N f g rd o n).touch p).push p k) r = _
    rw [mk_touch (h p List.mem_cons_self), mk_push, mk_addTo r _ fun q hq => h q (List.mem_cons_of_mem _ hq)]
    refine mk_congr (fun _ _ => rfl) fun e _ => ?_
    by_cases q : e.1 = p
    · rw [if_pos q, q, List.count_cons_self, List.replicate_succ, List.append_assoc]; rfl
    · rw [if_neg q, List.count_cons_of_ne (Ne.symm q)]
theorem mk_add {N : Nds} {f : Int → Int} {g : Int → List Int} {rd : Option (List Int)} {o n k : Int} {ps : List Int} (hk : k ∈ N.map (·.1)) (h : ∀ p ∈ ps, p ∈ N.map (·.1)) : (mk N f g rd o n).add k ps = mk N (fset f k (f k + ps.length)) (fun j => g j ++ List.replicate (ps.count j) k) rd o n := by
  show PS.addTo k (((mk N f g rd o n).touch k).bump k ps.length) ps = _
  rw [mk_touch hk, mk_bump, mk_addTo ps _ h]
theorem mk_addE {N : Nds} {f : Int → Int} {g : Int → List Int} {rd : Option (List Int)} {o n : Int} {e : Int × List Int} (hk : e.1 ∈ N.map (·.1)) (h : ∀ p ∈ e.2, p ∈ N.map (·.1)) : addE (mk N f g rd o n) e = mk N (fset f e.1 (f e.1 + e.2.length)) (fun j => g j ++ List.replicate (e.2.count j) e.1) rd o n := by
  unfold addE
  rw [mk_add hk fun p hp => h p (List.mem_of_mem_take hp), mk_add hk fun p hp => h p (List.mem_of_mem_drop hp)]
  have hs : e.2.take 1 ++ e.2.drop 1 = e.2 := List.take_append_drop 1 e.2
  refine mk_congr (fun e' _ => ?_) fun e' _ => ?_
  · have hl : (e.2.take 1).length + (e.2.drop 1).length = e.2.length := by rw [← List.length_append, hs]
    simp only [fset]
    by_cases q : e'.1 = e.1
    · rw [if_pos q, if_pos q, if_pos trivial]; omega
    · rw [if_neg q, if_neg q, if_neg q]
  · show (g e'.1 ++ List.replicate ((e.2.take 1).count e'.1) e.1) ++ List.replicate ((e.2.drop 1).count e'.1) e.1 = _
    rw [List.append_assoc, List.replicate_append_replicate, ← List.count_append, hs]
theorem mk_addEs {N : Nds} {rd : Option (List Int)} {o n : Int} : ∀ (M : Nds) (f : Int → Int) (g : Int → List Int), (∀ e ∈ M, e.1 ∈ N.map (·.1)) → (∀ e ∈ M, ∀ p ∈ e.2, p ∈ N.map (·.1)) → (M.map (·.1)).Nodup →
    ∃ f', M.foldl addE (mk N f g rd o n) = mk N f' (fun j => g j ++ succs M j) rd o n ∧ (∀ e ∈ M, f' e.1 = f e.1 + e.2.length) ∧ ∀ k, k ∉ M.map (·.1) → f' k = f k
  | [], f, g, _, _, _ => ⟨f, mk_congr (fun _ _ => rfl) (fun e _ => by show _ = g e.1 ++ []; rw [List.append_nil]), nofun, fun _ _ => rfl⟩
  | e :: M, f, g, h1, h2, hn => by
    have hn' := List.nodup_cons.mp hn
    obtain ⟨f', q1, q2, q3⟩ := mk_addEs (N := N) (rd := rd) (o := o) (n := n) M (fset f e.1 (f e.1 + e.2.length)) (fun j => g j ++ List.replicate (e.2.count j) e.1) (fun e' he' => h1 e' (List.mem_cons_of_mem _ he')) (fun e' he' => h2 e' (List.mem_cons_of_mem _ he')) hn'.2
    refine ⟨f', ?_, ?_, ?_⟩
    · rw [List.foldl_cons, mk_addE (h1 e List.mem_cons_self) (h2 e List.mem_cons_self), q1]
      refine mk_congr (fun _ _ => rfl) fun e' _ => ?_
      show (g e'.1 ++ List.replicate (e.2.count e'.1) e.1) ++ succs M e'.1 = g e'.1 ++ succs (e :: M) e'.1
      unfold succs
      rw [List.flatMap_cons, List.append_assoc]
    · intro e' he'
      rcases List.mem_cons.mp he' with rfl | he'
      · rw [q3 _ hn'.1]; exact if_pos rfl
      · rw [q2 e' he']
        have : e'.1 ≠ e.1 := fun q => hn'.1 (key_at he' q)
        have : fset f e.1 (f e.1 + e.2.length) e'.1 = f e'.1 := if_neg this
        rw [this]
    · intro k hk
      rw [q3 k fun z => hk (List.mem_cons_of_mem _ z)]
      exact if_neg fun q : k = e.1 => hk (by rw [q]; exact List.mem_cons_self)
theorem bldA_mk {N : Nds} (hn : (N.map (·.1)).Nodup) : bldA N = mk N (fun _ => 0) (fun _ => []) none 0 0 := by
  have : ∀ (M M0 : Nds), ((M0 ++ M).map (·.1)).Nodup → M.foldl (fun P e => P.add e.1 []) (mk M0 (fun _ => 0) (fun _ => []) none 0 0) = mk (M0 ++ M) (fun _ => 0) (fun _ => []) none 0 0 := by
    intro M
    induction M with
    | nil => intro M0 _; rw [List.append_nil]; rfl
    | cons e M ih =>
      intro M0 h
      have hne : e.1 ∉ M0.map (·.1) := by
        rw [List.map_append, List.nodup_append] at h
        exact fun z => h.2.2 _ z _ List.mem_cons_self rfl
      have h1 : (mk M0 (fun _ => 0) (fun _ => []) none 0 0).touch e.1 = mk (M0 ++ [e]) (fun _ => 0) (fun _ => []) none 0 0 := by
        unfold PS.touch
        rw [if_neg]
        · unfold Mine.mk; rw [List.map_append]; rfl
        · intro z
          obtain ⟨y, hy, q⟩ := List.any_eq_true.mp z
          obtain ⟨e', he', rfl⟩ := List.mem_map.mp hy
          exact hne (key_at he' (of_decide_eq_true q))
      have h2 : (mk M0 (fun _ => 0) (fun _ => []) none 0 0).add e.1 [] = mk (M0 ++ [e]) (fun _ => 0) (fun _ => []) none 0 0 := by
        show PS.addTo e.1 (((mk M0 _ _ none 0 0).touch e.1).bump e.1 (0 : Nat)) [] = _
        rw [h1, mk_bump]
        show mk (M0 ++ [e]) (fset (fun _ => 0) e.1 (0 + (0 : Nat))) (fun _ => []) none 0 0 = _
        refine mk_congr (fun e' _ => ?_) fun _ _ => rfl
        simp [fset]
      rw [List.foldl_cons, h2, ih (M0 ++ [e]) (by rw [List.append_assoc]; exact h), List.append_assoc]; rfl
  exact this N [] hn
theorem bld_mk {N : Nds} (g : GN N) : ∃ f, bld N = mk N f (succs N) none 0 0 ∧ ∀ e ∈ N, f e.1 = e.2.length := by
  unfold bld
  rw [bldA_mk g.nd]
  obtain ⟨f', q1, q2, _⟩ := mk_addEs (N := N) (rd := none) (o := 0) (n := 0) N (fun _ => 0) (fun _ => []) (fun e he => key_mem he) g.cl g.nd
  refine ⟨f', ?_, fun e he => by rw [q2 e he]; exact Int.zero_add _⟩
  rw [q1]
  exact mk_congr (fun _ _ => rfl) fun e _ => by show [] ++ _ = _; rw [List.nil_append]
theorem lack_nil (e : Int × List Int) : lack [] e = e.2 := by
  unfold lack
  exact List.filter_eq_self.mpr fun a _ => by simp
theorem frees0_now (N : Nds) : frees0 N = nowOf N [] := by
  unfold frees0 nowOf
  congr 1
  refine List.filter_congr fun e _ => ?_
  have := lack_nil e
  unfold lack at this
  rw [this]
theorem first_is {N : Nds} (g : GN N) : (bld N).frees = frees0 N := by
  obtain ⟨f, q, hf⟩ := bld_mk g
  rw [q, mk_frees]
  unfold frees0
  congr 1
  refine List.filter_congr fun e he => ?_
  rw [hf e he, Bool.eq_iff_iff]
  simp
noncomputable def P1 (N : Nds) : PS := (bld N).prep.gr
theorem rep_bld {N : Nds} (g : GN N) : Rep N [] (P1 N) := by
  have h1 := first_is g
  obtain ⟨f, q, hf⟩ := bld_mk g
  have h2 : (bld N).prep = mk N f (succs N) (some (frees0 N)) 0 0 := by
    unfold PS.prep
    rw [h1, q]; rfl
  refine ⟨?_, List.nodup_nil, nofun⟩
  unfold P1
  rw [h2, mk_gr, frees0_now, Int.zero_add]
  refine mk_congr (fun e he => ?_) fun _ _ => rfl
  rw [npf_at g.nd [] he]
  unfold npv
  rw [if_neg List.not_mem_nil]
  have h3 := now_iff g.nd [] he
  by_cases c : (lack [] e).length = 0
  · rw [if_pos (h3.mpr c), if_pos c]
  · rw [if_neg (fun z => c (h3.mp z)), if_neg c, hf e he, lack_nil]
theorem succs_mem {N : Nds} {x s : Int} : s ∈ succs N x ↔ ∃ e ∈ N, s = e.1 ∧ x ∈ e.2 := by
  unfold succs
  rw [List.mem_flatMap]
  constructor
  · rintro ⟨e, he, h⟩
    obtain ⟨h1, h2⟩ := List.mem_replicate.mp h
    exact ⟨e, he, h2, List.count_pos_iff.mp (Nat.pos_of_ne_zero h1)⟩
  · rintro ⟨e, he, h1, h2⟩
    exact ⟨e, he, List.mem_replicate.mpr ⟨Nat.pos_iff_ne_zero.mp (List.count_pos_iff.mpr h2), h1⟩⟩
theorem rep_nds {N : Nds} {D : List Int} {P : PS} (r : Rep N D P) : P.nds = N.map fun e => ⟨e.1, npf N D e.1, succs N e.1⟩ := by rw [r.eq]; rfl
theorem rep_cl {N : Nds} {D : List Int} {P : PS} (g : GN N) (r : Rep N D P) : ∀ x ∈ P.nds, ∀ s ∈ x.succ, ∃ y ∈ P.nds, y.key = s := by
  rw [rep_nds r]
  intro x hx s hs
  obtain ⟨e, he, rfl⟩ := List.mem_map.mp hx
  obtain ⟨e', he', rfl, _⟩ := succs_mem.mp hs
  exact ⟨_, List.mem_map_of_mem (f := fun e : Int × List Int => (⟨e.1, npf N D e.1, succs N e.1⟩ : PN)) he', rfl⟩
theorem flatm_len {α β : Type} {f : α → List β} {n : Nat} : ∀ (l : List α), (∀ a ∈ l, (f a).length ≤ n) → (l.flatMap f).length ≤ l.length * n
  | [], _ => by simp
  | a :: l, h => by
    rw [List.flatMap_cons, List.length_append, List.length_cons, Nat.succ_mul]
    have h1 := h a List.mem_cons_self
    have h2 := flatm_len l fun b hb => h b (List.mem_cons_of_mem _ hb)
    omega
theorem rep_sl {N : Nds} {D : List Int} {P : PS} (g : GN N) (r : Rep N D P) : ∀ x ∈ P.nds, x.succ.length ≤ 1000 := by
  rw [rep_nds r]
  intro x hx
  obtain ⟨e, he, rfl⟩ := List.mem_map.mp hx
  show (succs N e.1).length ≤ 1000
  unfold succs
  have h1 := flatm_len (f := fun e' : Int × List Int => List.replicate (e'.2.count e.1) e'.1) (n := 20) N fun e' he' => by
    rw [List.length_replicate]
    exact Nat.le_trans List.count_le_length (g.len e' he')
  have h2 := g.few
  have h3 : N.length * 20 ≤ 10 * 20 := Nat.mul_le_mul_right 20 h2
  omega
theorem now_len' (N : Nds) (D : List Int) : (nowOf N D).length ≤ N.length := by
  have := (now_sub N D).length_le
  rwa [List.length_map] at this
theorem tells_rep {N : Nds} (g : GN N) (row : List Int) : Tells (fun P => ∃ D, Rep N D P) row where
  step := fun P x _ ⟨D, r⟩ => ⟨_, (rep_step g r x).rep⟩
  sane := fun P ⟨D, r⟩ y hy => by
    rw [rep_nds r] at hy
    obtain ⟨e, he, rfl⟩ := List.mem_map.mp hy
    show -2 ≤ npf N D e.1
    rw [npf_at g.nd D he]
    unfold npv
    split
    · omega
    · split <;> omega
  empty := fun P ⟨D, r⟩ => by rw [r.eq]; rfl
  news := fun P x _ ⟨D, r⟩ k hk => by
    have s := rep_step g r x
    rw [s.rd] at hk
    obtain ⟨e, he, rfl⟩ := now_key (List.mem_filter.mp hk).1
    refine ⟨⟨e.1, npf N D e.1, succs N e.1⟩, ?_, rfl⟩
    rw [rep_nds r]
    exact List.mem_map_of_mem (f := fun e : Int × List Int => (⟨e.1, npf N D e.1, succs N e.1⟩ : PN)) he
  few := fun P x _ ⟨D, r⟩ => by
    have s := rep_step g r x
    rw [s.rd]
    generalize (if bookMsg N D (nowOf N D) x = none then D ++ [x] else D) = D'
    show (newly N D D').length ≤ 50000
    have h1 : (newly N D D').length ≤ (nowOf N D').length := List.length_filter_le _ _
    have h2 := now_len' N D'
    have h3 := g.few
    omega
theorem tells_acc : ∀ (row : List Int) (P : PS) (as : List Ans), row.foldl tellsF (P, as) = ((P.tells row).1, as ++ (P.tells row).2)
  | [], P, as => by show (P, as) = (P, as ++ []); rw [List.append_nil]
  | x :: r, P, as => by
    show r.foldl tellsF ((P.tell x).1, as ++ [(P.tell x).2]) = ((r.foldl tellsF ((P.tell x).1, [] ++ [(P.tell x).2])).1, as ++ (r.foldl tellsF ((P.tell x).1, [] ++ [(P.tell x).2])).2)
    rw [tells_acc r, tells_acc r, List.append_assoc, List.nil_append]
theorem tells_cons (x : Int) (r : List Int) (P : PS) : P.tells (x :: r) = (((P.tell x).1.tells r).1, (P.tell x).2 :: ((P.tell x).1.tells r).2) := by
  show r.foldl tellsF ((P.tell x).1, [] ++ [(P.tell x).2]) = _
  rw [tells_acc]; rfl
theorem tells_len : ∀ (P : PS) (row : List Int), (P.tells row).2.length = row.length
  | P, [] => rfl
  | P, x :: r => by rw [tells_cons, List.length_cons, List.length_cons, tells_len]
theorem tells_keep {I : PS → Prop} : ∀ {row : List Int} (h : Tells I row) {P : PS} (hP : I P), I (P.tells row).1
  | [], _, _, hP => hP
  | x :: r, h, P, hP => by
    rw [tells_cons]
    exact tells_keep (row := r) ⟨fun P y hy => h.step P y (List.mem_cons_of_mem _ hy), h.sane, h.empty, fun P y hy => h.news P y (List.mem_cons_of_mem _ hy), fun P y hy => h.few P y (List.mem_cons_of_mem _ hy)⟩ (h.step P x List.mem_cons_self hP)
noncomputable def nextD (N : Nds) (D : List Int) (x : Int) : List Int := if bookMsg N D (nowOf N D) x = none then D ++ [x] else D
noncomputable def rowD (N : Nds) (D row : List Int) : List Int := row.foldl (nextD N) D
noncomputable def actB (N : Nds) (D : List Int) : Bool := decide (((nowOf N D).length : Int) > D.length)
noncomputable def ansB (N : Nds) (D : List Int) (x : Int) : Ans := ⟨bookMsg N D (nowOf N D) x, actB N (nextD N D x), newly N D (nextD N D x), actB N (nextD N D x)⟩
noncomputable def asB (N : Nds) : List Int → List Int → List Ans
  | _, [] => []
  | D, x :: r => ansB N D x :: asB N (nextD N D x) r
theorem tell_ans {N : Nds} {D : List Int} {P : PS} (g : GN N) (r : Rep N D P) (x : Int) : (P.tell x).2 = ansB N D x := by
  have s := rep_step g r x
  unfold PS.tell ansB
  have h2 : (P.doneN [x]).1.gr.act = actB N (nextD N D x) := s.rep.act
  have h3 : (P.doneN [x]).1.act = actB N (nextD N D x) := s.act
  show (⟨(P.doneN [x]).2, (P.doneN [x]).1.act, (P.doneN [x]).1.ready.getD [], (P.doneN [x]).1.gr.act⟩ : Ans) = _
  rw [s.msg, h3, h2, s.rd]; rfl
theorem tells_as {N : Nds} (g : GN N) : ∀ (row : List Int) {D : List Int} {P : PS}, Rep N D P → (P.tells row).2 = asB N D row ∧ Rep N (rowD N D row) (P.tells row).1
  | [], D, P, r => ⟨rfl, r⟩
  | x :: row, D, P, r => by
    have := tells_as g row (rep_step g r x).rep
    rw [tells_cons, tell_ans g r]
    exact ⟨congrArg _ this.1, this.2⟩
theorem book_as {N : Nds} : ∀ (row : List Int) (D : List Int) (as : List Ans), row.foldl (bookStep N) ⟨D, nowOf N D, as⟩ = ⟨rowD N D row, nowOf N (rowD N D row), as ++ asB N D row⟩
  | [], D, as => by show _ = (⟨D, nowOf N D, as ++ []⟩ : Bk); rw [List.append_nil]; rfl
  | x :: row, D, as => by
    show row.foldl (bookStep N) ⟨nextD N D x, nowOf N (nextD N D x), as ++ [ansB N D x]⟩ = _
    rw [book_as row, List.append_assoc]; rfl
theorem book_is (N : Nds) (row : List Int) : book N row = ⟨rowD N [] row, nowOf N (rowD N [] row), asB N [] row⟩ := by
  unfold book
  rw [frees0_now, book_as, List.nil_append]
theorem asB_app {N : Nds} : ∀ (a b D : List Int), asB N D (a ++ b) = asB N D a ++ asB N (rowD N D a) b
  | [], _, _ => rfl
  | x :: a, b, D => by
    show ansB N D x :: asB N (nextD N D x) (a ++ b) = ansB N D x :: (asB N (nextD N D x) a ++ asB N (rowD N (nextD N D x) a) b)
    rw [asB_app a]
theorem rowD_app {N : Nds} (a b D : List Int) : rowD N D (a ++ b) = rowD N (rowD N D a) b := List.foldl_append
theorem asB_len {N : Nds} : ∀ (a D : List Int), (asB N D a).length = a.length
  | [], _ => rfl
  | x :: a, D => by show (asB N _ a).length + 1 = _; rw [asB_len a]; rfl
end
section
set_option maxRecDepth 100000
set_option Elab.async false
set_option linter.unusedVariables false
open PySem PySem.W PySem.Calls PyProof.Rows PySem.SeqAt
noncomputable def minus (N : Nds) (D : List Int) : Nds := (N.filter fun e => !decide (e.1 ∈ D)).map fun e => (e.1, lack D e)
noncomputable def ans0 : Ans := ⟨none, false, [], false⟩
noncomputable def didOf (row : List Int) (as : List Ans) (h : Nat) : List Int := ((upTo h).filter fun k => (as.getD k.toNat ans0).msg.isNone).map fun k => row.getD k.toNat 0
noncomputable def later (D row : List Int) : List Int := row.filter fun x => !decide (x ∈ D)
noncomputable def doneA (N : Nds) (rowA : List Int) : List Int := (book N rowA).D
noncomputable def given (N : Nds) (rowA : List Int) : List Int := frees0 N ++ ((P1 N).tells rowA).2.flatMap (·.rs)
theorem minus_keys (N : Nds) (D : List Int) : (minus N D).map (·.1) = (N.map (·.1)).filter fun k => !decide (k ∈ D) := by
  unfold minus
  rw [List.map_map, List.filter_map]; rfl
theorem mem_minus {N : Nds} {D : List Int} {e : Int × List Int} : e ∈ minus N D ↔ ∃ e0 ∈ N, e0.1 ∉ D ∧ e = (e0.1, lack D e0) := by
  unfold minus
  rw [List.mem_map]
  constructor
  · rintro ⟨e0, h, rfl⟩
    obtain ⟨h1, h2⟩ := List.mem_filter.mp h
    exact ⟨e0, h1, by simpa using h2, rfl⟩
  · rintro ⟨e0, h1, h2, rfl⟩
    exact ⟨e0, List.mem_filter.mpr ⟨h1, by simpa using h2⟩, rfl⟩
theorem mem_lack {D : List Int} {e : Int × List Int} {a : Int} : a ∈ lack D e ↔ a ∈ e.2 ∧ a ∉ D := by
  unfold lack
  rw [List.mem_filter]
  simp
theorem gn_minus {N : Nds} (g : GN N) (D : List Int) : GN (minus N D) where
  nd := by rw [minus_keys]; exact g.nd.filter _
  srt := by rw [minus_keys]; exact g.srt.filter _
  cl e he a ha := by
    obtain ⟨e0, h0, h1, rfl⟩ := mem_minus.mp he
    obtain ⟨q1, q2⟩ := mem_lack.mp ha
    rw [minus_keys, List.mem_filter]
    exact ⟨g.cl e0 h0 a q1, by simpa using q2⟩
  few := by
    unfold minus
    rw [List.length_map]
    exact Nat.le_trans (List.length_filter_le _ _) g.few
  len e he := by
    obtain ⟨e0, h0, h1, rfl⟩ := mem_minus.mp he
    exact Nat.le_trans (List.length_filter_le _ _) (g.len e0 h0)
theorem next_some {N : Nds} {D : List Int} {x : Int} (h : bookMsg N D (nowOf N D) x = none) : x ∈ N.map (·.1) ∧ x ∉ D ∧ x ∈ nowOf N D := by
  unfold bookMsg at h
  by_cases c1 : x ∈ N.map (·.1)
  · rw [if_neg (fun z => z c1)] at h
    by_cases c2 : x ∈ D
    · rw [if_pos c2] at h; cases h
    · rw [if_neg c2] at h
      by_cases c3 : x ∈ nowOf N D
      · exact ⟨c1, c2, c3⟩
      · rw [if_pos c3] at h; cases h
  · rw [if_pos c1] at h; cases h
theorem now_mono {N : Nds} (g : GN N) {D D' : List Int} (h : ∀ x ∈ D, x ∈ D') {x : Int} (hx : x ∈ nowOf N D) : x ∈ nowOf N D' := by
  obtain ⟨e, he, rfl⟩ := now_key hx
  have h1 := (now_iff g.nd D he).mp hx
  refine (now_iff g.nd D' he).mpr ?_
  rw [List.length_eq_zero_iff] at h1 ⊢
  refine List.filter_eq_nil_iff.mpr fun a ha z => ?_
  have z : a ∉ D' := by simpa using z
  have : a ∈ lack D e := mem_lack.mpr ⟨ha, fun q => z (h a q)⟩
  rw [h1] at this; cases this
theorem now_need {N : Nds} (g : GN N) {D : List Int} {e : Int × List Int} (he : e ∈ N) : e.1 ∈ nowOf N D ↔ ∀ a ∈ e.2, a ∈ D := by
  rw [now_iff g.nd D he, List.length_eq_zero_iff]
  constructor
  · intro h a ha
    by_cases c : a ∈ D
    · exact c
    · have : a ∈ lack D e := mem_lack.mpr ⟨ha, c⟩
      rw [h] at this; cases this
  · intro h
    exact List.filter_eq_nil_iff.mpr fun a ha z => by
      have z : a ∉ D := by simpa using z
      exact z (h a ha)
structure Okd (N : Nds) (D : List Int) : Prop where
  nd : D.Nodup
  sub : ∀ x ∈ D, x ∈ nowOf N D
theorem okd_nil (N : Nds) : Okd N [] := ⟨List.nodup_nil, nofun⟩
theorem next_sub {N : Nds} {D : List Int} {x : Int} : ∀ y ∈ D, y ∈ nextD N D x := fun y hy => by
  unfold nextD
  split
  · exact List.mem_append_left _ hy
  · exact hy
theorem okd_next {N : Nds} (g : GN N) {D : List Int} (o : Okd N D) (x : Int) : Okd N (nextD N D x) := by
  have hs := next_sub (N := N) (D := D) (x := x)
  unfold nextD at hs ⊢
  by_cases c : bookMsg N D (nowOf N D) x = none
  · rw [if_pos c] at hs ⊢
    obtain ⟨h1, h2, h3⟩ := next_some c
    refine ⟨List.nodup_append.mpr ⟨o.nd, by simp, fun a ha b hb q => by rw [List.mem_singleton.mp hb] at q; exact h2 (q ▸ ha)⟩, fun y hy => ?_⟩
    rcases List.mem_append.mp hy with hy | hy
    · exact now_mono g hs (o.sub y hy)
    · rw [List.mem_singleton.mp hy]; exact now_mono g hs h3
  · rw [if_neg c]; exact o
theorem okd_row {N : Nds} (g : GN N) : ∀ (row : List Int) {D : List Int}, Okd N D → Okd N (rowD N D row)
  | [], D, o => o
  | x :: row, D, o => okd_row g row (okd_next g o x)
theorem didOf_succ {row : List Int} {as : List Ans} {h : Nat} : didOf row as (h + 1) = didOf row as h ++ if (as.getD h ans0).msg.isNone then [row.getD h 0] else [] := by
  unfold didOf upTo
  have e1 : (((h + 1 : Nat) : Int)).toNat = h + 1 := rfl
  have e2 : ((h : Nat) : Int).toNat = h := rfl
  rw [e1, e2, List.range_succ, List.map_append, List.filter_append, List.map_append]
  congr 1
  show (List.filter _ [((h : Nat) : Int)]).map _ = _
  by_cases c : (as.getD h ans0).msg.isNone = true
  · rw [if_pos c, List.filter_cons_of_pos (by exact c)]; rfl
  · rw [if_neg c, List.filter_cons_of_neg (by exact c)]; rfl
theorem didOf_congr {row row' : List Int} {as as' : List Ans} : ∀ (h : Nat), (∀ k, k < h → row.getD k 0 = row'.getD k 0) → (∀ k, k < h → as.getD k ans0 = as'.getD k ans0) → didOf row as h = didOf row' as' h
  | 0, _, _ => rfl
  | h + 1, h1, h2 => by rw [didOf_succ, didOf_succ, didOf_congr h (fun k hk => h1 k (Nat.lt_succ_of_lt hk)) (fun k hk => h2 k (Nat.lt_succ_of_lt hk)), h1 h (Nat.lt_succ_self h), h2 h (Nat.lt_succ_self h)]
theorem did_row {N : Nds} (row : List Int) : ∀ (h : Nat), h ≤ row.length → didOf row (asB N [] (row.take h)) h = rowD N [] (row.take h)
  | 0, _ => rfl
  | h + 1, hh => by
    have hlt : h < row.length := hh
    have e1 : row.take (h + 1) = row.take h ++ [row[h]] := by rw [List.take_add_one, List.getElem?_eq_getElem hlt]; rfl
    have hl : (asB N [] (row.take h)).length = h := by rw [asB_len, List.length_take]; omega
    rw [e1, asB_app, rowD_app, didOf_succ]
    have e2 : didOf row (asB N [] (row.take h) ++ asB N (rowD N [] (row.take h)) [row[h]]) h = didOf row (asB N [] (row.take h)) h := didOf_congr h (fun _ _ => rfl) fun k hk => by
      rw [List.getD_eq_getElem?_getD, List.getD_eq_getElem?_getD, List.getElem?_append_left (by omega)]
    have e3 : (asB N [] (row.take h) ++ asB N (rowD N [] (row.take h)) [row[h]]).getD h ans0 = ansB N (rowD N [] (row.take h)) row[h] := by
      rw [List.getD_eq_getElem?_getD, List.getElem?_append_right (by omega), hl, Nat.sub_self]; rfl
    have e4 : row.getD h 0 = row[h] := by rw [List.getD_eq_getElem?_getD, List.getElem?_eq_getElem hlt]; rfl
    rw [e2, did_row row h (Nat.le_of_lt hlt), e3, e4]
    generalize rowD N [] (row.take h) = D
    generalize row[h] = x
    show D ++ (if (bookMsg N D (nowOf N D) x).isNone then [x] else []) = nextD N D x
    unfold nextD
    cases bookMsg N D (nowOf N D) x with
    | none => rfl
    | some m => rw [if_neg nofun]; exact List.append_nil D
theorem did_is {N : Nds} (g : GN N) (row : List Int) (h : Nat) (hh : h ≤ row.length) : didOf row ((P1 N).tells (row.take h)).2 h = doneA N (row.take h) := by
  rw [(tells_as g (row.take h) (rep_bld g)).1, did_row row h hh]
  unfold doneA
  rw [book_is]
theorem lay10 (m : Str) (hm : ∀ k : Fin 10, PyData.canLay0 (.str ("node " ++ txt (k.val : Int) ++ m)) = true) {x : Int} (h : 0 ≤ x ∧ x < 10) : PyData.canLay0 (.str ("node " ++ txt x ++ m)) = true := by
  have h1 := hm ⟨x.toNat, by omega⟩
  have e : ((x.toNat : Nat) : Int) = x := by omega
  have h1 : PyData.canLay0 (.str ("node " ++ txt ((x.toNat : Nat) : Int) ++ m)) = true := h1
  rw [e] at h1
  exact h1
theorem lay_m1 : ∀ k : Fin 10, PyData.canLay0 (.str ("node " ++ txt (k.val : Int) ++ " was not added using add()")) = true := by decide +kernel
theorem lay_m2 : ∀ k : Fin 10, PyData.canLay0 (.str ("node " ++ txt (k.val : Int) ++ " was already marked done")) = true := by decide +kernel
theorem lay_m3 : ∀ k : Fin 10, PyData.canLay0 (.str ("node " ++ txt (k.val : Int) ++ " was not passed out (still not ready)")) = true := by decide +kernel
theorem msg_lay {x : Int} (h : 0 ≤ x ∧ x < 10) {N : Nds} {D F : List Int} {s : Str} (hs : bookMsg N D F x = some s) : PyData.canLay0 (.str s) = true := by
  unfold bookMsg at hs
  by_cases c1 : x ∉ N.map (·.1)
  · rw [if_pos c1] at hs
    rw [← Option.some.inj hs]; exact lay10 _ lay_m1 h
  · rw [if_neg c1] at hs
    by_cases c2 : x ∈ D
    · rw [if_pos c2] at hs
      rw [← Option.some.inj hs]; exact lay10 _ lay_m2 h
    · rw [if_neg c2] at hs
      by_cases c3 : x ∉ F
      · rw [if_pos c3] at hs
        rw [← Option.some.inj hs]; exact lay10 _ lay_m3 h
      · rw [if_neg c3] at hs; exact absurd hs nofun
theorem asB_at {N : Nds} {P : Ans → Prop} : ∀ {row D : List Int}, (∀ x ∈ row, ∀ D, P (ansB N D x)) → ∀ a ∈ asB N D row, P a
  | [], _, _, a, ha => by cases ha
  | x :: r, D, h, a, ha => by
    rcases List.mem_cons.mp ha with rfl | ha
    · exact h x List.mem_cons_self D
    · exact asB_at (fun y hy => h y (List.mem_cons_of_mem _ hy)) a ha
theorem tells_ok' {N : Nds} {D : List Int} {P : PS} (g : GN N) (r : Rep N D P) {row : List Int} (h10 : ∀ k ∈ row, 0 ≤ k ∧ k < 10) : ∀ a ∈ (P.tells row).2, ∀ s, a.msg = some s → PyData.canLay0 (.str s) = true := by
  rw [(tells_as g row r).1]
  exact asB_at fun x hx D s hs => msg_lay (h10 x hx) hs
theorem now_split {N : Nds} (g : GN N) {D D' : List Int} (h : ∀ x ∈ D, x ∈ D') : (nowOf N D ++ newly N D D').Perm (nowOf N D') := by
  have : nowOf N D = (nowOf N D').filter fun y => decide (y ∈ nowOf N D) := by
    conv => lhs; unfold nowOf
    conv => rhs; rhs; unfold nowOf
    rw [List.filter_map, List.filter_filter]
    congr 1
    refine List.filter_congr fun e he => ?_
    have h1 := now_iff g.nd D he
    have h2 : e.1 ∈ nowOf N D → e.1 ∈ nowOf N D' := now_mono g h
    have h3 := now_iff g.nd D' he
    have h6 : ∀ D, ((e.2.filter fun a => !decide (a ∈ D)) == []) = decide (e.1 ∈ nowOf N D) := fun D => by
      rw [Bool.eq_iff_iff]
      simp only [beq_iff_eq, decide_eq_true_eq]
      exact List.length_eq_zero_iff.symm.trans (now_iff g.nd D he).symm
    simp only [Function.comp]
    rw [h6, h6, Bool.eq_iff_iff, Bool.and_eq_true]
    simp only [decide_eq_true_eq]
    exact ⟨fun z => ⟨z, h2 z⟩, fun z => z.1⟩
  have h4 := List.filter_append_perm (fun y => decide (y ∈ nowOf N D)) (nowOf N D')
  rw [← this] at h4
  exact h4
theorem given_perm {N : Nds} (g : GN N) : ∀ (row D : List Int), (nowOf N D ++ (asB N D row).flatMap (·.rs)).Perm (nowOf N (rowD N D row))
  | [], D => by show (nowOf N D ++ []).Perm _; rw [List.append_nil]; exact .refl _
  | x :: row, D => by
    show (nowOf N D ++ (newly N D (nextD N D x) ++ (asB N (nextD N D x) row).flatMap (·.rs))).Perm _
    rw [← List.append_assoc]
    exact ((now_split g next_sub).append_right _).trans (given_perm g row _)
theorem given_is {N : Nds} (g : GN N) (rowA : List Int) : (given N rowA).Perm (nowOf N (doneA N rowA)) := by
  unfold given doneA
  rw [(tells_as g rowA (rep_bld g)).1, book_is, frees0_now]
  exact given_perm g rowA []
theorem given_len {N : Nds} (g : GN N) (rowA : List Int) : (given N rowA).length ≤ 10 := by
  rw [(given_is g rowA).length_eq]
  exact Nat.le_trans (now_len' N _) g.few
theorem lack_lack (D E : List Int) (e : Int × List Int) : (lack D e).filter (fun a => !decide (a ∈ E)) = e.2.filter fun a => !decide (a ∈ D ++ E) := by
  unfold lack
  rw [List.filter_filter]
  refine List.filter_congr fun a _ => ?_
  rw [Bool.eq_iff_iff]
  simp only [Bool.and_eq_true, Bool.not_eq_true', decide_eq_false_iff_not, List.mem_append, not_or]
  exact And.comm
theorem now_minus (N : Nds) (D E : List Int) : nowOf (minus N D) E = (nowOf N (D ++ E)).filter fun k => !decide (k ∈ D) := by
  unfold nowOf minus
  rw [List.filter_map, List.filter_map, List.map_map, List.filter_filter, List.filter_filter]
  congr 1
  refine List.filter_congr fun e _ => ?_
  simp only [Function.comp]
  rw [lack_lack, Bool.and_comm]
theorem frees_minus (N : Nds) (D : List Int) : frees0 (minus N D) = (nowOf N D).filter fun k => !decide (k ∈ D) := by
  rw [frees0_now, now_minus, List.append_nil]
theorem waits_is {N : Nds} (g : GN N) (rowA ns : List Int) (h : ns.Perm ((given N rowA).filter fun x => !decide (x ∈ doneA N rowA))) (hs : ns.Pairwise (· ≤ ·)) : (bld (minus N (doneA N rowA))).frees = ns := by
  rw [first_is (gn_minus g _), frees_minus]
  have h1 := h.trans ((given_is g rowA).filter _)
  refine (h1.eq_of_pairwise (le := (· ≤ ·)) (fun a b _ _ h1 h2 => Int.le_antisymm h1 h2) hs ?_).symm
  exact ((g.srt.sublist (now_sub N _))).filter _
structure Alike (N : Nds) (D E : List Int) : Prop where
  o : Okd N (D ++ E)
  oD : Okd N D
theorem len_split {D l : List Int} (hD : D.Nodup) (hl : l.Nodup) (h : ∀ x ∈ D, x ∈ l) : l.length = D.length + (l.filter fun k => !decide (k ∈ D)).length := by
  have h1 := (List.filter_append_perm (fun y => decide (y ∈ D)) l).length_eq
  rw [List.length_append] at h1
  have h2 : ((l.filter fun y => decide (y ∈ D))).Perm D := by
    refine (List.perm_ext_iff_of_nodup (hl.filter _) hD).mpr fun a => ?_
    rw [List.mem_filter]
    simp only [decide_eq_true_eq]
    exact ⟨fun z => z.2, fun z => ⟨h a z, z⟩⟩
  rw [h2.length_eq] at h1
  omega
theorem now_nodup {N : Nds} (g : GN N) (D : List Int) : (nowOf N D).Nodup := g.nd.sublist (now_sub N D)
theorem act_minus {N : Nds} (g : GN N) {D E : List Int} (o : Okd N (D ++ E)) : actB (minus N D) E = actB N (D ++ E) := by
  unfold actB
  have h1 := List.nodup_append.mp o.nd
  have h2 := len_split h1.1 (now_nodup g (D ++ E)) fun x hx => o.sub x (List.mem_append_left _ hx)
  rw [now_minus, h2, List.length_append, Bool.eq_iff_iff]
  simp only [decide_eq_true_eq]
  push_cast
  omega
theorem msg_minus {N : Nds} {D E : List Int} {x : Int} (hx : x ∉ D) : bookMsg (minus N D) E (nowOf (minus N D) E) x = bookMsg N (D ++ E) (nowOf N (D ++ E)) x := by
  unfold bookMsg
  have e1 : x ∉ (minus N D).map (·.1) ↔ x ∉ N.map (·.1) := by
    rw [minus_keys, List.mem_filter]
    simp [hx]
  have e2 : x ∈ D ++ E ↔ x ∈ E := by simp [hx]
  have e3 : x ∉ nowOf (minus N D) E ↔ x ∉ nowOf N (D ++ E) := by
    rw [now_minus, List.mem_filter]
    simp [hx]
  simp only [e1, e2, e3]
theorem next_minus {N : Nds} {D E : List Int} {x : Int} (hx : x ∉ D) : nextD N (D ++ E) x = D ++ nextD (minus N D) E x := by
  unfold nextD
  rw [msg_minus hx]
  split
  · rw [List.append_assoc]
  · rfl
theorem newly_minus {N : Nds} (g : GN N) {D E E' : List Int} (o : Okd N (D ++ E)) : newly (minus N D) E E' = newly N (D ++ E) (D ++ E') := by
  unfold newly
  rw [now_minus, now_minus, List.filter_filter]
  refine List.filter_congr fun y _ => ?_
  have : y ∈ D → y ∈ nowOf N (D ++ E) := fun z => o.sub y (List.mem_append_left _ z)
  rw [Bool.eq_iff_iff]
  simp only [Bool.and_eq_true, Bool.not_eq_true', decide_eq_false_iff_not, List.mem_filter]
  constructor
  · intro ⟨z1, z2⟩ z3
    exact z1 ⟨z3, z2⟩
  · intro z
    exact ⟨fun q => z q.1, fun q => z (this q)⟩
theorem ans_minus {N : Nds} (g : GN N) {D E : List Int} {x : Int} (o : Okd N (D ++ E)) (hx : x ∉ D) : ansB (minus N D) E x = ansB N (D ++ E) x := by
  have o' := okd_next g o x
  rw [next_minus hx] at o'
  unfold ansB
  rw [msg_minus hx, next_minus hx, act_minus g o', newly_minus g o]
theorem as_minus {N : Nds} (g : GN N) {D : List Int} : ∀ (row : List Int) {E : List Int}, Okd N (D ++ E) → (∀ x ∈ row, x ∉ D) → asB (minus N D) E row = asB N (D ++ E) row
  | [], _, _, _ => rfl
  | x :: r, E, o, h => by
    show ansB (minus N D) E x :: asB (minus N D) (nextD (minus N D) E x) r = ansB N (D ++ E) x :: asB N (nextD N (D ++ E) x) r
    have hx := h x List.mem_cons_self
    have o' := okd_next g o x
    rw [next_minus hx] at o' ⊢
    rw [ans_minus g o hx, as_minus g r o' fun y hy => h y (List.mem_cons_of_mem _ hy)]
theorem other_is {N : Nds} (g : GN N) (rowA rowB : List Int) : ((P1 (minus N (doneA N rowA))).tells (later (doneA N rowA) rowB)).2 = (((P1 N).tells rowA).1.tells (later (doneA N rowA) rowB)).2 := by
  have h1 := tells_as g rowA (rep_bld g)
  have e : doneA N rowA = rowD N [] rowA := by unfold doneA; rw [book_is]
  rw [e]
  have o := okd_row g rowA (okd_nil N)
  rw [(tells_as g _ h1.2).1, (tells_as (gn_minus g _) _ (rep_bld (gn_minus g _))).1]
  generalize rowD N [] rowA = D at o
  have := as_minus g (D := D) (later D rowB) (E := []) (by rw [List.append_nil]; exact o) fun x hx => by
    have := (List.mem_filter.mp hx).2
    simpa using this
  rw [this, List.append_nil]
theorem all_is {N : Nds} (g : GN N) (rowA rowB : List Int) : ((P1 N).tells rowA).2 ++ (((P1 N).tells rowA).1.tells (later (doneA N rowA) rowB)).2 = (book N (rowA ++ later (doneA N rowA) rowB)).as := by
  have h1 := tells_as g rowA (rep_bld g)
  rw [book_is, asB_app, h1.1, (tells_as g _ h1.2).1]
noncomputable def RingSet (N : Nds) (C : List Int) : Prop := C ≠ [] ∧ ∀ c ∈ C, ∃ e ∈ N, e.1 = c ∧ ∃ a ∈ e.2, a ∈ C
theorem bld_nds {N : Nds} (g : GN N) : ∃ f : Int → Int, (bld N).nds = N.map fun e => ⟨e.1, f e.1, succs N e.1⟩ := by
  obtain ⟨f, h, _⟩ := bld_mk g
  exact ⟨f, by rw [h]; rfl⟩
theorem ring_iff {N : Nds} (g : GN N) : (bld N).Ring ↔ ∃ C, RingSet N C := by
  obtain ⟨f, h⟩ := bld_nds g
  unfold PS.Ring
  rw [h]
  refine exists_congr fun C => and_congr Iff.rfl (forall_congr' fun c => imp_congr Iff.rfl ?_)
  constructor
  · rintro ⟨x, hx, h1, h2⟩
    obtain ⟨e, he, rfl⟩ := List.mem_map.mp hx
    obtain ⟨e', he', q, h3⟩ := succs_mem.mp h2
    exact ⟨e', he', q.symm, e.1, h3, h1⟩
  · rintro hx0_; refine ex1and3 hx0_ fun e he y2_ y3_ => ?_; try clear hx0_; obtain rfl := y2_; obtain ⟨a, ha, hC⟩ := y3_
    obtain ⟨e', he', rfl⟩ := List.mem_map.mp (g.cl e he a ha)
    exact ⟨_, List.mem_map_of_mem (f := fun e : Int × List Int => (⟨e.1, f e.1, succs N e.1⟩ : PN)) he', hC, succs_mem.mpr ⟨e, he, rfl, ha⟩⟩
theorem tp_in {P : PS} {l : List Int} (t : Tp P l) : ∀ k ∈ l, ∃ x ∈ P.nds, x.key = k ∧ ∀ s ∈ x.succ, s ∈ l := by
  induction t with
  | nil => exact nofun
  | snoc t hx hs ih =>
    intro k hk
    rcases List.mem_append.mp hk with hk | hk
    · obtain ⟨x, h1, h2, h3⟩ := ih k hk
      exact ⟨x, h1, h2, fun s h => List.mem_append_left _ (h3 s h)⟩
    · rw [List.mem_singleton.mp hk]
      exact ⟨_, hx, rfl, fun s h => List.mem_append_left _ (hs s h)⟩
theorem tp_ring {P : PS} (hu : ∀ x ∈ P.nds, ∀ y ∈ P.nds, x.key = y.key → x = y) {C : List Int} (hC : C ≠ []) (h : ∀ c ∈ C, ∃ x ∈ P.nds, x.key ∈ C ∧ c ∈ x.succ) {l : List Int} (t : Tp P l) : ¬ ∀ c ∈ C, c ∈ l := by
  induction t with
  | nil =>
    intro z
    cases C with
    | nil => exact hC rfl
    | cons a _ => cases z a List.mem_cons_self
  | @snoc l x t hx hs ih =>
    intro z
    by_cases c1 : x.key ∈ l
    · exact ih fun c hc => (List.mem_append.mp (z c hc)).elim id fun q => by rw [List.mem_singleton.mp q]; exact c1
    · by_cases c2 : x.key ∈ C
      · obtain ⟨y, hy, h1, h2⟩ := h _ c2
        rcases List.mem_append.mp (z _ h1) with q | q
        · obtain ⟨y', hy', e, h3⟩ := tp_in t _ q
          rw [hu y' hy' y hy e] at h3
          exact c1 (h3 _ h2)
        · have := hu y hy x hx (List.mem_singleton.mp q)
          subst this
          exact c1 (hs _ h2)
      · exact ih fun c hc => (List.mem_append.mp (z c hc)).elim id fun q => by
          rw [List.mem_singleton.mp q] at hc; exact absurd hc c2
theorem topo_not {N : Nds} (g : GN N) (h : (bld N).Topo) : ¬ (bld N).Ring := by
  rintro ⟨C, hC, hr⟩
  obtain ⟨fin, t, hf⟩ := h
  obtain ⟨f, hn⟩ := bld_nds g
  refine tp_ring ?_ hC hr t ?_
  · rw [hn]
    intro x hx y hy q
    obtain ⟨e, he, rfl⟩ := List.mem_map.mp hx
    obtain ⟨e', he', rfl⟩ := List.mem_map.mp hy
    have q : e.1 = e'.1 := q
    show (⟨e.1, f e.1, succs N e.1⟩ : PN) = ⟨e'.1, f e'.1, succs N e'.1⟩
    rw [q]
  · intro c hc
    obtain ⟨x, hx, h1, h2⟩ := hr c hc
    rw [hn] at hx
    obtain ⟨e, he, rfl⟩ := List.mem_map.mp hx
    obtain ⟨e', he', rfl, _⟩ := succs_mem.mp h2
    exact hf ⟨e'.1, f e'.1, succs N e'.1⟩ (by rw [hn]; exact List.mem_map_of_mem (f := fun e : Int × List Int => (⟨e.1, f e.1, succs N e.1⟩ : PN)) he')
noncomputable def Away (N : Nds) (C F : List Int) : Prop := ∀ c ∈ C, c ∉ F
theorem away_now {N : Nds} (g : GN N) {C F : List Int} (r : RingSet N C) (h : Away N C F) : Away N C (nowOf N F) := by
  intro c hc z
  refine ex1and3 (r.2 c hc) fun e he y2_ y3_ => ?_; obtain rfl := y2_; obtain ⟨a, ha, haC⟩ := y3_
  exact h a haC ((now_need g he).mp z a ha)
theorem away_next {N : Nds} (g : GN N) {C D : List Int} (r : RingSet N C) (h : Away N C D) (x : Int) : Away N C (nextD N D x) := by
  unfold nextD
  by_cases c : bookMsg N D (nowOf N D) x = none
  · rw [if_pos c]
    intro k hk z
    rcases List.mem_append.mp z with z | z
    · exact h k hk z
    · rw [List.mem_singleton.mp z] at hk
      exact away_now g r h x hk (next_some c).2.2
  · rw [if_neg c]; exact h
theorem away_row {N : Nds} (g : GN N) {C : List Int} (r : RingSet N C) : ∀ (row : List Int) {D : List Int}, Away N C D → Away N C (rowD N D row)
  | [], _, h => h
  | x :: row, _, h => away_row g r row (away_next g r h x)
theorem ring_minus {N : Nds} (g : GN N) (row : List Int) : (∃ C, RingSet (minus N (rowD N [] row)) C) ↔ ∃ C, RingSet N C := by
  constructor
  · rintro ⟨C, hC, r⟩
    refine ⟨C, hC, fun c hc => ?_⟩
    refine ex1and3 (r c hc) fun e he y2_ y3_ => ?_; obtain rfl := y2_; obtain ⟨a, ha, haC⟩ := y3_
    obtain ⟨e0, h0, h1, rfl⟩ := mem_minus.mp he
    exact ⟨e0, h0, rfl, a, (mem_lack.mp ha).1, haC⟩
  · rintro ⟨C, r⟩
    have ha := away_row g r row (D := []) fun _ _ => List.not_mem_nil
    refine ⟨C, r.1, fun c hc => ?_⟩
    refine ex1and3 (r.2 c hc) fun e he y2_ y3_ => ?_; obtain rfl := y2_; obtain ⟨a, h1, h2⟩ := y3_
    exact ⟨(e.1, lack _ e), mem_minus.mpr ⟨e, he, ha _ hc, rfl⟩, rfl, a, mem_lack.mpr ⟨h1, ha a h2⟩, h2⟩
theorem ring_same {N : Nds} (g : GN N) (rowA : List Int) {b b2 : Bool} (h1 : b = true → (bld N).Ring) (h2 : b = false → (bld N).Topo) (h3 : b2 = true → (bld (minus N (doneA N rowA))).Ring) (h4 : b2 = false → (bld (minus N (doneA N rowA))).Topo) : b2 = b := by
  have e : doneA N rowA = rowD N [] rowA := by unfold doneA; rw [book_is]
  rw [e] at h3 h4
  have gm := gn_minus g (rowD N [] rowA)
  have hr := ring_minus g rowA
  cases b with
  | true =>
    cases b2 with
    | true => rfl
    | false => exact absurd ((ring_iff gm).mpr (hr.mpr ((ring_iff g).mp (h1 rfl)))) (topo_not gm (h4 rfl))
  | false =>
    cases b2 with
    | false => rfl
    | true => exact absurd ((ring_iff g).mpr (hr.mp ((ring_iff gm).mp (h3 rfl)))) (topo_not g (h2 rfl))
theorem sweep_succ (N : Nds) (F : List Int) (n : Nat) : sweep N F (n + 1) = nowOf N (sweep N F n) := rfl
theorem sweep_away {N : Nds} (g : GN N) {C F : List Int} (r : RingSet N C) (h : Away N C F) : ∀ n, Away N C (sweep N F n)
  | 0 => h
  | n + 1 => away_now g r (sweep_away g r h n)
theorem now_eq_len {N : Nds} (g : GN N) {F F' : List Int} (h : ∀ x ∈ F, x ∈ F') (hl : (nowOf N F').length ≤ (nowOf N F).length) : ∀ x ∈ nowOf N F', x ∈ nowOf N F := by
  have h1 := (now_split g h).length_eq
  rw [List.length_append] at h1
  have h2 : newly N F F' = [] := List.length_eq_zero_iff.mp (by omega)
  intro x hx
  by_cases c : x ∈ nowOf N F
  · exact c
  · have : x ∈ newly N F F' := List.mem_filter.mpr ⟨hx, by simp [c]⟩
    rw [h2] at this; cases this
theorem sweep_up {N : Nds} (g : GN N) {D : List Int} (h : ∀ x ∈ D, x ∈ nowOf N D) : ∀ n, (∀ x ∈ sweep N (nowOf N D) n, x ∈ sweep N (nowOf N D) (n + 1)) ∧ (∃ F, sweep N (nowOf N D) n = nowOf N F ∧ ∀ x ∈ F, x ∈ sweep N (nowOf N D) n) ∧ ((∀ x, x ∈ sweep N (nowOf N D) (n + 1) → x ∈ sweep N (nowOf N D) n) ∨ n ≤ (sweep N (nowOf N D) n).length)
  | 0 => ⟨fun x hx => now_mono g h hx, ⟨D, rfl, h⟩, .inr (Nat.zero_le _)⟩
  | n + 1 => by
    obtain ⟨h1, ⟨F, e, hF⟩, h2⟩ := sweep_up g h n
    refine ⟨fun x hx => now_mono g h1 hx, ⟨_, rfl, h1⟩, ?_⟩
    by_cases c : ∀ x, x ∈ sweep N (nowOf N D) (n + 1) → x ∈ sweep N (nowOf N D) n
    · refine .inl fun x hx => ?_
      exact now_mono g c hx
    · refine .inr ?_
      have h2 := h2.resolve_left c
      have h3 : ¬ (nowOf N (sweep N (nowOf N D) n)).length ≤ (nowOf N F).length := fun z => c fun x hx => by
        rw [e]; exact now_eq_len g hF z x hx
      rw [← e] at h3
      show n + 1 ≤ (nowOf N (sweep N (nowOf N D) n)).length
      omega
theorem ring_is {N : Nds} (g : GN N) (row : List Int) {b : Bool} (h1 : b = true → (bld N).Ring) (h2 : b = false → (bld N).Topo) : decide (((sweep N (book N row).F N.length).length : Int) < N.length) = b := by
  rw [book_is]
  show decide (((sweep N (nowOf N (rowD N [] row)) N.length).length : Int) < N.length) = b
  have o := okd_row g row (okd_nil N)
  have hup := sweep_up g o.sub N.length
  cases b with
  | true =>
    obtain ⟨C, r⟩ := (ring_iff g).mp (h1 rfl)
    have ha := away_now g r (away_row g r row (D := []) fun _ _ => List.not_mem_nil)
    have hs := sweep_away g r ha N.length
    obtain ⟨_, ⟨F, e, _⟩, _⟩ := hup
    rw [e] at hs ⊢
    have hsub := now_sub N F
    cases C with
    | nil => exact absurd rfl r.1
    | cons c C =>
      obtain ⟨e', he', q, _⟩ := r.2 c List.mem_cons_self
      have hc : c ∉ nowOf N F := hs c List.mem_cons_self
      have h3 : (c :: nowOf N F).length ≤ (N.map (·.1)).length := nodup_le (List.nodup_cons.mpr ⟨hc, now_nodup g F⟩) fun x hx => by
        rcases List.mem_cons.mp hx with rfl | hx
        · rw [← q]; exact key_mem he'
        · exact hsub.mem hx
      rw [List.length_map, List.length_cons] at h3
      rw [decide_eq_true_eq]
      omega
  | false =>
    have hn := topo_not g (h2 rfl)
    rw [decide_eq_false_iff_not]
    intro hlt
    obtain ⟨h3, ⟨F, e, hF⟩, h4⟩ := hup
    have h4 := h4.resolve_right (by omega)
    generalize hS : sweep N (nowOf N (rowD N [] row)) N.length = S at *
    have h4 : ∀ x ∈ nowOf N S, x ∈ S := fun x hx => h4 x (by rw [sweep_succ, hS]; exact hx)
    refine hn ((ring_iff g).mpr ⟨(N.map (·.1)).filter fun k => !decide (k ∈ S), ?_, ?_⟩)
    · intro z
      have : (N.map (·.1)).length ≤ S.length := nodup_le g.nd fun x hx => by
        have := List.filter_eq_nil_iff.mp z x hx
        simpa using this
      rw [List.length_map] at this
      omega
    · intro c hc
      obtain ⟨hc1, hc2⟩ := List.mem_filter.mp hc
      obtain ⟨e', he', rfl⟩ := List.mem_map.mp hc1
      have hc2 : e'.1 ∉ S := by simpa using hc2
      have : e'.1 ∉ nowOf N S := fun z => hc2 (h4 _ z)
      rw [now_need g he'] at this
      refine ⟨e', he', rfl, ?_⟩
      by_cases q : ∃ a ∈ e'.2, a ∉ S
      · obtain ⟨a, ha, hb⟩ := q
        exact ⟨a, ha, List.mem_filter.mpr ⟨g.cl e' he' a ha, by simpa using hb⟩⟩
      · exact absurd (fun a ha => Classical.byContradiction fun z => q ⟨a, ha, z⟩) this
end
section
set_option maxRecDepth 100000
set_option Elab.async false
set_option linter.unusedVariables false
open PySem PySem.W PySem.Calls PyProof.Rows PySem.SeqAt
noncomputable def ansOk (a : Ans) : Prop := ∀ s, a.msg = some s → PyData.canLay0 (.str s) = true
theorem ansD_lay {a : Ans} (h : ansOk a) : (ansD a).canLay0 = true := by
  obtain ⟨m, a1, rs, a2⟩ := a
  have h2 := lay_nums rs
  cases m with
  | none => show (PyData.canLay0 (.none) && (true && (PyData.canLayAll0 (rs.map .int) && (true && true)))) = true; rw [h2]; rfl
  | some s => show ((PyData.canLay0 (.str "refused") && (PyData.canLay0 (.str s) && true)) && (true && (PyData.canLayAll0 (rs.map .int) && (true && true)))) = true; rw [h2, h s rfl]; decide +kernel
theorem ansDs_lay : ∀ {as : List Ans}, (∀ a ∈ as, ansOk a) → PyData.canLayAll0 (as.map ansD) = true
  | [], _ => rfl
  | a :: r, h => by
    show (PyData.canLay0 (ansD a) && PyData.canLayAll0 (r.map ansD)) = true
    rw [ansD_lay (h a List.mem_cons_self), ansDs_lay fun x hx => h x (List.mem_cons_of_mem _ hx)]; rfl
theorem ansD_depth (a : Ans) : (ansD a).depth ≤ 2 := by
  obtain ⟨m, a1, rs, a2⟩ := a
  have h2 := depth_nums rs
  cases m with
  | none => show (max 0 (max 0 (max (PyData.depthAll (rs.map .int) + 1) (max 0 0)))) + 1 ≤ 2; rw [h2]; decide
  | some s => show (max ((max 0 (max 0 0)) + 1) (max 0 (max (PyData.depthAll (rs.map .int) + 1) (max 0 0)))) + 1 ≤ 2; rw [h2]; decide
theorem ansDs_depth : ∀ (as : List Ans), PyData.depthAll (as.map ansD) ≤ 2
  | [] => by show (0 : Nat) ≤ 2; decide
  | a :: r => by
    have h1 := ansD_depth a
    have h2 := ansDs_depth r
    show max (PyData.depth (ansD a)) (PyData.depthAll (r.map ansD)) ≤ 2
    omega
mutual
theorem eqv_self : ∀ d : PyData, d.canLay0 = true → PyData.eqv d d = true
  | .none, _ => by simp [PyData.eqv]
  | .bool _, _ => by simp [PyData.eqv]
  | .int _, _ => by simp [PyData.eqv]
  | .str _, _ => by simp [PyData.eqv]
  | .list xs, h => by
    simp only [PyData.eqv]
    exact eqvAll_self xs (by simpa [PyData.canLay0] using h)
  | .tuple xs, h => by
    simp only [PyData.eqv]
    exact eqvAll_self xs (by simpa [PyData.canLay0] using h)
  | .dict _, h => by simp [PyData.canLay0] at h
theorem eqvAll_self : ∀ xs : List PyData, PyData.canLayAll0 xs = true → PyData.eqvAll xs xs = true
  | [], _ => by simp [PyData.eqvAll]
  | x :: r, h => by
    have h' : x.canLay0 = true ∧ PyData.canLayAll0 r = true := by simpa [PyData.canLayAll0] using h
    simp only [PyData.eqvAll, eqv_self x h'.1, eqvAll_self r h'.2, Bool.and_self]
end
noncomputable def AnsAt (G : AHeap) (v : Value) (a : Ans) : Prop := ∃ p m t, v = .ref p ∧ G p = some (.list [m, .bool a.a1, .ref t, .bool a.a2]) ∧ Rd G (msgD a.msg) m ∧ G t = some (.tup (nums a.rs))
theorem rd_ints {G : AHeap} : ∀ {ns : List Int} {vs : List Value}, RdAll G (ns.map .int) vs → vs = nums ns
  | [], [], _ => rfl
  | [], _ :: _, h => h.elim
  | _ :: _, [], h => h.elim
  | n :: r, v :: vs, h => by
    have h1 : v = vI n := h.1
    rw [h1, rd_ints (ns := r) h.2]; rfl
theorem ans_at {G : AHeap} {a : Ans} {v : Value} (h : Rd G (ansD a) v) : AnsAt G v a := by
  obtain ⟨p, xs, rfl, hp, h⟩ := h
  rcases xs with _ | ⟨m, xs⟩
  · exact False.elim h
  obtain ⟨h0, h⟩ := h
  rcases xs with _ | ⟨x1, xs⟩
  · exact False.elim h
  obtain ⟨h1, h⟩ := h
  rcases xs with _ | ⟨x2, xs⟩
  · exact False.elim h
  obtain ⟨h2, h⟩ := h
  rcases xs with _ | ⟨x3, xs⟩
  · exact False.elim h
  obtain ⟨h3, h⟩ := h
  rcases xs with _ | ⟨x4, xs⟩
  · obtain ⟨t, ys, rfl, ht, h2⟩ := h2
    cases rd_ints h2
    cases (h1 : x1 = .bool a.a1)
    cases (h3 : x3 = .bool a.a2)
    exact ⟨p, m, t, rfl, hp, h0, ht⟩
  · exact False.elim h
theorem answers_at {G : AHeap} {as : List Ans} {v : Value} (h : Rd G (.list (as.map ansD)) v) : ∃ o vs, v = .ref o ∧ G o = some (.list vs) ∧ RdAll G (as.map ansD) vs ∧ vs.length = as.length ∧ ∀ (i : Nat) a, as[i]? = some a → ∃ v, vs[i]? = some v ∧ AnsAt G v a := by
  obtain ⟨o, vs, rfl, ho, h⟩ := h
  refine exi2 o vs ⟨rfl, ho, h, by rw [h.length, List.length_map], fun i a hi => ?_⟩
  obtain ⟨v, hv, hr⟩ := h.at (i := i) (d := ansD a) (by rw [List.getElem?_map, hi]; rfl)
  exact ⟨v, hv, ans_at hr⟩
theorem tells_ok {N : Nds} {D : List Int} {P : PS} (g : GN N) (r : Rep N D P) {row : List Int} (h10 : ∀ k ∈ row, 0 ≤ k ∧ k < 10) : ∀ a ∈ (P.tells row).2, ansOk a := tells_ok' g r h10
end
section
set_option maxRecDepth 100000
set_option Elab.async false
set_option linter.unusedVariables false
set_option maxHeartbeats 4000000
open PySem PySem.W PySem.Calls PyProof.Rows PySem.SeqAt
section
variable {prog : Program} {w : World} {mg mb : Str → Option Value}

theorem sum_of : ∀ {xs : List Int} {n : Nat}, xs.length ≤ n → (∀ x ∈ xs, 0 ≤ x ∧ x < 10 ^ 10) → 0 ≤ xs.sum ∧ xs.sum ≤ n * 10 ^ 10
  | [], n, _, _ => ⟨by decide, by show (0 : Int) ≤ _; walk_at "num"⟩
  | x :: r, 0, h, _ => absurd h (Nat.not_succ_le_zero _)
  | x :: r, n + 1, h, hb => by
    have h1 := sum_of (xs := r) (n := n) (Nat.le_of_succ_le_succ h) fun y hy => hb y (List.mem_cons_of_mem _ hy)
    have h2 := hb x List.mem_cons_self
    rw [List.sum_cons]
    push_cast
    walk_at "num"
theorem nums_at {xs : List Int} {i : Nat} (d : Int) (h : i < xs.length) : (nums xs)[i]? = some (vI (xs.getD i d)) := by
  rw [nums, List.getElem?_map, List.getElem?_eq_getElem h, List.getD_eq_getElem?_getD, List.getElem?_eq_getElem h]; rfl
theorem E_list8 {F : Fx} {st : St} {X : Value → List Value → St → Prop} {Q : Value → St → Prop} {pos : Pos} {a b c d e f g h : Expr} (ns : List Int) (hn : ns.length ≤ 100) (he : starEach [a, b, c, d, e, f, g, h] F.env = [(false, eval a F.env), (false, eval b F.env), (false, eval c F.env), (false, eval d F.env), (false, eval e F.env), (false, eval f F.env), (false, eval g F.env), (false, eval h F.env)])
    (hs : ∀ Q : List Value → St → Prop, Q (nums ns) st → T prog w F (spliced [(false, eval a F.env), (false, eval b F.env), (false, eval c F.env), (false, eval d F.env), (false, eval e F.env), (false, eval f F.env), (false, eval g F.env), (false, eval h F.env)]) Q X st)
    (hq : ∀ a H', New st.H a (.list (nums ns)) H' → Q (.ref a) ⟨st.vars, H'⟩) : T prog w F (eval (.List [a, b, c, d, e, f, g, h] pos) F.env) Q X st :=
  E_listN (trees := [(false, eval a F.env), (false, eval b F.env), (false, eval c F.env), (false, eval d F.env), (false, eval e F.env), (false, eval f F.env), (false, eval g F.env), (false, eval h F.env)]) (by rw [he]; rfl) (hs _ ⟨by rw [nums_len]; walk_at "num", hq⟩)
theorem gn_of {L : NL} {size : Int} (hk : L.map (·.1) = upTo size) (hsz : 3 ≤ size ∧ size ≤ 5) (hLe : ∀ e ∈ L, e.2.2.length ≤ 20 ∧ ∀ x ∈ e.2.2, 0 ≤ x ∧ x < size) : GN (npure L) where
  nd := by rw [nkeys_pure, hk]; exact upTo_nodup _
  srt := by
    rw [nkeys_pure, hk]
    unfold upTo
    exact List.pairwise_map.mpr (List.pairwise_lt_range.imp fun h => by walk_at "num")
  cl := fun e he a ha => by
    obtain ⟨e', he', rfl⟩ := List.mem_map.mp he
    rw [nkeys_pure, hk]
    have := (hLe e' he').2 a ha
    exact mem_upTo this.1 this.2
  few := by
    have := congrArg List.length hk
    rw [List.length_map, upTo_len] at this
    unfold npure
    rw [List.length_map]; walk_at "num"
  len := fun e he => by
    obtain ⟨e', he', rfl⟩ := List.mem_map.mp he
    exact (hLe e' he').1
theorem srt_cl {S : Srt} (h : ∀ x ∈ S.p.nds, ∀ s ∈ x.succ, ∃ y ∈ S.p.nds, y.key = s) : ∀ x ∈ S.nds, ∀ s ∈ x.succ, ∃ y ∈ S.nds, y.key = s := fun x hx s hs => by
  obtain ⟨y, hy, e⟩ := h x.p (List.mem_map_of_mem hx) s hs
  obtain ⟨z, hz, rfl⟩ := List.mem_map.mp hy
  exact ⟨z, hz, e⟩
theorem srt_sl {S : Srt} (h : ∀ x ∈ S.p.nds, x.succ.length ≤ 1000) : ∀ x ∈ S.nds, x.succ.length ≤ 1000 := fun x hx => h x.p (List.mem_map_of_mem hx)
theorem none_is {G : AHeap} {m : Value} {s : Option Str} (h : Rd G (msgD s) m) : (m == .none) = s.isNone := by
  cases s with
  | none => cases (h : m = .none); rfl
  | some s => obtain ⟨a, _, rfl, _⟩ := h; rfl
theorem NAt.mono {prog : Program} {w : World} {G G' : AHeap} {d : Addr} {L : NL} (h : NAt prog w G d L) (x : Ext G G') : NAt prog w G' d L := ⟨h.dict.imp fun _ q => x _ _ q, fun e he => x _ _ (h.list e he)⟩
theorem not_mem_take {l : List Int} {i : Nat} {x : Int} (h : l.Nodup) (hi : l[i]? = some x) : x ∉ l.take i := fun hm => by
  obtain ⟨h1, rfl⟩ := List.getElem?_eq_some_iff.mp hi
  have e : l = l.take i ++ l[i] :: l.drop (i + 1) := by rw [← List.drop_eq_getElem_cons h1, List.take_append_drop]
  rw [e] at h
  exact (List.nodup_append.mp h).2.2 _ hm _ List.mem_cons_self rfl
theorem rs_len {a : Ans} : ∀ {as : List Ans}, a ∈ as → a.rs.length ≤ (as.flatMap (·.rs)).length
  | b :: r, h => by
    rw [List.flatMap_cons, List.length_append]
    rcases List.mem_cons.mp h with rfl | h
    · walk_at "num"
    · have := rs_len h; walk_at "num"
theorem P_isntBB {F : Fx} {st : St} {X : Value → List Value → St → Prop} {Q : Value → St → Prop} {t u : Bool} (h : Q (.bool (!(t == u))) st) : CmpE prog w F .IsNot (.bool t) (.bool u) Q X st := fun a' b' ha hb s R => by
  rw [er_bool ha, er_bool hb]
  refine wpAny_isNot_plain rfl ⟨st, R, .refl _ _ _ _, ?_⟩
  have : (Value.bool t == Value.bool u) = (t == u) := by cases t <;> cases u <;> rfl
  show Q (.bool (!(Value.bool t == Value.bool u))) st
  rw [this]; exact h
theorem law_walk {F : Fc} {n : Nat} {sc : Addr} {pb : Obj} {script : List Int} {H : AHeap} {l : List As} (W : Wld (K2 w) F mg mb) (OF : F.Ok (n + 12)) (O : Own2 prog w H l) (hsc : As.cell sc (.pin pb) ∈ l) (hp : ∃ items n, pb.cls = .type "list" ∧ pb.data = .seq items n ∧ items.toList.map er = nums script) (hsl : script.length ≤ 63) :
    Calls prog w F (.ref 221) [.ref sc] H (fun v H' => v = .bool true ∧ Own2 prog w H' l) (fun _ _ _ => False) := by
  refine Calls.ent (fd := _) (body := _) (names := ["script"]) W OF ⟨⟨_, W.kx _ _ rfl, rfl⟩, rfl, rfl, rfl, codeRec_of W.kx (by rfl), rfl, rfl, by decide +kernel⟩ (fun args' ha => ?_) (by decide) (by decide +kernel) rfl rfl rfl fun F' E U OF' => ?_
  · obtain ⟨a, rfl, _⟩ := one_of ha; rfl
  · dsimp only at E
    have hun := OF'.units
    repeat (walk_at "T")
    refine C_code ((early_spec (n := n + 5) E.W OF' O).mono ?_ (fun _ _ _ z => z.elim))
    rintro v H1 ⟨ea, rfl, O⟩
    repeat (walk_at "T")
    intro eb H2 hN; have O := Own.new O hN; clear hN
    refine P_neD (da := .list [.str "refused", .str "prepare() must be called first"]) (db := .list [.str "refused", .str "prepare() must be called first"]) ⟨ea, [vS "refused", vS "prepare() must be called first"], rfl, O.get (.tail _ (.head _)), ⟨rfl, rfl, trivial⟩⟩ ⟨eb, [vS "refused", vS "prepare() must be called first"], rfl, O.get (.head _), ⟨rfl, rfl, trivial⟩⟩ (by decide +kernel) (by decide +kernel) ?_ ?_
    · have : cLine = 9900 := rfl
      have : min (PyData.depth (.list [.str "refused", .str "prepare() must be called first"])) (PyData.depth (.list [.str "refused", .str "prepare() must be called first"])) ≤ 10 := by decide +kernel
      walk_at "num"
    refine ⟨_, rfl, (fun h => absurd h (by decide +kernel)), fun _ => ?_⟩
    repeat (walk_at "T")
    intro o1 H3 hN; have O := Own.new O hN; clear hN
    repeat (walk_at "T")
    intro o2 H4 hN; have O := Own.new O hN; clear hN
    repeat (walk_at "T")
    refine C_code ((filter_own (n := n + 7) (xs := [vI 1]) (ys := []) (dxs := [.int 1]) (dys := []) E.W OF' O (.inl (O.get (.tail _ (.head _)))) (O.get (.head _)) ⟨rfl, trivial⟩ trivial rfl rfl (by decide)).mono ?_ (fun _ _ _ z => z.elim))
    rintro v H5 ⟨fl, rfl, O⟩
    repeat (walk_at "T")
    refine C_typeL (O.get (.head _)) ?_
    repeat (walk_at "T")
    refine ⟨_, rfl, (fun h => absurd h (by decide)), fun _ => ?_⟩
    repeat (walk_at "T")
    refine ⟨nofun, fun _ => ?_⟩
    repeat (walk_at "T")
    refine E_listM (α := Int) E [] none rfl rfl (fun _ => rfl) OF'.hh ?_
    repeat (walk_at "T")
    have O : Own2 prog w H5 l := O.sub (.cons _ (.cons _ (.cons _ (.cons _ (.cons _ (List.Sublist.refl _))))))
    refine ⟨trivial, exi6 (.pin pb) script vI (fun H => Own2 prog w H l) (fun _ => true) (fun x => vI (x.fmod (10 ^ 10))) ⟨⟨sc, rfl, O.get hsc, hp⟩, by walk_at "num", O, fun H vs O => ⟨sc, rfl, O.get hsc, hp⟩, ?_, ?_⟩⟩
    · clear O
      intro F2 E2 hF x H hx O
      repeat (walk_at "T")
      refine ⟨fun _ => ?_, nofun⟩
      repeat (walk_at "T")
      refine B_powI (by decide) (by decide +kernel) ?_
      repeat (walk_at "T")
      exact ⟨rfl, rfl, trivial, O⟩
    clear O
    intro H nu H6 O hN
    have O := Own.new O hN
    clear hN
    have en : ((script.filter fun _ => true).map fun x => vI (x.fmod (10 ^ 10))) = nums (script.map fun x => x.fmod (10 ^ 10)) := by
      rw [List.filter_eq_self.mpr fun _ _ => rfl, nums, List.map_map]; rfl
    rw [en] at O
    generalize hnum : (script.map fun x => x.fmod (10 ^ 10)) = numbers at O
    have hnl : numbers.length ≤ 63 := by rw [← hnum, List.length_map]; exact hsl
    have hnb : ∀ x ∈ numbers, 0 ≤ x ∧ x < 10 ^ 10 := fun x hx => by
      rw [← hnum] at hx
      obtain ⟨y, hy, rfl⟩ := List.mem_map.mp hx
      exact ⟨Int.fmod_nonneg_of_pos _ (by decide), Int.fmod_lt_of_pos _ (by decide)⟩
    clear hnum en
    walk_at "T"
    walk_at "T"
    walk_at "T"
    refine T.keepVars [(("numbers" : Str), .ref nu)] ⟨rfl, trivial⟩ ?_
    repeat (walk_at "T")
    refine exi4 nu _ 1 3 ⟨rfl, rfl, rfl, by walk_at "num", O.get (.head _), by rw [nums_len]; walk_at "num", ?_⟩
    have hl3 : (((nums numbers).take 3).drop 1).length ≤ 2 := by rw [List.length_drop, List.length_take]; walk_at "num"
    intro o3 H7 hN; have O := Own.new O hN; clear hN
    repeat (walk_at "T")
    have hsz : 3 ≤ 3 + (((((nums numbers).take 3).drop 1).length : Nat) : Int) ∧ 3 + (((((nums numbers).take 3).drop 1).length : Nat) : Int) ≤ 5 := by walk_at "num"
    generalize (3 : Int) + (((((nums numbers).take 3).drop 1).length : Nat) : Int) = size at hsz
    have O : Own2 prog w H7 (.cell nu (.list (nums numbers)) :: l) := O.tail
    clear hl3
    refine C_sum OF'.hh (O.get (.head _)) ?_
    have hsum : 0 ≤ numbers.sum ∧ numbers.sum ≤ 63 * 10 ^ 10 := sum_of hnl hnb
    refine B_mulI (.of_left (bits_le (by walk_at "num"))) ?_
    repeat (walk_at "T")
    refine C_code ((needs_spec (n := n + 10) (told := 3079 + 24683 * numbers.sum) (size := size) E.W OF' O (by walk_at "num") hsz).mono ?_ (fun _ _ _ z => z.elim))
    rintro v H8 hx0_; refine ex3and5 hx0_ fun nd L G y3_ O hG hk hLe => ?_; try clear hx0_; obtain rfl := y3_
    walk_at "T"
    walk_at "T"
    walk_at "T"
    walk_at "T"
    refine T.keepVars [(("numbers" : Str), .ref nu), (("size" : Str), vI size), (("needs" : Str), .ref nd)] ⟨rfl, rfl, rfl, trivial⟩ ?_
    repeat (walk_at "T")
    refine E_listM (α := Int) E [(("numbers" : Str), .ref nu)] none rfl rfl (fun _ => rfl) OF'.hh ?_
    repeat (walk_at "T")
    intro rg H9 hN; have O := Own.new O hN; clear hN
    have O : Own2 prog w H9 (.cell rg (.rng 0 numbers.length) :: .frag G :: .cell nu (.list (nums numbers)) :: l) := O.perm (by rw [nums_len])
    obtain ⟨lo, O, hlo⟩ : ∃ lo, Own2 prog w _ lo ∧ lo = _ := ⟨_, O, rfl⟩
    have m1 : As.cell rg (.rng 0 numbers.length) ∈ lo := by rw [hlo]; walk_at "mem"
    have m2 : As.cell nu (.list (nums numbers)) ∈ lo := by rw [hlo]; walk_at "mem"
    have hsrc : ∀ H vs, Own2 prog w H lo → Src ⟨vs, H⟩ (.ref rg) ((upTo numbers.length).map vI) (.rng 0 numbers.length) := fun H vs O =>
      ⟨rg, rfl, O.get m1, upTo_src _, by walk_at "num", by walk_at "num", by walk_at "num", by walk_at "num"⟩
    refine ⟨⟨rfl, trivial⟩, exi6 (.rng 0 numbers.length) (upTo numbers.length) vI (fun H => Own2 prog w H lo) (fun _ => true) (fun k => vI (numbers.getD k.toNat 0 + k)) ⟨hsrc _ _ O, by rw [upTo_len]; walk_at "num", O, hsrc, ?_, ?_⟩⟩
    · clear O
      intro F2 E2 hF x H hx O
      have hx2 := upTo_mem hx
      repeat (walk_at "T")
      refine ⟨fun _ => ?_, nofun⟩
      repeat (walk_at "T")
      refine ⟨⟨nu, rfl, .inl ⟨_, O.get m2⟩⟩, ?_⟩
      refine X_list (l := nu) (O.get m2) hx2.1 (nums_at (xs := numbers) (i := x.toNat) 0 (by walk_at "num")) (by walk_at "num") ?_
      repeat (walk_at "T")
      exact ⟨rfl, rfl, ⟨rfl, trivial⟩, O⟩
    clear O hsrc
    intro H ro H10 O hN
    have O := Own.new O hN
    rw [hlo] at O
    clear hlo m1 m2
    clear hN
    have en : (((upTo numbers.length).filter fun _ => true).map fun k => vI (numbers.getD k.toNat 0 + k)) = nums ((upTo numbers.length).map fun k => numbers.getD k.toNat 0 + k) := by
      rw [List.filter_eq_self.mpr fun _ _ => rfl, nums, List.map_map]; rfl
    rw [en] at O
    have hr1 : ((upTo numbers.length).map fun k => numbers.getD k.toNat 0 + k).length ≤ 63 := by rw [List.length_map, upTo_len]; walk_at "num"
    generalize ((upTo numbers.length).map fun k => numbers.getD k.toNat 0 + k) = row1 at O hr1
    clear en
    have O : Own2 prog w H10 (.cell ro (.list (nums row1)) :: .frag G :: l) := O.sub (.cons_cons _ (.cons _ (.cons_cons _ (.cons _ (List.Sublist.refl _)))))
    repeat (walk_at "T")
    refine' E_list8 [1, 0, 0, 3, 2, 0, 1, 2] (by decide) ?he ?hs ?_
    case he => rfl
    case hs => exact fun Q h => T_sp1 (T_int (T_sp1 (T_int (T_sp1 (T_int (T_sp1 (T_int (T_sp1 (T_int (T_sp1 (T_int (T_sp1 (T_int (T_sp1 (T_int (T_sp0 h))))))))))))))))
    intro co H11 hN; have O := Own.new O hN; clear hN
    refine B_addL (O.get (.tail _ (.head _))) (O.get (.head _)) (by rw [nums_len, nums_len, show ([1, 0, 0, 3, 2, 0, 1, 2] : List Int).length = 8 from rfl]; walk_at "num") ?_
    intro r2 H12 hN; have O := Own.new O hN; clear hN
    have O : Own2 prog w H12 (.cell r2 (.list (nums (row1 ++ [1, 0, 0, 3, 2, 0, 1, 2]))) :: .frag G :: l) := (O.sub (.cons_cons _ (.cons _ (.cons _ (List.Sublist.refl _))))).perm (by rw [nums, nums, nums, List.map_append])
    have hr1 : (row1 ++ [1, 0, 0, 3, 2, 0, 1, 2]).length ≤ 71 := by rw [List.length_append, show ([1, 0, 0, 3, 2, 0, 1, 2] : List Int).length = 8 from rfl]; walk_at "num"
    generalize row1 ++ [1, 0, 0, 3, 2, 0, 1, 2] = row2 at O hr1
    walk_at "T"
    walk_at "T"
    walk_at "T"
    walk_at "T"
    refine T.keepVars [(("size" : Str), vI size), (("needs" : Str), .ref nd), (("row" : Str), .ref r2)] ⟨rfl, rfl, rfl, trivial⟩ ?_
    repeat (walk_at "T")
    refine E_listM (α := Int) E [(("size" : Str), vI size)] none rfl rfl (fun _ => rfl) OF'.hh ?_
    repeat (walk_at "T")
    refine exi3 r2 _ 10 ⟨rfl, rfl, O.get (.head _), by rw [nums_len]; walk_at "num", ?_⟩
    intro r3 H13 hN; have O := Own.new O hN; clear hN
    have hr2 : (row2.take 10).length ≤ 10 := by rw [List.length_take]; walk_at "num"
    have O : Own2 prog w H13 (.cell r3 (.list (nums (row2.take 10))) :: .frag G :: l) := (O.sub (.cons_cons _ (.cons _ (List.Sublist.refl _)))).perm (by rw [nums, nums, List.map_take])
    generalize row2.take 10 = row3 at O hr2
    refine ⟨⟨rfl, trivial⟩, exi6 .list row3 vI (fun H => Own2 prog w H (.cell r3 (.list (nums row3)) :: .frag G :: l)) (fun _ => true) (fun x => vI (x.fmod (size + 1))) ⟨⟨r3, rfl, O.get (.head _)⟩, by walk_at "num", O, fun H vs O => ⟨r3, rfl, O.get (.head _)⟩, ?_, ?_⟩⟩
    · clear O
      intro F2 E2 hF x H hx O
      repeat (walk_at "T")
      refine ⟨fun _ => ?_, nofun⟩
      repeat (walk_at "T")
      exact ⟨rfl, rfl, ⟨rfl, trivial⟩, O⟩
    clear O
    intro H ra H14 O hN
    have O := Own.new O hN
    clear hN
    have en : ((row3.filter fun _ => true).map fun x => vI (x.fmod (size + 1))) = nums (row3.map fun x => x.fmod (size + 1)) := by
      rw [List.filter_eq_self.mpr fun _ _ => rfl, nums, List.map_map]; rfl
    rw [en] at O
    have hrl : (row3.map fun x => x.fmod (size + 1)).length ≤ 10 := by rw [List.length_map]; exact hr2
    have h10 : ∀ k ∈ row3.map fun x => x.fmod (size + 1), 0 ≤ k ∧ k < 10 := fun k hk => by
      obtain ⟨y, hy, rfl⟩ := List.mem_map.mp hk
      have h1 := Int.fmod_nonneg_of_pos y (show 0 < size + 1 by walk_at "num")
      have h2 := Int.fmod_lt_of_pos y (show 0 < size + 1 by walk_at "num")
      walk_at "num"
    generalize (row3.map fun x => x.fmod (size + 1)) = row at O hrl h10
    have O : Own2 prog w H14 (.cell ra (.list (nums row)) :: .frag G :: l) := O.sub (.cons_cons _ (.cons _ (List.Sublist.refl _)))
    clear en hr2 hr1 hnl hnb hsum
    walk_at "T"
    walk_at "T"
    walk_at "T"
    walk_at "T"
    refine T.keepVars [(("needs" : Str), .ref nd), (("row" : Str), .ref ra)] ⟨rfl, rfl, trivial⟩ ?_
    change T prog w _ _ _ _ ⟨_, H14⟩
    repeat (walk_at "T")
    rw [nums_len row, show ((row.length : Int).fdiv 2) = ((row.length / 2 : Nat) : Int) from by rw [Int.fdiv_eq_ediv_of_nonneg _ (by decide)]; walk_at "num"]
    have hhf : row.length / 2 ≤ row.length := by walk_at "num"
    generalize row.length / 2 = hf at hhf
    have gN : GN (npure L) := gn_of hk hsz hLe
    have hLn : (L.map (·.1)).Nodup := by rw [hk]; exact upTo_nodup _
    have hLl : L.length ≤ 10 := by
      have := congrArg List.length hk
      rw [List.length_map, upTo_len] at this
      walk_at "num"
    refine E_tupAsg E rfl rfl ?_
    repeat (walk_at "T")
    refine C_code ((lsorter_spec (n := n + 5) E.W OF' O (.there .here) hG hLn hLl fun e he => (hLe e he).1).mono ?_ (fun _ _ _ z => z.elim))
    rintro v H15 hx0_; refine ex5and6 hx0_ fun q S rd fa b y5_ O hSp hSr hb1 hb2 => ?_; try clear hx0_; obtain rfl := y5_
    walk_at "T"
    walk_at "T"
    walk_at "T"
    walk_at "T"
    walk_at "T"
    walk_at "T"
    walk_at "T"
    walk_at "T"
    walk_at "T"
    refine T.keepVars [(("needs" : Str), .ref nd), (("row" : Str), .ref ra), (("half" : Str), vI hf), (("sorter" : Str), .ref S.self), (("ring" : Str), .bool b), (("first" : Str), .ref fa)] ⟨rfl, rfl, rfl, rfl, rfl, rfl, trivial⟩ ?_
    change T prog w _ _ _ _ ⟨_, H15⟩
    repeat (walk_at "T")
    refine exi3 ra _ hf ⟨rfl, rfl, O.get (by walk_at "mem"), by rw [nums_len]; walk_at "num", ?_⟩
    intro rh H16 hN; have O := Own.new O hN; clear hN
    obtain ⟨G1, O, x1, hg1⟩ := O.layT .here (.there (.there (.there .here)))
    obtain ⟨G2, O, x2, hg2⟩ := O.layT (.there (.there .here)) .here
    have O : Own2 prog w H16 (.srt S :: .frag G2 :: .cell ra (.list (nums row)) :: l) := (O.sub (.cons_cons _ (.cons _ (List.Sublist.refl _)))).perm (.swap _ _ _)
    have hrh : G2 rh = some (.list (nums (row.take hf))) := by rw [x2 _ _ hg1, nums, nums, List.map_take]
    have hG2 : NAt prog w G2 nd L := (hG.mono x1).mono x2
    clear hg1 hG x1 x2
    have rep1 : Rep (npure L) [] S.p := by rw [hSp]; exact rep_bld gN
    have tr := tells_rep gN (row.take hf)
    repeat (walk_at "T")
    refine C_code ((ltold_spec (n := n + 8) (row := row.take hf) (fun P => ∃ D, Rep (npure L) D P) E.W OF' O .here .here hrh (by rw [List.length_take]; walk_at "num") (fun k hk => h10 k (List.mem_of_mem_take hk)) hSr (srt_cl (rep_cl gN rep1)) (srt_sl (rep_sl gN rep1)) ⟨_, rep1⟩ tr).mono ?_ (fun _ _ _ z => z.elim))
    rintro v H17 hx0_; refine ex3and7 hx0_ fun old S3 G3 y3_ O sm3 hp3 hr3 x3 hold => ?_; try clear hx0_; obtain rfl := y3_
    have hG3 : NAt prog w G3 nd L := hG2.mono x3
    have hfa : G3 fa = some (.tup (nums (bld (npure L)).frees)) := x3 _ _ hg2
    have rep3 : ∃ D, Rep (npure L) D S3.p := by rw [hp3]; exact tells_keep tr ⟨_, rep1⟩
    rw [← sm3.self]
    clear hG2 hg2 x3
    have hA : (S.p.tells (row.take hf)).2 = ((P1 (npure L)).tells (row.take hf)).2 := by rw [hSp]; rfl
    rw [hA] at hold
    have hAl := tells_len (P1 (npure L)) (row.take hf)
    rw [List.length_take, Nat.min_eq_left hhf] at hAl
    have hAok := tells_ok gN (rep_bld gN) (row := row.take hf) fun k hk => h10 k (List.mem_of_mem_take hk)
    have hdid := did_is gN row hf hhf
    have hp3' : S3.p = ((P1 (npure L)).tells (row.take hf)).1 := by rw [hp3, hSp]; rfl
    refine ex2and5 (answers_at hold) fun oa ovs he hoa hors hovl hoat => ?_
    cases he
    walk_at "T"
    walk_at "T"
    walk_at "T"
    refine T.keepVars [(("needs" : Str), .ref nd), (("row" : Str), .ref ra), (("half" : Str), vI hf), (("sorter" : Str), .ref S3.self), (("ring" : Str), .bool b), (("first" : Str), .ref fa), (("old" : Str), .ref old)] ⟨rfl, rfl, rfl, rfl, rfl, rfl, rfl, trivial⟩ ?_
    change T prog w _ _ _ _ ⟨_, H17⟩
    repeat (walk_at "T")
    refine E_listM (α := Int) E [(("row" : Str), .ref ra), (("old" : Str), .ref old)] none rfl rfl (fun _ => rfl) OF'.hh ?_
    repeat (walk_at "T")
    intro rg2 H18 hN; have O := Own.new O hN; clear hN
    obtain ⟨lo, O, hlo⟩ : ∃ lo, Own2 prog w _ lo ∧ lo = _ := ⟨_, O, rfl⟩
    have m1 : As.cell rg2 (.rng 0 hf) ∈ lo := by rw [hlo]; walk_at "mem"
    have m2 : As.cell ra (.list (nums row)) ∈ lo := by rw [hlo]; walk_at "mem"
    have m3 : As.frag G3 ∈ lo := by rw [hlo]; walk_at "mem"
    have hsrc : ∀ H vs, Own2 prog w H lo → Src ⟨vs, H⟩ (.ref rg2) ((upTo hf).map vI) (.rng 0 hf) := fun H vs O =>
      ⟨rg2, rfl, O.get m1, upTo_src _, by walk_at "num", by walk_at "num", by walk_at "num", by walk_at "num"⟩
    refine ⟨⟨rfl, rfl, trivial⟩, exi6 (.rng 0 hf) (upTo hf) vI (fun H => Own2 prog w H lo) (fun k => (((P1 (npure L)).tells (row.take hf)).2.getD k.toNat ans0).msg.isNone) (fun k => vI (row.getD k.toNat 0)) ⟨hsrc _ _ O, by rw [upTo_len]; walk_at "num", O, hsrc, ?_, ?_⟩⟩
    · clear O
      intro F2 E2 hF x H hx O
      have hx2 := upTo_mem hx
      repeat (walk_at "T")
      have hlt : x.toNat < (((P1 (npure L)).tells (row.take hf)).2).length := by walk_at "num"
      refine ex1and2 (hoat x.toNat _ (List.getElem?_eq_getElem hlt)) fun av hav y2_ => ?_; obtain ⟨pa, mv, ta, rfl, hpa, hmv, hta⟩ := y2_
      refine ⟨⟨old, rfl, .inl ⟨_, O.fragAt m3 _ _ hoa⟩⟩, ?_⟩
      refine X_list (O.fragAt m3 _ _ hoa) hx2.1 hav (by walk_at "num") ?_
      repeat (walk_at "T")
      refine ⟨⟨pa, rfl, .inl ⟨_, O.fragAt m3 _ _ hpa⟩⟩, ?_⟩
      refine X_list (O.fragAt m3 _ _ hpa) (by decide) rfl (by decide) ?_
      repeat (walk_at "T")
      have hgd : ((P1 (npure L)).tells (row.take hf)).2.getD x.toNat ans0 = ((P1 (npure L)).tells (row.take hf)).2[x.toNat] := by rw [List.getD_eq_getElem?_getD, List.getElem?_eq_getElem hlt]; rfl
      refine ⟨_, rfl, fun hc => ?_, fun hc => ?_⟩
      · repeat (walk_at "T")
        refine ⟨⟨ra, rfl, .inl ⟨_, O.get m2⟩⟩, ?_⟩
        refine X_list (l := ra) (O.get m2) hx2.1 (nums_at (xs := row) (i := x.toNat) 0 (by walk_at "num")) (by walk_at "num") ?_
        exact ⟨by show (((P1 (npure L)).tells (row.take hf)).2.getD x.toNat ans0).msg.isNone = true; rw [hgd, ← none_is hmv]; exact hc, rfl, ⟨rfl, rfl, trivial⟩, O⟩
      · exact ⟨by show (((P1 (npure L)).tells (row.take hf)).2.getD x.toNat ans0).msg.isNone = false; rw [hgd, ← none_is hmv]; exact hc, ⟨rfl, rfl, trivial⟩, O⟩
    clear O hsrc
    intro H did H19 O hN
    have O := Own.new O hN
    rw [hlo] at O
    clear hlo m1 m2 m3
    clear hN
    have O : Own2 prog w H19 (.cell did (.list (nums (doneA (npure L) (row.take hf)))) :: .srt S3 :: .frag G3 :: .cell ra (.list (nums row)) :: l) := by
      have en : (((upTo hf).filter fun k => (((P1 (npure L)).tells (row.take hf)).2.getD k.toNat ans0).msg.isNone).map fun k => vI (row.getD k.toNat 0)) = nums (doneA (npure L) (row.take hf)) := by
        rw [← hdid]; unfold nums didOf; rw [List.map_map]; rfl
      rw [← en]
      exact O.sub (.cons_cons _ (.cons _ (List.Sublist.refl _)))
    walk_at "T"
    walk_at "T"
    walk_at "T"
    walk_at "T"
    refine T.keepVars [(("needs" : Str), .ref nd), (("row" : Str), .ref ra), (("half" : Str), vI hf), (("sorter" : Str), .ref S3.self), (("ring" : Str), .bool b), (("first" : Str), .ref fa), (("old" : Str), .ref old), (("did" : Str), .ref did)] ⟨rfl, rfl, rfl, rfl, rfl, rfl, rfl, rfl, trivial⟩ ?_
    change T prog w _ _ _ _ ⟨_, H19⟩
    obtain ⟨nn, hnd⟩ := hG3.dict
    refine E_assignSw E OF'.hh (by rfl) ?_
    repeat (walk_at "T")
    refine E_listM (α := Int × Addr × List Int) E [] none rfl rfl (fun _ => rfl) OF'.hh ?_
    repeat (walk_at "T")
    obtain ⟨lo, O, hlo⟩ : ∃ lo, Own2 prog w _ lo ∧ lo = _ := ⟨_, O, rfl⟩
    have m3 : As.frag G3 ∈ lo := by rw [hlo]; walk_at "mem"
    refine ⟨trivial, exi6 (.keys _ nn) L (fun e => vI e.1) (fun H => Own2 prog w H lo) (fun _ => true) (fun e => vI e.1) ⟨⟨nd, rfl, O.fragAt m3 _ _ hnd, nkeysE' L⟩, by walk_at "num", O, fun H vs O => ⟨nd, rfl, O.fragAt m3 _ _ hnd, nkeysE' L⟩, ?_, ?_⟩⟩
    · clear O
      intro F2 E2 hF x H hx O
      repeat (walk_at "T")
      refine ⟨fun _ => ?_, nofun⟩
      repeat (walk_at "T")
      exact ⟨rfl, rfl, trivial, O⟩
    clear O
    intro H ks H20 O hN
    have O := Own.new O hN
    rw [hlo] at O
    clear hlo m3
    clear hN
    have en : ((L.filter fun _ => true).map fun e => vI e.1) = nums (L.map (·.1)) := by
      rw [List.filter_eq_self.mpr fun _ _ => rfl, nums, List.map_map]; rfl
    rw [en] at O
    clear en
    repeat (walk_at "T")
    refine C_code ((filter_own (n := n + 7) (xs := nums (L.map (·.1))) (ys := nums (doneA (npure L) (row.take hf))) (dxs := (L.map (·.1)).map .int) (dys := (doneA (npure L) (row.take hf)).map .int) E.W OF' O (.inl (O.get (.head _))) (O.get (.tail _ (.head _))) (RdAll.nums _ _) (RdAll.nums _ _) (lay_nums _) (lay_nums _) (by rw [nums_len, List.length_map]; walk_at "num")).mono ?_ (fun _ _ _ z => z.elim))
    rintro v H21 ⟨left, rfl, O⟩
    rw [filt_nums] at O
    have O : Own2 prog w H21 (.cell left (.list (nums ((L.map (·.1)).filter fun n => !decide (n ∈ doneA (npure L) (row.take hf))))) :: .cell did (.list (nums (doneA (npure L) (row.take hf)))) :: .srt S3 :: .frag G3 :: .cell ra (.list (nums row)) :: l) := O.sub (.cons_cons _ (.cons _ (List.Sublist.refl _)))
    repeat (walk_at "T")
    refine exi3 ra _ hf ⟨rfl, rfl, O.get (.tail _ (.tail _ (.tail _ (.tail _ (.head _))))), by rw [nums_len]; walk_at "num", ?_⟩
    intro rt H22 hN; have O := Own.new O hN; clear hN
    rw [show (nums row).drop hf = nums (row.drop hf) from by rw [nums, nums, List.map_drop]] at O
    repeat (walk_at "T")
    refine C_code ((filter_own (n := n + 7) (xs := nums (row.drop hf)) (ys := nums (doneA (npure L) (row.take hf))) (dxs := (row.drop hf).map .int) (dys := (doneA (npure L) (row.take hf)).map .int) E.W OF' O (.inl (O.get (.head _))) (O.get (.tail _ (.tail _ (.head _)))) (RdAll.nums _ _) (RdAll.nums _ _) (lay_nums _) (lay_nums _) (by rw [nums_len, List.length_drop]; walk_at "num")).mono ?_ (fun _ _ _ z => z.elim))
    rintro v H23 ⟨lt, rfl, O⟩
    rw [filt_nums] at O
    repeat (walk_at "T")
    intro tt H24 hN; have O := Own.new O hN; clear hN
    refine exi3 _ _ _ ⟨rfl, O.get (.head _), ?_⟩
    have O : Own2 prog w H24 (.frag G3 :: .cell lt (.list (nums (later (doneA (npure L) (row.take hf)) (row.drop hf)))) :: .cell left (.list (nums ((L.map (·.1)).filter fun n => !decide (n ∈ doneA (npure L) (row.take hf))))) :: .cell did (.list (nums (doneA (npure L) (row.take hf)))) :: .srt S3 :: .cell ra (.list (nums row)) :: l) :=
      (O.sub (.cons _ (.cons_cons _ (.cons _ (List.Sublist.refl _))))).take (.there (.there (.there (.there .here))))
    generalize hD : doneA (npure L) (row.take hf) = D at O
    have hlk : ((L.map (·.1)).filter fun n => !decide (n ∈ D)) = (L.filter fun e => !decide (e.1 ∈ D)).map (·.1) := by rw [List.filter_map]; rfl
    have hmin : minus (npure L) D = (L.filter fun e => !decide (e.1 ∈ D)).map fun e => (e.1, lack D (e.1, e.2.2)) := by
      unfold minus npure
      rw [List.filter_map, List.map_map]; rfl
    have hLf : ((L.filter fun e => !decide (e.1 ∈ D)).map (·.1)).Nodup := by rw [← hlk]; exact hLn.filter _
    have hLfs : ∀ e ∈ L.filter fun e => !decide (e.1 ∈ D), e ∈ L := fun e he => (List.mem_filter.mp he).1
    have hLfl : (L.filter fun e => !decide (e.1 ∈ D)).length ≤ 10 := Nat.le_trans (List.length_filter_le _ _) hLl
    rw [hlk] at O
    generalize (L.filter fun e => !decide (e.1 ∈ D)) = Lf at O hmin hLf hLfs hLfl
    clear hlk
    walk_at "T"
    walk_at "T"
    walk_at "T"
    walk_at "T"
    refine T.keepVars [(("needs" : Str), .ref nd), (("row" : Str), .ref ra), (("half" : Str), vI hf), (("sorter" : Str), .ref S3.self), (("ring" : Str), .bool b), (("first" : Str), .ref fa), (("old" : Str), .ref old), (("did" : Str), .ref did), (("left" : Str), .ref left), (("later" : Str), .ref lt)] ⟨rfl, rfl, rfl, rfl, rfl, rfl, rfl, rfl, rfl, rfl, trivial⟩ ?_
    change T prog w _ _ _ _ ⟨_, H24⟩
    refine E_tupAsg E rfl rfl ?_
    repeat (walk_at "T")
    refine T_dictComp (E_dictCore E [(("needs" : Str), .ref nd), (("did" : Str), .ref did)] none rfl rfl (fun _ => rfl) OF'.hh ?_)
    repeat (walk_at "T")
    obtain ⟨lo, O, hlo⟩ : ∃ lo, Own2 prog w _ lo ∧ lo = _ := ⟨_, O, rfl⟩
    have m1 : As.cell left (.list (nums (Lf.map (·.1)))) ∈ lo := by rw [hlo]; walk_at "mem"
    have m2 : As.cell did (.list (nums D)) ∈ lo := by rw [hlo]; walk_at "mem"
    have m3 : As.frag G3 ∈ lo := by rw [hlo]; walk_at "mem"
    refine ⟨⟨rfl, rfl, trivial⟩, exi3 (nums (Lf.map (·.1))) .list (fun i acc H => ∃ L2 : NL, acc = nents L2 ∧ npure L2 = (Lf.map fun e => (e.1, lack D (e.1, e.2.2))).take i ∧ Own2 prog w H (ncells L2 ++ lo)) ⟨⟨left, rfl, O.get m1⟩, by rw [nums_len, List.length_map]; walk_at "num", ⟨[], rfl, rfl, O⟩, ?_, ?_, ?_, ?_⟩⟩
    · rintro i acc H vs ⟨L2, _, _, O⟩
      exact ⟨left, rfl, O.get (List.mem_append_right _ m1)⟩
    · rintro i acc H ⟨L2, rfl, h2, _⟩
      have := congrArg List.length h2
      unfold npure at this
      unfold nents
      rw [List.length_map, List.length_take] at this
      rw [List.length_map]; walk_at "num"
    · clear O
      intro F2 E2 hF i x' acc H hi hI
      obtain ⟨L2, rfl, h2, O⟩ := hI
      obtain ⟨k, rfl, hk2⟩ := nums_get hi
      rw [List.getElem?_map] at hk2
      obtain ⟨e, he, rfl⟩ := Option.map_eq_some_iff.mp hk2
      have heL := hLfs e (List.mem_of_getElem? he)
      have hne : e.1 ∉ (Lf.map (·.1)).take i := not_mem_take hLf (by rw [List.getElem?_map, he]; rfl)
      repeat (walk_at "T")
      refine ⟨fun _ => ?_, nofun⟩
      repeat (walk_at "T")
      refine ⟨⟨nd, rfl, .inr (.inr ⟨_, _, O.fragAt (List.mem_append_right _ m3) _ _ hnd⟩)⟩, X_dict (O.fragAt (List.mem_append_right _ m3) _ _ hnd) (nents_at hLn heL) ?_⟩
      repeat (walk_at "T")
      have hel := (hLe e heL).1
      refine C_code ((filter_own (F := F2.toFc) (n := n + 7) (xs := nums e.2.2) (ys := nums D) (dxs := e.2.2.map .int) (dys := D.map .int) E2.W (by rw [hF]; exact OF') O (.inl (O.fragAt (List.mem_append_right _ m3) _ _ (hG3.list e heL))) (O.get (List.mem_append_right _ m2)) (RdAll.nums _ _) (RdAll.nums _ _) (lay_nums _) (lay_nums _) (by rw [nums_len]; walk_at "num")).mono ?_ (fun _ _ _ z => z.elim))
      rintro v H2 ⟨b', rfl, O⟩
      rw [filt_nums] at O
      refine ⟨e.1, rfl, fun p hp => ?_, ⟨rfl, rfl, trivial⟩, L2 ++ [(e.1, b', lack D (e.1, e.2.2))], ?_, ?_, ?_⟩
      · obtain ⟨z, hz, rfl⟩ := List.mem_map.mp hp
        intro q
        have h3 := congrArg (List.map Prod.fst) h2
        rw [nkeys_pure, List.map_take, List.map_map] at h3
        refine hne ?_
        rw [show (Lf.map (·.1)) = Lf.map (Prod.fst ∘ fun e => (e.1, lack D (e.1, e.2.2))) from rfl, ← h3, ← q]
        exact List.mem_map_of_mem hz
      · unfold nents; rw [List.map_append]; rfl
      · unfold npure at *
        rw [List.map_append, h2, List.take_add_one, List.getElem?_map, he]; rfl
      · have e1 : ∀ base, ncells (L2 ++ [(e.1, b', lack D (e.1, e.2.2))]) ++ base = ncells L2 ++ As.cell b' (.list (nums (lack D (e.1, e.2.2)))) :: base := fun base => by
          unfold ncells
          rw [List.map_append, List.append_assoc]; rfl
        rw [e1]
        exact O.perm List.perm_middle.symm
    clear O
    rintro acc H d2 n2 H25 ⟨L2, rfl, h2, O⟩ hN
    have O := Own.new O hN
    rw [hlo] at O
    clear hlo m1 m2 m3
    clear hN
    rw [nums_len, List.length_map, List.take_of_length_le (by rw [List.length_map]; exact Nat.le_refl _)] at h2
    have O2 : Own2 prog w H25 (((d2, AO.dict (dE (KI prog w) (nents L2)) n2) :: L2.map fun e => (e.2.1, AO.list (nums e.2.2))).map (fun p => As.cell p.1 p.2) ++ .frag G3 :: .cell lt (.list (nums (later D (row.drop hf)))) :: .cell left (.list (nums (Lf.map (·.1)))) :: .cell did (.list (nums D)) :: .srt S3 :: .cell ra (.list (nums row)) :: l) := by
      rw [List.map_cons, List.map_map]; exact O
    clear O
    obtain ⟨G4, O, x4, hl4⟩ := O2.layAll
    have hG4 : NAt prog w G4 d2 L2 := ⟨⟨n2, hl4 _ List.mem_cons_self⟩, fun e he => hl4 (e.2.1, _) (List.mem_cons_of_mem _ (List.mem_map_of_mem he))⟩
    have hp2 : npure L2 = minus (npure L) D := h2.trans hmin.symm
    clear O2 hl4 h2 hmin
    have gM := gn_minus gN D
    repeat (walk_at "T")
    refine C_code ((lsorter_spec (n := n + 5) E.W OF' O .here hG4 (by rw [← nkeys_pure, hp2]; exact gM.nd) (by have := gM.few; rw [← hp2] at this; unfold npure at this; rw [List.length_map] at this; exact this) (fun e he => gM.len (e.1, e.2.2) (by rw [← hp2]; exact List.mem_map_of_mem he))).mono ?_ (fun _ _ _ z => z.elim))
    rintro v H26 hx0_; refine ex5and6 hx0_ fun q2 S4 rd4 wa b2 y5_ O hSp4 hSr4 hb3 hb4 => ?_; try clear hx0_; obtain rfl := y5_
    rw [hp2] at hSp4 hb3 hb4 O
    repeat (walk_at "T")
    obtain ⟨G5, O, x5, hlt⟩ := O.layT (.there (.there (.there (.there .here)))) (.there (.there (.there .here)))
    obtain ⟨D3, rep3⟩ := rep3
    have hl10 : ∀ k ∈ later D (row.drop hf), 0 ≤ k ∧ k < 10 := fun k hk => h10 k (List.mem_of_mem_drop (List.mem_filter.mp hk).1)
    have hll : (later D (row.drop hf)).length ≤ 10 := by
      have h1 := List.length_filter_le (fun x => !decide (x ∈ D)) (row.drop hf)
      rw [List.length_drop] at h1
      unfold later
      walk_at "num"
    have tr3 := tells_rep gN (later D (row.drop hf))
    refine C_code ((ltold_spec (n := n + 8) (row := later D (row.drop hf)) (fun P => ∃ D, Rep (npure L) D P) E.W OF' O (.there (.there (.there (.there (.there (.there .here)))))) .here hlt (by walk_at "num") hl10 hr3 (srt_cl (rep_cl gN rep3)) (srt_sl (rep_sl gN rep3)) ⟨_, rep3⟩ tr3).mono ?_ (fun _ _ _ z => z.elim))
    rintro v H27 hx0_; refine ex3and7 hx0_ fun new S5 G6 y3_ O sm5 hp5 hr5 x6 hnew => ?_; try clear hx0_; obtain rfl := y3_
    have O : Own2 prog w H27 (.frag G6 :: .cell wa (.tup (nums (bld (minus (npure L) D)).frees)) :: .srt S4 :: .cell did (.list (nums D)) :: .cell ra (.list (nums row)) :: l) := O.sub (.cons _ (.cons_cons _ (.cons _ (.cons_cons _ (.cons_cons _ (.cons _ (.cons_cons _ (List.Sublist.refl _))))))))
    have hlt6 : G6 lt = some (.list (nums (later D (row.drop hf)))) := x6 _ _ hlt
    have e36 : Ext G3 G6 := fun a o h => x6 _ _ (x5 _ _ (x4 _ _ h))
    have hG6 := hG3.mono e36
    rw [first_is gN] at hfa
    have hfa6 := e36 _ _ hfa
    have hoa6 := e36 _ _ hoa
    have hors6 := hors.mono e36
    have hoat6 : ∀ (i : Nat) a, ((P1 (npure L)).tells (row.take hf)).2[i]? = some a → ∃ v, ovs[i]? = some v ∧ AnsAt G6 v a := fun i a hi => by
      obtain ⟨v, hv, hr⟩ := hors6.at (i := i) (d := ansD a) (by rw [List.getElem?_map, hi]; rfl)
      exact ⟨v, hv, ans_at hr⟩
    have hne6 : Rd G6 (.list (((((P1 (npure L)).tells (row.take hf)).1).tells (later D (row.drop hf))).2.map ansD)) (.ref new) := by rw [← hp3']; exact hnew
    have hNok := tells_ok gN rep3 (row := later D (row.drop hf)) hl10
    rw [hp3'] at hNok
    clear hnew hfa hoa hors hoat x4 x5 x6 hlt hG3 hG4 hp5 hr5 sm5 hold
    walk_at "T"
    walk_at "T"
    walk_at "T"
    refine T.keepVars [(("needs" : Str), .ref nd), (("row" : Str), .ref ra), (("half" : Str), vI hf), (("ring" : Str), .bool b), (("first" : Str), .ref fa), (("old" : Str), .ref old), (("did" : Str), .ref did), (("later" : Str), .ref lt), (("other" : Str), .ref S4.self), (("again" : Str), .bool b2), (("waits" : Str), .ref wa), (("new" : Str), .ref new)] ⟨rfl, rfl, rfl, rfl, rfl, rfl, rfl, rfl, rfl, rfl, rfl, rfl, trivial⟩ ?_
    change T prog w _ _ _ _ ⟨_, H27⟩
    have hgl := given_len gN (row.take hf)
    unfold given at hgl
    rw [List.length_append] at hgl
    repeat (walk_at "T")
    refine E_listM (α := Int) E [] none rfl rfl (fun _ => rfl) OF'.hh ?_
    repeat (walk_at "T")
    obtain ⟨lo, O, hlo⟩ : ∃ lo, Own2 prog w _ lo ∧ lo = _ := ⟨_, O, rfl⟩
    have m3 : As.frag G6 ∈ lo := by rw [hlo]; walk_at "mem"
    refine ⟨trivial, exi6 .tup (frees0 (npure L)) vI (fun H => Own2 prog w H lo) (fun _ => true) vI ⟨⟨fa, rfl, O.fragAt m3 _ _ hfa6⟩, by walk_at "num", O, fun H vs O => ⟨fa, rfl, O.fragAt m3 _ _ hfa6⟩, ?_, ?_⟩⟩
    · clear O
      intro F2 E2 hF x H hx O
      repeat (walk_at "T")
      refine ⟨fun _ => ?_, nofun⟩
      repeat (walk_at "T")
      exact ⟨rfl, rfl, trivial, O⟩
    clear O
    intro H g1 H28 O hN
    have O := Own.new O hN
    clear hN
    rw [List.filter_eq_self.mpr fun _ _ => rfl] at O
    repeat (walk_at "T")
    refine E_listM2 (α := Value × Ans) (β := Int) E [] rfl rfl rfl (fun _ => rfl) (fun _ _ _ => rfl) OF'.hh ?_
    repeat (walk_at "T")
    obtain ⟨A1, hA1⟩ : ∃ A1, A1 = ((P1 (npure L)).tells (row.take hf)).2 := ⟨_, rfl⟩
    rw [← hA1] at hoat6 hors6 hAl hgl hAok hovl
    have hz : (ovs.zip A1).map (·.1) = ovs := List.map_fst_zip (by walk_at "num")
    have hsrc : ∀ H vs, Own2 prog w H (.cell g1 (.list ((frees0 (npure L)).map vI)) :: lo) → Src ⟨vs, H⟩ (.ref old) ((ovs.zip A1).map (·.1)) .list := fun H vs O =>
      ⟨old, rfl, by rw [hz]; exact O.fragAt (.tail _ m3) _ _ hoa6⟩
    refine ⟨trivial, exi7 .list (ovs.zip A1) (·.1) (fun y => y.2.rs) vI (fun H => Own2 prog w H (.cell g1 (.list ((frees0 (npure L)).map vI)) :: lo)) vI ⟨hsrc _ _ O, by rw [List.length_zip]; walk_at "num", fun y hy => Nat.le_trans (rs_len (List.of_mem_zip hy).2) (by walk_at "num"), O, hsrc, ?_, ?_⟩⟩
    · clear O
      intro F2 E2 hF y H hy O
      repeat (walk_at "T")
      obtain ⟨j, hj⟩ := List.mem_iff_getElem?.mp hy
      obtain ⟨hj1, hj2⟩ := List.getElem?_zip_eq_some.mp hj
      obtain ⟨v, hv, hat⟩ := hoat6 j _ hj2
      cases hj1.symm.trans hv
      obtain ⟨yv, ya⟩ := y
      refine ex3and4 hat fun pa mv ta e1 hpa hmv hta => ?_; try clear hat
      cases (e1 : yv = .ref pa)
      refine ⟨⟨pa, rfl, .inl ⟨_, O.fragAt (.tail _ m3) _ _ hpa⟩⟩, ?_⟩
      refine X_list (O.fragAt (.tail _ m3) _ _ hpa) (by decide) rfl (by decide) ?_
      refine ⟨.tup, ⟨ta, rfl, O.fragAt (.tail _ m3) _ _ hta⟩, O, trivial, fun H vs O => ⟨ta, rfl, O.fragAt (.tail _ m3) _ _ hta⟩, ?_⟩
      clear O
      intro x H hx O
      repeat (walk_at "T")
      exact ⟨rfl, trivial, O⟩
    clear O hsrc
    intro H g2 H29 O hN
    have O := Own.new O hN
    rw [hlo] at O
    clear hlo m3
    clear hN
    have hfm : (ovs.zip A1).flatMap (fun y => y.2.rs) = A1.flatMap (·.rs) := by
      have h1 : (ovs.zip A1).map (·.2) = A1 := List.map_snd_zip (by walk_at "num")
      conv => rhs; rw [← h1, List.flatMap_map]
    rw [hfm] at O
    refine B_addL (O.get (.tail _ (.head _))) (O.get (.head _)) (by rw [List.length_map, List.length_map]; walk_at "num") ?_
    intro gv H30 hN; have O := Own.new O hN; clear hN
    have egv : (frees0 (npure L)).map vI ++ (A1.flatMap (·.rs)).map vI = nums (given (npure L) (row.take hf)) := by
      unfold given nums
      rw [List.map_append, ← hA1]
    rw [egv] at O
    have O : Own2 prog w H30 (.cell gv (.list (nums (given (npure L) (row.take hf)))) :: .frag G6 :: .cell wa (.tup (nums (bld (minus (npure L) D)).frees)) :: .srt S4 :: .cell did (.list (nums D)) :: .cell ra (.list (nums row)) :: l) := O.sub (.cons_cons _ (.cons _ (.cons _ (List.Sublist.refl _))))
    clear egv hfm hz
    walk_at "T"
    walk_at "T"
    walk_at "T"
    walk_at "T"
    refine T.keepVars [(("needs" : Str), .ref nd), (("row" : Str), .ref ra), (("half" : Str), vI hf), (("ring" : Str), .bool b), (("first" : Str), .ref fa), (("old" : Str), .ref old), (("did" : Str), .ref did), (("later" : Str), .ref lt), (("other" : Str), .ref S4.self), (("again" : Str), .bool b2), (("waits" : Str), .ref wa), (("new" : Str), .ref new), (("given" : Str), .ref gv)] ⟨rfl, rfl, rfl, rfl, rfl, rfl, rfl, rfl, rfl, rfl, rfl, rfl, rfl, trivial⟩ ?_
    change T prog w _ _ _ _ ⟨_, H30⟩
    have hbb : b2 = b := by
      refine ring_same gN (row.take hf) hb1 hb2 ?_ ?_
      · rw [hD]; exact hb3
      · rw [hD]; exact hb4
    rw [hbb]
    repeat (walk_at "T")
    refine P_isntBB ?_
    refine ⟨_, rfl, (fun h => by cases b <;> cases h), fun _ => ?_⟩
    repeat (walk_at "T")
    refine C_code ((filter_own (n := n + 7) (xs := nums (given (npure L) (row.take hf))) (ys := nums D) (dxs := (given (npure L) (row.take hf)).map .int) (dys := D.map .int) E.W OF' O (.inl (O.get (.head _))) (O.get (.tail _ (.tail _ (.tail _ (.tail _ (.head _)))))) (RdAll.nums _ _) (RdAll.nums _ _) (lay_nums _) (lay_nums _) (by have := given_len gN (row.take hf); rw [nums_len]; walk_at "num")).mono ?_ (fun _ _ _ z => z.elim))
    rintro v H31 ⟨fg, rfl, O⟩
    rw [filt_nums] at O
    have hfgl : ((given (npure L) (row.take hf)).filter fun n => !decide (n ∈ D)).length < 64 := by
      have h1 := given_len gN (row.take hf)
      have h2 := List.length_filter_le (fun n => !decide (n ∈ D)) (given (npure L) (row.take hf))
      walk_at "num"
    repeat (walk_at "T")
    refine C_sorted (.inl (O.get (.head _))) hfgl fun so ns' H32 hN hper hsrt => ?_
    have O := Own.new O hN
    clear hN
    have hw : (bld (minus (npure L) D)).frees = ns' := by
      rw [← hD] at hper ⊢
      exact waits_is gN _ _ hper hsrt
    have hnl : ns'.length ≤ 64 := by have := hper.length_eq; walk_at "num"
    repeat (walk_at "T")
    intro wt H33 hN; have O := Own.new O hN; clear hN
    rw [hw] at O
    have hcl : cLine = 9900 := rfl
    have htl : PyData.canLay0 (.tuple (ns'.map .int)) = true := lay_nums _
    have htd : PyData.depth (.tuple (ns'.map .int)) ≤ 10 := by
      show PyData.depthAll (ns'.map .int) + 1 ≤ 10
      rw [depth_nums]; decide
    refine P_neD (da := .tuple (ns'.map .int)) (db := .tuple (ns'.map .int)) ⟨wa, _, rfl, O.get (.tail _ (.tail _ (.tail _ (.tail _ (.tail _ (.head _)))))), RdAll.nums _ _⟩ ⟨wt, _, rfl, O.get (.head _), RdAll.nums _ _⟩ htl htl (by walk_at "num") ?_
    refine ⟨_, rfl, (fun h => by rw [eqv_self _ htl] at h; cases h), fun _ => ?_⟩
    have O : Own2 prog w H33 (.frag G6 :: .srt S4 :: .cell did (.list (nums D)) :: .cell ra (.list (nums row)) :: l) := O.sub (.cons _ (.cons _ (.cons _ (.cons _ (.cons_cons _ (.cons _ (List.Sublist.refl _)))))))
    clear htl htd
    have rep4 : Rep (minus (npure L) D) [] S4.p := by rw [hSp4]; exact rep_bld gM
    have tr4 := tells_rep gM (later D (row.drop hf))
    repeat (walk_at "T")
    refine C_code ((ltold_spec (n := n + 8) (row := later D (row.drop hf)) (fun P => ∃ D', Rep (minus (npure L) D) D' P) E.W OF' O (.there .here) .here hlt6 (by walk_at "num") hl10 hSr4 (srt_cl (rep_cl gM rep4)) (srt_sl (rep_sl gM rep4)) ⟨_, rep4⟩ tr4).mono ?_ (fun _ _ _ z => z.elim))
    rintro v H34 hx0_; refine ex3and7 hx0_ fun o2 S7 G7 y3_ O sm7 hp7 hr7 x7 ho2 => ?_; try clear hx0_; obtain rfl := y3_
    have hoth : (S4.p.tells (later D (row.drop hf))).2 = (((P1 (npure L)).tells (row.take hf)).1.tells (later D (row.drop hf))).2 := by
      rw [hSp4, ← hD]
      exact other_is gN (row.take hf) (row.drop hf)
    rw [hoth] at ho2
    obtain ⟨A2, hA2⟩ : ∃ A2, A2 = (((P1 (npure L)).tells (row.take hf)).1.tells (later D (row.drop hf))).2 := ⟨_, rfl⟩
    rw [← hA2] at ho2 hNok hne6
    have hal : PyData.canLay0 (.list (A2.map ansD)) = true := ansDs_lay hNok
    have had : PyData.depth (.list (A2.map ansD)) ≤ 10 := by
      have := ansDs_depth A2
      show PyData.depthAll (A2.map ansD) + 1 ≤ 10
      walk_at "num"
    have hne7 : Rd G7 (.list (A2.map ansD)) (.ref new) := hne6.mono x7
    repeat (walk_at "T")
    refine P_neD (da := .list (A2.map ansD)) (db := .list (A2.map ansD)) (O.rd (by walk_at "mem") ho2) (O.rd (by walk_at "mem") hne7) hal hal (by walk_at "num") ?_
    refine ⟨_, rfl, (fun h => by rw [eqv_self _ hal] at h; cases h), fun _ => ?_⟩
    have O : Own2 prog w H34 (.frag G7 :: .cell did (.list (nums D)) :: .cell ra (.list (nums row)) :: l) := O.tail
    have hG7 := hG6.mono x7
    have hfa7 := x7 _ _ hfa6
    have hoa7 := x7 _ _ hoa6
    have hors7 := hors6.mono x7
    refine ex2and5 (answers_at hne7) fun nv nvs he2 hnv hnrs hnvl _ => ?_
    cases he2
    repeat (walk_at "T")
    refine ⟨nofun, fun _ => ?_⟩
    have hAl2 : A2.length ≤ 10 := by rw [hA2, tells_len]; exact hll
    repeat (walk_at "T")
    refine B_addL (O.fragAt (.head _) _ _ hoa7) (O.fragAt (.head _) _ _ hnv) (by walk_at "num") ?_
    intro on H35 hN; have O := Own.new O hN; clear hN
    repeat (walk_at "T")
    intro ls H36 hN; have O := Own.new O hN; clear hN
    repeat (walk_at "T")
    refine exi3 ra _ hf ⟨rfl, rfl, O.get (.tail _ (.tail _ (.tail _ (.tail _ (.head _))))), by rw [nums_len]; walk_at "num", ?_⟩
    intro s1 H37 hN; have O := Own.new O hN; clear hN
    repeat (walk_at "T")
    refine E_listM (α := Int) E [(("did" : Str), .ref did)] none rfl rfl (fun _ => rfl) OF'.hh ?_
    repeat (walk_at "T")
    refine exi3 ra _ hf ⟨rfl, rfl, O.get (.tail _ (.tail _ (.tail _ (.tail _ (.tail _ (.head _)))))), by rw [nums_len]; walk_at "num", ?_⟩
    intro s2 H38 hN; have O := Own.new O hN; clear hN
    rw [show (nums row).drop hf = nums (row.drop hf) from by rw [nums, nums, List.map_drop], show (nums row).take hf = nums (row.take hf) from by rw [nums, nums, List.map_take]] at O
    obtain ⟨lo, O, hlo⟩ : ∃ lo, Own2 prog w _ lo ∧ lo = _ := ⟨_, O, rfl⟩
    have m1 : As.cell s2 (.list (nums (row.drop hf))) ∈ lo := by rw [hlo]; walk_at "mem"
    have m2 : As.cell did (.list (nums D)) ∈ lo := by rw [hlo]; walk_at "mem"
    refine ⟨⟨rfl, trivial⟩, exi6 .list (row.drop hf) vI (fun H => Own2 prog w H lo) (fun x => !decide (x ∈ D)) vI ⟨⟨s2, rfl, O.get m1⟩, by rw [List.length_drop]; walk_at "num", O, fun H vs O => ⟨s2, rfl, O.get m1⟩, ?_, ?_⟩⟩
    · clear O
      intro F2 E2 hF x H hx O
      have hu3 : F2.A.units < 9000 := by rw [show F2.A = F'.A from congrArg Fc.A hF]; walk_at "num"
      repeat (walk_at "T")
      refine P_notInI (l := did) (O.get m2) hu3 ?_
      refine ⟨_, rfl, fun h => ?_, fun h => ⟨h, ⟨rfl, trivial⟩, O⟩⟩
      repeat (walk_at "T")
      exact ⟨h, rfl, ⟨rfl, trivial⟩, O⟩
    clear O
    intro H s3 H39 O hN
    have O := Own.new O hN
    rw [hlo] at O
    clear hlo m1 m2
    clear hN
    refine B_addL (O.get (.tail _ (.tail _ (.head _)))) (O.get (.head _)) (by
      have h1 := List.length_filter_le (fun x => !decide (x ∈ D)) (row.drop hf)
      rw [List.length_drop] at h1
      rw [nums_len, List.length_take, List.length_map]; walk_at "num") ?_
    intro rb H40 hN; have O := Own.new O hN; clear hN
    have erb : nums (row.take hf) ++ ((row.drop hf).filter fun x => !decide (x ∈ D)).map vI = nums (row.take hf ++ later D (row.drop hf)) := by
      unfold later nums
      rw [List.map_append]
    rw [erb] at O
    obtain ⟨G8, O, x8, hrb⟩ := O.layT .here (.there (.there (.there (.there (.there .here)))))
    have O : Own2 prog w H40 (.frag G8 :: .cell ls (.list [.ref fa, .ref on, .bool b]) :: .cell on (.list (ovs ++ nvs)) :: l) := O.sub (.cons_cons _ (.cons _ (.cons _ (.cons _ (.cons_cons _ (.cons_cons _ (.cons _ (.cons _ (List.Sublist.refl _)))))))))
    repeat (walk_at "T")
    refine C_code ((lbook_spec (n := n + 10) (row := row.take hf ++ later D (row.drop hf)) E.W OF' O .here (hG7.mono x8) hLn hLl (fun e he => (hLe e he).1) hrb (by rw [List.length_append, List.length_take]; walk_at "num") (fun k hk => by
      rcases List.mem_append.mp hk with hk | hk
      · exact h10 k (List.mem_of_mem_take hk)
      · exact hl10 k hk)).mono ?_ (fun _ _ _ z => z.elim))
    rintro v H41 ⟨G9, O, x9, hrv⟩
    have hlen : (npure L).length = L.length := by unfold npure; exact List.length_map _
    have hri := ring_is gN (row.take hf ++ later D (row.drop hf)) hb1 hb2
    rw [hlen] at hri
    have hai := all_is gN (row.take hf) (row.drop hf)
    rw [hD, ← hA1, ← hA2] at hai
    rw [hri, ← hai] at hrv
    have hfl : PyData.canLay0 (.list [.tuple ((frees0 (npure L)).map .int), .list ((A1 ++ A2).map ansD), .bool b]) = true := by
      show (PyData.canLayAll0 ((frees0 (npure L)).map .int) && (PyData.canLayAll0 ((A1 ++ A2).map ansD) && (true && true))) = true
      rw [lay_nums, ansDs_lay fun a ha => (List.mem_append.mp ha).elim (hAok a) (hNok a)]; rfl
    have hfd : PyData.depth (.list [.tuple ((frees0 (npure L)).map .int), .list ((A1 ++ A2).map ansD), .bool b]) ≤ 10 := by
      have := ansDs_depth (A1 ++ A2)
      show max (PyData.depthAll ((frees0 (npure L)).map .int) + 1) (max (PyData.depthAll ((A1 ++ A2).map ansD) + 1) (max 0 0)) + 1 ≤ 10
      rw [depth_nums]; walk_at "num"
    have hl : Rd H41 (.list [.tuple ((frees0 (npure L)).map .int), .list ((A1 ++ A2).map ansD), .bool b]) (.ref ls) :=
      ⟨ls, _, rfl, O.get (.tail _ (.head _)), ⟨fa, _, rfl, O.fragAt (.head _) _ _ (x9 _ _ (x8 _ _ hfa7)), RdAll.nums _ _⟩, ⟨on, _, rfl, O.get (.tail _ (.tail _ (.head _))), by
        rw [List.map_append]
        exact O.rdAll (.head _) (((hors7.mono x8).mono x9).app ((hnrs.mono x8).mono x9))⟩, rfl, trivial⟩
    repeat (walk_at "T")
    refine P_eqD hl (O.rd (.head _) hrv) hfl hfl (by walk_at "num") ?_
    rw [eqv_self _ hfl]
    repeat (walk_at "T")
    exact ⟨rfl, O.sub (.cons _ (.cons _ (.cons _ (List.Sublist.refl _))))⟩
end
end
section
set_option maxRecDepth 100000
set_option Elab.async false
set_option linter.unusedVariables false
open PySem PySem.W PySem.Calls PyProof.Rows PySem.SeqAt
theorem mem_lookup {K : Frag} {a : Addr} {o : Obj} (h : K.lookup a = some o) : (a, o) ∈ K := by
  induction K with
  | nil => cases h
  | cons p r ih =>
    obtain ⟨b, ob⟩ := p
    rw [List.lookup_cons] at h
    split at h
    · rename_i e
      have e : a = b := by simpa using e
      cases h; subst e; exact List.mem_cons_self
    · exact List.mem_cons_of_mem _ (ih h)
noncomputable def notList (o : Obj) : Bool := match o.cls with
  | .type c => c != "list"
  | _ => true
noncomputable def atLaw (h : Heap) (os : OsState) (l : Addr) : Fc := { A := callerA, base := hide h [l], stk := [], os := os }
noncomputable def onlyPin (l : Addr) (p : Obj) : AHeap := upd (fun _ => none) l (.pin p)
section
variable {prog : Program} {w : World} {s₁ : Shared} {mg mb : Str → Option Value} {l : Addr} {vs : List Value} {ns : List Int} {K : Frag} {p : Obj}
theorem base_get (h : Heap) (l b : Addr) (hb : b ≠ l) : (hide h [l]).get? b = h.get? b := by
  rw [hide_get, if_neg (by simpa using hb)]
theorem law_wld (KX : K.In s₁.heap) (hK : K.all (fun q => notList q.2) = true) (Tg : s₁.heap.Ns mainGlobals mg) (Tb : s₁.heap.Ns builtinsNs mb) (bi : ∀ x : Str, x ≠ "__name__" → mb x = bootBuiltins x) (sr : s₁.heap.NoSeer)
    (hl : s₁.heap.get? l = some p) (hc : p.cls = .type "list") (hd : ∃ items n, p.data = .seq items n) : Wld K (atLaw s₁.heap s₁.os l) mg mb := by
  obtain ⟨items, n, hd⟩ := hd
  have hne : ∀ {a : Addr} {m : Str → Option Value}, s₁.heap.Ns a m → a ≠ l := by
    rintro a m ⟨o, es, ep, ho, hdd, _⟩ rfl
    rw [hl] at ho; cases ho
    rw [hd] at hdd; cases hdd
  have tr : ∀ {a : Addr} {m : Str → Option Value}, s₁.heap.Ns a m → (hide s₁.heap [l]).Ns a m := fun {a m} x => by
    have := hne x
    obtain ⟨o, es, ep, ho, r⟩ := x
    exact ⟨o, es, ep, (base_get _ _ _ this).trans ho, r⟩
  refine ⟨fun a o e => ?_, tr Tg, tr Tb, bi, ?_⟩
  · have hx := KX a o e
    refine (base_get _ _ _ ?_).trans hx
    rintro rfl
    rw [hl] at hx; cases hx
    have := List.all_eq_true.mp hK _ (mem_lookup e)
    have : notList p = true := this
    unfold notList at this
    rw [hc] at this
    exact absurd this (by decide)
  · obtain ⟨mm, ⟨o, es, ep, ho, r⟩, _⟩ := sr.mods
    show (hide s₁.heap [l]).get? sysModules ≠ none
    rw [base_get _ _ _ (hne ⟨o, es, ep, ho, r⟩), ho]
    exact nofun
theorem law_ok (nl : s₁.heap.NoLimit) (hl : s₁.heap.get? l = some p) (hd : ∃ items n, p.data = .seq items n) : (atLaw s₁.heap s₁.os l).Ok 100 := by
  obtain ⟨items, n, hd⟩ := hd
  refine ⟨rfl, (by decide : (1 + claimMargin) + 100 < 900), (by decide : 4 + 10 * 100 < 5000), ?_, rfl⟩
  obtain ⟨mc, ⟨o, es, ep, ho, hdd, r⟩, q⟩ := nl
  refine ⟨mc, ⟨o, es, ep, (base_get _ _ _ ?_).trans ho, hdd, r⟩, q⟩
  intro e
  rw [e, hl] at ho; cases ho
  rw [hd] at hdd; cases hdd
theorem law_rel (hg : s₁.gens = #[]) (hl : s₁.heap.get? l = some p) : HRel prog w (atLaw s₁.heap s₁.os l) (onlyPin l p) s₁ where
  stays b o e := by
    have e : (hide s₁.heap [l]).get? b = some o := e
    rw [hide_get] at e
    split at e
    · cases e
    · exact e
  cells a o e := by
    unfold onlyPin upd at e
    split at e
    · rename_i q; subst q; cases e; exact ⟨p, hl, rfl⟩
    · cases e
  notBase a e := by
    show (hide s₁.heap [l]).get? a = none
    rw [hide_get, if_pos]
    unfold onlyPin upd at e
    split at e
    · rename_i q; simpa using q
    · exact absurd rfl e
  frames := trivial
  frCls := fun env h => absurd h List.not_mem_nil
  gens := hg
  os := rfl
theorem law_own {cN cT : Addr} : Own prog w cN cT (onlyPin l p) [.cell l (.pin p)] := Own.new Own.nil ⟨rfl, rfl⟩
theorem law_keep {cN cT : Addr} {H' : AHeap} {s' : Shared} (hl : s₁.heap.get? l = some p) (R : HRel prog w (atLaw s₁.heap s₁.os l) H' s') (A : After [] [] (onlyPin l p) s₁ H' s') (O : Own prog w cN cT H' [.cell l (.pin p)]) :
    ∀ b o, s₁.heap.get? b = some o → s'.heap.get? b = some o := fun b o e => by
  by_cases h : b = l
  · subst h
    rw [hl] at e; cases e
    obtain ⟨o', ho', q⟩ := R.cells _ _ (O.get (.head _))
    rw [ho', show o' = _ from q]
  · obtain ⟨sl, e1, c1⟩ := A.keep b o e (by unfold onlyPin upd; rw [if_neg h]) nofun
    rw [e1, c1 nofun]
end
end
section
set_option maxRecDepth 100000
set_option Elab.async false
set_option linter.unusedVariables false
set_option maxHeartbeats 4000000
open PySem PySem.W PySem.Calls PyProof.Rows PySem.SeqAt
theorem ints_er {vs : List Value} {ns : List Int} (h : IntsAre vs ns) : vs.map er = nums ns := by
  induction h with
  | nil => rfl
  | cons n t _ ih => show vI n :: _ = vI n :: _; rw [ih]
theorem er_true {v : Value} (h : er v = .bool true) : v = .bool true := by
  cases v with
  | bool b => exact h
  | _ => cases h
theorem K2_lists (w : World) : (K2 w).all (fun q => notList q.2) = true := by rfl
theorem law_end {prog : Program} {w : World} {s₁ : Shared} {mg mb : Str → Option Value} {l : Addr} {vs : List Value} {ns : List Int} {Q E : Value → Shared → Prop}
    (KX : (K2 w).In s₁.heap) (Tg : s₁.heap.Ns mainGlobals mg) (Tb : s₁.heap.Ns builtinsNs mb) (bi : ∀ x : Str, x ≠ "__name__" → mb x = bootBuiltins x) (sr : s₁.heap.NoSeer) (nl : s₁.heap.NoLimit)
    (hL : s₁.heap.IsList l vs.toArray) (hI : IntsAre vs ns) (hlen : ns.length ≤ 63) (hg : s₁.gens = #[])
    (hQ : ∀ s', (∀ b o, s₁.heap.get? b = some o → s'.heap.get? b = some o) → s'.os = s₁.os → s'.gens = #[] → Q (.bool true) s') :
    wpAny (model prog w) callerA (call (.ref 221) [.ref l]) Q E s₁ := by
  obtain ⟨p, hp, hc, n, hd⟩ := hL
  have C := law_walk (prog := prog) (n := 88) (script := ns) (l := [.cell l (.pin p)]) (law_wld KX (K2_lists w) Tg Tb bi sr hp hc ⟨_, _, hd⟩) (law_ok nl hp ⟨_, _, hd⟩) law_own (.head _) ⟨_, n, hc, hd, ints_er hI⟩ hlen
  refine wpAny_call (codeAny_mono (C s₁ [.ref l] rfl (law_rel hg hp)) fun r s' z => ?_)
  refine CPost.elim z (fun v H' e R A c => ?_) (fun _ _ _ _ _ _ _ _ x => x.elim)
  subst e
  obtain ⟨hv, O⟩ := c
  cases er_true hv
  exact hQ s' (law_keep hp R A O) R.os R.gens
end
end Mine
set_option maxRecDepth 100000
set_option Elab.async false
set_option linter.unusedVariables false
set_option maxHeartbeats 8000000
open PySem PySem.W PyProof.Rows PySem.SeqAt Mine
theorem PySem.Challenge.cw_ik0043_02_holds : PySem.Challenge.rw_ik0043_02.Holds := by
  refine Mine.headP.2 ?_
  unfold Mine.headP
  show _
  intro w s₀ s₁ mg mb G Y fa o pm cd doc dV kV ho hd hcd hD hmg hg args vals as hpre hlay hrd hwl hlo
  have KX := kIn_of Y
  refine Ground.open G ?_
  intro T B D TE TW
  have hfa : fa = 221 := by
    have h1 : mg "law" = some (.ref 221) := mg_of KX T.g (by rfl)
    have h2 : mg "law" = some (.ref fa) := hmg
    rw [h1] at h2
    cases h2; rfl
  subst hfa
  have sr : s₁.heap.NoSeer := T.seer (by decide +kernel)
  clear hd hcd hD hmg ho B D TE TW
  wrow_args hpre hlay hrd hwl hlo
  rename_i ns _ _ _ _ _ _ _ l vs _ hL _ _ _ hI _ hcond _
  refine law_end KX T.g T.b T.builtins sr T.nolimit hL hI (by omega) hg fun s' hk hos hgs => GoodW.toG ⟨.inl ⟨_, .bool true, [], rfl, ?_, .bool true, ?_, ?_⟩, ?_, hos, hgs⟩
  · exact raisesW_false (by wrow_none_raised)
  · wrow_post
  · exact fun _ => ⟨.nil, fun _ ha => absurd ha List.not_mem_nil⟩
  · exact hk
