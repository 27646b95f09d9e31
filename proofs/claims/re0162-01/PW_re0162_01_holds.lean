import PyProof.Rows.All
import Wide.All
import OpenK.AllK
import Wide.FinOn
import PySem.Challenge.RW_re0162_01
set_option maxRecDepth 100000
set_option Elab.async false
set_option linter.unusedVariables false
set_option linter.unusedSimpArgs false
set_option rowWalk.seconds 0
/-! HeadG -/
namespace MineH
open PySem PySem.W PySem.Calls PyProof.Rows
/-! exact runs, counted, without a heap written out -/
theorem segGo_add {tb : String → Option Builtin} {p : Program} {w : World} {n₀ : Nat} {ann : Option Value} {b : Nat} : ∀ {n N : Nat} {s s' : Shared} {t t' : Thread} {r : Option (Shared × Thread)}, segGo tb p w n₀ ann b n s t = some (s', t') →
    segGo tb p w n₀ ann b N s' t' = r → segGo tb p w n₀ ann b (n + N) s t = r
  | 0, N, s, s', t, t', r, h, k => by
    have e : s = s' ∧ t = t' := by simpa [segGo] using h
    rw [e.1, e.2, Nat.zero_add]; exact k
  | n + 1, N, s, s', t, t', r, h, k => by
    rw [show n + 1 + N = n + N + 1 by omega]
    unfold segGo at h ⊢
    cases he : endAt b t with
    | some f => rw [he] at h; cases h
    | none =>
      rw [he] at h
      dsimp only at h ⊢
      cases hk : stepOk n₀ ann t with
      | false => rw [hk] at h; cases h
      | true =>
        rw [hk] at h
        dsimp only at h ⊢
        cases hs : step (denote tb) p w s t with
        | halt o s2 => rw [hs] at h; cases h
        | go s2 t2 => rw [hs] at h; dsimp only at h ⊢; exact segGo_add h k
theorem segGo_step {tb : String → Option Builtin} {p : Program} {w : World} {n₀ : Nat} {ann : Option Value} {b n : Nat} {s s2 : Shared} {t t2 : Thread} (he : endAt b t = none) (hk : stepOk n₀ ann t = true) (hs : step (denote tb) p w s t = .go s2 t2) :
    segGo tb p w n₀ ann b (n + 1) s t = segGo tb p w n₀ ann b n s2 t2 := by
  show (match endAt b t with | some _ => none | none => match stepOk n₀ ann t with | false => none | true => match step (denote tb) p w s t with | .go s' t' => segGo tb p w n₀ ann b n s' t' | .halt _ _ => none) = _
  rw [he, hk, hs]
/-- what a call runs, from its code to its end -/
noncomputable def Callee (p : Program) (w : World) (n₀ : Nat) (ann : Option Value) (c : Code) (s : Shared) (q : Pos) (m : Nat) (f : Flow) (s1 : Shared) : Prop :=
  ∀ (k : Result → Sem Fin) (h : Option Value) (g : Bool) (l : List Value) (cd : Code) (pp : Pos) (kept : List Value) (fr : Frame), ∃ c1 q1 kept', segGo treeTable p w n₀ ann 1 m s ⟨denote treeTable c, c, q, [.ret k h g l cd pp kept, fr]⟩ = some (s1, ⟨.pure (.done f), c1, q1, [.ret k h g l cd pp kept', fr]⟩) ∧
    stepOk n₀ ann ⟨.pure (.done f), c1, q1, [.ret k h g l cd pp kept', fr]⟩ = true
inductive Go (p : Program) (w : World) (n₀ : Nat) (ann : Option Value) {α : Type} : Sem α → Shared → Pos → Nat → α → Shared → Pos → Prop where
  | pure {a : α} {s : Shared} {q : Pos} : Go p w n₀ ann (.pure a) s q 0 a s q
  | rule {t : String} {k : Unit → Sem α} {s s' : Shared} {q q' : Pos} {n : Nat} {v : α} : Go p w n₀ ann (k ()) s q n v s' q' → Go p w n₀ ann (.rule t k) s q (n + 1) v s' q'
  | at {pp : Pos} {k : Unit → Sem α} {s s' : Shared} {q q' : Pos} {n : Nat} {v : α} : Go p w n₀ ann (k ()) s pp n v s' q' → Go p w n₀ ann (.at pp k) s q (n + 1) v s' q'
  | load {a : Addr} {part : Option Value} {k : Obj → Sem α} {o : Obj} {s s' : Shared} {q q' : Pos} {n : Nat} {v : α} : s.heap.get? a = some o → Go p w n₀ ann (k o) s q n v s' q' → Go p w n₀ ann (.load a part k) s q (n + 1) v s' q'
  | update {a : Addr} {part : Option Value} {f : Obj → Obj} {k : Unit → Sem α} {s s' : Shared} {q q' : Pos} {n : Nat} {v : α} : (s.heap.get? a).isSome = true → Nat.ble n₀ a = true → Go p w n₀ ann (k ()) { s with heap := s.heap.update a f } q n v s' q' → Go p w n₀ ann (.update a part f k) s q (n + 1) v s' q'
  | alloc {o : Obj} {k : Addr → Sem α} {s s' : Shared} {q q' : Pos} {n : Nat} {v : α} : Go p w n₀ ann (k s.heap.objs.size) { s with heap := s.heap.push o } q n v s' q' → Go p w n₀ ann (.alloc o k) s q (n + 1) v s' q'
  | fresh {k : Tok → Sem α} {s s' : Shared} {q q' : Pos} {n : Nat} {v : α} : Go p w n₀ ann (k s.toks) { s with toks := s.toks + 1 } q n v s' q' → Go p w n₀ ann (.fresh k) s q (n + 1) v s' q'
  | ask {k : Setting → Sem α} {s s' : Shared} {q q' : Pos} {n : Nat} {v : α} : Go p w n₀ ann (k ⟨p, w.params⟩) s q n v s' q' → Go p w n₀ ann (.ask k) s q (n + 1) v s' q'
  | call {c : Code} {hd : Option Value} {g : Bool} {l : List Value} {k : Result → Sem α} {s s1 s' : Shared} {q q' : Pos} {m n : Nat} {f : Flow} {v : α} : Callee p w n₀ ann c s q m f s1 → Go p w n₀ ann (k (.ok f)) s1 q n v s' q' → Go p w n₀ ann (.call c hd g l k) s q (1 + (m + (1 + n))) v s' q'
section
variable {p : Program} {w : World} {n₀ : Nat} {ann : Option Value} {α β : Type}
theorem Go.seg {b : List Stmt} {env : Env} {fr : Frame} {m : Sem α} {s s' : Shared} {q q' : Pos} {n : Nat} {v : α} (h : Go p w n₀ ann m s q n v s' q') : ∀ (K : α → Sem Fin) (H : Value → Sem Fin) (gd : Bool → Bool) (lv : List Value → List Value),
    segGo treeTable p w n₀ ann 1 n s ⟨m.wrap K H gd lv, .body b env, q, [fr]⟩ = some (s', ⟨K v, .body b env, q', [fr]⟩) := by
  induction h with
  | pure => intro K H gd lv; rfl
  | rule _ ih => intro K H gd lv; exact ih K H gd lv
  | «at» _ ih => intro K H gd lv; exact ih K H gd lv
  | load e _ ih =>
    intro K H gd lv
    refine (segGo_step (by rfl) (by rfl) ?_).trans (ih K H gd lv)
    simp only [Sem.wrap, step, e]
  | update e l _ ih =>
    intro K H gd lv
    refine (segGo_step (by rfl) ?_ ?_).trans (ih K H gd lv)
    · unfold stepOk
      simp only [Sem.wrap, l, Bool.true_or, Bool.and_true]
      rfl
    · simp only [Sem.wrap, step, e, if_true]
  | alloc _ ih => intro K H gd lv; exact ih K H gd lv
  | fresh _ ih => intro K H gd lv; exact ih K H gd lv
  | ask _ ih => intro K H gd lv; exact ih K H gd lv
  | call hc _ ih =>
    intro K H gd lv
    rename_i c hd g l k s s1 s' q q' m n f v _
    have key : ∀ kept, segGo treeTable p w n₀ ann 1 (m + (1 + n)) s ⟨denote treeTable c, c, q, [.ret (fun x => (k x).wrap K H gd lv) hd (gd g) (lv l) (.body b env) q kept, fr]⟩ = some (s', ⟨K v, .body b env, q', [fr]⟩) := by
      intro kept
      obtain ⟨c1, q1, kept', h1, h2⟩ := hc (fun x => (k x).wrap K H gd lv) hd (gd g) (lv l) (.body b env) q kept fr
      refine segGo_add h1 ?_
      rw [Nat.add_comm]
      exact (segGo_step (by rfl) h2 (by rfl)).trans (ih K H gd lv)
    rw [Nat.add_comm]
    exact (segGo_step (by rfl) (by rfl) (by rfl)).trans (key _)
theorem Go.wrap {m : Sem α} {s s1 : Shared} {q q1 : Pos} {n1 : Nat} {a : α} {K : α → Sem β} {H : Value → Sem β} {gd : Bool → Bool} {lv : List Value → List Value} (h : Go p w n₀ ann m s q n1 a s1 q1) :
    ∀ {n2 : Nat} {v : β} {s2 : Shared} {q2 : Pos}, Go p w n₀ ann (K a) s1 q1 n2 v s2 q2 → Go p w n₀ ann (m.wrap K H gd lv) s q (n1 + n2) v s2 q2 := by
  induction h with
  | pure => intro n2 v s2 q2 h2; rw [Nat.zero_add]; exact h2
  | rule _ ih => intro n2 v s2 q2 h2; rw [Nat.add_right_comm]; exact .rule (ih h2)
  | «at» _ ih => intro n2 v s2 q2 h2; rw [Nat.add_right_comm]; exact .at (ih h2)
  | load e _ ih => intro n2 v s2 q2 h2; rw [Nat.add_right_comm]; exact .load e (ih h2)
  | update e l _ ih => intro n2 v s2 q2 h2; rw [Nat.add_right_comm]; exact .update e l (ih h2)
  | alloc _ ih => intro n2 v s2 q2 h2; rw [Nat.add_right_comm]; exact .alloc (ih h2)
  | fresh _ ih => intro n2 v s2 q2 h2; rw [Nat.add_right_comm]; exact .fresh (ih h2)
  | ask _ ih => intro n2 v s2 q2 h2; rw [Nat.add_right_comm]; exact .ask (ih h2)
  | call hc _ ih => intro n2 v s2 q2 h2; rw [Nat.add_assoc, Nat.add_assoc, Nat.add_assoc]; exact .call hc (ih h2)
theorem Go.bind {m : Sem α} {s s1 s2 : Shared} {q q1 q2 : Pos} {n1 n2 : Nat} {a : α} {v : β} {f : α → Sem β} (h : Go p w n₀ ann m s q n1 a s1 q1) (h2 : Go p w n₀ ann (f a) s1 q1 n2 v s2 q2) : Go p w n₀ ann (m >>= f) s q (n1 + n2) v s2 q2 := by
  rw [Sem.bind_eq_wrap']; exact h.wrap h2
theorem Go.holding {m : Sem α} {s s1 : Shared} {q q1 : Pos} {n : Nat} {a : α} {vs : List Value} (h : Go p w n₀ ann m s q n a s1 q1) : Go p w n₀ ann (holding vs m) s q n a s1 q1 := by
  unfold PySem.holding
  split
  · exact h
  · rw [Sem.keep_eq_wrap]
    exact h.wrap Go.pure
theorem Go.onRaise {m : Sem α} {s s1 : Shared} {q q1 : Pos} {n : Nat} {a : α} {hd : Value → Sem Unit} (h : Go p w n₀ ann m s q n a s1 q1) : Go p w n₀ ann (m.onRaise hd) s q n a s1 q1 := by
  rw [Sem.onRaise_eq_wrap]
  exact h.wrap Go.pure
end
end MineH

/-! HeadH -/
namespace MineH
open PySem PySem.W PySem.Calls PyProof.Rows
theorem Callee_int_hash {p : Program} {w : World} {n₀ : Nat} {ann : Option Value} {k : Int} {t : Tok} {s : Shared} {q : Pos} :
    Callee p w n₀ ann (.call (.builtin "int.__hash__") ⟨[.int k t], []⟩) s q 2 (.ret (.int (rawHash k) s.toks)) { s with toks := s.toks + 1 } := by
  intro kk h g l cd pp kept fr
  have hb : entryFor treeTable "int.__hash__" = some Builtin.«int.__hash__» := by rw [← table_eq_tree]; exact entry_int_hash
  have e1 : denote treeTable (.call (.builtin "int.__hash__") ⟨[.int k t], []⟩) = .pure (.again (.builtin "int.__hash__" ⟨[.int k t], []⟩)) := by
    show (do checkBuiltinCall "int.__hash__" ⟨[.int k t], []⟩; again (.builtin "int.__hash__" ⟨[.int k t], []⟩)) = _
    kernel_rfl
  have e2 : denote treeTable (.builtin "int.__hash__" ⟨[.int k t], []⟩) = .fresh fun u => .pure (.done (.ret (.int (rawHash k) u))) := by
    show (match entryFor treeTable "int.__hash__" with | some b => b ⟨[.int k t], []⟩ | none => unsupported ((withoutEnding? "int.__hash__" "#data").getD "int.__hash__")) = _
    rw [hb]
    rfl
  obtain ⟨heap, gens, drawn, toks, os⟩ := s
  rw [e1]
  refine ⟨.builtin "int.__hash__" ⟨[.int k t], []⟩, q, keptBy (.call (.builtin "int.__hash__") ⟨[.int k t], []⟩) (.builtin "int.__hash__" ⟨[.int k t], []⟩) l kept, ?_, ?_⟩
  · refine (segGo_step (by rfl) (by kernel_rfl) step_again).trans ?_
    rw [e2]
    exact (segGo_step (by rfl) (by rfl) rfl).trans rfl
  · rfl
variable {p : Program} {w : World} {n₀ : Nat} {ann : Option Value}

theorem Go.of_eq {α : Type} {m m' : Sem α} {s s' : Shared} {q q' : Pos} {n : Nat} {v : α} (e : m = m') (h : Go p w n₀ ann m' s q n v s' q') : Go p w n₀ ann m s q n v s' q' := e ▸ h
theorem Go.bindPure {α β : Type} {m : Sem α} {a : α} {f : α → Sem β} {s s' : Shared} {q q' : Pos} {n : Nat} {v : β} (e : m = Pure.pure a) (h : Go p w n₀ ann (f a) s q n v s' q') : Go p w n₀ ann (m >>= f) s q n v s' q' := by
  rw [e]; exact h
theorem Go.tryCatch {α : Type} {m : Sem α} {s s1 : Shared} {q q1 : Pos} {n : Nat} {a : α} {hd : Value → Sem α} (h : Go p w n₀ ann m s q n a s1 q1) : Go p w n₀ ann (m.tryCatch hd) s q n a s1 q1 := by
  rw [Sem.tryCatch_eq_wrap]
  exact h.wrap .pure
theorem Go.call1 {f : Value} {xs : List Value} {s s1 : Shared} {q : Pos} {m : Nat} {v : Value} (h : Callee p w n₀ ann (.call f ⟨xs, []⟩) s q m (.ret v) s1) : Go p w n₀ ann (PySem.call f xs) s q (1 + (m + (1 + 0))) v s1 q :=
  Go.call h .pure
theorem go_hash_int {k : Int} {t : Tok} {s : Shared} {q : Pos} : Go p w n₀ ann (pyHash (.int k t)) s q 5 (hashInt k) { s with toks := s.toks + 1 } q := by
  have hr := rawHash_range k
  have e0 : cRoomFor "hash" [.int k t] = Pure.pure () := by
    rw [cRoomFor, if_neg (by exact Bool.false_ne_true)]
  have e1 : specialOf (.int k t) "__hash__" = Pure.pure (some (.builtin "int.__hash__")) := by
    simp only [specialOf]
    exact (show ((Pure.pure (Value.type "int") : Sem Value) >>= fun t => typeLookup t "__hash__") = _ from slot_int_hash.lookup)
  have e4 : (pyHash (.int k t) : Sem Int) = pyHashByItsType (.int k t) := rfl
  rw [e4]
  unfold pyHashByItsType
  refine Go.bindPure e0 (Go.bindPure e1 ?_)
  refine Go.of_eq (if_neg (by rw [beq_builtin_none]; exact Bool.false_ne_true)) ?_
  refine Go.bindPure e1 ?_
  show Go p w n₀ ann (callSpecialIfBoundUnlessNone? (.int k t) "__hash__" _ >>= _) _ _ _ _ _ _
  refine Go.bind (n1 := 5) (n2 := 0) (a := some (.int (rawHash k) s.toks)) (s1 := { s with toks := s.toks + 1 }) (q1 := q) ?_ ?_
  · unfold callSpecialIfBoundUnlessNone?
    refine Go.holding ?_
    refine Go.bind (n1 := 1) (n2 := 4) (a := some (.builtin "int.__hash__", [.int k t])) (s1 := s) (q1 := q) ?_ ?_
    · unfold bindSpecialIfBound?
      refine Go.bindPure e1 ?_
      simp only [slot_int_hash.bind]
      refine Go.ask ?_
      show Go p w n₀ ann (if _ then _ else _) _ _ _ _ _ _
      split
      · exact .pure
      · exact Go.tryCatch .pure
    · refine Go.of_eq (if_neg (by rw [builtin_beq_none]; exact Bool.false_ne_true)) ?_
      exact Go.bind (n1 := 4) (n2 := 0) (a := .int (rawHash k) s.toks) (Go.call1 Callee_int_hash) (Go.pure (a := some (Value.int (rawHash k) s.toks)))
  · show Go p w n₀ ann (if (decide (-(2 : Int) ^ 63 ≤ rawHash k) && decide (rawHash k < 2 ^ 63)) = true then _ else _) _ _ _ _ _ _
    rw [if_pos (by rw [decide_eq_true hr.1, decide_eq_true hr.2]; rfl)]
    exact .pure
end MineH

/-! HeadI -/
namespace MineH
open PySem PySem.W PySem.Calls PyProof.Rows
variable {p : Program} {w : World} {n₀ : Nat} {ann : Option Value}
theorem places_none {es : Array DictEntry} {h : Int} (hn : ∀ e ∈ es, e.hash ≠ h) : placesWithHash es.size (fun i => es[i]?.map (·.hash)) h = [] := by
  unfold placesWithHash
  refine List.filter_eq_nil_iff.mpr fun i hi => ?_
  have hlt := List.mem_range.mp hi
  simp only [Array.getElem?_eq_getElem hlt, Option.map_some]
  intro e
  exact hn _ (Array.getElem_mem hlt) (by simpa using e)
theorem go_find_none {d : Addr} {o : Obj} {es : Array DictEntry} {k h : Int} {t : Tok} {s : Shared} {q : Pos} {ep : Nat} (ho : s.heap.get? d = some o) (hd : o.data = .dict es ep) (hn : ∀ e ∈ es, e.hash ≠ h) :
    Go p w n₀ ann (dictFind d (.int k t) h) s q 1 none s q := by
  unfold dictFind
  refine Go.holding ?_
  refine Go.bind (n1 := 1) (n2 := 0) (a := es) (s1 := s) (q1 := q) ?_ ?_
  · unfold dictEntries
    refine Go.load ho ?_
    show Go p w n₀ ann (match o.data with | .dict es _ => _ | _ => _) _ _ _ _ _ _
    rw [hd]
    exact .pure
  · dsimp only
    rw [places_none hn]
    exact .pure
theorem go_set_new {d : Addr} {o : Obj} {es : Array DictEntry} {k : Int} {t : Tok} {v : Value} {s : Shared} {q : Pos} {ep : Nat} (ho : s.heap.get? d = some o) (hd : o.data = .dict es ep) (hn : ∀ e ∈ es, e.hash ≠ hashInt k)
    (hz : es.size < sizeLine) (ha : Nat.ble n₀ d = true) :
    Go p w n₀ ann (dictSet d (.int k t) v) s q 10 () { s with heap := s.heap.update d (Obj.mapDictKeys (·.push ⟨hashInt k, .int k t, v⟩)), toks := s.toks + 1 } q := by
  unfold dictSet
  refine Go.holding ?_
  refine Go.bind (n1 := 5) (n2 := 5) go_hash_int ?_
  unfold dictSetHashed
  refine Go.holding ?_
  refine Go.bind (n1 := 1) (n2 := 4) (go_find_none (s := { s with toks := s.toks + 1 }) ho hd hn) ?_
  refine Go.rule ?_
  unfold updateDictKeys
  refine Go.load ho ?_
  show Go p w n₀ ann (match o.data with | .dict _ _ => _ | _ => _) _ _ _ _ _ _
  rw [hd]
  refine Go.update (by show (s.heap.get? d).isSome = true; rw [ho]; rfl) ha ?_
  have hd' : (o.mapDictKeys (·.push ⟨hashInt k, .int k t, v⟩)).data = .dict (es.push ⟨hashInt k, .int k t, v⟩) (ep + 1) := Obj.data_mapDictKeys hd _
  refine Go.load (o := o.mapDictKeys (·.push ⟨hashInt k, .int k t, v⟩)) (Heap.get?_update_self _ ho (Obj.isFreed_of_dict hd')) ?_
  have e : (o.mapDictKeys (·.push ⟨hashInt k, .int k t, v⟩)).data.pastItsLine = none := by
    rw [hd']
    show (if (es.push ⟨hashInt k, .int k t, v⟩).size > sizeLine + 1 then _ else _) = _
    rw [if_neg (by rw [Array.size_push]; omega)]
  refine Go.bindPure (a := o.mapDictKeys (·.push ⟨hashInt k, .int k t, v⟩)) rfl ?_
  dsimp only
  rw [e]
  exact .pure
end MineH

/-! HeadJ -/
namespace MineH
open PySem PySem.W PySem.Calls PyProof.Rows
variable {p : Program} {w : World} {n₀ : Nat} {ann : Option Value}
noncomputable def pr (pos : Pos) (e : Int × Str) : Sem Value × Sem Value := (mkInt e.1, do let x ← mkText e.2; standAt pos; pure x)
/-- a dict of the heap whose keys are ints and whose hashes are hs -/
noncomputable def DictOf (o : Obj) (hs : List Int) : Prop := o.cls = .type "dict" ∧ ∃ es ep, o.data = .dict es ep ∧ IntKeys es ∧ es.toList.map (·.hash) = hs
theorem heap_update_last (h : Heap) (o : Obj) (f : Obj → Obj) : (h.push o).update h.objs.size f = h.push (f o) := by
  obtain ⟨objs, life⟩ := h
  simp only [Heap.update, Heap.push, Heap.mk.injEq, and_true]
  apply Array.ext_getElem?
  intro i
  simp only [Array.getElem?_modify, Array.getElem?_push]
  by_cases h2 : i = objs.size <;> simp_all
  all_goals (intro h; omega)
theorem DictOf.new : DictOf { cls := .type "dict", data := .dict #[] } [] := ⟨rfl, #[], 0, rfl, fun e he => by simp at he, rfl⟩
noncomputable def dObj (es : List DictEntry) : Obj := ⟨.type "dict", none, .dict es.toArray es.length, #[]⟩
/-- the very dict of these entries, all of int keys -/
noncomputable def DictIs (o : Obj) (es : List DictEntry) : Prop := o = dObj es ∧ IntKeys es.toArray
theorem DictIs.of {o : Obj} {es : List DictEntry} (h : DictIs o es) : DictOf o (es.map (·.hash)) := by
  obtain ⟨rfl, hk⟩ := h
  exact ⟨rfl, es.toArray, es.length, rfl, hk, by simp⟩
theorem DictIs.new : DictIs { cls := .type "dict", data := .dict #[] } [] := ⟨rfl, fun e he => by simp at he⟩
theorem DictIs.push {o : Obj} {es : List DictEntry} (h : DictIs o es) (k : Int) (t : Tok) (v : Value) : DictIs (o.mapDictKeys (·.push ⟨hashInt k, .int k t, v⟩)) (es ++ [⟨hashInt k, .int k t, v⟩]) := by
  obtain ⟨rfl, hk⟩ := h
  have e : (es ++ [(⟨hashInt k, .int k t, v⟩ : DictEntry)]).toArray = es.toArray.push ⟨hashInt k, .int k t, v⟩ := by simp
  refine ⟨?_, by rw [e]; exact hk.push _ _ _⟩
  unfold dObj
  rw [e, List.length_append]
  rfl
noncomputable def ent (e : Int × Str) (t : Tok) : DictEntry := ⟨hashInt e.1, .int e.1 t, .str e.2 (t + 1)⟩
noncomputable def entsA : List (Int × Str) → Tok → List DictEntry
  | [], _ => []
  | e :: l, t => ent e t :: entsA l (t + 3)
noncomputable def entsB : List (Int × Str) → Tok → List DictEntry
  | [], _ => []
  | e :: l, t => ent e t :: entsB l (t + 2)
theorem entsA_hash : ∀ (l : List (Int × Str)) (t : Tok), (entsA l t).map (·.hash) = l.map (fun e => hashInt e.1)
  | [], _ => rfl
  | e :: l, t => congrArg (hashInt e.1 :: ·) (entsA_hash l (t + 3))
theorem entsB_hash : ∀ (l : List (Int × Str)) (t : Tok), (entsB l t).map (·.hash) = l.map (fun e => hashInt e.1)
  | [], _ => rfl
  | e :: l, t => congrArg (hashInt e.1 :: ·) (entsB_hash l (t + 2))
theorem entsA_len (l : List (Int × Str)) (t : Tok) : (entsA l t).length = l.length := by
  rw [← List.length_map (f := (·.hash)), entsA_hash, List.length_map]
theorem entsA_app : ∀ (a b : List (Int × Str)) (t : Nat), entsA (a ++ b) t = entsA a t ++ entsA b (t + 3 * a.length)
  | [], b, t => rfl
  | e :: a, b, t => by
    have h : t + 3 * (a.length + 1) = t + 3 + 3 * a.length := by omega
    show ent e t :: entsA (a ++ b) (t + 3) = ent e t :: (entsA a (t + 3) ++ entsA b (t + 3 * (a.length + 1)))
    rw [h]
    exact congrArg _ (entsA_app a b (t + 3))
theorem go_entry {pos : Pos} {e : Int × Str} {h : Heap} {o : Obj} {hs : List Int} {s : Shared} {q : Pos} (hd : DictOf o hs) (hh : s.heap = h.push o) (hn : hashInt e.1 ∉ hs) (hz : hs.length < sizeLine) (ha : Nat.ble n₀ h.objs.size = true) :
    Go p w n₀ ann (do let kv ← (pr pos e).1; let vv ← holding [kv] (pr pos e).2; holding [kv, vv] (dictSet h.objs.size kv vv); pure (ForInStep.yield PUnit.unit)) s q 13 (ForInStep.yield PUnit.unit) { s with heap := h.push (o.mapDictKeys (·.push ⟨hashInt e.1, .int e.1 s.toks, .str e.2 (s.toks + 1)⟩)), toks := s.toks + 3 } pos := by
  obtain ⟨hc, es, ep, hdd, hk, he⟩ := hd
  refine Go.bind (n1 := 1) (n2 := 12) (a := .int e.1 s.toks) (s1 := { s with toks := s.toks + 1 }) (q1 := q) (Go.fresh .pure) ?_
  refine Go.bind (n1 := 2) (n2 := 10) (a := .str e.2 (s.toks + 1)) (s1 := { s with toks := s.toks + 2 }) (q1 := pos) (Go.holding (Go.fresh (Go.at .pure))) ?_
  have g := go_set_new (p := p) (w := w) (n₀ := n₀) (ann := ann) (d := h.objs.size) (o := o) (es := es) (ep := ep) (k := e.1) (t := s.toks) (v := .str e.2 (s.toks + 1)) (s := { s with toks := s.toks + 2 }) (q := pos)
    (by show s.heap.get? h.objs.size = some o; rw [hh]; exact Heap.get?_push_size _ (Obj.isFreed_of_dict hdd)) hdd
    (fun x hx hxe => hn (he ▸ hxe ▸ List.mem_map_of_mem (f := (·.hash)) (Array.mem_toList_iff.mpr hx))) (by rw [← Array.length_toList, ← List.length_map (f := (·.hash)), he]; exact hz) ha
  rw [show ({ s with toks := s.toks + 2 } : Shared).heap = h.push o from hh, heap_update_last] at g
  rw [hh]
  exact Go.bind (n1 := 10) (n2 := 0) (Go.holding g) .pure
theorem go_entries {pos : Pos} {h : Heap} (ha : Nat.ble n₀ h.objs.size = true) : ∀ (l : List (Int × Str)) (o : Obj) (es : List DictEntry) (s : Shared) (q : Pos), DictIs o es → s.heap = h.push o → (es.map (·.hash) ++ l.map (fun e => hashInt e.1)).Nodup → es.length + l.length < sizeLine →
    ∃ o' q', Go p w n₀ ann (forIn (l.map (pr pos)) PUnit.unit (fun x _ => do let kv ← x.1; let vv ← holding [kv] x.2; holding [kv, vv] (dictSet h.objs.size kv vv); pure (ForInStep.yield PUnit.unit))) s q (13 * l.length) PUnit.unit { s with heap := h.push o', toks := s.toks + 3 * l.length } q' ∧ DictIs o' (es ++ entsA l s.toks)
  | [], o, es, s, q, hd, hh, _, _ => by
    refine ⟨o, q, ?_, by simpa [entsA] using hd⟩
    have e : ({ s with heap := h.push o, toks := s.toks + 3 * ([] : List (Int × Str)).length } : Shared) = s := by rw [← hh]; rfl
    rw [e]
    exact .pure
  | x :: l, o, es, s, q, hd, hh, hnd, hz => by
    have hnx : hashInt x.1 ∉ es.map (·.hash) := by
      intro hm
      have := List.nodup_append.mp hnd
      exact this.2.2 _ hm _ (by simp) rfl
    obtain ⟨o', q', g, hd'⟩ := go_entries (pos := pos) ha l _ (es ++ [ent x s.toks]) { s with heap := h.push (o.mapDictKeys (·.push ⟨hashInt x.1, .int x.1 s.toks, .str x.2 (s.toks + 1)⟩)), toks := s.toks + 3 } pos (hd.push x.1 s.toks (.str x.2 (s.toks + 1))) rfl (by simpa [ent] using hnd) (by simp at hz ⊢; omega)
    refine ⟨o', q', ?_, by simpa [entsA] using hd'⟩
    have g1 := go_entry (p := p) (w := w) (n₀ := n₀) (ann := ann) (pos := pos) (e := x) (q := q) hd.of hh hnx (by simp at hz ⊢; omega) ha
    rw [List.map_cons, List.forIn_cons]
    have e1 : 13 + 13 * l.length = 13 * (x :: l).length := by simp only [List.length_cons]; omega
    have e2 : s.toks + 3 + 3 * l.length = s.toks + 3 * (x :: l).length := by simp only [List.length_cons]; omega
    rw [← e1, ← e2]
    refine Go.bind g1 ?_
    exact g
end MineH

/-! HeadK -/
namespace MineH
open PySem PySem.W PySem.Calls PyProof.Rows
variable {p : Program} {w : World} {n₀ : Nat} {ann : Option Value}
theorem go_sub_long {pos : Pos} {l : List (Int × Str)} {s : Shared} {q : Pos} (hl : 15 < l.length) (hz : l.length < sizeLine) (hnd : (l.map (fun e => hashInt e.1)).Nodup) (ha : Nat.ble n₀ s.heap.objs.size = true) :
    ∃ o' q', Go p w n₀ ann (subDict (l.map (pr pos))) s q (13 * l.length + 2) s.heap.objs.size { s with heap := s.heap.push o', toks := s.toks + 3 * l.length } q' ∧ DictIs o' (entsA l s.toks) := by
  obtain ⟨o', q', g, hd'⟩ := go_entries (p := p) (w := w) (ann := ann) (pos := pos) (h := s.heap) ha l { cls := .type "dict", data := .dict #[] } [] { s with heap := s.heap.push { cls := .type "dict", data := .dict #[] } } q DictIs.new rfl (by simpa using hnd) (by simpa using hz)
  refine ⟨o', q', ?_, by simpa using hd'⟩
  unfold subDict
  refine Go.alloc ?_
  have key : Go p w n₀ ann (do
      rule "dict.display.long"
      for (k, v) in l.map (pr pos) do
        let kv ← k
        let vv ← holding [kv] v
        holding [kv, vv] (dictSet s.heap.objs.size kv vv)) { s with heap := s.heap.push { cls := .type "dict", data := .dict #[] } } q (13 * l.length + 1) PUnit.unit { s with heap := s.heap.push o', toks := s.toks + 3 * l.length } q' := by
    refine Go.rule ?_
    refine Go.bindPure rfl ?_
    exact Go.bind (n1 := 13 * l.length) (n2 := 0) g .pure
  refine Go.bind (n1 := 13 * l.length + 1) (n2 := 0) (a := PUnit.unit) (s1 := { s with heap := s.heap.push o', toks := s.toks + 3 * l.length }) (q1 := q') (Go.holding ?_) (Go.pure (a := s.heap.objs.size))
  rw [if_neg (by rw [List.length_map]; omega)]
  exact key
end MineH

/-! HeadL -/
namespace MineH
open PySem PySem.W PySem.Calls PyProof.Rows
variable {p : Program} {w : World} {n₀ : Nat} {ann : Option Value}
/-- the values of pairs, from a token on -/
noncomputable def pairVals : List (Int × Str) → Tok → List (Value × Value)
  | [], _ => []
  | e :: l, t => (.int e.1 t, .str e.2 (t + 1)) :: pairVals l (t + 2)
theorem go_pairs {pos : Pos} : ∀ (l : List (Int × Str)) (s : Shared) (q : Pos), ∃ q', Go p w n₀ ann (evalPairs (l.map (pr pos))) s q (3 * l.length) (pairVals l s.toks) { s with toks := s.toks + 2 * l.length } q'
  | [], s, q => ⟨q, .pure⟩
  | e :: l, s, q => by
    obtain ⟨q', g⟩ := go_pairs (pos := pos) l { s with toks := s.toks + 2 } pos
    refine ⟨q', ?_⟩
    have e1 : 1 + (2 + (3 * l.length + 0)) = 3 * (e :: l).length := by simp only [List.length_cons]; omega
    have e2 : s.toks + 2 + 2 * l.length = s.toks + 2 * (e :: l).length := by simp only [List.length_cons]; omega
    rw [← e1, ← e2]
    show Go p w n₀ ann ((pr pos e).1 >>= fun kv => holding [kv] (pr pos e).2 >>= fun vv => holding [kv, vv] (evalPairs (l.map (pr pos))) >>= fun r => pure ((kv, vv) :: r)) _ _ _ _ _ _
    refine Go.bind (n1 := 1) (a := .int e.1 s.toks) (s1 := { s with toks := s.toks + 1 }) (q1 := q) (Go.fresh .pure) ?_
    refine Go.bind (n1 := 2) (a := .str e.2 (s.toks + 1)) (s1 := { s with toks := s.toks + 2 }) (q1 := pos) (Go.holding (Go.fresh (Go.at .pure))) ?_
    exact Go.bind (Go.holding g) .pure
theorem go_put {h : Heap} {o : Obj} {hs : List Int} {k : Int} {t : Tok} {v : Value} {s : Shared} {q : Pos} (hd : DictOf o hs) (hh : s.heap = h.push o) (hn : hashInt k ∉ hs) (hz : hs.length < sizeLine) (ha : Nat.ble n₀ h.objs.size = true) :
    Go p w n₀ ann (dictSet h.objs.size (.int k t) v) s q 10 () { s with heap := h.push (o.mapDictKeys (·.push ⟨hashInt k, .int k t, v⟩)), toks := s.toks + 1 } q := by
  obtain ⟨hc, es, ep, hdd, hk, he⟩ := hd
  have g := go_set_new (p := p) (w := w) (n₀ := n₀) (ann := ann) (d := h.objs.size) (o := o) (es := es) (ep := ep) (k := k) (t := t) (v := v) (s := s) (q := q)
    (by rw [hh]; exact Heap.get?_push_size _ (Obj.isFreed_of_dict hdd)) hdd
    (fun x hx hxe => hn (he ▸ hxe ▸ List.mem_map_of_mem (f := (·.hash)) (Array.mem_toList_iff.mpr hx))) (by rw [← Array.length_toList, ← List.length_map (f := (·.hash)), he]; exact hz) ha
  have e : s.heap.update h.objs.size (Obj.mapDictKeys (·.push ⟨hashInt k, .int k t, v⟩)) = h.push (o.mapDictKeys (·.push ⟨hashInt k, .int k t, v⟩)) := by rw [hh, heap_update_last]
  rw [e] at g
  exact g
theorem go_puts {h : Heap} (ha : Nat.ble n₀ h.objs.size = true) : ∀ (l : List (Int × Str)) (u : Tok) (o : Obj) (es : List DictEntry) (s : Shared) (q : Pos), DictIs o es → s.heap = h.push o → (es.map (·.hash) ++ l.map (fun e => hashInt e.1)).Nodup → es.length + l.length < sizeLine →
    ∃ o', Go p w n₀ ann (forIn (pairVals l u) PUnit.unit (fun x _ => do dictSet h.objs.size x.1 x.2; pure (ForInStep.yield PUnit.unit))) s q (10 * l.length) PUnit.unit { s with heap := h.push o', toks := s.toks + l.length } q ∧ DictIs o' (es ++ entsB l u)
  | [], u, o, es, s, q, hd, hh, _, _ => by
    refine ⟨o, ?_, by simpa [entsB] using hd⟩
    have e : ({ s with heap := h.push o, toks := s.toks + ([] : List (Int × Str)).length } : Shared) = s := by rw [← hh]; rfl
    rw [e]
    exact .pure
  | x :: l, u, o, es, s, q, hd, hh, hnd, hz => by
    have hnx : hashInt x.1 ∉ es.map (·.hash) := by
      intro hm
      have := List.nodup_append.mp hnd
      exact this.2.2 _ hm _ (by simp) rfl
    obtain ⟨o', g, hd'⟩ := go_puts ha l (u + 2) _ (es ++ [ent x u]) { s with heap := h.push (o.mapDictKeys (·.push ⟨hashInt x.1, .int x.1 u, .str x.2 (u + 1)⟩)), toks := s.toks + 1 } q (hd.push x.1 u (.str x.2 (u + 1))) rfl (by simpa [ent] using hnd) (by simp at hz ⊢; omega)
    refine ⟨o', ?_, by simpa [entsB] using hd'⟩
    have g1 := go_put (p := p) (w := w) (n₀ := n₀) (ann := ann) (k := x.1) (t := u) (v := .str x.2 (u + 1)) (q := q) hd.of hh hnx (by simp at hz ⊢; omega) ha
    have e1 : 10 + 0 + 10 * l.length = 10 * (x :: l).length := by simp only [List.length_cons]; omega
    have e2 : s.toks + 1 + l.length = s.toks + (x :: l).length := by simp only [List.length_cons]; omega
    show Go p w n₀ ann (forIn ((Value.int x.1 u, Value.str x.2 (u + 1)) :: pairVals l (u + 2)) PUnit.unit _) _ _ _ _ _ _
    rw [List.forIn_cons]
    rw [← e1, ← e2]
    refine Go.bind (Go.bind g1 .pure) ?_
    exact g
theorem go_sub_short {pos : Pos} {l : List (Int × Str)} {s : Shared} {q : Pos} (hl : l.length ≤ 15) (hnd : (l.map (fun e => hashInt e.1)).Nodup) (ha : Nat.ble n₀ s.heap.objs.size = true) :
    ∃ o' q', Go p w n₀ ann (subDict (l.map (pr pos))) s q (3 * l.length + 10 * l.length + 1) s.heap.objs.size { s with heap := s.heap.push o', toks := s.toks + 3 * l.length } q' ∧ DictIs o' (entsB l s.toks) := by
  obtain ⟨q', g0⟩ := go_pairs (p := p) (w := w) (n₀ := n₀) (ann := ann) (pos := pos) l { s with heap := s.heap.push { cls := .type "dict", data := .dict #[] } } q
  obtain ⟨o', g, hd'⟩ := go_puts (p := p) (w := w) (ann := ann) (h := s.heap) ha l s.toks { cls := .type "dict", data := .dict #[] } [] { s with heap := s.heap.push { cls := .type "dict", data := .dict #[] }, toks := s.toks + 2 * l.length } q' DictIs.new rfl (by simpa using hnd) (by simp [sizeLine]; omega)
  refine ⟨o', q', ?_, by simpa using hd'⟩
  have e2 : s.toks + 2 * l.length + l.length = s.toks + 3 * l.length := by omega
  dsimp only at g
  rw [e2] at g
  unfold subDict
  refine Go.alloc ?_
  refine Go.bind (n1 := 3 * l.length + 10 * l.length) (n2 := 0) (a := PUnit.unit) (s1 := { s with heap := s.heap.push o', toks := s.toks + 3 * l.length }) (q1 := q') (Go.holding ?_) (Go.pure (a := s.heap.objs.size))
  rw [if_pos (by rw [List.length_map]; omega)]
  refine Go.bind g0 ?_
  refine Go.holding ?_
  exact Go.bind (n1 := 10 * l.length) (n2 := 0) g .pure
end MineH

/-! HeadM -/
namespace MineH
open PySem PySem.W PySem.Calls PyProof.Rows
variable {p : Program} {w : World} {n₀ : Nat} {ann : Option Value}
theorem go_entriesOf {d : Addr} {o : Obj} {es : Array DictEntry} {ep : Nat} {part : Option Value} {s : Shared} {q : Pos} (ho : s.heap.get? d = some o) (hd : o.data = .dict es ep) : Go p w n₀ ann (dictEntries d part) s q 1 es s q := by
  unfold dictEntries
  refine Go.load ho ?_
  show Go p w n₀ ann (match o.data with | .dict es _ => _ | _ => _) _ _ _ _ _ _
  rw [hd]
  exact .pure
theorem go_epochOf {d : Addr} {o : Obj} {es : Array DictEntry} {ep : Nat} {part : Option Value} {s : Shared} {q : Pos} (ho : s.heap.get? d = some o) (hd : o.data = .dict es ep) : Go p w n₀ ann (dictEpoch d part) s q 1 ep s q := by
  unfold dictEpoch
  refine Go.load ho ?_
  show Go p w n₀ ann (match o.data with | .dict _ n => _ | _ => _) _ _ _ _ _ _
  rw [hd]
  exact .pure
noncomputable def setAt (h : Heap) (d : Addr) (o : Obj) : Heap := h.update d (fun _ => o)
theorem update_setAt {h : Heap} {d : Addr} {o : Obj} (f : Obj → Obj) (ho : h.get? d = some o) : h.update d f = setAt h d (f o) := by
  obtain ⟨objs, life⟩ := h
  have ho' : objs[d]? = some o := by
    unfold Heap.get? at ho
    split at ho
    · cases ho
    · exact ho
  simp only [setAt, Heap.update, Heap.mk.injEq, and_true]
  apply Array.ext_getElem?
  intro i
  simp only [Array.getElem?_modify]
  by_cases h1 : d = i
  · subst h1; simp [ho']
  · simp [h1]
theorem setAt_setAt (h : Heap) (d : Addr) (o o' : Obj) : setAt (setAt h d o) d o' = setAt h d o' := by
  obtain ⟨objs, life⟩ := h
  simp only [setAt, Heap.update, Heap.mk.injEq, and_true]
  apply Array.ext_getElem?
  intro i
  simp only [Array.getElem?_modify]
  by_cases h1 : d = i
  · subst h1; cases objs[d]? <;> simp
  · simp [h1]
theorem go_dictPut {d : Addr} {o : Obj} {es0 : List DictEntry} {k : Int} {t : Tok} {v : Value} {s : Shared} {q : Pos} (hd0 : DictIs o es0) (ho : s.heap.get? d = some o) (hn : hashInt k ∉ es0.map (·.hash)) (hz : es0.length < sizeLine) (ha : Nat.ble n₀ d = true) :
    ∃ o', Go p w n₀ ann (dictPut d (hashInt k) (.int k t) v) s q 4 () { s with heap := setAt s.heap d o' } q ∧ DictIs o' (es0 ++ [⟨hashInt k, .int k t, v⟩]) := by
  refine ⟨_, ?_, hd0.push k t v⟩
  obtain ⟨hc, es, ep, hdd, hk, he⟩ := hd0.of
  have hlen : es.size = es0.length := by rw [← Array.length_toList, ← List.length_map (f := (·.hash)), he, List.length_map]
  unfold dictPut
  refine Go.bind (n1 := 1) (n2 := 3) (go_find_none ho hdd (fun x hx hxe => hn (he ▸ hxe ▸ List.mem_map_of_mem (f := (·.hash)) (Array.mem_toList_iff.mpr hx)))) ?_
  show Go p w n₀ ann (updateDictKeys d _) _ _ _ _ _ _
  unfold updateDictKeys
  refine Go.load ho ?_
  show Go p w n₀ ann (match o.data with | .dict _ _ => _ | _ => _) _ _ _ _ _ _
  rw [hdd, ← update_setAt (fun o => o.mapDictKeys (·.push ⟨hashInt k, .int k t, v⟩)) ho]
  refine Go.update (by rw [ho]; rfl) ha ?_
  have hd' : (o.mapDictKeys (·.push ⟨hashInt k, .int k t, v⟩)).data = .dict (es.push ⟨hashInt k, .int k t, v⟩) (ep + 1) := Obj.data_mapDictKeys hdd _
  refine Go.load (o := o.mapDictKeys (·.push ⟨hashInt k, .int k t, v⟩)) (Heap.get?_update_self _ ho (Obj.isFreed_of_dict hd')) ?_
  have e : (o.mapDictKeys (·.push ⟨hashInt k, .int k t, v⟩)).data.pastItsLine = none := by
    rw [hd']
    show (if (es.push ⟨hashInt k, .int k t, v⟩).size > sizeLine + 1 then _ else _) = _
    rw [if_neg (by rw [Array.size_push]; omega)]
  refine Go.bindPure (a := o.mapDictKeys (·.push ⟨hashInt k, .int k t, v⟩)) rfl ?_
  rw [e]
  exact .pure
theorem get_setAt_ne {h : Heap} {a d : Addr} {o : Obj} (hne : a ≠ d) : (setAt h d o).get? a = h.get? a := Heap.get?_update_ne h a d _ hne
theorem get_setAt_self {h : Heap} {d : Addr} {o o' : Obj} {hs : List Int} (ho : h.get? d = some o) (hd : DictOf o' hs) : (setAt h d o').get? d = some o' := by
  obtain ⟨hc, es, ep, hdd, _⟩ := hd
  exact Heap.get?_update_self (fun _ => o') ho (Obj.isFreed_of_dict hdd)
end MineH

/-! HeadN -/
namespace MineH
open PySem PySem.W PySem.Calls PyProof.Rows
variable {p : Program} {w : World} {n₀ : Nat} {ann : Option Value}
theorem setAt_same {h : Heap} {d : Addr} {o : Obj} (ho : h.get? d = some o) : setAt h d o = h := by
  obtain ⟨objs, life⟩ := h
  have ho' : objs[d]? = some o := by
    unfold Heap.get? at ho
    split at ho
    · cases ho
    · exact ho
  simp only [setAt, Heap.update, Heap.mk.injEq, and_true]
  apply Array.ext_getElem?
  intro i
  simp only [Array.getElem?_modify]
  by_cases h1 : d = i
  · subst h1; simp [ho']
  · simp [h1]
theorem go_merge_loop {a d : Addr} {oa : Obj} {es : Array DictEntry} {ep : Nat} (hne : a ≠ d) (hda : oa.data = .dict es ep) (hk : IntKeys es) (ha : Nat.ble n₀ d = true) :
    ∀ (m i : Nat) (o : Obj) (es0 : List DictEntry) (s : Shared) (q : Pos), i + m = es.size → DictIs o es0 → s.heap.get? d = some o → s.heap.get? a = some oa → (es0.map (·.hash) ++ (es.toList.drop i).map (·.hash)).Nodup → es0.length + m < sizeLine →
    ∃ o', Go p w n₀ ann (forIn (List.range' i m) PUnit.unit (fun i _ => do
        let some e := (← dictEntries a)[i]? | unsupported "dict.changed-during-merge"
        holding [e.key, e.val] do
          dictPut d e.hash e.key e.val
        if (← dictEpoch a) != ep then unsupported "dict.changed-during-merge"
        pure (ForInStep.yield PUnit.unit))) s q (6 * m) PUnit.unit { s with heap := setAt s.heap d o' } q ∧ DictIs o' (es0 ++ es.toList.drop i)
  | 0, i, o, es0, s, q, hm, hd, ho, _, _, _ => by
    refine ⟨o, ?_, ?_⟩
    · rw [setAt_same ho]; exact .pure
    · rw [List.drop_of_length_le (by rw [Array.length_toList]; omega), List.append_nil]; exact hd
  | m + 1, i, o, es0, s, q, hm, hd, ho, hoa, hnd, hz => by
    have hi : i < es.size := by omega
    have hdr : es.toList.drop i = es[i] :: es.toList.drop (i + 1) := by
      rw [List.drop_eq_getElem_cons (by rw [Array.length_toList]; exact hi)]
      simp
    obtain ⟨k, t, hkey, hhash⟩ := hk es[i] (Array.getElem_mem hi)
    have hent : (⟨hashInt k, .int k t, es[i].val⟩ : DictEntry) = es[i] := by rw [← hhash, ← hkey]
    rw [hdr] at hnd ⊢
    have hnx : hashInt k ∉ es0.map (·.hash) := by
      intro hx
      exact (List.nodup_append.mp hnd).2.2 _ hx _ (by rw [List.map_cons, hhash]; exact List.mem_cons_self) rfl
    obtain ⟨o1, g1, hd1⟩ := go_dictPut (p := p) (w := w) (n₀ := n₀) (ann := ann) (k := k) (t := t) (v := es[i].val) (q := q) hd ho hnx (by omega) ha
    rw [hent] at hd1
    obtain ⟨o', g, hd'⟩ := go_merge_loop hne hda hk ha m (i + 1) o1 (es0 ++ [es[i]]) { s with heap := setAt s.heap d o1 } q (by omega) hd1 (get_setAt_self ho hd1.of) ((get_setAt_ne hne).trans hoa) (by simpa using hnd) (by simp; omega)
    refine ⟨o', ?_, by rw [List.append_assoc] at hd'; exact hd'⟩
    have e1 : 1 + (4 + 1) + 6 * m = 6 * (m + 1) := by omega
    rw [List.range'_succ, List.forIn_cons, ← e1]
    dsimp only at g
    rw [setAt_setAt] at g
    refine Go.bind (n1 := 1 + (4 + 1)) (a := ForInStep.yield PUnit.unit) (s1 := { s with heap := setAt s.heap d o1 }) (q1 := q) ?_ g
    refine Go.bind (go_entriesOf hoa hda) ?_
    rw [Array.getElem?_eq_getElem hi]
    dsimp only
    rw [hkey, hhash]
    refine Go.bind (Go.holding g1) ?_
    refine Go.bind (n1 := 1) (n2 := 0) (go_epochOf ((get_setAt_ne hne).trans hoa) hda) ?_
    rw [if_neg (by simp)]
    exact .pure
end MineH

/-! HeadO -/
namespace MineH
open PySem PySem.W PySem.Calls PyProof.Rows
variable {p : Program} {w : World} {n₀ : Nat} {ann : Option Value}
theorem go_typeOf_ref {a : Addr} {oa : Obj} {s : Shared} {q : Pos} (ho : s.heap.get? a = some oa) : Go p w n₀ ann (typeOf (.ref a)) s q 1 oa.cls s q := Go.load ho .pure
theorem go_merge {a d : Addr} {oa o : Obj} {as es1 : List DictEntry} {s : Shared} {q : Pos} (hne : a ≠ d) (hsys : a ≠ sysModules) (hda0 : DictIs oa as) (hd0 : DictIs o es1) (ho : s.heap.get? d = some o) (hoa : s.heap.get? a = some oa) (hpos : es1 ≠ []) (hnd : (es1.map (·.hash) ++ as.map (·.hash)).Nodup) (hz : es1.length + as.length < sizeLine) (ha : Nat.ble n₀ d = true) :
    ∃ o', Go p w n₀ ann (mergeMapping d (.ref a) false) s q (6 * as.length + 5) () { s with heap := setAt s.heap d o' } q ∧ DictIs o' (es1 ++ as) := by
  obtain ⟨es, hes⟩ : ∃ es : Array DictEntry, es = as.toArray := ⟨_, rfl⟩
  have hlist : es.toList = as := by rw [hes]
  have hk : IntKeys es := by rw [hes]; exact hda0.2
  have hca : oa.cls = .type "dict" := by rw [hda0.1]; rfl
  have hdda : oa.data = .dict es as.length := by rw [hda0.1, hes]; rfl
  have hdd : o.data = .dict es1.toArray es1.length := by rw [hd0.1]; rfl
  have hlen : es.size = as.length := by rw [← Array.length_toList, hlist]
  obtain ⟨o', g, hd'⟩ := go_merge_loop (p := p) (w := w) (n₀ := n₀) (ann := ann) (a := a) (d := d) hne hdda hk ha es.size 0 o es1 s q (by omega) hd0 ho hoa (by rw [hlist]; exact hnd) (by omega)
  rw [List.drop_zero, hlist] at hd'
  generalize hes0 : es1.toArray = es0 at hdd
  refine ⟨o', ?_, hd'⟩
  have e1 : 1 + (1 + (1 + (1 + (1 + 6 * es.size)))) = 6 * as.length + 5 := by omega
  unfold mergeMapping
  rw [← e1]
  refine Go.bind (n1 := 1) (a := true) (s1 := s) (q1 := q) ?_ ?_
  · unfold isInstance
    refine Go.bind (n1 := 1) (n2 := 0) (go_typeOf_ref hoa) ?_
    rw [hca, isSubtype_dict_dict]
    exact .pure
  refine Go.of_eq (if_pos rfl) ?_
  refine Go.bind (n1 := 1) (a := some (.builtin "dict.__iter__")) (s1 := s) (q1 := q) ?_ ?_
  · unfold specialOf
    refine Go.bind (n1 := 1) (n2 := 0) (go_typeOf_ref hoa) ?_
    rw [hca, F.slot_dict_iter.lookup]
    exact .pure
  refine Go.bindPure (a := true) (by rw [beq_self_eq_true]) ?_
  show Go p w n₀ ann (if (a == sysModules) = true then _ else _) _ _ _ _ _ _
  rw [if_neg (by simpa using hsys)]
  refine Go.bind (n1 := 1) (go_entriesOf ho hdd) ?_
  have hem : es0.isEmpty = false := by
    rw [Array.isEmpty_eq_false_iff]
    rintro rfl
    exact hpos (by simpa using hes0)
  rw [if_neg (by rw [hem]; exact Bool.false_ne_true)]
  refine Go.bind (n1 := 1) (go_entriesOf hoa hdda) ?_
  refine Go.bind (n1 := 1) (go_epochOf hoa hdda) ?_
  rw [List.range_eq_range']
  exact Go.bind (n1 := 6 * es.size) (n2 := 0) g .pure
end MineH

/-! HeadP -/
namespace MineH
open PySem PySem.W PySem.Calls PyProof.Rows
variable {p : Program} {w : World} {n₀ : Nat} {ann : Option Value}
noncomputable def pushes (h : Heap) : List Obj → Heap
  | [] => h
  | o :: l => pushes (h.push o) l
theorem pushes_app : ∀ (l : List Obj) (h : Heap) (o : Obj), pushes h (l ++ [o]) = (pushes h l).push o
  | [], _, _ => rfl
  | x :: l, h, o => pushes_app l (h.push x) o
theorem push_size (h : Heap) (o : Obj) : (h.push o).objs.size = h.objs.size + 1 := by
  simp [Heap.push]
theorem pushes_size : ∀ (l : List Obj) (h : Heap), (pushes h l).objs.size = h.objs.size + l.length
  | [], _ => rfl
  | x :: l, h => by rw [pushes, pushes_size l, push_size, List.length_cons]; omega
theorem get_pushes {a : Nat} : ∀ (l : List Obj) (h : Heap), a < h.objs.size → (pushes h l).get? a = h.get? a
  | [], _, _ => rfl
  | x :: l, h, ha => by rw [pushes, get_pushes l _ (by rw [push_size]; omega), Heap.get?_push_ne h a x (Nat.ne_of_lt ha)]
theorem setAt_pushes {d : Nat} {o : Obj} : ∀ (l : List Obj) (h : Heap), d < h.objs.size → setAt (pushes h l) d o = pushes (setAt h d o) l
  | [], _, _ => rfl
  | x :: l, h, hd => by
    rw [pushes, setAt_pushes l _ (by rw [push_size]; omega), pushes]
    exact congrArg (pushes · l) (Heap.update_push h d _ x (Nat.ne_of_lt hd))
theorem get_last {h : Heap} {o : Obj} {hs : List Int} (hd : DictOf o hs) : (h.push o).get? h.objs.size = some o := by
  obtain ⟨_, es, ep, hdd, _⟩ := hd
  exact Heap.get?_push_size _ (Obj.isFreed_of_dict hdd)
/-- hashes of a list of entries -/
noncomputable def hsh (l : List (Int × Str)) : List Int := l.map (fun e => hashInt e.1)
theorem hsh_app (a b : List (Int × Str)) : hsh (a ++ b) = hsh a ++ hsh b := List.map_append
theorem hsh_len (a : List (Int × Str)) : (hsh a).length = a.length := List.length_map _
noncomputable def chunkE (l : List (Int × Str)) (t : Tok) : List DictEntry := if 15 < l.length then entsA l t else entsB l t
theorem chunkE_hash (l : List (Int × Str)) (t : Tok) : (chunkE l t).map (·.hash) = hsh l := by
  unfold chunkE
  split
  · exact entsA_hash l t
  · exact entsB_hash l t
theorem chunkE_len (l : List (Int × Str)) (t : Tok) : (chunkE l t).length = l.length := by
  rw [← List.length_map (f := (·.hash)), chunkE_hash, hsh_len]
theorem go_sub {pos : Pos} {l : List (Int × Str)} {s : Shared} {q : Pos} (hl : l.length ≤ 17) (hnd : (hsh l).Nodup) (ha : Nat.ble n₀ s.heap.objs.size = true) :
    ∃ n o' q', n ≤ 230 ∧ Go p w n₀ ann (subDict (l.map (pr pos))) s q n s.heap.objs.size { s with heap := s.heap.push o', toks := s.toks + 3 * l.length } q' ∧ DictIs o' (chunkE l s.toks) := by
  by_cases h : 15 < l.length
  · obtain ⟨o', q', g, hd⟩ := go_sub_long (p := p) (w := w) (ann := ann) (pos := pos) (q := q) h (by simp [sizeLine]; omega) hnd ha
    exact ⟨_, o', q', by omega, g, by rw [chunkE, if_pos h]; exact hd⟩
  · obtain ⟨o', q', g, hd⟩ := go_sub_short (p := p) (w := w) (ann := ann) (pos := pos) (q := q) (Nat.not_lt.mp h) hnd ha
    exact ⟨_, o', q', by omega, g, by rw [chunkE, if_neg h]; exact hd⟩
noncomputable def flushD (run : List (Sem Value × Sem Value)) (main : Option Addr) : Sem (Option Addr) :=
  if run.isEmpty = true then pure main
  else
    match main with
    | none => do
      let r ← subDict run
      pure (some r)
    | some d => do
      let sub ← holding [Value.ref d] (subDict run)
      (holding [Value.ref d, Value.ref sub] (mergeMapping d (Value.ref sub) false)).onRaise fun x => do
        let _ ← holding [Value.ref d, x] (runValue (Code.builtin "proto.let_go" { }))
        pure ()
      pure (some d)
/-- what stands after k flushes -/
noncomputable def St (s : Shared) (mn : Option Addr) (k : Nat) (es : List DictEntry) (s' : Shared) : Prop :=
  (k = 0 ∧ es = [] ∧ mn = none ∧ s' = s) ∨
  ∃ od subs, mn = some s.heap.objs.size ∧ subs.length + 1 = k ∧ DictIs od es ∧ es ≠ [] ∧ s' = { s with heap := pushes (s.heap.push od) subs, toks := s.toks + 3 * es.length }
theorem go_flush {pos : Pos} {s s1 : Shared} {mn : Option Addr} {k : Nat} {es : List DictEntry} {r : List (Int × Str)} {q : Pos} (hst : St s mn k es s1) (hr : r ≠ []) (hl : r.length ≤ 17) (hnd : (es.map (·.hash) ++ hsh r).Nodup) (hz : es.length + r.length < sizeLine) (ha : Nat.ble n₀ s.heap.objs.size = true) (hsys : sysModules < s.heap.objs.size) :
    ∃ n mn' s2 q', n ≤ 400 ∧ Go p w n₀ ann (flushD (r.map (pr pos)) mn) s1 q n mn' s2 q' ∧ St s mn' (k + 1) (es ++ chunkE r (s.toks + 3 * es.length)) s2 := by
  have hne : (r.map (pr pos)).isEmpty = false := by cases r with | nil => exact absurd rfl hr | cons x l => rfl
  have hhr : ∀ t, chunkE r t ≠ [] := by
    intro t e
    have := chunkE_len r t
    rw [e] at this
    exact hr (List.length_eq_zero_iff.mp this.symm)
  unfold flushD
  rw [if_neg (by rw [hne]; exact Bool.false_ne_true)]
  rcases hst with ⟨rfl, rfl, rfl, rfl⟩ | ⟨od, subs, rfl, hk, hd, hpos, rfl⟩
  · obtain ⟨n, o', q', hn, g, hd⟩ := go_sub (p := p) (w := w) (ann := ann) (pos := pos) (q := q) hl hnd ha
    refine ⟨n + 0, some s1.heap.objs.size, _, q', by omega, Go.bind g (Go.pure (a := some s1.heap.objs.size)), Or.inr ⟨o', [], rfl, rfl, hd, hhr _, ?_⟩⟩
    rw [List.nil_append, chunkE_len]
    rfl
  · have hnd2 : (hsh r).Nodup := (List.nodup_append.mp hnd).2.1
    have hsz : (pushes (s.heap.push od) subs).objs.size = s.heap.objs.size + 1 + subs.length := by rw [pushes_size, push_size]
    obtain ⟨n, osub, q', hn, g, hds⟩ := go_sub (p := p) (w := w) (ann := ann) (pos := pos) (q := q) (s := { s with heap := pushes (s.heap.push od) subs, toks := s.toks + 3 * es.length }) hl hnd2 (by
      show Nat.ble n₀ (pushes (s.heap.push od) subs).objs.size = true
      rw [hsz]
      have := Nat.le_of_ble_eq_true ha
      exact Nat.ble_eq_true_of_le (by omega))
    dsimp only at g hds
    have hget : (pushes (s.heap.push od) subs).get? s.heap.objs.size = some od := by rw [get_pushes _ _ (by rw [push_size]; exact Nat.lt_succ_self _)]; exact get_last hd.of
    obtain ⟨od', g2, hd'⟩ := go_merge (p := p) (w := w) (n₀ := n₀) (ann := ann) (a := (pushes (s.heap.push od) subs).objs.size) (d := s.heap.objs.size) (oa := osub) (o := od) (as := chunkE r (s.toks + 3 * es.length)) (es1 := es) (s := { s with heap := (pushes (s.heap.push od) subs).push osub, toks := s.toks + 3 * es.length + 3 * r.length }) (q := q')
      (by rw [hsz]; exact Nat.ne_of_gt (by show (s.heap.objs.size : Nat) < _; omega)) (by rw [hsz]; exact Nat.ne_of_gt (Nat.lt_of_lt_of_le hsys (by omega))) hds hd
      (by show ((pushes (s.heap.push od) subs).push osub).get? _ = _; rw [Heap.get?_push_ne _ _ _ (by rw [hsz]; exact Nat.ne_of_lt (by show (s.heap.objs.size : Nat) < _; omega))]; exact hget)
      (get_last hds.of) hpos (by rw [chunkE_hash]; exact hnd) (by rw [chunkE_len]; exact hz) ha
    have hh : setAt ((pushes (s.heap.push od) subs).push osub) s.heap.objs.size od' = pushes (s.heap.push od') (subs ++ [osub]) := by
      rw [← pushes_app, setAt_pushes _ _ (by rw [push_size]; exact Nat.lt_succ_self _)]
      exact congrArg (pushes · _) (heap_update_last s.heap od _)
    dsimp only at g2
    rw [hh] at g2
    refine ⟨n + (6 * (chunkE r (s.toks + 3 * es.length)).length + 5 + 0), some s.heap.objs.size, _, q', ?_, ?_, Or.inr ⟨od', subs ++ [osub], rfl, ?_, hd', ?_, rfl⟩⟩
    · rw [chunkE_len]; omega
    · have et : s.toks + 3 * (es ++ chunkE r (s.toks + 3 * es.length)).length = s.toks + 3 * es.length + 3 * r.length := by rw [List.length_append, chunkE_len]; omega
      rw [et]
      refine Go.bind (Go.holding g) ?_
      exact Go.bind (Go.onRaise (Go.holding g2)) (Go.pure (a := some s.heap.objs.size))
    · rw [List.length_append, List.length_singleton]; omega
    · intro e; exact hpos (List.append_eq_nil_iff.mp e).1
end MineH

/-! HeadQ -/
namespace MineH
open PySem PySem.W PySem.Calls PyProof.Rows
variable {p : Program} {w : World} {n₀ : Nat} {ann : Option Value}
noncomputable def itm (pos : Pos) (e : Int × Str) : Option (Sem Value) × Sem Value := (some (pr pos e).1, (pr pos e).2)
theorem go_loop {pos : Pos} {s : Shared} {f : Option (Sem Value) × Sem Value → Option Addr × List (Sem Value × Sem Value) → Sem (ForInStep (Option Addr × List (Sem Value × Sem Value)))}
    (hf : ∀ e st, f (itm pos e) st = if ((st.2 ++ [pr pos e]).length == 17) = true then (do let m ← flushD (st.2 ++ [pr pos e]) st.1; pure (.yield (m, []))) else pure (.yield (st.1, st.2 ++ [pr pos e])))
    (ha : Nat.ble n₀ s.heap.objs.size = true) (hsys : sysModules < s.heap.objs.size) :
    ∀ (l run dn : List (Int × Str)) (mn : Option Addr) (k : Nat) (s1 : Shared) (q : Pos), run.length < 17 → St s mn k (entsA dn s.toks) s1 → (hsh dn ++ (hsh run ++ hsh l)).Nodup → dn.length + run.length + l.length < sizeLine →
    ∃ n m mn' run' dn' s2 q', n ≤ 400 * m ∧ Go p w n₀ ann (forIn (l.map (itm pos)) (mn, run.map (pr pos)) f) s1 q n (mn', run'.map (pr pos)) s2 q' ∧ run'.length < 17 ∧ run.length + l.length = 17 * m + run'.length ∧ St s mn' (k + m) (entsA dn' s.toks) s2 ∧ dn' ++ run' = dn ++ (run ++ l)
  | [], run, dn, mn, k, s1, q, hr, hst, hnd, hz => ⟨0, 0, mn, run, dn, s1, q, by omega, .pure, hr, by simp, hst, by simp⟩
  | e :: l, run, dn, mn, k, s1, q, hr, hst, hnd, hz => by
    have hap : run.map (pr pos) ++ [pr pos e] = (run ++ [e]).map (pr pos) := by simp
    have hsp : hsh (run ++ [e]) ++ hsh l = hsh run ++ hsh (e :: l) := by rw [hsh_app, List.append_assoc]; rfl
    rw [← hsp] at hnd
    rw [List.map_cons, List.forIn_cons]
    have hfe := hf e (mn, run.map (pr pos))
    dsimp only at hfe
    rw [hap] at hfe
    by_cases h17 : run.length + 1 = 17
    · rw [if_pos (by simp [h17])] at hfe
      obtain ⟨n1, mn1, s2, q1, hn1, g1, hst1⟩ := go_flush (p := p) (w := w) (n₀ := n₀) (ann := ann) (pos := pos) (r := run ++ [e]) (q := q) hst (by simp) (by simp; omega) (by rw [← List.append_assoc] at hnd; rw [entsA_hash]; exact (List.nodup_append.mp hnd).1) (by rw [entsA_len]; simp at hz ⊢; omega) ha hsys
      rw [chunkE, if_pos (by simp; omega), entsA_len, ← entsA_app dn (run ++ [e]) s.toks] at hst1
      obtain ⟨n, m, mn', run', dn', s3, q', hn, g, hr', hc, hst', he⟩ := go_loop hf ha hsys l [] (dn ++ (run ++ [e])) mn1 (k + 1) s2 q1 (by simp) hst1 (by simpa [hsh] using hnd) (by simp at hz ⊢; omega)
      refine ⟨n1 + 0 + n, m + 1, mn', run', dn', s3, q', by omega, ?_, hr', by simp at hc ⊢; omega, ?_, by simpa using he⟩
      · refine Go.bind (n1 := n1 + 0) (a := ForInStep.yield (mn1, [])) (s1 := s2) (q1 := q1) ?_ g
        rw [hfe]
        exact Go.bind g1 (Go.pure (a := ForInStep.yield (mn1, [])))
      · rw [show k + (m + 1) = k + 1 + m by omega]; exact hst'
    · rw [if_neg (by simp; omega)] at hfe
      obtain ⟨n, m, mn', run', dn', s3, q', hn, g, hr', hc, hst', he⟩ := go_loop hf ha hsys l (run ++ [e]) dn mn k s1 q (by simp; omega) hst hnd (by simp at hz ⊢; omega)
      refine ⟨0 + n, m, mn', run', dn', s3, q', by omega, ?_, hr', by simp at hc ⊢; omega, hst', by simpa using he⟩
      refine Go.bind (n1 := 0) (a := ForInStep.yield (mn, (run ++ [e]).map (pr pos))) (s1 := s1) (q1 := q) ?_ g
      rw [hfe]
      exact .pure
/-- the entries of the whole display -/
noncomputable def entsD (l : List (Int × Str)) (m : Nat) (t : Tok) : List DictEntry := entsA (l.take (17 * m)) t ++ entsB (l.drop (17 * m)) (t + 3 * (17 * m))
theorem go_display {pos : Pos} {l : List (Int × Str)} {m r : Nat} {s : Shared} {q : Pos} (hL : l.length = 17 * m + r) (h0 : 0 < r) (h17 : r ≤ 15) (hnd : (hsh l).Nodup) (hz : l.length < sizeLine) (ha : Nat.ble n₀ s.heap.objs.size = true) (hsys : sysModules < s.heap.objs.size) :
    ∃ n subs q', n ≤ 400 * (m + 1) ∧ subs.length = m ∧ Go p w n₀ ann (dictDisplay (l.map (itm pos))) s q n (.ref s.heap.objs.size) { s with heap := pushes (s.heap.push (dObj (entsD l m s.toks))) subs, toks := s.toks + 3 * l.length } q' := by
  unfold dictDisplay
  dsimp only
  obtain ⟨n, m', mn, run, dn, s2, q2, hn, g, hr, hc, hst, he⟩ := go_loop (p := p) (w := w) (n₀ := n₀) (ann := ann) (pos := pos) (s := s) (f := fun x __s => match x.fst with
    | some k => if ((__s.snd ++ [(k, x.snd)]).length == 17) = true then (do let m ← flushD (__s.snd ++ [(k, x.snd)]) __s.1; pure (.yield (m, []))) else pure (.yield (__s.1, __s.2 ++ [(k, x.snd)]))
    | none => _) (fun _ _ => rfl) ha hsys l [] [] none 0 s q (by simp) (Or.inl ⟨rfl, rfl, rfl, rfl⟩) (by simpa [hsh] using hnd) (by simpa using hz)
  simp only [List.nil_append, List.length_nil, Nat.zero_add, List.map_nil] at hc he
  have hm : m' = m ∧ run.length = r := by omega
  obtain ⟨rfl, hrr⟩ := hm
  have hdl : dn.length = 17 * m' := by
    have h1 := congrArg List.length he
    rw [List.length_append] at h1
    omega
  have h1 : l.take (17 * m') = dn := by rw [← he, List.take_left' hdl]
  have h2 : l.drop (17 * m') = run := by rw [← he, List.drop_left' hdl]
  obtain ⟨n1, mn1, s3, q3, hn1, g1, hst1⟩ := go_flush (p := p) (w := w) (n₀ := n₀) (ann := ann) (pos := pos) (r := run) (q := q2) hst (by intro e; rw [e] at hrr; simp at hrr; omega) (by omega) (by rw [entsA_hash]; show (hsh dn ++ hsh run).Nodup; rw [← hsh_app, he]; exact hnd) (by rw [entsA_len]; omega) ha hsys
  rw [chunkE, if_neg (by omega), entsA_len, hdl, ← h1, ← h2] at hst1
  rcases hst1 with ⟨h, _⟩ | ⟨od, subs, rfl, hk, ⟨rfl, _⟩, _, rfl⟩
  · omega
  · have hel : (entsA (l.take (17 * m')) s.toks ++ entsB (l.drop (17 * m')) (s.toks + 3 * (17 * m'))).length = l.length := by
      rw [List.length_append, entsA_len, ← List.length_map (f := (·.hash)) (as := entsB _ _), entsB_hash, List.length_map, ← List.length_append, List.take_append_drop]
    rw [hel] at g1
    refine ⟨n + (n1 + 0), subs, q3, by omega, by omega, ?_⟩
    refine Go.bind g ?_
    exact Go.bind g1 (Go.pure (a := Value.ref s.heap.objs.size))
end MineH

/-! HeadR -/
namespace MineH
open PySem PySem.W PySem.Calls PyProof.Rows
variable {p : Program} {w : World} {n₀ : Nat} {ann : Option Value}
/-- the int keys and str values of a display -/
noncomputable def keyE : Option PySem.Expr → Option Int
  | some (.Constant (.int i) _ _) => some i
  | _ => none
noncomputable def valE : PySem.Expr → Option Str
  | .Constant (.str x) _ _ => some x
  | _ => none
noncomputable def getE : List (Option PySem.Expr) → List PySem.Expr → Option (List (Int × Str))
  | [], [] => some []
  | k :: ks, v :: vs => (keyE k).bind fun i => (valE v).bind fun x => (getE ks vs).map ((i, x) :: ·)
  | _, _ => none
theorem keyE_spec {k : Option PySem.Expr} {i : Int} (h : keyE k = some i) : ∃ a b, k = some (.Constant (.int i) a b) := by
  unfold keyE at h
  split at h
  · cases h; exact ⟨_, _, rfl⟩
  · cases h
theorem valE_spec {v : PySem.Expr} {x : Str} (h : valE v = some x) : ∃ a b, v = .Constant (.str x) a b := by
  unfold valE at h
  split at h
  · cases h; exact ⟨_, _, rfl⟩
  · cases h
theorem getE_spec {pos : Pos} {env : Env} : ∀ (ks : List (Option PySem.Expr)) (vs : List PySem.Expr) (l : List (Int × Str)), getE ks vs = some l →
    (evalEachOpt ks env).zip ((evalEach vs env).map fun v => do let x ← v; standAt pos; pure x) = l.map (itm pos)
  | [], [], l, h => by simp only [getE, Option.some.injEq] at h; subst h; rfl
  | k :: ks, v :: vs, l, h => by
    rw [getE] at h
    obtain ⟨i, hk, h⟩ := Option.bind_eq_some_iff.mp h
    obtain ⟨x, hv, h⟩ := Option.bind_eq_some_iff.mp h
    obtain ⟨l', h1, rfl⟩ := Option.map_eq_some_iff.mp h
    obtain ⟨a, b, rfl⟩ := keyE_spec hk
    obtain ⟨a', b', rfl⟩ := valE_spec hv
    show _ :: (evalEachOpt ks env).zip ((evalEach vs env).map fun v => do let x ← v; standAt pos; pure x) = itm pos (i, x) :: l'.map (itm pos)
    rw [getE_spec ks vs l' h1]
    rfl
  | [], _ :: _, _, h => by simp [getE] at h
  | _ :: _, [], _, h => by simp [getE] at h
/-- what stands behind the display in the statement -/
noncomputable def restD (t : PySem.Expr) (ks : List (Option PySem.Expr)) (vs : List PySem.Expr) (pos : Pos) (env : Env) (v : Value) : Sem Flow := do
  assignStores env v (← swappedStores [t] (.Dict ks vs pos) env) ((assignEach [t] env).map (·.2))
theorem exec_dict {t : PySem.Expr} {ks : List (Option PySem.Expr)} {vs : List PySem.Expr} {pos apos : Pos} {env : Env} : exec (.Assign [t] (.Dict ks vs pos) apos) env =
    (do standAt apos; standAt pos; dictDisplay ((evalEachOpt ks env).zip ((evalEach vs env).map fun v => do let x ← v; standAt pos; pure x))) >>= restD t ks vs pos env := by
  have e : swapsWithSole [t] (.Dict ks vs pos) apos.line env = Pure.pure false := by
    cases t <;> rfl
  show (standAt apos >>= fun _ => swapsWithSole [t] (.Dict ks vs pos) apos.line env >>= fun x => _) = _
  rw [e]
  rfl
theorem go_stmt {t : PySem.Expr} {ks : List (Option PySem.Expr)} {vs : List PySem.Expr} {pos apos : Pos} {env : Env} {l : List (Int × Str)} {m r : Nat} {s : Shared} {q : Pos} {b : List Stmt} {fr : Frame} (hg : getE ks vs = some l)
    (hL : l.length = 17 * m + r) (h0 : 0 < r) (h17 : r ≤ 15) (hnd : (hsh l).Nodup) (hz : l.length < sizeLine) (ha : Nat.ble n₀ s.heap.objs.size = true) (hsys : sysModules < s.heap.objs.size) :
    ∃ n subs q', n ≤ 400 * (m + 1) + 2 ∧ subs.length = m ∧
      segGo treeTable p w n₀ ann 1 n s ⟨(exec (.Assign [t] (.Dict ks vs pos) apos) env).wrap doneF deadEnd id id, .body b env, q, [fr]⟩ =
        some ({ s with heap := pushes (s.heap.push (dObj (entsD l m s.toks))) subs, toks := s.toks + 3 * l.length },
          ⟨(restD t ks vs pos env (.ref s.heap.objs.size)).wrap doneF deadEnd id id, .body b env, q', [fr]⟩) := by
  obtain ⟨n, subs, q', hn, hs, g⟩ := go_display (p := p) (w := w) (n₀ := n₀) (ann := ann) (pos := pos) (q := pos) hL h0 h17 hnd hz ha hsys
  refine ⟨n + 2, subs, q', by omega, hs, ?_⟩
  rw [exec_dict, getE_spec ks vs l hg, Sem.bind_eq_wrap', Sem.wrap_wrap]
  have g2 : Go p w n₀ ann (do standAt apos; standAt pos; dictDisplay (l.map (itm pos))) s q (n + 2) _ _ _ := Go.at (Go.at g)
  exact g2.seg _ _ _ _
end MineH

/-! HeadS -/
namespace Mine
open MineH PySem PySem.W PySem.Calls PyProof.Rows
/-! the program's statements, by their places; K -/
noncomputable abbrev pw : Program := PySem.Challenge.pw_re0162_01
noncomputable def noSt : Stmt := .Pass ⟨0, 0, 0, 0⟩
noncomputable def st (i : Nat) : Stmt := ((behindTheImports pw)[i]?).getD noSt
noncomputable def cst (j : Nat) : Stmt := match st 9 with
  | .ClassDef _ _ _ body _ _ _ _ _ _ _ => (body[j]?).getD noSt
  | _ => noSt
noncomputable def lR : List (Int × Str) := match st 4 with
  | .Assign [_] (.Dict ks vs _) _ => (getE ks vs).getD []
  | _ => []
noncomputable def es40 : Array DictEntry := (entsD lR 38 263).toArray
noncomputable def devHeap : Params → Frag := fun P => (fun (n_st0 : Str) (a_st0 : Arguments) (b_st0 : List Stmt) (d_st0 : List PySem.Expr) (r_st0 : Option PySem.Expr) (t_st0 : List TypeParam) (s_st0 : Scope) (u_st0 : Option Scope) (v_st0 : Str) (p_st0 : Pos) (_ : st 0 = Stmt.FunctionDef n_st0 a_st0 b_st0 d_st0 r_st0 t_st0 s_st0 u_st0 v_st0 p_st0) (n_st3 : Str) (a_st3 : Arguments) (b_st3 : List Stmt) (d_st3 : List PySem.Expr) (r_st3 : Option PySem.Expr) (t_st3 : List TypeParam) (s_st3 : Scope) (u_st3 : Option Scope) (v_st3 : Str) (p_st3 : Pos) (_ : st 3 = Stmt.FunctionDef n_st3 a_st3 b_st3 d_st3 r_st3 t_st3 s_st3 u_st3 v_st3 p_st3) (n_st5 : Str) (a_st5 : Arguments) (b_st5 : List Stmt) (d_st5 : List PySem.Expr) (r_st5 : Option PySem.Expr) (t_st5 : List TypeParam) (s_st5 : Scope) (u_st5 : Option Scope) (v_st5 : Str) (p_st5 : Pos) (_ : st 5 = Stmt.FunctionDef n_st5 a_st5 b_st5 d_st5 r_st5 t_st5 s_st5 u_st5 v_st5 p_st5) (n_st7 : Str) (a_st7 : Arguments) (b_st7 : List Stmt) (d_st7 : List PySem.Expr) (r_st7 : Option PySem.Expr) (t_st7 : List TypeParam) (s_st7 : Scope) (u_st7 : Option Scope) (v_st7 : Str) (p_st7 : Pos) (_ : st 7 = Stmt.FunctionDef n_st7 a_st7 b_st7 d_st7 r_st7 t_st7 s_st7 u_st7 v_st7 p_st7) (n_cst1 : Str) (a_cst1 : Arguments) (b_cst1 : List Stmt) (d_cst1 : List PySem.Expr) (r_cst1 : Option PySem.Expr) (t_cst1 : List TypeParam) (s_cst1 : Scope) (u_cst1 : Option Scope) (v_cst1 : Str) (p_cst1 : Pos) (_ : cst 1 = Stmt.FunctionDef n_cst1 a_cst1 b_cst1 d_cst1 r_cst1 t_cst1 s_cst1 u_cst1 v_cst1 p_cst1) (n_cst2 : Str) (a_cst2 : Arguments) (b_cst2 : List Stmt) (d_cst2 : List PySem.Expr) (r_cst2 : Option PySem.Expr) (t_cst2 : List TypeParam) (s_cst2 : Scope) (u_cst2 : Option Scope) (v_cst2 : Str) (p_cst2 : Pos) (_ : cst 2 = Stmt.FunctionDef n_cst2 a_cst2 b_cst2 d_cst2 r_cst2 t_cst2 s_cst2 u_cst2 v_cst2 p_cst2) (n_cst3 : Str) (a_cst3 : Arguments) (b_cst3 : List Stmt) (d_cst3 : List PySem.Expr) (r_cst3 : Option PySem.Expr) (t_cst3 : List TypeParam) (s_cst3 : Scope) (u_cst3 : Option Scope) (v_cst3 : Str) (p_cst3 : Pos) (_ : cst 3 = Stmt.FunctionDef n_cst3 a_cst3 b_cst3 d_cst3 r_cst3 t_cst3 s_cst3 u_cst3 v_cst3 p_cst3) (n_cst4 : Str) (a_cst4 : Arguments) (b_cst4 : List Stmt) (d_cst4 : List PySem.Expr) (r_cst4 : Option PySem.Expr) (t_cst4 : List TypeParam) (s_cst4 : Scope) (u_cst4 : Option Scope) (v_cst4 : Str) (p_cst4 : Pos) (_ : cst 4 = Stmt.FunctionDef n_cst4 a_cst4 b_cst4 d_cst4 r_cst4 t_cst4 s_cst4 u_cst4 v_cst4 p_cst4) (n_cst5 : Str) (a_cst5 : Arguments) (b_cst5 : List Stmt) (d_cst5 : List PySem.Expr) (r_cst5 : Option PySem.Expr) (t_cst5 : List TypeParam) (s_cst5 : Scope) (u_cst5 : Option Scope) (v_cst5 : Str) (p_cst5 : Pos) (_ : cst 5 = Stmt.FunctionDef n_cst5 a_cst5 b_cst5 d_cst5 r_cst5 t_cst5 s_cst5 u_cst5 v_cst5 p_cst5) (n_cst6 : Str) (a_cst6 : Arguments) (b_cst6 : List Stmt) (d_cst6 : List PySem.Expr) (r_cst6 : Option PySem.Expr) (t_cst6 : List TypeParam) (s_cst6 : Scope) (u_cst6 : Option Scope) (v_cst6 : Str) (p_cst6 : Pos) (_ : cst 6 = Stmt.FunctionDef n_cst6 a_cst6 b_cst6 d_cst6 r_cst6 t_cst6 s_cst6 u_cst6 v_cst6 p_cst6) (n_cst7 : Str) (a_cst7 : Arguments) (b_cst7 : List Stmt) (d_cst7 : List PySem.Expr) (r_cst7 : Option PySem.Expr) (t_cst7 : List TypeParam) (s_cst7 : Scope) (u_cst7 : Option Scope) (v_cst7 : Str) (p_cst7 : Pos) (_ : cst 7 = Stmt.FunctionDef n_cst7 a_cst7 b_cst7 d_cst7 r_cst7 t_cst7 s_cst7 u_cst7 v_cst7 p_cst7) (n_st13 : Str) (a_st13 : Arguments) (b_st13 : List Stmt) (d_st13 : List PySem.Expr) (r_st13 : Option PySem.Expr) (t_st13 : List TypeParam) (s_st13 : Scope) (u_st13 : Option Scope) (v_st13 : Str) (p_st13 : Pos) (_ : st 13 = Stmt.FunctionDef n_st13 a_st13 b_st13 d_st13 r_st13 t_st13 s_st13 u_st13 v_st13 p_st13) (n_st14 : Str) (a_st14 : Arguments) (b_st14 : List Stmt) (d_st14 : List PySem.Expr) (r_st14 : Option PySem.Expr) (t_st14 : List TypeParam) (s_st14 : Scope) (u_st14 : Option Scope) (v_st14 : Str) (p_st14 : Pos) (_ : st 14 = Stmt.FunctionDef n_st14 a_st14 b_st14 d_st14 r_st14 t_st14 s_st14 u_st14 v_st14 p_st14) (n_st15 : Str) (a_st15 : Arguments) (b_st15 : List Stmt) (d_st15 : List PySem.Expr) (r_st15 : Option PySem.Expr) (t_st15 : List TypeParam) (s_st15 : Scope) (u_st15 : Option Scope) (v_st15 : Str) (p_st15 : Pos) (_ : st 15 = Stmt.FunctionDef n_st15 a_st15 b_st15 d_st15 r_st15 t_st15 s_st15 u_st15 v_st15 p_st15) (n_st17 : Str) (a_st17 : Arguments) (b_st17 : List Stmt) (d_st17 : List PySem.Expr) (r_st17 : Option PySem.Expr) (t_st17 : List TypeParam) (s_st17 : Scope) (u_st17 : Option Scope) (v_st17 : Str) (p_st17 : Pos) (_ : st 17 = Stmt.FunctionDef n_st17 a_st17 b_st17 d_st17 r_st17 t_st17 s_st17 u_st17 v_st17 p_st17) (n_st18 : Str) (a_st18 : Arguments) (b_st18 : List Stmt) (d_st18 : List PySem.Expr) (r_st18 : Option PySem.Expr) (t_st18 : List TypeParam) (s_st18 : Scope) (u_st18 : Option Scope) (v_st18 : Str) (p_st18 : Pos) (_ : st 18 = Stmt.FunctionDef n_st18 a_st18 b_st18 d_st18 r_st18 t_st18 s_st18 u_st18 v_st18 p_st18) (n_st19 : Str) (a_st19 : Arguments) (b_st19 : List Stmt) (d_st19 : List PySem.Expr) (r_st19 : Option PySem.Expr) (t_st19 : List TypeParam) (s_st19 : Scope) (u_st19 : Option Scope) (v_st19 : Str) (p_st19 : Pos) (_ : st 19 = Stmt.FunctionDef n_st19 a_st19 b_st19 d_st19 r_st19 t_st19 s_st19 u_st19 v_st19 p_st19) (n_st20 : Str) (a_st20 : Arguments) (b_st20 : List Stmt) (d_st20 : List PySem.Expr) (r_st20 : Option PySem.Expr) (t_st20 : List TypeParam) (s_st20 : Scope) (u_st20 : Option Scope) (v_st20 : Str) (p_st20 : Pos) (_ : st 20 = Stmt.FunctionDef n_st20 a_st20 b_st20 d_st20 r_st20 t_st20 s_st20 u_st20 v_st20 p_st20) (n_st21 : Str) (a_st21 : Arguments) (b_st21 : List Stmt) (d_st21 : List PySem.Expr) (r_st21 : Option PySem.Expr) (t_st21 : List TypeParam) (s_st21 : Scope) (u_st21 : Option Scope) (v_st21 : Str) (p_st21 : Pos) (_ : st 21 = Stmt.FunctionDef n_st21 a_st21 b_st21 d_st21 r_st21 t_st21 s_st21 u_st21 v_st21 p_st21) (n_st22 : Str) (a_st22 : Arguments) (b_st22 : List Stmt) (d_st22 : List PySem.Expr) (r_st22 : Option PySem.Expr) (t_st22 : List TypeParam) (s_st22 : Scope) (u_st22 : Option Scope) (v_st22 : Str) (p_st22 : Pos) (_ : st 22 = Stmt.FunctionDef n_st22 a_st22 b_st22 d_st22 r_st22 t_st22 s_st22 u_st22 v_st22 p_st22) => (
  (nat_lit 2, (PySem.Obj.mk PySem.Value.none none (PySem.Data.dict #[] 0) #[])) ::
  (nat_lit 3, (PySem.Obj.mk (PySem.Value.type "dict") none (PySem.Data.dict #[(PySem.DictEntry.mk (PySem.PyData.keyHash P (PySem.Str.ofString "__name__")) (PySem.Value.str (PySem.Str.ofString "__name__") 165) (PySem.Value.str (PySem.Str.ofString "law_re0162_01") 2378)), (PySem.DictEntry.mk (PySem.PyData.keyHash P (PySem.Str.ofString "__doc__")) (PySem.Value.str (PySem.Str.ofString "__doc__") 166) PySem.Value.none), (PySem.DictEntry.mk (PySem.PyData.keyHash P (PySem.Str.ofString "__package__")) (PySem.Value.str (PySem.Str.ofString "__package__") 167) PySem.Value.none), (PySem.DictEntry.mk (PySem.PyData.keyHash P (PySem.Str.ofString "__loader__")) (PySem.Value.str (PySem.Str.ofString "__loader__") 168) (PySem.Value.builtin "__main__.__loader__#opaque")), (PySem.DictEntry.mk (PySem.PyData.keyHash P (PySem.Str.ofString "__spec__")) (PySem.Value.str (PySem.Str.ofString "__spec__") 169) PySem.Value.none), (PySem.DictEntry.mk (PySem.PyData.keyHash P (PySem.Str.ofString "__annotations__")) (PySem.Value.str (PySem.Str.ofString "__annotations__") 170) (PySem.Value.ref 6)), (PySem.DictEntry.mk (PySem.PyData.keyHash P (PySem.Str.ofString "__builtins__")) (PySem.Value.str (PySem.Str.ofString "__builtins__") 171) (PySem.Value.ref 4)), (PySem.DictEntry.mk (PySem.PyData.keyHash P (PySem.Str.ofString "__file__")) (PySem.Value.str (PySem.Str.ofString "__file__") 173) (PySem.Value.str (PySem.Str.ofString "/claim/cut.py") 172)), (PySem.DictEntry.mk (PySem.PyData.keyHash P (PySem.Str.ofString "__cached__")) (PySem.Value.str (PySem.Str.ofString "__cached__") 174) PySem.Value.none), (PySem.DictEntry.mk (PySem.PyData.keyHash P (PySem.Str.ofString "_wall")) (PySem.Value.str (PySem.Str.ofString "_wall") 193) (PySem.Value.ref 21)), (PySem.DictEntry.mk (PySem.PyData.keyHash P (PySem.Str.ofString "b1_set")) (PySem.Value.str (PySem.Str.ofString "b1_set") 255) (PySem.Value.ref 29)), (PySem.DictEntry.mk (PySem.PyData.keyHash P (PySem.Str.ofString "in_table_b1")) (PySem.Value.str (PySem.Str.ofString "in_table_b1") 262) (PySem.Value.ref 39)), (PySem.DictEntry.mk (PySem.PyData.keyHash P (PySem.Str.ofString "b3_exceptions")) (PySem.Value.str (PySem.Str.ofString "b3_exceptions") 2213) (PySem.Value.ref 40)), (PySem.DictEntry.mk (PySem.PyData.keyHash P (PySem.Str.ofString "map_table_b3")) (PySem.Value.str (PySem.Str.ofString "map_table_b3") 2221) (PySem.Value.ref 85)), (PySem.DictEntry.mk (PySem.PyData.keyHash P (PySem.Str.ofString "c7_set")) (PySem.Value.str (PySem.Str.ofString "c7_set") 2249) (PySem.Value.ref 87)), (PySem.DictEntry.mk (PySem.PyData.keyHash P (PySem.Str.ofString "in_table_c7")) (PySem.Value.str (PySem.Str.ofString "in_table_c7") 2256) (PySem.Value.ref 97)), (PySem.DictEntry.mk (PySem.PyData.keyHash P (PySem.Str.ofString "Whitespace")) (PySem.Value.str (PySem.Str.ofString "Whitespace") 2350) (PySem.Value.ref 159)), (PySem.DictEntry.mk (PySem.PyData.keyHash P (PySem.Str.ofString "ENDMARKER")) (PySem.Value.str (PySem.Str.ofString "ENDMARKER") 2354) (PySem.Value.int 0 2353)), (PySem.DictEntry.mk (PySem.PyData.keyHash P (PySem.Str.ofString "NT_OFFSET")) (PySem.Value.str (PySem.Str.ofString "NT_OFFSET") 2356) (PySem.Value.int 256 2355)), (PySem.DictEntry.mk (PySem.PyData.keyHash P (PySem.Str.ofString "ISTERMINAL")) (PySem.Value.str (PySem.Str.ofString "ISTERMINAL") 2363) (PySem.Value.ref 170)), (PySem.DictEntry.mk (PySem.PyData.keyHash P (PySem.Str.ofString "ISNONTERMINAL")) (PySem.Value.str (PySem.Str.ofString "ISNONTERMINAL") 2370) (PySem.Value.ref 177)), (PySem.DictEntry.mk (PySem.PyData.keyHash P (PySem.Str.ofString "ISEOF")) (PySem.Value.str (PySem.Str.ofString "ISEOF") 2377) (PySem.Value.ref 184)), (PySem.DictEntry.mk (PySem.PyData.keyHash P (PySem.Str.ofString "_law_tree")) (PySem.Value.str (PySem.Str.ofString "_law_tree") 2389) (PySem.Value.ref 191)), (PySem.DictEntry.mk (PySem.PyData.keyHash P (PySem.Str.ofString "_law_row")) (PySem.Value.str (PySem.Str.ofString "_law_row") 2395) (PySem.Value.ref 196)), (PySem.DictEntry.mk (PySem.PyData.keyHash P (PySem.Str.ofString "_law_turns")) (PySem.Value.str (PySem.Str.ofString "_law_turns") 2401) (PySem.Value.ref 201)), (PySem.DictEntry.mk (PySem.PyData.keyHash P (PySem.Str.ofString "_law_page")) (PySem.Value.str (PySem.Str.ofString "_law_page") 2414) (PySem.Value.ref 208)), (PySem.DictEntry.mk (PySem.PyData.keyHash P (PySem.Str.ofString "_law_read")) (PySem.Value.str (PySem.Str.ofString "_law_read") 2420) (PySem.Value.ref 213)), (PySem.DictEntry.mk (PySem.PyData.keyHash P (PySem.Str.ofString "law")) (PySem.Value.str (PySem.Str.ofString "law") 2426) (PySem.Value.ref 218))] 28) #[])) ::
  (nat_lit 15, (PySem.Obj.mk (PySem.Value.type "tuple") none (PySem.Data.seq #[] 0) #[])) ::
  (nat_lit 17, (PySem.Obj.mk (PySem.Value.type "tuple") none (PySem.Data.seq #[(PySem.Value.str (PySem.Str.ofString "k") 190)] 0) #[])) ::
  (nat_lit 18, (PySem.Obj.mk (PySem.Value.type "tuple") none (PySem.Data.seq #[] 0) #[])) ::
  (nat_lit 20, (PySem.Obj.mk (PySem.Value.type "code") none (PySem.Data.fields #[(PySem.Value.str (PySem.Str.ofString "_wall") 187), (PySem.Value.str (PySem.Str.ofString "_wall") 188), (PySem.Value.str (PySem.Str.ofString "/claim/cut.py") 189), (PySem.Value.int 1 0), (PySem.Value.int 1 0), (PySem.Value.int 0 0), (PySem.Value.int 0 0), (PySem.Value.int 3 0), (PySem.Value.ref 15), (PySem.Value.bool Bool.true), (PySem.Value.int 181 0), (PySem.Value.ref 16), PySem.Value.none, (PySem.Value.ref 17), (PySem.Value.ref 18), (PySem.Value.ref 19), (PySem.Value.int 191 0), (PySem.Value.int 1 0), (PySem.Value.str (PySem.Str.ofString "/claim/cut.py") 192)]) #[])) ::
  (nat_lit 21, (Obj.mk (PySem.Value.type "function") none (Data.func (FuncData.mk (PySem.Str.ofString "_wall") (PySem.Str.ofString "_wall") a_st0 (FuncBody.stmts b_st0) s_st0 3 [] PySem.Value.none PySem.Value.none PySem.Value.none (PySem.Value.str (PySem.Str.ofString "__main__") 164) none (PySem.Value.ref 20) PySem.Value.none 0)) #[])) ::
  (nat_lit 29, (PySem.Obj.mk (PySem.Value.type "set") none (PySem.Data.set #[(65024, (PySem.Value.int 65024 212)), (65025, (PySem.Value.int 65025 213)), (65026, (PySem.Value.int 65026 214)), (65027, (PySem.Value.int 65027 215)), (65028, (PySem.Value.int 65028 216)), (65029, (PySem.Value.int 65029 217)), (6150, (PySem.Value.int 6150 198)), (65030, (PySem.Value.int 65030 218)), (65031, (PySem.Value.int 65031 219)), (65032, (PySem.Value.int 65032 220)), (65033, (PySem.Value.int 65033 221)), (6155, (PySem.Value.int 6155 199)), (6156, (PySem.Value.int 6156 200)), (6157, (PySem.Value.int 6157 201)), (8203, (PySem.Value.int 8203 202)), (8204, (PySem.Value.int 8204 203)), (8205, (PySem.Value.int 8205 204)), (65034, (PySem.Value.int 65034 222)), (65035, (PySem.Value.int 65035 223)), (65036, (PySem.Value.int 65036 224)), (65037, (PySem.Value.int 65037 225)), (65038, (PySem.Value.int 65038 226)), (65039, (PySem.Value.int 65039 227)), (173, (PySem.Value.int 173 196)), (847, (PySem.Value.int 847 197)), (8288, (PySem.Value.int 8288 205)), (65279, (PySem.Value.int 65279 206))] 29 (PySem.SetTable.mk 127 #[0, 1, 2, 3, 4, 5, 6, 7, 8, 9, 10, 11, 12, 13, 14, 15, 16, 17, 18, 19, 20, 21, 22, 45, 79, 96, 127] #[] 0 (!(PySem.Params.followText P "set-order")) 2 Bool.true)) #[])) ::
  (nat_lit 33, (PySem.Obj.mk (PySem.Value.type "tuple") none (PySem.Data.seq #[] 0) #[])) ::
  (nat_lit 35, (PySem.Obj.mk (PySem.Value.type "tuple") none (PySem.Data.seq #[(PySem.Value.str (PySem.Str.ofString "code") 259)] 0) #[])) ::
  (nat_lit 36, (PySem.Obj.mk (PySem.Value.type "tuple") none (PySem.Data.seq #[] 0) #[])) ::
  (nat_lit 38, (PySem.Obj.mk (PySem.Value.type "code") none (PySem.Data.fields #[(PySem.Value.str (PySem.Str.ofString "in_table_b1") 256), (PySem.Value.str (PySem.Str.ofString "in_table_b1") 257), (PySem.Value.str (PySem.Str.ofString "/claim/cut.py") 258), (PySem.Value.int 6 0), (PySem.Value.int 1 0), (PySem.Value.int 0 0), (PySem.Value.int 0 0), (PySem.Value.int 3 0), (PySem.Value.ref 33), (PySem.Value.bool Bool.true), (PySem.Value.int 181 0), (PySem.Value.ref 34), PySem.Value.none, (PySem.Value.ref 35), (PySem.Value.ref 36), (PySem.Value.ref 37), (PySem.Value.int 260 0), (PySem.Value.int 6 0), (PySem.Value.str (PySem.Str.ofString "/claim/cut.py") 261)]) #[])) ::
  (nat_lit 39, (Obj.mk (PySem.Value.type "function") none (Data.func (FuncData.mk (PySem.Str.ofString "in_table_b1") (PySem.Str.ofString "in_table_b1") a_st3 (FuncBody.stmts b_st3) s_st3 3 [] PySem.Value.none PySem.Value.none PySem.Value.none (PySem.Value.str (PySem.Str.ofString "cpy313.stringprep") 194) none (PySem.Value.ref 38) PySem.Value.none 0)) #[])) ::
  (nat_lit 40, (Obj.mk (Value.type "dict") none (Data.dict es40 650) #[])) ::
  (nat_lit 79, (PySem.Obj.mk (PySem.Value.type "tuple") none (PySem.Data.seq #[] 0) #[])) ::
  (nat_lit 81, (PySem.Obj.mk (PySem.Value.type "tuple") none (PySem.Data.seq #[(PySem.Value.str (PySem.Str.ofString "code") 2217), (PySem.Value.str (PySem.Str.ofString "r") 2218)] 0) #[])) ::
  (nat_lit 82, (PySem.Obj.mk (PySem.Value.type "tuple") none (PySem.Data.seq #[] 0) #[])) ::
  (nat_lit 84, (PySem.Obj.mk (PySem.Value.type "code") none (PySem.Data.fields #[(PySem.Value.str (PySem.Str.ofString "map_table_b3") 2214), (PySem.Value.str (PySem.Str.ofString "map_table_b3") 2215), (PySem.Value.str (PySem.Str.ofString "/claim/cut.py") 2216), (PySem.Value.int 9 0), (PySem.Value.int 1 0), (PySem.Value.int 0 0), (PySem.Value.int 0 0), (PySem.Value.int 3 0), (PySem.Value.ref 79), (PySem.Value.bool Bool.true), (PySem.Value.int 181 0), (PySem.Value.ref 80), PySem.Value.none, (PySem.Value.ref 81), (PySem.Value.ref 82), (PySem.Value.ref 83), (PySem.Value.int 2219 0), (PySem.Value.int 9 0), (PySem.Value.str (PySem.Str.ofString "/claim/cut.py") 2220)]) #[])) ::
  (nat_lit 85, (Obj.mk (PySem.Value.type "function") none (Data.func (FuncData.mk (PySem.Str.ofString "map_table_b3") (PySem.Str.ofString "map_table_b3") a_st5 (FuncBody.stmts b_st5) s_st5 3 [] PySem.Value.none PySem.Value.none PySem.Value.none (PySem.Value.str (PySem.Str.ofString "cpy313.stringprep") 194) none (PySem.Value.ref 84) PySem.Value.none 0)) #[])) ::
  (nat_lit 87, (PySem.Obj.mk (PySem.Value.type "set") none (PySem.Data.set #[(12272, (PySem.Value.int 12272 2225)), (12273, (PySem.Value.int 12273 2227)), (12274, (PySem.Value.int 12274 2229)), (12275, (PySem.Value.int 12275 2231)), (12276, (PySem.Value.int 12276 2233)), (12277, (PySem.Value.int 12277 2235)), (12278, (PySem.Value.int 12278 2237)), (12279, (PySem.Value.int 12279 2239)), (12280, (PySem.Value.int 12280 2241)), (12281, (PySem.Value.int 12281 2243)), (12282, (PySem.Value.int 12282 2245)), (12283, (PySem.Value.int 12283 2247))] 13 (PySem.SetTable.mk 31 #[16, 17, 18, 19, 20, 21, 22, 23, 24, 25, 26, 27] #[] 0 (!(PySem.Params.followText P "set-order")) 1 Bool.true)) #[])) ::
  (nat_lit 91, (PySem.Obj.mk (PySem.Value.type "tuple") none (PySem.Data.seq #[] 0) #[])) ::
  (nat_lit 93, (PySem.Obj.mk (PySem.Value.type "tuple") none (PySem.Data.seq #[(PySem.Value.str (PySem.Str.ofString "code") 2253)] 0) #[])) ::
  (nat_lit 94, (PySem.Obj.mk (PySem.Value.type "tuple") none (PySem.Data.seq #[] 0) #[])) ::
  (nat_lit 96, (PySem.Obj.mk (PySem.Value.type "code") none (PySem.Data.fields #[(PySem.Value.str (PySem.Str.ofString "in_table_c7") 2250), (PySem.Value.str (PySem.Str.ofString "in_table_c7") 2251), (PySem.Value.str (PySem.Str.ofString "/claim/cut.py") 2252), (PySem.Value.int 15 0), (PySem.Value.int 1 0), (PySem.Value.int 0 0), (PySem.Value.int 0 0), (PySem.Value.int 3 0), (PySem.Value.ref 91), (PySem.Value.bool Bool.true), (PySem.Value.int 181 0), (PySem.Value.ref 92), PySem.Value.none, (PySem.Value.ref 93), (PySem.Value.ref 94), (PySem.Value.ref 95), (PySem.Value.int 2254 0), (PySem.Value.int 15 0), (PySem.Value.str (PySem.Str.ofString "/claim/cut.py") 2255)]) #[])) ::
  (nat_lit 97, (Obj.mk (PySem.Value.type "function") none (Data.func (FuncData.mk (PySem.Str.ofString "in_table_c7") (PySem.Str.ofString "in_table_c7") a_st7 (FuncBody.stmts b_st7) s_st7 3 [] PySem.Value.none PySem.Value.none PySem.Value.none (PySem.Value.str (PySem.Str.ofString "cpy313.stringprep") 194) none (PySem.Value.ref 96) PySem.Value.none 0)) #[])) ::
  (nat_lit 108, (PySem.Obj.mk (PySem.Value.type "tuple") none (PySem.Data.seq #[] 0) #[])) ::
  (nat_lit 110, (PySem.Obj.mk (PySem.Value.type "tuple") none (PySem.Data.seq #[(PySem.Value.str (PySem.Str.ofString "self") 2279), (PySem.Value.str (PySem.Str.ofString "ws") 2280), (PySem.Value.str (PySem.Str.ofString "S") 2281), (PySem.Value.str (PySem.Str.ofString "T") 2282), (PySem.Value.str (PySem.Str.ofString "count") 2283), (PySem.Value.str (PySem.Str.ofString "b") 2284), (PySem.Value.str (PySem.Str.ofString "n") 2285), (PySem.Value.str (PySem.Str.ofString "nt") 2286), (PySem.Value.str (PySem.Str.ofString "ch") 2287)] 0) #[])) ::
  (nat_lit 111, (PySem.Obj.mk (PySem.Value.type "tuple") none (PySem.Data.seq #[] 0) #[])) ::
  (nat_lit 113, (PySem.Obj.mk (PySem.Value.type "code") none (PySem.Data.fields #[(PySem.Value.str (PySem.Str.ofString "__init__") 2276), (PySem.Value.str (PySem.Str.ofString "Whitespace.__init__") 2277), (PySem.Value.str (PySem.Str.ofString "/claim/cut.py") 2278), (PySem.Value.int 21 0), (PySem.Value.int 2 0), (PySem.Value.int 0 0), (PySem.Value.int 0 0), (PySem.Value.int 3 0), (PySem.Value.ref 108), (PySem.Value.bool Bool.true), (PySem.Value.int 181 0), (PySem.Value.ref 109), PySem.Value.none, (PySem.Value.ref 110), (PySem.Value.ref 111), (PySem.Value.ref 112), (PySem.Value.int 2288 0), (PySem.Value.int 21 0), (PySem.Value.str (PySem.Str.ofString "/claim/cut.py") 2289)]) #[])) ::
  (nat_lit 114, (Obj.mk (PySem.Value.type "function") none (Data.func (FuncData.mk (PySem.Str.ofString "__init__") (PySem.Str.ofString "Whitespace.__init__") a_cst1 (FuncBody.stmts b_cst1) s_cst1 3 [] PySem.Value.none PySem.Value.none PySem.Value.none (PySem.Value.str (PySem.Str.ofString "cpy313.tabnanny") 2257) none (PySem.Value.ref 113) PySem.Value.none 0)) #[])) ::
  (nat_lit 115, (PySem.Obj.mk (PySem.Value.type "tuple") none (PySem.Data.seq #[] 0) #[])) ::
  (nat_lit 117, (PySem.Obj.mk (PySem.Value.type "tuple") none (PySem.Data.seq #[(PySem.Value.str (PySem.Str.ofString "self") 2294)] 0) #[])) ::
  (nat_lit 118, (PySem.Obj.mk (PySem.Value.type "tuple") none (PySem.Data.seq #[] 0) #[])) ::
  (nat_lit 120, (PySem.Obj.mk (PySem.Value.type "code") none (PySem.Data.fields #[(PySem.Value.str (PySem.Str.ofString "longest_run_of_spaces") 2291), (PySem.Value.str (PySem.Str.ofString "Whitespace.longest_run_of_spaces") 2292), (PySem.Value.str (PySem.Str.ofString "/claim/cut.py") 2293), (PySem.Value.int 44 0), (PySem.Value.int 1 0), (PySem.Value.int 0 0), (PySem.Value.int 0 0), (PySem.Value.int 3 0), (PySem.Value.ref 115), (PySem.Value.bool Bool.true), (PySem.Value.int 181 0), (PySem.Value.ref 116), PySem.Value.none, (PySem.Value.ref 117), (PySem.Value.ref 118), (PySem.Value.ref 119), (PySem.Value.int 2295 0), (PySem.Value.int 44 0), (PySem.Value.str (PySem.Str.ofString "/claim/cut.py") 2296)]) #[])) ::
  (nat_lit 121, (Obj.mk (PySem.Value.type "function") none (Data.func (FuncData.mk (PySem.Str.ofString "longest_run_of_spaces") (PySem.Str.ofString "Whitespace.longest_run_of_spaces") a_cst2 (FuncBody.stmts b_cst2) s_cst2 3 [] PySem.Value.none PySem.Value.none PySem.Value.none (PySem.Value.str (PySem.Str.ofString "cpy313.tabnanny") 2257) none (PySem.Value.ref 120) PySem.Value.none 0)) #[])) ::
  (nat_lit 122, (PySem.Obj.mk (PySem.Value.type "tuple") none (PySem.Data.seq #[] 0) #[])) ::
  (nat_lit 124, (PySem.Obj.mk (PySem.Value.type "tuple") none (PySem.Data.seq #[(PySem.Value.str (PySem.Str.ofString "self") 2301), (PySem.Value.str (PySem.Str.ofString "tabsize") 2302)] 0) #[])) ::
  (nat_lit 125, (PySem.Obj.mk (PySem.Value.type "tuple") none (PySem.Data.seq #[] 0) #[])) ::
  (nat_lit 127, (PySem.Obj.mk (PySem.Value.type "code") none (PySem.Data.fields #[(PySem.Value.str (PySem.Str.ofString "indent_level") 2298), (PySem.Value.str (PySem.Str.ofString "Whitespace.indent_level") 2299), (PySem.Value.str (PySem.Str.ofString "/claim/cut.py") 2300), (PySem.Value.int 47 0), (PySem.Value.int 2 0), (PySem.Value.int 0 0), (PySem.Value.int 0 0), (PySem.Value.int 3 0), (PySem.Value.ref 122), (PySem.Value.bool Bool.true), (PySem.Value.int 181 0), (PySem.Value.ref 123), PySem.Value.none, (PySem.Value.ref 124), (PySem.Value.ref 125), (PySem.Value.ref 126), (PySem.Value.int 2303 0), (PySem.Value.int 47 0), (PySem.Value.str (PySem.Str.ofString "/claim/cut.py") 2304)]) #[])) ::
  (nat_lit 128, (Obj.mk (PySem.Value.type "function") none (Data.func (FuncData.mk (PySem.Str.ofString "indent_level") (PySem.Str.ofString "Whitespace.indent_level") a_cst3 (FuncBody.stmts b_cst3) s_cst3 3 [] PySem.Value.none PySem.Value.none PySem.Value.none (PySem.Value.str (PySem.Str.ofString "cpy313.tabnanny") 2257) none (PySem.Value.ref 127) PySem.Value.none 0)) #[])) ::
  (nat_lit 129, (PySem.Obj.mk (PySem.Value.type "tuple") none (PySem.Data.seq #[] 0) #[])) ::
  (nat_lit 131, (PySem.Obj.mk (PySem.Value.type "tuple") none (PySem.Data.seq #[(PySem.Value.str (PySem.Str.ofString "self") 2309), (PySem.Value.str (PySem.Str.ofString "other") 2310)] 0) #[])) ::
  (nat_lit 132, (PySem.Obj.mk (PySem.Value.type "tuple") none (PySem.Data.seq #[] 0) #[])) ::
  (nat_lit 134, (PySem.Obj.mk (PySem.Value.type "code") none (PySem.Data.fields #[(PySem.Value.str (PySem.Str.ofString "equal") 2306), (PySem.Value.str (PySem.Str.ofString "Whitespace.equal") 2307), (PySem.Value.str (PySem.Str.ofString "/claim/cut.py") 2308), (PySem.Value.int 50 0), (PySem.Value.int 2 0), (PySem.Value.int 0 0), (PySem.Value.int 0 0), (PySem.Value.int 3 0), (PySem.Value.ref 129), (PySem.Value.bool Bool.true), (PySem.Value.int 181 0), (PySem.Value.ref 130), PySem.Value.none, (PySem.Value.ref 131), (PySem.Value.ref 132), (PySem.Value.ref 133), (PySem.Value.int 2311 0), (PySem.Value.int 50 0), (PySem.Value.str (PySem.Str.ofString "/claim/cut.py") 2312)]) #[])) ::
  (nat_lit 135, (Obj.mk (PySem.Value.type "function") none (Data.func (FuncData.mk (PySem.Str.ofString "equal") (PySem.Str.ofString "Whitespace.equal") a_cst4 (FuncBody.stmts b_cst4) s_cst4 3 [] PySem.Value.none PySem.Value.none PySem.Value.none (PySem.Value.str (PySem.Str.ofString "cpy313.tabnanny") 2257) none (PySem.Value.ref 134) PySem.Value.none 0)) #[])) ::
  (nat_lit 136, (PySem.Obj.mk (PySem.Value.type "tuple") none (PySem.Data.seq #[] 0) #[])) ::
  (nat_lit 138, (PySem.Obj.mk (PySem.Value.type "tuple") none (PySem.Data.seq #[(PySem.Value.str (PySem.Str.ofString "self") 2317), (PySem.Value.str (PySem.Str.ofString "other") 2318)] 0) #[])) ::
  (nat_lit 139, (PySem.Obj.mk (PySem.Value.type "tuple") none (PySem.Data.seq #[] 0) #[])) ::
  (nat_lit 141, (PySem.Obj.mk (PySem.Value.type "code") none (PySem.Data.fields #[(PySem.Value.str (PySem.Str.ofString "not_equal_witness") 2314), (PySem.Value.str (PySem.Str.ofString "Whitespace.not_equal_witness") 2315), (PySem.Value.str (PySem.Str.ofString "/claim/cut.py") 2316), (PySem.Value.int 53 0), (PySem.Value.int 2 0), (PySem.Value.int 0 0), (PySem.Value.int 0 0), (PySem.Value.int 3 0), (PySem.Value.ref 136), (PySem.Value.bool Bool.true), (PySem.Value.int 181 0), (PySem.Value.ref 137), PySem.Value.none, (PySem.Value.ref 138), (PySem.Value.ref 139), (PySem.Value.ref 140), (PySem.Value.int 2319 0), (PySem.Value.int 53 0), (PySem.Value.str (PySem.Str.ofString "/claim/cut.py") 2320)]) #[])) ::
  (nat_lit 142, (Obj.mk (PySem.Value.type "function") none (Data.func (FuncData.mk (PySem.Str.ofString "not_equal_witness") (PySem.Str.ofString "Whitespace.not_equal_witness") a_cst5 (FuncBody.stmts b_cst5) s_cst5 3 [] PySem.Value.none PySem.Value.none PySem.Value.none (PySem.Value.str (PySem.Str.ofString "cpy313.tabnanny") 2257) none (PySem.Value.ref 141) PySem.Value.none 0)) #[])) ::
  (nat_lit 143, (PySem.Obj.mk (PySem.Value.type "tuple") none (PySem.Data.seq #[] 0) #[])) ::
  (nat_lit 145, (PySem.Obj.mk (PySem.Value.type "tuple") none (PySem.Data.seq #[(PySem.Value.str (PySem.Str.ofString "self") 2325), (PySem.Value.str (PySem.Str.ofString "other") 2326)] 0) #[])) ::
  (nat_lit 146, (PySem.Obj.mk (PySem.Value.type "tuple") none (PySem.Data.seq #[] 0) #[])) ::
  (nat_lit 148, (PySem.Obj.mk (PySem.Value.type "code") none (PySem.Data.fields #[(PySem.Value.str (PySem.Str.ofString "less") 2322), (PySem.Value.str (PySem.Str.ofString "Whitespace.less") 2323), (PySem.Value.str (PySem.Str.ofString "/claim/cut.py") 2324), (PySem.Value.int 56 0), (PySem.Value.int 2 0), (PySem.Value.int 0 0), (PySem.Value.int 0 0), (PySem.Value.int 3 0), (PySem.Value.ref 143), (PySem.Value.bool Bool.true), (PySem.Value.int 181 0), (PySem.Value.ref 144), PySem.Value.none, (PySem.Value.ref 145), (PySem.Value.ref 146), (PySem.Value.ref 147), (PySem.Value.int 2327 0), (PySem.Value.int 56 0), (PySem.Value.str (PySem.Str.ofString "/claim/cut.py") 2328)]) #[])) ::
  (nat_lit 149, (Obj.mk (PySem.Value.type "function") none (Data.func (FuncData.mk (PySem.Str.ofString "less") (PySem.Str.ofString "Whitespace.less") a_cst6 (FuncBody.stmts b_cst6) s_cst6 3 [] PySem.Value.none PySem.Value.none PySem.Value.none (PySem.Value.str (PySem.Str.ofString "cpy313.tabnanny") 2257) none (PySem.Value.ref 148) PySem.Value.none 0)) #[])) ::
  (nat_lit 150, (PySem.Obj.mk (PySem.Value.type "tuple") none (PySem.Data.seq #[] 0) #[])) ::
  (nat_lit 152, (PySem.Obj.mk (PySem.Value.type "tuple") none (PySem.Data.seq #[(PySem.Value.str (PySem.Str.ofString "self") 2333), (PySem.Value.str (PySem.Str.ofString "other") 2334)] 0) #[])) ::
  (nat_lit 153, (PySem.Obj.mk (PySem.Value.type "tuple") none (PySem.Data.seq #[] 0) #[])) ::
  (nat_lit 155, (PySem.Obj.mk (PySem.Value.type "code") none (PySem.Data.fields #[(PySem.Value.str (PySem.Str.ofString "not_less_witness") 2330), (PySem.Value.str (PySem.Str.ofString "Whitespace.not_less_witness") 2331), (PySem.Value.str (PySem.Str.ofString "/claim/cut.py") 2332), (PySem.Value.int 59 0), (PySem.Value.int 2 0), (PySem.Value.int 0 0), (PySem.Value.int 0 0), (PySem.Value.int 3 0), (PySem.Value.ref 150), (PySem.Value.bool Bool.true), (PySem.Value.int 181 0), (PySem.Value.ref 151), PySem.Value.none, (PySem.Value.ref 152), (PySem.Value.ref 153), (PySem.Value.ref 154), (PySem.Value.int 2335 0), (PySem.Value.int 59 0), (PySem.Value.str (PySem.Str.ofString "/claim/cut.py") 2336)]) #[])) ::
  (nat_lit 156, (Obj.mk (PySem.Value.type "function") none (Data.func (FuncData.mk (PySem.Str.ofString "not_less_witness") (PySem.Str.ofString "Whitespace.not_less_witness") a_cst7 (FuncBody.stmts b_cst7) s_cst7 3 [] PySem.Value.none PySem.Value.none PySem.Value.none (PySem.Value.str (PySem.Str.ofString "cpy313.tabnanny") 2257) none (PySem.Value.ref 155) PySem.Value.none 0)) #[])) ::
  (nat_lit 157, (PySem.Obj.mk (PySem.Value.type "tuple") none (PySem.Data.seq #[(PySem.Value.str (PySem.Str.ofString "is_simple") 2338), (PySem.Value.str (PySem.Str.ofString "n") 2339), (PySem.Value.str (PySem.Str.ofString "norm") 2340), (PySem.Value.str (PySem.Str.ofString "nt") 2341), (PySem.Value.str (PySem.Str.ofString "raw") 2342)] 0) #[])) ::
  (nat_lit 158, (PySem.Obj.mk (PySem.Value.type "dict") none (PySem.Data.dict #[(PySem.DictEntry.mk (PySem.PyData.keyHash P (PySem.Str.ofString "__module__")) (PySem.Value.str (PySem.Str.ofString "__module__") 2266) (PySem.Value.str (PySem.Str.ofString "cpy313.tabnanny") 2257)), (PySem.DictEntry.mk (PySem.PyData.keyHash P (PySem.Str.ofString "__firstlineno__")) (PySem.Value.str (PySem.Str.ofString "__firstlineno__") 2270) (PySem.Value.int 18 2269)), (PySem.DictEntry.mk (PySem.PyData.keyHash P (PySem.Str.ofString "S")) (PySem.Value.str (PySem.Str.ofString "S") 2274) (PySem.Value.str (PySem.Str.ofString " ") 2272)), (PySem.DictEntry.mk (PySem.PyData.keyHash P (PySem.Str.ofString "T")) (PySem.Value.str (PySem.Str.ofString "T") 2275) (PySem.Value.str (PySem.Str.ofString "\t") 2273)), (PySem.DictEntry.mk (PySem.PyData.keyHash P (PySem.Str.ofString "__init__")) (PySem.Value.str (PySem.Str.ofString "__init__") 2290) (PySem.Value.ref 114)), (PySem.DictEntry.mk (PySem.PyData.keyHash P (PySem.Str.ofString "longest_run_of_spaces")) (PySem.Value.str (PySem.Str.ofString "longest_run_of_spaces") 2297) (PySem.Value.ref 121)), (PySem.DictEntry.mk (PySem.PyData.keyHash P (PySem.Str.ofString "indent_level")) (PySem.Value.str (PySem.Str.ofString "indent_level") 2305) (PySem.Value.ref 128)), (PySem.DictEntry.mk (PySem.PyData.keyHash P (PySem.Str.ofString "equal")) (PySem.Value.str (PySem.Str.ofString "equal") 2313) (PySem.Value.ref 135)), (PySem.DictEntry.mk (PySem.PyData.keyHash P (PySem.Str.ofString "not_equal_witness")) (PySem.Value.str (PySem.Str.ofString "not_equal_witness") 2321) (PySem.Value.ref 142)), (PySem.DictEntry.mk (PySem.PyData.keyHash P (PySem.Str.ofString "less")) (PySem.Value.str (PySem.Str.ofString "less") 2329) (PySem.Value.ref 149)), (PySem.DictEntry.mk (PySem.PyData.keyHash P (PySem.Str.ofString "not_less_witness")) (PySem.Value.str (PySem.Str.ofString "not_less_witness") 2337) (PySem.Value.ref 156)), (PySem.DictEntry.mk (PySem.PyData.keyHash P (PySem.Str.ofString "__static_attributes__")) (PySem.Value.str (PySem.Str.ofString "__static_attributes__") 2343) (PySem.Value.ref 157)), (PySem.DictEntry.mk (PySem.PyData.keyHash P (PySem.Str.ofString "__dict__")) (PySem.Value.str (PySem.Str.ofString "__dict__") 2345) (PySem.Value.ref 160)), (PySem.DictEntry.mk (PySem.PyData.keyHash P (PySem.Str.ofString "__weakref__")) (PySem.Value.str (PySem.Str.ofString "__weakref__") 2347) (PySem.Value.ref 161)), (PySem.DictEntry.mk (PySem.PyData.keyHash P (PySem.Str.ofString "__doc__")) (PySem.Value.str (PySem.Str.ofString "__doc__") 2348) PySem.Value.none)] 4) #[])) ::
  (nat_lit 159, (PySem.Obj.mk (PySem.Value.type "type") none (PySem.Data.cls (PySem.ClassData.mk (PySem.Str.ofString "Whitespace") [(PySem.Value.type "object")] [(PySem.Value.ref 159), (PySem.Value.type "object")] 158 (PySem.Str.ofString "Whitespace") Bool.true [] [] Bool.false none Bool.false)) #[none, none, (some (PySem.Value.str (PySem.Str.ofString "Whitespace") 2259)), (some (PySem.Value.str (PySem.Str.ofString "Whitespace") 2267)), (some (PySem.Value.builtin "object.__new__")), (some (PySem.Value.bool Bool.true))])) ::
  (nat_lit 160, (PySem.Obj.mk (PySem.Value.type "getset_descriptor") none (PySem.Data.fields #[(PySem.Value.str (PySem.Str.ofString "__dict__") 2344), (PySem.Value.ref 159), (PySem.Value.builtin "function.__dict__"), (PySem.Value.builtin "function.__dict__#set")]) #[])) ::
  (nat_lit 161, (PySem.Obj.mk (PySem.Value.type "getset_descriptor") none (PySem.Data.fields #[(PySem.Value.str (PySem.Str.ofString "__weakref__") 2346), (PySem.Value.ref 159), (PySem.Value.builtin "ExceptionGroup.__weakref__"), PySem.Value.none]) #[])) ::
  (nat_lit 164, (PySem.Obj.mk (PySem.Value.type "tuple") none (PySem.Data.seq #[] 0) #[])) ::
  (nat_lit 166, (PySem.Obj.mk (PySem.Value.type "tuple") none (PySem.Data.seq #[(PySem.Value.str (PySem.Str.ofString "x") 2360)] 0) #[])) ::
  (nat_lit 167, (PySem.Obj.mk (PySem.Value.type "tuple") none (PySem.Data.seq #[] 0) #[])) ::
  (nat_lit 169, (PySem.Obj.mk (PySem.Value.type "code") none (PySem.Data.fields #[(PySem.Value.str (PySem.Str.ofString "ISTERMINAL") 2357), (PySem.Value.str (PySem.Str.ofString "ISTERMINAL") 2358), (PySem.Value.str (PySem.Str.ofString "/claim/cut.py") 2359), (PySem.Value.int 64 0), (PySem.Value.int 1 0), (PySem.Value.int 0 0), (PySem.Value.int 0 0), (PySem.Value.int 3 0), (PySem.Value.ref 164), (PySem.Value.bool Bool.true), (PySem.Value.int 181 0), (PySem.Value.ref 165), PySem.Value.none, (PySem.Value.ref 166), (PySem.Value.ref 167), (PySem.Value.ref 168), (PySem.Value.int 2361 0), (PySem.Value.int 64 0), (PySem.Value.str (PySem.Str.ofString "/claim/cut.py") 2362)]) #[])) ::
  (nat_lit 170, (Obj.mk (PySem.Value.type "function") none (Data.func (FuncData.mk (PySem.Str.ofString "ISTERMINAL") (PySem.Str.ofString "ISTERMINAL") a_st13 (FuncBody.stmts b_st13) s_st13 3 [] PySem.Value.none PySem.Value.none PySem.Value.none (PySem.Value.str (PySem.Str.ofString "cpy313.token") 2351) none (PySem.Value.ref 169) PySem.Value.none 0)) #[])) ::
  (nat_lit 171, (PySem.Obj.mk (PySem.Value.type "tuple") none (PySem.Data.seq #[] 0) #[])) ::
  (nat_lit 173, (PySem.Obj.mk (PySem.Value.type "tuple") none (PySem.Data.seq #[(PySem.Value.str (PySem.Str.ofString "x") 2367)] 0) #[])) ::
  (nat_lit 174, (PySem.Obj.mk (PySem.Value.type "tuple") none (PySem.Data.seq #[] 0) #[])) ::
  (nat_lit 176, (PySem.Obj.mk (PySem.Value.type "code") none (PySem.Data.fields #[(PySem.Value.str (PySem.Str.ofString "ISNONTERMINAL") 2364), (PySem.Value.str (PySem.Str.ofString "ISNONTERMINAL") 2365), (PySem.Value.str (PySem.Str.ofString "/claim/cut.py") 2366), (PySem.Value.int 66 0), (PySem.Value.int 1 0), (PySem.Value.int 0 0), (PySem.Value.int 0 0), (PySem.Value.int 3 0), (PySem.Value.ref 171), (PySem.Value.bool Bool.true), (PySem.Value.int 181 0), (PySem.Value.ref 172), PySem.Value.none, (PySem.Value.ref 173), (PySem.Value.ref 174), (PySem.Value.ref 175), (PySem.Value.int 2368 0), (PySem.Value.int 66 0), (PySem.Value.str (PySem.Str.ofString "/claim/cut.py") 2369)]) #[])) ::
  (nat_lit 177, (Obj.mk (PySem.Value.type "function") none (Data.func (FuncData.mk (PySem.Str.ofString "ISNONTERMINAL") (PySem.Str.ofString "ISNONTERMINAL") a_st14 (FuncBody.stmts b_st14) s_st14 3 [] PySem.Value.none PySem.Value.none PySem.Value.none (PySem.Value.str (PySem.Str.ofString "cpy313.token") 2351) none (PySem.Value.ref 176) PySem.Value.none 0)) #[])) ::
  (nat_lit 178, (PySem.Obj.mk (PySem.Value.type "tuple") none (PySem.Data.seq #[] 0) #[])) ::
  (nat_lit 180, (PySem.Obj.mk (PySem.Value.type "tuple") none (PySem.Data.seq #[(PySem.Value.str (PySem.Str.ofString "x") 2374)] 0) #[])) ::
  (nat_lit 181, (PySem.Obj.mk (PySem.Value.type "tuple") none (PySem.Data.seq #[] 0) #[])) ::
  (nat_lit 183, (PySem.Obj.mk (PySem.Value.type "code") none (PySem.Data.fields #[(PySem.Value.str (PySem.Str.ofString "ISEOF") 2371), (PySem.Value.str (PySem.Str.ofString "ISEOF") 2372), (PySem.Value.str (PySem.Str.ofString "/claim/cut.py") 2373), (PySem.Value.int 68 0), (PySem.Value.int 1 0), (PySem.Value.int 0 0), (PySem.Value.int 0 0), (PySem.Value.int 3 0), (PySem.Value.ref 178), (PySem.Value.bool Bool.true), (PySem.Value.int 181 0), (PySem.Value.ref 179), PySem.Value.none, (PySem.Value.ref 180), (PySem.Value.ref 181), (PySem.Value.ref 182), (PySem.Value.int 2375 0), (PySem.Value.int 68 0), (PySem.Value.str (PySem.Str.ofString "/claim/cut.py") 2376)]) #[])) ::
  (nat_lit 184, (Obj.mk (PySem.Value.type "function") none (Data.func (FuncData.mk (PySem.Str.ofString "ISEOF") (PySem.Str.ofString "ISEOF") a_st15 (FuncBody.stmts b_st15) s_st15 3 [] PySem.Value.none PySem.Value.none PySem.Value.none (PySem.Value.str (PySem.Str.ofString "cpy313.token") 2351) none (PySem.Value.ref 183) PySem.Value.none 0)) #[])) ::
  (nat_lit 185, (PySem.Obj.mk (PySem.Value.type "tuple") none (PySem.Data.seq #[] 0) #[])) ::
  (nat_lit 187, (PySem.Obj.mk (PySem.Value.type "tuple") none (PySem.Data.seq #[(PySem.Value.str (PySem.Str.ofString "kinds") 2383), (PySem.Value.str (PySem.Str.ofString "labels") 2384), (PySem.Value.str (PySem.Str.ofString "queue") 2385), (PySem.Value.str (PySem.Str.ofString "label") 2386)] 0) #[])) ::
  (nat_lit 188, (PySem.Obj.mk (PySem.Value.type "tuple") none (PySem.Data.seq #[] 0) #[])) ::
  (nat_lit 190, (PySem.Obj.mk (PySem.Value.type "code") none (PySem.Data.fields #[(PySem.Value.str (PySem.Str.ofString "_law_tree") 2380), (PySem.Value.str (PySem.Str.ofString "_law_tree") 2381), (PySem.Value.str (PySem.Str.ofString "/claim/cut.py") 2382), (PySem.Value.int 71 0), (PySem.Value.int 2 0), (PySem.Value.int 0 0), (PySem.Value.int 0 0), (PySem.Value.int 3 0), (PySem.Value.ref 185), (PySem.Value.bool Bool.true), (PySem.Value.int 181 0), (PySem.Value.ref 186), PySem.Value.none, (PySem.Value.ref 187), (PySem.Value.ref 188), (PySem.Value.ref 189), (PySem.Value.int 2387 0), (PySem.Value.int 71 0), (PySem.Value.str (PySem.Str.ofString "/claim/cut.py") 2388)]) #[])) ::
  (nat_lit 191, (Obj.mk (PySem.Value.type "function") none (Data.func (FuncData.mk (PySem.Str.ofString "_law_tree") (PySem.Str.ofString "_law_tree") a_st17 (FuncBody.stmts b_st17) s_st17 3 [] PySem.Value.none PySem.Value.none PySem.Value.none (PySem.Value.str (PySem.Str.ofString "law_re0162_01") 2378) none (PySem.Value.ref 190) PySem.Value.none 0)) #[])) ::
  (nat_lit 192, (PySem.Obj.mk (PySem.Value.type "tuple") none (PySem.Data.seq #[] 0) #[])) ::
  (nat_lit 195, (PySem.Obj.mk (PySem.Value.type "code") none (PySem.Data.fields #[(PySem.Value.str (PySem.Str.ofString "_law_row") 2390), (PySem.Value.str (PySem.Str.ofString "_law_row") 2391), (PySem.Value.str (PySem.Str.ofString "/claim/cut.py") 2392), (PySem.Value.int 82 0), (PySem.Value.int 2 0), (PySem.Value.int 0 0), (PySem.Value.int 0 0), (PySem.Value.int 3 0), (PySem.Value.ref 192), (PySem.Value.bool Bool.true), (PySem.Value.int 181 0), (PySem.Value.ref 193), PySem.Value.none, PySem.Value.none, PySem.Value.none, (PySem.Value.ref 194), (PySem.Value.int 2393 0), (PySem.Value.int 82 0), (PySem.Value.str (PySem.Str.ofString "/claim/cut.py") 2394)]) #[])) ::
  (nat_lit 196, (Obj.mk (PySem.Value.type "function") none (Data.func (FuncData.mk (PySem.Str.ofString "_law_row") (PySem.Str.ofString "_law_row") a_st18 (FuncBody.stmts b_st18) s_st18 3 [] PySem.Value.none PySem.Value.none PySem.Value.none (PySem.Value.str (PySem.Str.ofString "law_re0162_01") 2378) none (PySem.Value.ref 195) PySem.Value.none 0)) #[])) ::
  (nat_lit 197, (PySem.Obj.mk (PySem.Value.type "tuple") none (PySem.Data.seq #[] 0) #[])) ::
  (nat_lit 200, (PySem.Obj.mk (PySem.Value.type "code") none (PySem.Data.fields #[(PySem.Value.str (PySem.Str.ofString "_law_turns") 2396), (PySem.Value.str (PySem.Str.ofString "_law_turns") 2397), (PySem.Value.str (PySem.Str.ofString "/claim/cut.py") 2398), (PySem.Value.int 87 0), (PySem.Value.int 1 0), (PySem.Value.int 0 0), (PySem.Value.int 0 0), (PySem.Value.int 3 0), (PySem.Value.ref 197), (PySem.Value.bool Bool.true), (PySem.Value.int 181 0), (PySem.Value.ref 198), PySem.Value.none, PySem.Value.none, PySem.Value.none, (PySem.Value.ref 199), (PySem.Value.int 2399 0), (PySem.Value.int 87 0), (PySem.Value.str (PySem.Str.ofString "/claim/cut.py") 2400)]) #[])) ::
  (nat_lit 201, (Obj.mk (PySem.Value.type "function") none (Data.func (FuncData.mk (PySem.Str.ofString "_law_turns") (PySem.Str.ofString "_law_turns") a_st19 (FuncBody.stmts b_st19) s_st19 3 [] PySem.Value.none PySem.Value.none PySem.Value.none (PySem.Value.str (PySem.Str.ofString "law_re0162_01") 2378) none (PySem.Value.ref 200) PySem.Value.none 0)) #[])) ::
  (nat_lit 202, (PySem.Obj.mk (PySem.Value.type "tuple") none (PySem.Data.seq #[] 0) #[])) ::
  (nat_lit 204, (PySem.Obj.mk (PySem.Value.type "tuple") none (PySem.Data.seq #[(PySem.Value.str (PySem.Str.ofString "row") 2405), (PySem.Value.str (PySem.Str.ofString "x") 2406), (PySem.Value.str (PySem.Str.ofString "unseen") 2407), (PySem.Value.str (PySem.Str.ofString "forms") 2408), (PySem.Value.str (PySem.Str.ofString "page") 2409), (PySem.Value.str (PySem.Str.ofString "k") 2410), (PySem.Value.str (PySem.Str.ofString "form") 2411)] 0) #[])) ::
  (nat_lit 205, (PySem.Obj.mk (PySem.Value.type "tuple") none (PySem.Data.seq #[] 0) #[])) ::
  (nat_lit 207, (PySem.Obj.mk (PySem.Value.type "code") none (PySem.Data.fields #[(PySem.Value.str (PySem.Str.ofString "_law_page") 2402), (PySem.Value.str (PySem.Str.ofString "_law_page") 2403), (PySem.Value.str (PySem.Str.ofString "/claim/cut.py") 2404), (PySem.Value.int 102 0), (PySem.Value.int 2 0), (PySem.Value.int 0 0), (PySem.Value.int 0 0), (PySem.Value.int 3 0), (PySem.Value.ref 202), (PySem.Value.bool Bool.true), (PySem.Value.int 181 0), (PySem.Value.ref 203), PySem.Value.none, (PySem.Value.ref 204), (PySem.Value.ref 205), (PySem.Value.ref 206), (PySem.Value.int 2412 0), (PySem.Value.int 102 0), (PySem.Value.str (PySem.Str.ofString "/claim/cut.py") 2413)]) #[])) ::
  (nat_lit 208, (Obj.mk (PySem.Value.type "function") none (Data.func (FuncData.mk (PySem.Str.ofString "_law_page") (PySem.Str.ofString "_law_page") a_st20 (FuncBody.stmts b_st20) s_st20 3 [] PySem.Value.none PySem.Value.none PySem.Value.none (PySem.Value.str (PySem.Str.ofString "law_re0162_01") 2378) none (PySem.Value.ref 207) PySem.Value.none 0)) #[])) ::
  (nat_lit 209, (PySem.Obj.mk (PySem.Value.type "tuple") none (PySem.Data.seq #[] 0) #[])) ::
  (nat_lit 212, (PySem.Obj.mk (PySem.Value.type "code") none (PySem.Data.fields #[(PySem.Value.str (PySem.Str.ofString "_law_read") 2415), (PySem.Value.str (PySem.Str.ofString "_law_read") 2416), (PySem.Value.str (PySem.Str.ofString "/claim/cut.py") 2417), (PySem.Value.int 115 0), (PySem.Value.int 3 0), (PySem.Value.int 0 0), (PySem.Value.int 0 0), (PySem.Value.int 3 0), (PySem.Value.ref 209), (PySem.Value.bool Bool.true), (PySem.Value.int 181 0), (PySem.Value.ref 210), PySem.Value.none, PySem.Value.none, PySem.Value.none, (PySem.Value.ref 211), (PySem.Value.int 2418 0), (PySem.Value.int 115 0), (PySem.Value.str (PySem.Str.ofString "/claim/cut.py") 2419)]) #[])) ::
  (nat_lit 213, (Obj.mk (PySem.Value.type "function") none (Data.func (FuncData.mk (PySem.Str.ofString "_law_read") (PySem.Str.ofString "_law_read") a_st21 (FuncBody.stmts b_st21) s_st21 3 [] PySem.Value.none PySem.Value.none PySem.Value.none (PySem.Value.str (PySem.Str.ofString "law_re0162_01") 2378) none (PySem.Value.ref 212) PySem.Value.none 0)) #[])) ::
  (nat_lit 214, (PySem.Obj.mk (PySem.Value.type "tuple") none (PySem.Data.seq #[] 0) #[])) ::
  (nat_lit 217, (PySem.Obj.mk (PySem.Value.type "code") none (PySem.Data.fields #[(PySem.Value.str (PySem.Str.ofString "law") 2421), (PySem.Value.str (PySem.Str.ofString "law") 2422), (PySem.Value.str (PySem.Str.ofString "/claim/cut.py") 2423), (PySem.Value.int 150 0), (PySem.Value.int 1 0), (PySem.Value.int 0 0), (PySem.Value.int 0 0), (PySem.Value.int 3 0), (PySem.Value.ref 214), (PySem.Value.bool Bool.true), (PySem.Value.int 181 0), (PySem.Value.ref 215), PySem.Value.none, PySem.Value.none, PySem.Value.none, (PySem.Value.ref 216), (PySem.Value.int 2424 0), (PySem.Value.int 150 0), (PySem.Value.str (PySem.Str.ofString "/claim/cut.py") 2425)]) #[])) ::
  (nat_lit 218, (Obj.mk (PySem.Value.type "function") none (Data.func (FuncData.mk (PySem.Str.ofString "law") (PySem.Str.ofString "law") a_st22 (FuncBody.stmts b_st22) s_st22 3 [] PySem.Value.none PySem.Value.none PySem.Value.none (PySem.Value.str (PySem.Str.ofString "law_re0162_01") 2378) none (PySem.Value.ref 217) PySem.Value.none 0)) #[])) :: [] : Frag))
  _ _ _ _ _ _ _ _ _ _ (by conv => lhs; whnf)
  _ _ _ _ _ _ _ _ _ _ (by conv => lhs; whnf)
  _ _ _ _ _ _ _ _ _ _ (by conv => lhs; whnf)
  _ _ _ _ _ _ _ _ _ _ (by conv => lhs; whnf)
  _ _ _ _ _ _ _ _ _ _ (by conv => lhs; whnf)
  _ _ _ _ _ _ _ _ _ _ (by conv => lhs; whnf)
  _ _ _ _ _ _ _ _ _ _ (by conv => lhs; whnf)
  _ _ _ _ _ _ _ _ _ _ (by conv => lhs; whnf)
  _ _ _ _ _ _ _ _ _ _ (by conv => lhs; whnf)
  _ _ _ _ _ _ _ _ _ _ (by conv => lhs; whnf)
  _ _ _ _ _ _ _ _ _ _ (by conv => lhs; whnf)
  _ _ _ _ _ _ _ _ _ _ (by conv => lhs; whnf)
  _ _ _ _ _ _ _ _ _ _ (by conv => lhs; whnf)
  _ _ _ _ _ _ _ _ _ _ (by conv => lhs; whnf)
  _ _ _ _ _ _ _ _ _ _ (by conv => lhs; whnf)
  _ _ _ _ _ _ _ _ _ _ (by conv => lhs; whnf)
  _ _ _ _ _ _ _ _ _ _ (by conv => lhs; whnf)
  _ _ _ _ _ _ _ _ _ _ (by conv => lhs; whnf)
  _ _ _ _ _ _ _ _ _ _ (by conv => lhs; whnf)
  _ _ _ _ _ _ _ _ _ _ (by conv => lhs; whnf)
noncomputable def devView : Program := view pw [0,2,3,4,5,6,7,9,11,12,13,14,15,17,18,19,20,21,22]
noncomputable def looseR : List Str := [Str.ofString "b1_set", Str.ofString "b3_exceptions", Str.ofString "c7_set", Str.ofString "Whitespace"]
noncomputable def kAddrs : List Nat := [nat_lit 2, nat_lit 3, nat_lit 15, nat_lit 17, nat_lit 18, nat_lit 20, nat_lit 21, nat_lit 29, nat_lit 33, nat_lit 35, nat_lit 36, nat_lit 38, nat_lit 39, nat_lit 40, nat_lit 79, nat_lit 81, nat_lit 82, nat_lit 84, nat_lit 85, nat_lit 87, nat_lit 91, nat_lit 93, nat_lit 94, nat_lit 96, nat_lit 97, nat_lit 108, nat_lit 110, nat_lit 111, nat_lit 113, nat_lit 114, nat_lit 115, nat_lit 117, nat_lit 118, nat_lit 120, nat_lit 121, nat_lit 122, nat_lit 124, nat_lit 125, nat_lit 127, nat_lit 128, nat_lit 129, nat_lit 131, nat_lit 132, nat_lit 134, nat_lit 135, nat_lit 136, nat_lit 138, nat_lit 139, nat_lit 141, nat_lit 142, nat_lit 143, nat_lit 145, nat_lit 146, nat_lit 148, nat_lit 149, nat_lit 150, nat_lit 152, nat_lit 153, nat_lit 155, nat_lit 156, nat_lit 157, nat_lit 158, nat_lit 159, nat_lit 160, nat_lit 161, nat_lit 164, nat_lit 166, nat_lit 167, nat_lit 169, nat_lit 170, nat_lit 171, nat_lit 173, nat_lit 174, nat_lit 176, nat_lit 177, nat_lit 178, nat_lit 180, nat_lit 181, nat_lit 183, nat_lit 184, nat_lit 185, nat_lit 187, nat_lit 188, nat_lit 190, nat_lit 191, nat_lit 192, nat_lit 195, nat_lit 196, nat_lit 197, nat_lit 200, nat_lit 201, nat_lit 202, nat_lit 204, nat_lit 205, nat_lit 207, nat_lit 208, nat_lit 209, nat_lit 212, nat_lit 213, nat_lit 214, nat_lit 217, nat_lit 218]
end Mine

/-! HeadT -/
namespace MineH
open Mine PySem PySem.W PySem.Calls PyProof.Rows
/-! the states between the program's statements -/
noncomputable def fA : Stmt → Arguments
  | .FunctionDef _ a .. => a
  | _ => default
noncomputable def fB : Stmt → List Stmt
  | .FunctionDef _ _ b .. => b
  | _ => []
noncomputable def fS : Stmt → Scope
  | .FunctionDef _ _ _ _ _ _ s .. => s
  | _ => default
noncomputable def lifeR : Life := (PySem.Life.mk [] [] [] 0 [] [] Bool.false #[] [] 0 Bool.false Bool.false Bool.false 0 [2000, 10, 10] Bool.false 0 Bool.true [] [] 0 Bool.false)
noncomputable def drawnR : Drawn := PySem.Drawn.mk 0 0 0 0
noncomputable def o11_0 (P : Params) : Obj := (PySem.Obj.mk (PySem.Value.type "tuple") none (PySem.Data.seq #[] 0) #[])
noncomputable def o12_0 (P : Params) : Obj := (PySem.Obj.mk PySem.Value.none none (PySem.Data.fields #[]) #[])
noncomputable def o13_0 (P : Params) : Obj := (PySem.Obj.mk (PySem.Value.type "code") none (PySem.Data.fields #[(PySem.Value.str (PySem.Str.ofString "<module>") 182), (PySem.Value.str (PySem.Str.ofString "<module>") 183), (PySem.Value.str (PySem.Str.ofString "/claim/cut.py") 184), (PySem.Value.int 1 0), (PySem.Value.int 0 0), (PySem.Value.int 0 0), (PySem.Value.int 0 0), (PySem.Value.int 0 0), (PySem.Value.ref 11), (PySem.Value.bool Bool.false), (PySem.Value.int 181 0), (PySem.Value.ref 12), PySem.Value.none, PySem.Value.none, PySem.Value.none, PySem.Value.none, (PySem.Value.int 185 0), (PySem.Value.int 1 0), (PySem.Value.str (PySem.Str.ofString "/claim/cut.py") 186)]) #[])
noncomputable def o14_0 (P : Params) : Obj := (PySem.Obj.mk (PySem.Value.type "frame") none PySem.Data.plain #[(some (PySem.Value.ref 13)), (some (PySem.Value.ref 3)), (some (PySem.Value.ref 3)), none, (some (PySem.Value.str (PySem.Str.ofString "__main__") 164)), none, (some (PySem.Value.ref 0))])
noncomputable def o3_1 (P : Params) : Obj := (PySem.Obj.mk (PySem.Value.type "dict") none (PySem.Data.dict #[(PySem.DictEntry.mk (PySem.PyData.keyHash P (PySem.Str.ofString "__name__")) (PySem.Value.str (PySem.Str.ofString "__name__") 165) (PySem.Value.str (PySem.Str.ofString "cpy313.stringprep") 194)), (PySem.DictEntry.mk (PySem.PyData.keyHash P (PySem.Str.ofString "__doc__")) (PySem.Value.str (PySem.Str.ofString "__doc__") 166) PySem.Value.none), (PySem.DictEntry.mk (PySem.PyData.keyHash P (PySem.Str.ofString "__package__")) (PySem.Value.str (PySem.Str.ofString "__package__") 167) PySem.Value.none), (PySem.DictEntry.mk (PySem.PyData.keyHash P (PySem.Str.ofString "__loader__")) (PySem.Value.str (PySem.Str.ofString "__loader__") 168) (PySem.Value.builtin "__main__.__loader__#opaque")), (PySem.DictEntry.mk (PySem.PyData.keyHash P (PySem.Str.ofString "__spec__")) (PySem.Value.str (PySem.Str.ofString "__spec__") 169) PySem.Value.none), (PySem.DictEntry.mk (PySem.PyData.keyHash P (PySem.Str.ofString "__annotations__")) (PySem.Value.str (PySem.Str.ofString "__annotations__") 170) (PySem.Value.ref 6)), (PySem.DictEntry.mk (PySem.PyData.keyHash P (PySem.Str.ofString "__builtins__")) (PySem.Value.str (PySem.Str.ofString "__builtins__") 171) (PySem.Value.ref 4)), (PySem.DictEntry.mk (PySem.PyData.keyHash P (PySem.Str.ofString "__file__")) (PySem.Value.str (PySem.Str.ofString "__file__") 173) (PySem.Value.str (PySem.Str.ofString "/claim/cut.py") 172)), (PySem.DictEntry.mk (PySem.PyData.keyHash P (PySem.Str.ofString "__cached__")) (PySem.Value.str (PySem.Str.ofString "__cached__") 174) PySem.Value.none), (PySem.DictEntry.mk (PySem.PyData.keyHash P (PySem.Str.ofString "_wall")) (PySem.Value.str (PySem.Str.ofString "_wall") 193) (PySem.Value.ref 21))] 10) #[])
noncomputable def o12_1 (P : Params) : Obj := (PySem.Obj.mk PySem.Value.none none (PySem.Data.fields #[(PySem.Value.int 1 0), (PySem.Value.int 0 0), (PySem.Value.ref 20)]) #[])
noncomputable def o15_0 (P : Params) : Obj := (PySem.Obj.mk (PySem.Value.type "tuple") none (PySem.Data.seq #[] 0) #[])
noncomputable def o16_0 (P : Params) : Obj := (PySem.Obj.mk PySem.Value.none none (PySem.Data.fields #[]) #[])
noncomputable def o17_0 (P : Params) : Obj := (PySem.Obj.mk (PySem.Value.type "tuple") none (PySem.Data.seq #[(PySem.Value.str (PySem.Str.ofString "k") 190)] 0) #[])
noncomputable def o18_0 (P : Params) : Obj := (PySem.Obj.mk (PySem.Value.type "tuple") none (PySem.Data.seq #[] 0) #[])
noncomputable def o19_0 (P : Params) : Obj := (Obj.mk PySem.Value.none none (Data.func (FuncData.mk (PySem.Str.ofString "_wall") (PySem.Str.ofString "_wall") (fA (st 0)) (FuncBody.stmts (fB (st 0))) (fS (st 0)) 0 [] PySem.Value.none PySem.Value.none PySem.Value.none PySem.Value.none none PySem.Value.none PySem.Value.none 0)) #[])
noncomputable def o20_0 (P : Params) : Obj := (PySem.Obj.mk (PySem.Value.type "code") none (PySem.Data.fields #[(PySem.Value.str (PySem.Str.ofString "_wall") 187), (PySem.Value.str (PySem.Str.ofString "_wall") 188), (PySem.Value.str (PySem.Str.ofString "/claim/cut.py") 189), (PySem.Value.int 1 0), (PySem.Value.int 1 0), (PySem.Value.int 0 0), (PySem.Value.int 0 0), (PySem.Value.int 3 0), (PySem.Value.ref 15), (PySem.Value.bool Bool.true), (PySem.Value.int 181 0), (PySem.Value.ref 16), PySem.Value.none, (PySem.Value.ref 17), (PySem.Value.ref 18), (PySem.Value.ref 19), (PySem.Value.int 191 0), (PySem.Value.int 1 0), (PySem.Value.str (PySem.Str.ofString "/claim/cut.py") 192)]) #[])
noncomputable def o21_0 (P : Params) : Obj := (Obj.mk (PySem.Value.type "function") none (Data.func (FuncData.mk (PySem.Str.ofString "_wall") (PySem.Str.ofString "_wall") (fA (st 0)) (FuncBody.stmts (fB (st 0))) (fS (st 0)) 3 [] PySem.Value.none PySem.Value.none PySem.Value.none (PySem.Value.str (PySem.Str.ofString "__main__") 164) none (PySem.Value.ref 20) PySem.Value.none 0)) #[])
noncomputable def o3_2 (P : Params) : Obj := (PySem.Obj.mk (PySem.Value.type "dict") none (PySem.Data.dict #[(PySem.DictEntry.mk (PySem.PyData.keyHash P (PySem.Str.ofString "__name__")) (PySem.Value.str (PySem.Str.ofString "__name__") 165) (PySem.Value.str (PySem.Str.ofString "cpy313.stringprep") 194)), (PySem.DictEntry.mk (PySem.PyData.keyHash P (PySem.Str.ofString "__doc__")) (PySem.Value.str (PySem.Str.ofString "__doc__") 166) PySem.Value.none), (PySem.DictEntry.mk (PySem.PyData.keyHash P (PySem.Str.ofString "__package__")) (PySem.Value.str (PySem.Str.ofString "__package__") 167) PySem.Value.none), (PySem.DictEntry.mk (PySem.PyData.keyHash P (PySem.Str.ofString "__loader__")) (PySem.Value.str (PySem.Str.ofString "__loader__") 168) (PySem.Value.builtin "__main__.__loader__#opaque")), (PySem.DictEntry.mk (PySem.PyData.keyHash P (PySem.Str.ofString "__spec__")) (PySem.Value.str (PySem.Str.ofString "__spec__") 169) PySem.Value.none), (PySem.DictEntry.mk (PySem.PyData.keyHash P (PySem.Str.ofString "__annotations__")) (PySem.Value.str (PySem.Str.ofString "__annotations__") 170) (PySem.Value.ref 6)), (PySem.DictEntry.mk (PySem.PyData.keyHash P (PySem.Str.ofString "__builtins__")) (PySem.Value.str (PySem.Str.ofString "__builtins__") 171) (PySem.Value.ref 4)), (PySem.DictEntry.mk (PySem.PyData.keyHash P (PySem.Str.ofString "__file__")) (PySem.Value.str (PySem.Str.ofString "__file__") 173) (PySem.Value.str (PySem.Str.ofString "/claim/cut.py") 172)), (PySem.DictEntry.mk (PySem.PyData.keyHash P (PySem.Str.ofString "__cached__")) (PySem.Value.str (PySem.Str.ofString "__cached__") 174) PySem.Value.none), (PySem.DictEntry.mk (PySem.PyData.keyHash P (PySem.Str.ofString "_wall")) (PySem.Value.str (PySem.Str.ofString "_wall") 193) (PySem.Value.ref 21)), (PySem.DictEntry.mk (PySem.PyData.keyHash P (PySem.Str.ofString "b1_set")) (PySem.Value.str (PySem.Str.ofString "b1_set") 255) (PySem.Value.ref 29))] 11) #[])
noncomputable def o22_0 (P : Params) : Obj := (PySem.Obj.mk (PySem.Value.type "list") none (PySem.Data.seq #[(PySem.Value.int 173 196), (PySem.Value.int 847 197), (PySem.Value.int 6150 198), (PySem.Value.int 6155 199), (PySem.Value.int 6156 200), (PySem.Value.int 6157 201), (PySem.Value.int 8203 202), (PySem.Value.int 8204 203), (PySem.Value.int 8205 204), (PySem.Value.int 8288 205), (PySem.Value.int 65279 206)] 0) #[])
noncomputable def o23_0 (P : Params) : Obj := (PySem.Obj.mk (PySem.Value.type "range") none (PySem.Data.fields #[(PySem.Value.int 65024 207), (PySem.Value.int 65040 208), (PySem.Value.int 1 209)]) #[])
noncomputable def o24_0 (P : Params) : Obj := (PySem.Obj.mk (PySem.Value.type "list") none (PySem.Data.seq #[(PySem.Value.int 65024 212), (PySem.Value.int 65025 213), (PySem.Value.int 65026 214), (PySem.Value.int 65027 215), (PySem.Value.int 65028 216), (PySem.Value.int 65029 217), (PySem.Value.int 65030 218), (PySem.Value.int 65031 219), (PySem.Value.int 65032 220), (PySem.Value.int 65033 221), (PySem.Value.int 65034 222), (PySem.Value.int 65035 223), (PySem.Value.int 65036 224), (PySem.Value.int 65037 225), (PySem.Value.int 65038 226), (PySem.Value.int 65039 227)] 18) #[])
noncomputable def o25_0 (P : Params) : Obj := (PySem.Obj.mk (PySem.Value.type "range_iterator") none (PySem.Data.fields #[(PySem.Value.int 65040 0), (PySem.Value.int 0 0), (PySem.Value.int 1 0)]) #[])
noncomputable def o26_0 (P : Params) : Obj := (PySem.Obj.mk (PySem.Value.type "tuple") none (PySem.Data.seq #[] 0) #[])
noncomputable def o27_0 (P : Params) : Obj := (PySem.Obj.mk (PySem.Value.type "StopIteration") none (PySem.Data.fields #[(PySem.Value.ref 26), PySem.Value.none, PySem.Value.none, PySem.Value.none, (PySem.Value.bool Bool.false), PySem.Value.none]) #[])
noncomputable def o28_0 (P : Params) : Obj := (PySem.Obj.mk (PySem.Value.type "list") none (PySem.Data.seq #[(PySem.Value.int 173 196), (PySem.Value.int 847 197), (PySem.Value.int 6150 198), (PySem.Value.int 6155 199), (PySem.Value.int 6156 200), (PySem.Value.int 6157 201), (PySem.Value.int 8203 202), (PySem.Value.int 8204 203), (PySem.Value.int 8205 204), (PySem.Value.int 8288 205), (PySem.Value.int 65279 206), (PySem.Value.int 65024 212), (PySem.Value.int 65025 213), (PySem.Value.int 65026 214), (PySem.Value.int 65027 215), (PySem.Value.int 65028 216), (PySem.Value.int 65029 217), (PySem.Value.int 65030 218), (PySem.Value.int 65031 219), (PySem.Value.int 65032 220), (PySem.Value.int 65033 221), (PySem.Value.int 65034 222), (PySem.Value.int 65035 223), (PySem.Value.int 65036 224), (PySem.Value.int 65037 225), (PySem.Value.int 65038 226), (PySem.Value.int 65039 227)] 0) #[])
noncomputable def o29_0 (P : Params) : Obj := (PySem.Obj.mk (PySem.Value.type "set") none (PySem.Data.set #[(65024, (PySem.Value.int 65024 212)), (65025, (PySem.Value.int 65025 213)), (65026, (PySem.Value.int 65026 214)), (65027, (PySem.Value.int 65027 215)), (65028, (PySem.Value.int 65028 216)), (65029, (PySem.Value.int 65029 217)), (6150, (PySem.Value.int 6150 198)), (65030, (PySem.Value.int 65030 218)), (65031, (PySem.Value.int 65031 219)), (65032, (PySem.Value.int 65032 220)), (65033, (PySem.Value.int 65033 221)), (6155, (PySem.Value.int 6155 199)), (6156, (PySem.Value.int 6156 200)), (6157, (PySem.Value.int 6157 201)), (8203, (PySem.Value.int 8203 202)), (8204, (PySem.Value.int 8204 203)), (8205, (PySem.Value.int 8205 204)), (65034, (PySem.Value.int 65034 222)), (65035, (PySem.Value.int 65035 223)), (65036, (PySem.Value.int 65036 224)), (65037, (PySem.Value.int 65037 225)), (65038, (PySem.Value.int 65038 226)), (65039, (PySem.Value.int 65039 227)), (173, (PySem.Value.int 173 196)), (847, (PySem.Value.int 847 197)), (8288, (PySem.Value.int 8288 205)), (65279, (PySem.Value.int 65279 206))] 29 (PySem.SetTable.mk 127 #[0, 1, 2, 3, 4, 5, 6, 7, 8, 9, 10, 11, 12, 13, 14, 15, 16, 17, 18, 19, 20, 21, 22, 45, 79, 96, 127] #[] 0 (!(PySem.Params.followText P "set-order")) 2 Bool.true)) #[])
noncomputable def o30_0 (P : Params) : Obj := (PySem.Obj.mk (PySem.Value.type "list_iterator") none (PySem.Data.fields #[PySem.Value.none, (PySem.Value.int 27 0)]) #[])
noncomputable def o31_0 (P : Params) : Obj := (PySem.Obj.mk (PySem.Value.type "tuple") none (PySem.Data.seq #[] 0) #[])
noncomputable def o32_0 (P : Params) : Obj := (PySem.Obj.mk (PySem.Value.type "StopIteration") none (PySem.Data.fields #[(PySem.Value.ref 31), PySem.Value.none, PySem.Value.none, PySem.Value.none, (PySem.Value.bool Bool.false), PySem.Value.none]) #[])
noncomputable def o3_3 (P : Params) : Obj := (PySem.Obj.mk (PySem.Value.type "dict") none (PySem.Data.dict #[(PySem.DictEntry.mk (PySem.PyData.keyHash P (PySem.Str.ofString "__name__")) (PySem.Value.str (PySem.Str.ofString "__name__") 165) (PySem.Value.str (PySem.Str.ofString "cpy313.stringprep") 194)), (PySem.DictEntry.mk (PySem.PyData.keyHash P (PySem.Str.ofString "__doc__")) (PySem.Value.str (PySem.Str.ofString "__doc__") 166) PySem.Value.none), (PySem.DictEntry.mk (PySem.PyData.keyHash P (PySem.Str.ofString "__package__")) (PySem.Value.str (PySem.Str.ofString "__package__") 167) PySem.Value.none), (PySem.DictEntry.mk (PySem.PyData.keyHash P (PySem.Str.ofString "__loader__")) (PySem.Value.str (PySem.Str.ofString "__loader__") 168) (PySem.Value.builtin "__main__.__loader__#opaque")), (PySem.DictEntry.mk (PySem.PyData.keyHash P (PySem.Str.ofString "__spec__")) (PySem.Value.str (PySem.Str.ofString "__spec__") 169) PySem.Value.none), (PySem.DictEntry.mk (PySem.PyData.keyHash P (PySem.Str.ofString "__annotations__")) (PySem.Value.str (PySem.Str.ofString "__annotations__") 170) (PySem.Value.ref 6)), (PySem.DictEntry.mk (PySem.PyData.keyHash P (PySem.Str.ofString "__builtins__")) (PySem.Value.str (PySem.Str.ofString "__builtins__") 171) (PySem.Value.ref 4)), (PySem.DictEntry.mk (PySem.PyData.keyHash P (PySem.Str.ofString "__file__")) (PySem.Value.str (PySem.Str.ofString "__file__") 173) (PySem.Value.str (PySem.Str.ofString "/claim/cut.py") 172)), (PySem.DictEntry.mk (PySem.PyData.keyHash P (PySem.Str.ofString "__cached__")) (PySem.Value.str (PySem.Str.ofString "__cached__") 174) PySem.Value.none), (PySem.DictEntry.mk (PySem.PyData.keyHash P (PySem.Str.ofString "_wall")) (PySem.Value.str (PySem.Str.ofString "_wall") 193) (PySem.Value.ref 21)), (PySem.DictEntry.mk (PySem.PyData.keyHash P (PySem.Str.ofString "b1_set")) (PySem.Value.str (PySem.Str.ofString "b1_set") 255) (PySem.Value.ref 29)), (PySem.DictEntry.mk (PySem.PyData.keyHash P (PySem.Str.ofString "in_table_b1")) (PySem.Value.str (PySem.Str.ofString "in_table_b1") 262) (PySem.Value.ref 39))] 12) #[])
noncomputable def o12_2 (P : Params) : Obj := (PySem.Obj.mk PySem.Value.none none (PySem.Data.fields #[(PySem.Value.int 1 0), (PySem.Value.int 0 0), (PySem.Value.ref 20), (PySem.Value.int 6 0), (PySem.Value.int 0 0), (PySem.Value.ref 38)]) #[])
noncomputable def o33_0 (P : Params) : Obj := (PySem.Obj.mk (PySem.Value.type "tuple") none (PySem.Data.seq #[] 0) #[])
noncomputable def o34_0 (P : Params) : Obj := (PySem.Obj.mk PySem.Value.none none (PySem.Data.fields #[]) #[])
noncomputable def o35_0 (P : Params) : Obj := (PySem.Obj.mk (PySem.Value.type "tuple") none (PySem.Data.seq #[(PySem.Value.str (PySem.Str.ofString "code") 259)] 0) #[])
noncomputable def o36_0 (P : Params) : Obj := (PySem.Obj.mk (PySem.Value.type "tuple") none (PySem.Data.seq #[] 0) #[])
noncomputable def o37_0 (P : Params) : Obj := (Obj.mk PySem.Value.none none (Data.func (FuncData.mk (PySem.Str.ofString "in_table_b1") (PySem.Str.ofString "in_table_b1") (fA (st 3)) (FuncBody.stmts (fB (st 3))) (fS (st 3)) 0 [] PySem.Value.none PySem.Value.none PySem.Value.none PySem.Value.none none PySem.Value.none PySem.Value.none 0)) #[])
noncomputable def o38_0 (P : Params) : Obj := (PySem.Obj.mk (PySem.Value.type "code") none (PySem.Data.fields #[(PySem.Value.str (PySem.Str.ofString "in_table_b1") 256), (PySem.Value.str (PySem.Str.ofString "in_table_b1") 257), (PySem.Value.str (PySem.Str.ofString "/claim/cut.py") 258), (PySem.Value.int 6 0), (PySem.Value.int 1 0), (PySem.Value.int 0 0), (PySem.Value.int 0 0), (PySem.Value.int 3 0), (PySem.Value.ref 33), (PySem.Value.bool Bool.true), (PySem.Value.int 181 0), (PySem.Value.ref 34), PySem.Value.none, (PySem.Value.ref 35), (PySem.Value.ref 36), (PySem.Value.ref 37), (PySem.Value.int 260 0), (PySem.Value.int 6 0), (PySem.Value.str (PySem.Str.ofString "/claim/cut.py") 261)]) #[])
noncomputable def o39_0 (P : Params) : Obj := (Obj.mk (PySem.Value.type "function") none (Data.func (FuncData.mk (PySem.Str.ofString "in_table_b1") (PySem.Str.ofString "in_table_b1") (fA (st 3)) (FuncBody.stmts (fB (st 3))) (fS (st 3)) 3 [] PySem.Value.none PySem.Value.none PySem.Value.none (PySem.Value.str (PySem.Str.ofString "cpy313.stringprep") 194) none (PySem.Value.ref 38) PySem.Value.none 0)) #[])
noncomputable def o3_4 (P : Params) : Obj := (PySem.Obj.mk (PySem.Value.type "dict") none (PySem.Data.dict #[(PySem.DictEntry.mk (PySem.PyData.keyHash P (PySem.Str.ofString "__name__")) (PySem.Value.str (PySem.Str.ofString "__name__") 165) (PySem.Value.str (PySem.Str.ofString "cpy313.stringprep") 194)), (PySem.DictEntry.mk (PySem.PyData.keyHash P (PySem.Str.ofString "__doc__")) (PySem.Value.str (PySem.Str.ofString "__doc__") 166) PySem.Value.none), (PySem.DictEntry.mk (PySem.PyData.keyHash P (PySem.Str.ofString "__package__")) (PySem.Value.str (PySem.Str.ofString "__package__") 167) PySem.Value.none), (PySem.DictEntry.mk (PySem.PyData.keyHash P (PySem.Str.ofString "__loader__")) (PySem.Value.str (PySem.Str.ofString "__loader__") 168) (PySem.Value.builtin "__main__.__loader__#opaque")), (PySem.DictEntry.mk (PySem.PyData.keyHash P (PySem.Str.ofString "__spec__")) (PySem.Value.str (PySem.Str.ofString "__spec__") 169) PySem.Value.none), (PySem.DictEntry.mk (PySem.PyData.keyHash P (PySem.Str.ofString "__annotations__")) (PySem.Value.str (PySem.Str.ofString "__annotations__") 170) (PySem.Value.ref 6)), (PySem.DictEntry.mk (PySem.PyData.keyHash P (PySem.Str.ofString "__builtins__")) (PySem.Value.str (PySem.Str.ofString "__builtins__") 171) (PySem.Value.ref 4)), (PySem.DictEntry.mk (PySem.PyData.keyHash P (PySem.Str.ofString "__file__")) (PySem.Value.str (PySem.Str.ofString "__file__") 173) (PySem.Value.str (PySem.Str.ofString "/claim/cut.py") 172)), (PySem.DictEntry.mk (PySem.PyData.keyHash P (PySem.Str.ofString "__cached__")) (PySem.Value.str (PySem.Str.ofString "__cached__") 174) PySem.Value.none), (PySem.DictEntry.mk (PySem.PyData.keyHash P (PySem.Str.ofString "_wall")) (PySem.Value.str (PySem.Str.ofString "_wall") 193) (PySem.Value.ref 21)), (PySem.DictEntry.mk (PySem.PyData.keyHash P (PySem.Str.ofString "b1_set")) (PySem.Value.str (PySem.Str.ofString "b1_set") 255) (PySem.Value.ref 29)), (PySem.DictEntry.mk (PySem.PyData.keyHash P (PySem.Str.ofString "in_table_b1")) (PySem.Value.str (PySem.Str.ofString "in_table_b1") 262) (PySem.Value.ref 39)), (PySem.DictEntry.mk (PySem.PyData.keyHash P (PySem.Str.ofString "b3_exceptions")) (PySem.Value.str (PySem.Str.ofString "b3_exceptions") 2213) (PySem.Value.ref 40))] 13) #[])
noncomputable def o40_0 (P : Params) : Obj := (Obj.mk (Value.type "dict") none (Data.dict es40 650) #[])
noncomputable def o3_5 (P : Params) : Obj := (PySem.Obj.mk (PySem.Value.type "dict") none (PySem.Data.dict #[(PySem.DictEntry.mk (PySem.PyData.keyHash P (PySem.Str.ofString "__name__")) (PySem.Value.str (PySem.Str.ofString "__name__") 165) (PySem.Value.str (PySem.Str.ofString "cpy313.stringprep") 194)), (PySem.DictEntry.mk (PySem.PyData.keyHash P (PySem.Str.ofString "__doc__")) (PySem.Value.str (PySem.Str.ofString "__doc__") 166) PySem.Value.none), (PySem.DictEntry.mk (PySem.PyData.keyHash P (PySem.Str.ofString "__package__")) (PySem.Value.str (PySem.Str.ofString "__package__") 167) PySem.Value.none), (PySem.DictEntry.mk (PySem.PyData.keyHash P (PySem.Str.ofString "__loader__")) (PySem.Value.str (PySem.Str.ofString "__loader__") 168) (PySem.Value.builtin "__main__.__loader__#opaque")), (PySem.DictEntry.mk (PySem.PyData.keyHash P (PySem.Str.ofString "__spec__")) (PySem.Value.str (PySem.Str.ofString "__spec__") 169) PySem.Value.none), (PySem.DictEntry.mk (PySem.PyData.keyHash P (PySem.Str.ofString "__annotations__")) (PySem.Value.str (PySem.Str.ofString "__annotations__") 170) (PySem.Value.ref 6)), (PySem.DictEntry.mk (PySem.PyData.keyHash P (PySem.Str.ofString "__builtins__")) (PySem.Value.str (PySem.Str.ofString "__builtins__") 171) (PySem.Value.ref 4)), (PySem.DictEntry.mk (PySem.PyData.keyHash P (PySem.Str.ofString "__file__")) (PySem.Value.str (PySem.Str.ofString "__file__") 173) (PySem.Value.str (PySem.Str.ofString "/claim/cut.py") 172)), (PySem.DictEntry.mk (PySem.PyData.keyHash P (PySem.Str.ofString "__cached__")) (PySem.Value.str (PySem.Str.ofString "__cached__") 174) PySem.Value.none), (PySem.DictEntry.mk (PySem.PyData.keyHash P (PySem.Str.ofString "_wall")) (PySem.Value.str (PySem.Str.ofString "_wall") 193) (PySem.Value.ref 21)), (PySem.DictEntry.mk (PySem.PyData.keyHash P (PySem.Str.ofString "b1_set")) (PySem.Value.str (PySem.Str.ofString "b1_set") 255) (PySem.Value.ref 29)), (PySem.DictEntry.mk (PySem.PyData.keyHash P (PySem.Str.ofString "in_table_b1")) (PySem.Value.str (PySem.Str.ofString "in_table_b1") 262) (PySem.Value.ref 39)), (PySem.DictEntry.mk (PySem.PyData.keyHash P (PySem.Str.ofString "b3_exceptions")) (PySem.Value.str (PySem.Str.ofString "b3_exceptions") 2213) (PySem.Value.ref 40)), (PySem.DictEntry.mk (PySem.PyData.keyHash P (PySem.Str.ofString "map_table_b3")) (PySem.Value.str (PySem.Str.ofString "map_table_b3") 2221) (PySem.Value.ref 85))] 14) #[])
noncomputable def o12_3 (P : Params) : Obj := (PySem.Obj.mk PySem.Value.none none (PySem.Data.fields #[(PySem.Value.int 1 0), (PySem.Value.int 0 0), (PySem.Value.ref 20), (PySem.Value.int 6 0), (PySem.Value.int 0 0), (PySem.Value.ref 38), (PySem.Value.int 9 0), (PySem.Value.int 0 0), (PySem.Value.ref 84)]) #[])
noncomputable def o79_0 (P : Params) : Obj := (PySem.Obj.mk (PySem.Value.type "tuple") none (PySem.Data.seq #[] 0) #[])
noncomputable def o80_0 (P : Params) : Obj := (PySem.Obj.mk PySem.Value.none none (PySem.Data.fields #[]) #[])
noncomputable def o81_0 (P : Params) : Obj := (PySem.Obj.mk (PySem.Value.type "tuple") none (PySem.Data.seq #[(PySem.Value.str (PySem.Str.ofString "code") 2217), (PySem.Value.str (PySem.Str.ofString "r") 2218)] 0) #[])
noncomputable def o82_0 (P : Params) : Obj := (PySem.Obj.mk (PySem.Value.type "tuple") none (PySem.Data.seq #[] 0) #[])
noncomputable def o83_0 (P : Params) : Obj := (Obj.mk PySem.Value.none none (Data.func (FuncData.mk (PySem.Str.ofString "map_table_b3") (PySem.Str.ofString "map_table_b3") (fA (st 5)) (FuncBody.stmts (fB (st 5))) (fS (st 5)) 0 [] PySem.Value.none PySem.Value.none PySem.Value.none PySem.Value.none none PySem.Value.none PySem.Value.none 0)) #[])
noncomputable def o84_0 (P : Params) : Obj := (PySem.Obj.mk (PySem.Value.type "code") none (PySem.Data.fields #[(PySem.Value.str (PySem.Str.ofString "map_table_b3") 2214), (PySem.Value.str (PySem.Str.ofString "map_table_b3") 2215), (PySem.Value.str (PySem.Str.ofString "/claim/cut.py") 2216), (PySem.Value.int 9 0), (PySem.Value.int 1 0), (PySem.Value.int 0 0), (PySem.Value.int 0 0), (PySem.Value.int 3 0), (PySem.Value.ref 79), (PySem.Value.bool Bool.true), (PySem.Value.int 181 0), (PySem.Value.ref 80), PySem.Value.none, (PySem.Value.ref 81), (PySem.Value.ref 82), (PySem.Value.ref 83), (PySem.Value.int 2219 0), (PySem.Value.int 9 0), (PySem.Value.str (PySem.Str.ofString "/claim/cut.py") 2220)]) #[])
noncomputable def o85_0 (P : Params) : Obj := (Obj.mk (PySem.Value.type "function") none (Data.func (FuncData.mk (PySem.Str.ofString "map_table_b3") (PySem.Str.ofString "map_table_b3") (fA (st 5)) (FuncBody.stmts (fB (st 5))) (fS (st 5)) 3 [] PySem.Value.none PySem.Value.none PySem.Value.none (PySem.Value.str (PySem.Str.ofString "cpy313.stringprep") 194) none (PySem.Value.ref 84) PySem.Value.none 0)) #[])
noncomputable def o3_6 (P : Params) : Obj := (PySem.Obj.mk (PySem.Value.type "dict") none (PySem.Data.dict #[(PySem.DictEntry.mk (PySem.PyData.keyHash P (PySem.Str.ofString "__name__")) (PySem.Value.str (PySem.Str.ofString "__name__") 165) (PySem.Value.str (PySem.Str.ofString "cpy313.stringprep") 194)), (PySem.DictEntry.mk (PySem.PyData.keyHash P (PySem.Str.ofString "__doc__")) (PySem.Value.str (PySem.Str.ofString "__doc__") 166) PySem.Value.none), (PySem.DictEntry.mk (PySem.PyData.keyHash P (PySem.Str.ofString "__package__")) (PySem.Value.str (PySem.Str.ofString "__package__") 167) PySem.Value.none), (PySem.DictEntry.mk (PySem.PyData.keyHash P (PySem.Str.ofString "__loader__")) (PySem.Value.str (PySem.Str.ofString "__loader__") 168) (PySem.Value.builtin "__main__.__loader__#opaque")), (PySem.DictEntry.mk (PySem.PyData.keyHash P (PySem.Str.ofString "__spec__")) (PySem.Value.str (PySem.Str.ofString "__spec__") 169) PySem.Value.none), (PySem.DictEntry.mk (PySem.PyData.keyHash P (PySem.Str.ofString "__annotations__")) (PySem.Value.str (PySem.Str.ofString "__annotations__") 170) (PySem.Value.ref 6)), (PySem.DictEntry.mk (PySem.PyData.keyHash P (PySem.Str.ofString "__builtins__")) (PySem.Value.str (PySem.Str.ofString "__builtins__") 171) (PySem.Value.ref 4)), (PySem.DictEntry.mk (PySem.PyData.keyHash P (PySem.Str.ofString "__file__")) (PySem.Value.str (PySem.Str.ofString "__file__") 173) (PySem.Value.str (PySem.Str.ofString "/claim/cut.py") 172)), (PySem.DictEntry.mk (PySem.PyData.keyHash P (PySem.Str.ofString "__cached__")) (PySem.Value.str (PySem.Str.ofString "__cached__") 174) PySem.Value.none), (PySem.DictEntry.mk (PySem.PyData.keyHash P (PySem.Str.ofString "_wall")) (PySem.Value.str (PySem.Str.ofString "_wall") 193) (PySem.Value.ref 21)), (PySem.DictEntry.mk (PySem.PyData.keyHash P (PySem.Str.ofString "b1_set")) (PySem.Value.str (PySem.Str.ofString "b1_set") 255) (PySem.Value.ref 29)), (PySem.DictEntry.mk (PySem.PyData.keyHash P (PySem.Str.ofString "in_table_b1")) (PySem.Value.str (PySem.Str.ofString "in_table_b1") 262) (PySem.Value.ref 39)), (PySem.DictEntry.mk (PySem.PyData.keyHash P (PySem.Str.ofString "b3_exceptions")) (PySem.Value.str (PySem.Str.ofString "b3_exceptions") 2213) (PySem.Value.ref 40)), (PySem.DictEntry.mk (PySem.PyData.keyHash P (PySem.Str.ofString "map_table_b3")) (PySem.Value.str (PySem.Str.ofString "map_table_b3") 2221) (PySem.Value.ref 85)), (PySem.DictEntry.mk (PySem.PyData.keyHash P (PySem.Str.ofString "c7_set")) (PySem.Value.str (PySem.Str.ofString "c7_set") 2249) (PySem.Value.ref 87))] 15) #[])
noncomputable def o86_0 (P : Params) : Obj := (PySem.Obj.mk (PySem.Value.type "range") none (PySem.Data.fields #[(PySem.Value.int 12272 2222), (PySem.Value.int 12284 2223), (PySem.Value.int 1 2224)]) #[])
noncomputable def o87_0 (P : Params) : Obj := (PySem.Obj.mk (PySem.Value.type "set") none (PySem.Data.set #[(12272, (PySem.Value.int 12272 2225)), (12273, (PySem.Value.int 12273 2227)), (12274, (PySem.Value.int 12274 2229)), (12275, (PySem.Value.int 12275 2231)), (12276, (PySem.Value.int 12276 2233)), (12277, (PySem.Value.int 12277 2235)), (12278, (PySem.Value.int 12278 2237)), (12279, (PySem.Value.int 12279 2239)), (12280, (PySem.Value.int 12280 2241)), (12281, (PySem.Value.int 12281 2243)), (12282, (PySem.Value.int 12282 2245)), (12283, (PySem.Value.int 12283 2247))] 13 (PySem.SetTable.mk 31 #[16, 17, 18, 19, 20, 21, 22, 23, 24, 25, 26, 27] #[] 0 (!(PySem.Params.followText P "set-order")) 1 Bool.true)) #[])
noncomputable def o88_0 (P : Params) : Obj := (PySem.Obj.mk (PySem.Value.type "range_iterator") none (PySem.Data.fields #[(PySem.Value.int 12284 0), (PySem.Value.int 0 0), (PySem.Value.int 1 0)]) #[])
noncomputable def o89_0 (P : Params) : Obj := (PySem.Obj.mk (PySem.Value.type "tuple") none (PySem.Data.seq #[] 0) #[])
noncomputable def o90_0 (P : Params) : Obj := (PySem.Obj.mk (PySem.Value.type "StopIteration") none (PySem.Data.fields #[(PySem.Value.ref 89), PySem.Value.none, PySem.Value.none, PySem.Value.none, (PySem.Value.bool Bool.false), PySem.Value.none]) #[])
noncomputable def o3_7 (P : Params) : Obj := (PySem.Obj.mk (PySem.Value.type "dict") none (PySem.Data.dict #[(PySem.DictEntry.mk (PySem.PyData.keyHash P (PySem.Str.ofString "__name__")) (PySem.Value.str (PySem.Str.ofString "__name__") 165) (PySem.Value.str (PySem.Str.ofString "cpy313.tabnanny") 2257)), (PySem.DictEntry.mk (PySem.PyData.keyHash P (PySem.Str.ofString "__doc__")) (PySem.Value.str (PySem.Str.ofString "__doc__") 166) PySem.Value.none), (PySem.DictEntry.mk (PySem.PyData.keyHash P (PySem.Str.ofString "__package__")) (PySem.Value.str (PySem.Str.ofString "__package__") 167) PySem.Value.none), (PySem.DictEntry.mk (PySem.PyData.keyHash P (PySem.Str.ofString "__loader__")) (PySem.Value.str (PySem.Str.ofString "__loader__") 168) (PySem.Value.builtin "__main__.__loader__#opaque")), (PySem.DictEntry.mk (PySem.PyData.keyHash P (PySem.Str.ofString "__spec__")) (PySem.Value.str (PySem.Str.ofString "__spec__") 169) PySem.Value.none), (PySem.DictEntry.mk (PySem.PyData.keyHash P (PySem.Str.ofString "__annotations__")) (PySem.Value.str (PySem.Str.ofString "__annotations__") 170) (PySem.Value.ref 6)), (PySem.DictEntry.mk (PySem.PyData.keyHash P (PySem.Str.ofString "__builtins__")) (PySem.Value.str (PySem.Str.ofString "__builtins__") 171) (PySem.Value.ref 4)), (PySem.DictEntry.mk (PySem.PyData.keyHash P (PySem.Str.ofString "__file__")) (PySem.Value.str (PySem.Str.ofString "__file__") 173) (PySem.Value.str (PySem.Str.ofString "/claim/cut.py") 172)), (PySem.DictEntry.mk (PySem.PyData.keyHash P (PySem.Str.ofString "__cached__")) (PySem.Value.str (PySem.Str.ofString "__cached__") 174) PySem.Value.none), (PySem.DictEntry.mk (PySem.PyData.keyHash P (PySem.Str.ofString "_wall")) (PySem.Value.str (PySem.Str.ofString "_wall") 193) (PySem.Value.ref 21)), (PySem.DictEntry.mk (PySem.PyData.keyHash P (PySem.Str.ofString "b1_set")) (PySem.Value.str (PySem.Str.ofString "b1_set") 255) (PySem.Value.ref 29)), (PySem.DictEntry.mk (PySem.PyData.keyHash P (PySem.Str.ofString "in_table_b1")) (PySem.Value.str (PySem.Str.ofString "in_table_b1") 262) (PySem.Value.ref 39)), (PySem.DictEntry.mk (PySem.PyData.keyHash P (PySem.Str.ofString "b3_exceptions")) (PySem.Value.str (PySem.Str.ofString "b3_exceptions") 2213) (PySem.Value.ref 40)), (PySem.DictEntry.mk (PySem.PyData.keyHash P (PySem.Str.ofString "map_table_b3")) (PySem.Value.str (PySem.Str.ofString "map_table_b3") 2221) (PySem.Value.ref 85)), (PySem.DictEntry.mk (PySem.PyData.keyHash P (PySem.Str.ofString "c7_set")) (PySem.Value.str (PySem.Str.ofString "c7_set") 2249) (PySem.Value.ref 87)), (PySem.DictEntry.mk (PySem.PyData.keyHash P (PySem.Str.ofString "in_table_c7")) (PySem.Value.str (PySem.Str.ofString "in_table_c7") 2256) (PySem.Value.ref 97))] 16) #[])
noncomputable def o12_4 (P : Params) : Obj := (PySem.Obj.mk PySem.Value.none none (PySem.Data.fields #[(PySem.Value.int 1 0), (PySem.Value.int 0 0), (PySem.Value.ref 20), (PySem.Value.int 6 0), (PySem.Value.int 0 0), (PySem.Value.ref 38), (PySem.Value.int 9 0), (PySem.Value.int 0 0), (PySem.Value.ref 84), (PySem.Value.int 15 0), (PySem.Value.int 0 0), (PySem.Value.ref 96)]) #[])
noncomputable def o91_0 (P : Params) : Obj := (PySem.Obj.mk (PySem.Value.type "tuple") none (PySem.Data.seq #[] 0) #[])
noncomputable def o92_0 (P : Params) : Obj := (PySem.Obj.mk PySem.Value.none none (PySem.Data.fields #[]) #[])
noncomputable def o93_0 (P : Params) : Obj := (PySem.Obj.mk (PySem.Value.type "tuple") none (PySem.Data.seq #[(PySem.Value.str (PySem.Str.ofString "code") 2253)] 0) #[])
noncomputable def o94_0 (P : Params) : Obj := (PySem.Obj.mk (PySem.Value.type "tuple") none (PySem.Data.seq #[] 0) #[])
noncomputable def o95_0 (P : Params) : Obj := (Obj.mk PySem.Value.none none (Data.func (FuncData.mk (PySem.Str.ofString "in_table_c7") (PySem.Str.ofString "in_table_c7") (fA (st 7)) (FuncBody.stmts (fB (st 7))) (fS (st 7)) 0 [] PySem.Value.none PySem.Value.none PySem.Value.none PySem.Value.none none PySem.Value.none PySem.Value.none 0)) #[])
noncomputable def o96_0 (P : Params) : Obj := (PySem.Obj.mk (PySem.Value.type "code") none (PySem.Data.fields #[(PySem.Value.str (PySem.Str.ofString "in_table_c7") 2250), (PySem.Value.str (PySem.Str.ofString "in_table_c7") 2251), (PySem.Value.str (PySem.Str.ofString "/claim/cut.py") 2252), (PySem.Value.int 15 0), (PySem.Value.int 1 0), (PySem.Value.int 0 0), (PySem.Value.int 0 0), (PySem.Value.int 3 0), (PySem.Value.ref 91), (PySem.Value.bool Bool.true), (PySem.Value.int 181 0), (PySem.Value.ref 92), PySem.Value.none, (PySem.Value.ref 93), (PySem.Value.ref 94), (PySem.Value.ref 95), (PySem.Value.int 2254 0), (PySem.Value.int 15 0), (PySem.Value.str (PySem.Str.ofString "/claim/cut.py") 2255)]) #[])
noncomputable def o97_0 (P : Params) : Obj := (Obj.mk (PySem.Value.type "function") none (Data.func (FuncData.mk (PySem.Str.ofString "in_table_c7") (PySem.Str.ofString "in_table_c7") (fA (st 7)) (FuncBody.stmts (fB (st 7))) (fS (st 7)) 3 [] PySem.Value.none PySem.Value.none PySem.Value.none (PySem.Value.str (PySem.Str.ofString "cpy313.stringprep") 194) none (PySem.Value.ref 96) PySem.Value.none 0)) #[])
noncomputable def o3_8 (P : Params) : Obj := (PySem.Obj.mk (PySem.Value.type "dict") none (PySem.Data.dict #[(PySem.DictEntry.mk (PySem.PyData.keyHash P (PySem.Str.ofString "__name__")) (PySem.Value.str (PySem.Str.ofString "__name__") 165) (PySem.Value.str (PySem.Str.ofString "cpy313.tabnanny") 2257)), (PySem.DictEntry.mk (PySem.PyData.keyHash P (PySem.Str.ofString "__doc__")) (PySem.Value.str (PySem.Str.ofString "__doc__") 166) PySem.Value.none), (PySem.DictEntry.mk (PySem.PyData.keyHash P (PySem.Str.ofString "__package__")) (PySem.Value.str (PySem.Str.ofString "__package__") 167) PySem.Value.none), (PySem.DictEntry.mk (PySem.PyData.keyHash P (PySem.Str.ofString "__loader__")) (PySem.Value.str (PySem.Str.ofString "__loader__") 168) (PySem.Value.builtin "__main__.__loader__#opaque")), (PySem.DictEntry.mk (PySem.PyData.keyHash P (PySem.Str.ofString "__spec__")) (PySem.Value.str (PySem.Str.ofString "__spec__") 169) PySem.Value.none), (PySem.DictEntry.mk (PySem.PyData.keyHash P (PySem.Str.ofString "__annotations__")) (PySem.Value.str (PySem.Str.ofString "__annotations__") 170) (PySem.Value.ref 6)), (PySem.DictEntry.mk (PySem.PyData.keyHash P (PySem.Str.ofString "__builtins__")) (PySem.Value.str (PySem.Str.ofString "__builtins__") 171) (PySem.Value.ref 4)), (PySem.DictEntry.mk (PySem.PyData.keyHash P (PySem.Str.ofString "__file__")) (PySem.Value.str (PySem.Str.ofString "__file__") 173) (PySem.Value.str (PySem.Str.ofString "/claim/cut.py") 172)), (PySem.DictEntry.mk (PySem.PyData.keyHash P (PySem.Str.ofString "__cached__")) (PySem.Value.str (PySem.Str.ofString "__cached__") 174) PySem.Value.none), (PySem.DictEntry.mk (PySem.PyData.keyHash P (PySem.Str.ofString "_wall")) (PySem.Value.str (PySem.Str.ofString "_wall") 193) (PySem.Value.ref 21)), (PySem.DictEntry.mk (PySem.PyData.keyHash P (PySem.Str.ofString "b1_set")) (PySem.Value.str (PySem.Str.ofString "b1_set") 255) (PySem.Value.ref 29)), (PySem.DictEntry.mk (PySem.PyData.keyHash P (PySem.Str.ofString "in_table_b1")) (PySem.Value.str (PySem.Str.ofString "in_table_b1") 262) (PySem.Value.ref 39)), (PySem.DictEntry.mk (PySem.PyData.keyHash P (PySem.Str.ofString "b3_exceptions")) (PySem.Value.str (PySem.Str.ofString "b3_exceptions") 2213) (PySem.Value.ref 40)), (PySem.DictEntry.mk (PySem.PyData.keyHash P (PySem.Str.ofString "map_table_b3")) (PySem.Value.str (PySem.Str.ofString "map_table_b3") 2221) (PySem.Value.ref 85)), (PySem.DictEntry.mk (PySem.PyData.keyHash P (PySem.Str.ofString "c7_set")) (PySem.Value.str (PySem.Str.ofString "c7_set") 2249) (PySem.Value.ref 87)), (PySem.DictEntry.mk (PySem.PyData.keyHash P (PySem.Str.ofString "in_table_c7")) (PySem.Value.str (PySem.Str.ofString "in_table_c7") 2256) (PySem.Value.ref 97)), (PySem.DictEntry.mk (PySem.PyData.keyHash P (PySem.Str.ofString "Whitespace")) (PySem.Value.str (PySem.Str.ofString "Whitespace") 2350) (PySem.Value.ref 159))] 17) #[])
noncomputable def o12_5 (P : Params) : Obj := (PySem.Obj.mk PySem.Value.none none (PySem.Data.fields #[(PySem.Value.int 1 0), (PySem.Value.int 0 0), (PySem.Value.ref 20), (PySem.Value.int 6 0), (PySem.Value.int 0 0), (PySem.Value.ref 38), (PySem.Value.int 9 0), (PySem.Value.int 0 0), (PySem.Value.ref 84), (PySem.Value.int 15 0), (PySem.Value.int 0 0), (PySem.Value.ref 96), (PySem.Value.int 18 0), (PySem.Value.int 0 0), (PySem.Value.ref 103)]) #[])
noncomputable def o98_0 (P : Params) : Obj := (PySem.Obj.mk (PySem.Value.type "tuple") none (PySem.Data.seq #[] 0) #[])
noncomputable def o99_0 (P : Params) : Obj := (PySem.Obj.mk (PySem.Value.type "builtin_function_or_method") none (PySem.Data.fields #[(PySem.Value.builtin "type.__prepare__"), (PySem.Value.type "type")]) #[])
noncomputable def o100_0 (P : Params) : Obj := (PySem.Obj.mk (PySem.Value.type "dict") none (PySem.Data.dict #[(PySem.DictEntry.mk (PySem.PyData.keyHash P (PySem.Str.ofString "__module__")) (PySem.Value.str (PySem.Str.ofString "__module__") 2266) (PySem.Value.str (PySem.Str.ofString "cpy313.tabnanny") 2257)), (PySem.DictEntry.mk (PySem.PyData.keyHash P (PySem.Str.ofString "__qualname__")) (PySem.Value.str (PySem.Str.ofString "__qualname__") 2268) (PySem.Value.str (PySem.Str.ofString "Whitespace") 2267)), (PySem.DictEntry.mk (PySem.PyData.keyHash P (PySem.Str.ofString "__firstlineno__")) (PySem.Value.str (PySem.Str.ofString "__firstlineno__") 2270) (PySem.Value.int 18 2269)), (PySem.DictEntry.mk (PySem.PyData.keyHash P (PySem.Str.ofString "S")) (PySem.Value.str (PySem.Str.ofString "S") 2274) (PySem.Value.str (PySem.Str.ofString " ") 2272)), (PySem.DictEntry.mk (PySem.PyData.keyHash P (PySem.Str.ofString "T")) (PySem.Value.str (PySem.Str.ofString "T") 2275) (PySem.Value.str (PySem.Str.ofString "\t") 2273)), (PySem.DictEntry.mk (PySem.PyData.keyHash P (PySem.Str.ofString "__init__")) (PySem.Value.str (PySem.Str.ofString "__init__") 2290) (PySem.Value.ref 114)), (PySem.DictEntry.mk (PySem.PyData.keyHash P (PySem.Str.ofString "longest_run_of_spaces")) (PySem.Value.str (PySem.Str.ofString "longest_run_of_spaces") 2297) (PySem.Value.ref 121)), (PySem.DictEntry.mk (PySem.PyData.keyHash P (PySem.Str.ofString "indent_level")) (PySem.Value.str (PySem.Str.ofString "indent_level") 2305) (PySem.Value.ref 128)), (PySem.DictEntry.mk (PySem.PyData.keyHash P (PySem.Str.ofString "equal")) (PySem.Value.str (PySem.Str.ofString "equal") 2313) (PySem.Value.ref 135)), (PySem.DictEntry.mk (PySem.PyData.keyHash P (PySem.Str.ofString "not_equal_witness")) (PySem.Value.str (PySem.Str.ofString "not_equal_witness") 2321) (PySem.Value.ref 142)), (PySem.DictEntry.mk (PySem.PyData.keyHash P (PySem.Str.ofString "less")) (PySem.Value.str (PySem.Str.ofString "less") 2329) (PySem.Value.ref 149)), (PySem.DictEntry.mk (PySem.PyData.keyHash P (PySem.Str.ofString "not_less_witness")) (PySem.Value.str (PySem.Str.ofString "not_less_witness") 2337) (PySem.Value.ref 156)), (PySem.DictEntry.mk (PySem.PyData.keyHash P (PySem.Str.ofString "__static_attributes__")) (PySem.Value.str (PySem.Str.ofString "__static_attributes__") 2343) (PySem.Value.ref 157))] 13) #[])
noncomputable def o101_0 (P : Params) : Obj := (PySem.Obj.mk (PySem.Value.type "tuple") none (PySem.Data.seq #[] 0) #[])
noncomputable def o102_0 (P : Params) : Obj := (PySem.Obj.mk PySem.Value.none none (PySem.Data.fields #[(PySem.Value.int 21 0), (PySem.Value.int 4 0), (PySem.Value.ref 113), (PySem.Value.int 44 0), (PySem.Value.int 4 0), (PySem.Value.ref 120), (PySem.Value.int 47 0), (PySem.Value.int 4 0), (PySem.Value.ref 127), (PySem.Value.int 50 0), (PySem.Value.int 4 0), (PySem.Value.ref 134), (PySem.Value.int 53 0), (PySem.Value.int 4 0), (PySem.Value.ref 141), (PySem.Value.int 56 0), (PySem.Value.int 4 0), (PySem.Value.ref 148), (PySem.Value.int 59 0), (PySem.Value.int 4 0), (PySem.Value.ref 155)]) #[])
noncomputable def o103_0 (P : Params) : Obj := (PySem.Obj.mk (PySem.Value.type "code") none (PySem.Data.fields #[(PySem.Value.str (PySem.Str.ofString "Whitespace") 2261), (PySem.Value.str (PySem.Str.ofString "Whitespace") 2262), (PySem.Value.str (PySem.Str.ofString "/claim/cut.py") 2263), (PySem.Value.int 18 0), (PySem.Value.int 0 0), (PySem.Value.int 0 0), (PySem.Value.int 0 0), (PySem.Value.int 0 0), (PySem.Value.ref 101), (PySem.Value.bool Bool.false), (PySem.Value.int 181 0), (PySem.Value.ref 102), PySem.Value.none, PySem.Value.none, PySem.Value.none, PySem.Value.none, (PySem.Value.int 2264 0), (PySem.Value.int 18 0), (PySem.Value.str (PySem.Str.ofString "/claim/cut.py") 2265)]) #[])
noncomputable def o104_0 (P : Params) : Obj := (PySem.Obj.mk (PySem.Value.type "frame") none PySem.Data.plain #[(some (PySem.Value.ref 103)), (some (PySem.Value.ref 3)), (some (PySem.Value.ref 100)), none, (some (PySem.Value.str (PySem.Str.ofString "cpy313.tabnanny") 2257)), none, (some (PySem.Value.ref 0))])
noncomputable def o105_0 (P : Params) : Obj := (PySem.Obj.mk (PySem.Value.type "str_ascii_iterator") none (PySem.Data.fields #[PySem.Value.none, (PySem.Value.int 2 0)]) #[])
noncomputable def o106_0 (P : Params) : Obj := (PySem.Obj.mk (PySem.Value.type "tuple") none (PySem.Data.seq #[] 0) #[])
noncomputable def o107_0 (P : Params) : Obj := (PySem.Obj.mk (PySem.Value.type "StopIteration") none (PySem.Data.fields #[(PySem.Value.ref 106), PySem.Value.none, PySem.Value.none, PySem.Value.none, (PySem.Value.bool Bool.false), PySem.Value.none]) #[])
noncomputable def o108_0 (P : Params) : Obj := (PySem.Obj.mk (PySem.Value.type "tuple") none (PySem.Data.seq #[] 0) #[])
noncomputable def o109_0 (P : Params) : Obj := (PySem.Obj.mk PySem.Value.none none (PySem.Data.fields #[]) #[])
noncomputable def o110_0 (P : Params) : Obj := (PySem.Obj.mk (PySem.Value.type "tuple") none (PySem.Data.seq #[(PySem.Value.str (PySem.Str.ofString "self") 2279), (PySem.Value.str (PySem.Str.ofString "ws") 2280), (PySem.Value.str (PySem.Str.ofString "S") 2281), (PySem.Value.str (PySem.Str.ofString "T") 2282), (PySem.Value.str (PySem.Str.ofString "count") 2283), (PySem.Value.str (PySem.Str.ofString "b") 2284), (PySem.Value.str (PySem.Str.ofString "n") 2285), (PySem.Value.str (PySem.Str.ofString "nt") 2286), (PySem.Value.str (PySem.Str.ofString "ch") 2287)] 0) #[])
noncomputable def o111_0 (P : Params) : Obj := (PySem.Obj.mk (PySem.Value.type "tuple") none (PySem.Data.seq #[] 0) #[])
noncomputable def o112_0 (P : Params) : Obj := (Obj.mk PySem.Value.none none (Data.func (FuncData.mk (PySem.Str.ofString "__init__") (PySem.Str.ofString "Whitespace.__init__") (fA (cst 1)) (FuncBody.stmts (fB (cst 1))) (fS (cst 1)) 0 [] PySem.Value.none PySem.Value.none PySem.Value.none PySem.Value.none none PySem.Value.none PySem.Value.none 0)) #[])
noncomputable def o113_0 (P : Params) : Obj := (PySem.Obj.mk (PySem.Value.type "code") none (PySem.Data.fields #[(PySem.Value.str (PySem.Str.ofString "__init__") 2276), (PySem.Value.str (PySem.Str.ofString "Whitespace.__init__") 2277), (PySem.Value.str (PySem.Str.ofString "/claim/cut.py") 2278), (PySem.Value.int 21 0), (PySem.Value.int 2 0), (PySem.Value.int 0 0), (PySem.Value.int 0 0), (PySem.Value.int 3 0), (PySem.Value.ref 108), (PySem.Value.bool Bool.true), (PySem.Value.int 181 0), (PySem.Value.ref 109), PySem.Value.none, (PySem.Value.ref 110), (PySem.Value.ref 111), (PySem.Value.ref 112), (PySem.Value.int 2288 0), (PySem.Value.int 21 0), (PySem.Value.str (PySem.Str.ofString "/claim/cut.py") 2289)]) #[])
noncomputable def o114_0 (P : Params) : Obj := (Obj.mk (PySem.Value.type "function") none (Data.func (FuncData.mk (PySem.Str.ofString "__init__") (PySem.Str.ofString "Whitespace.__init__") (fA (cst 1)) (FuncBody.stmts (fB (cst 1))) (fS (cst 1)) 3 [] PySem.Value.none PySem.Value.none PySem.Value.none (PySem.Value.str (PySem.Str.ofString "cpy313.tabnanny") 2257) none (PySem.Value.ref 113) PySem.Value.none 0)) #[])
noncomputable def o115_0 (P : Params) : Obj := (PySem.Obj.mk (PySem.Value.type "tuple") none (PySem.Data.seq #[] 0) #[])
noncomputable def o116_0 (P : Params) : Obj := (PySem.Obj.mk PySem.Value.none none (PySem.Data.fields #[]) #[])
noncomputable def o117_0 (P : Params) : Obj := (PySem.Obj.mk (PySem.Value.type "tuple") none (PySem.Data.seq #[(PySem.Value.str (PySem.Str.ofString "self") 2294)] 0) #[])
noncomputable def o118_0 (P : Params) : Obj := (PySem.Obj.mk (PySem.Value.type "tuple") none (PySem.Data.seq #[] 0) #[])
noncomputable def o119_0 (P : Params) : Obj := (Obj.mk PySem.Value.none none (Data.func (FuncData.mk (PySem.Str.ofString "longest_run_of_spaces") (PySem.Str.ofString "Whitespace.longest_run_of_spaces") (fA (cst 2)) (FuncBody.stmts (fB (cst 2))) (fS (cst 2)) 0 [] PySem.Value.none PySem.Value.none PySem.Value.none PySem.Value.none none PySem.Value.none PySem.Value.none 0)) #[])
noncomputable def o120_0 (P : Params) : Obj := (PySem.Obj.mk (PySem.Value.type "code") none (PySem.Data.fields #[(PySem.Value.str (PySem.Str.ofString "longest_run_of_spaces") 2291), (PySem.Value.str (PySem.Str.ofString "Whitespace.longest_run_of_spaces") 2292), (PySem.Value.str (PySem.Str.ofString "/claim/cut.py") 2293), (PySem.Value.int 44 0), (PySem.Value.int 1 0), (PySem.Value.int 0 0), (PySem.Value.int 0 0), (PySem.Value.int 3 0), (PySem.Value.ref 115), (PySem.Value.bool Bool.true), (PySem.Value.int 181 0), (PySem.Value.ref 116), PySem.Value.none, (PySem.Value.ref 117), (PySem.Value.ref 118), (PySem.Value.ref 119), (PySem.Value.int 2295 0), (PySem.Value.int 44 0), (PySem.Value.str (PySem.Str.ofString "/claim/cut.py") 2296)]) #[])
noncomputable def o121_0 (P : Params) : Obj := (Obj.mk (PySem.Value.type "function") none (Data.func (FuncData.mk (PySem.Str.ofString "longest_run_of_spaces") (PySem.Str.ofString "Whitespace.longest_run_of_spaces") (fA (cst 2)) (FuncBody.stmts (fB (cst 2))) (fS (cst 2)) 3 [] PySem.Value.none PySem.Value.none PySem.Value.none (PySem.Value.str (PySem.Str.ofString "cpy313.tabnanny") 2257) none (PySem.Value.ref 120) PySem.Value.none 0)) #[])
noncomputable def o122_0 (P : Params) : Obj := (PySem.Obj.mk (PySem.Value.type "tuple") none (PySem.Data.seq #[] 0) #[])
noncomputable def o123_0 (P : Params) : Obj := (PySem.Obj.mk PySem.Value.none none (PySem.Data.fields #[]) #[])
noncomputable def o124_0 (P : Params) : Obj := (PySem.Obj.mk (PySem.Value.type "tuple") none (PySem.Data.seq #[(PySem.Value.str (PySem.Str.ofString "self") 2301), (PySem.Value.str (PySem.Str.ofString "tabsize") 2302)] 0) #[])
noncomputable def o125_0 (P : Params) : Obj := (PySem.Obj.mk (PySem.Value.type "tuple") none (PySem.Data.seq #[] 0) #[])
noncomputable def o126_0 (P : Params) : Obj := (Obj.mk PySem.Value.none none (Data.func (FuncData.mk (PySem.Str.ofString "indent_level") (PySem.Str.ofString "Whitespace.indent_level") (fA (cst 3)) (FuncBody.stmts (fB (cst 3))) (fS (cst 3)) 0 [] PySem.Value.none PySem.Value.none PySem.Value.none PySem.Value.none none PySem.Value.none PySem.Value.none 0)) #[])
noncomputable def o127_0 (P : Params) : Obj := (PySem.Obj.mk (PySem.Value.type "code") none (PySem.Data.fields #[(PySem.Value.str (PySem.Str.ofString "indent_level") 2298), (PySem.Value.str (PySem.Str.ofString "Whitespace.indent_level") 2299), (PySem.Value.str (PySem.Str.ofString "/claim/cut.py") 2300), (PySem.Value.int 47 0), (PySem.Value.int 2 0), (PySem.Value.int 0 0), (PySem.Value.int 0 0), (PySem.Value.int 3 0), (PySem.Value.ref 122), (PySem.Value.bool Bool.true), (PySem.Value.int 181 0), (PySem.Value.ref 123), PySem.Value.none, (PySem.Value.ref 124), (PySem.Value.ref 125), (PySem.Value.ref 126), (PySem.Value.int 2303 0), (PySem.Value.int 47 0), (PySem.Value.str (PySem.Str.ofString "/claim/cut.py") 2304)]) #[])
noncomputable def o128_0 (P : Params) : Obj := (Obj.mk (PySem.Value.type "function") none (Data.func (FuncData.mk (PySem.Str.ofString "indent_level") (PySem.Str.ofString "Whitespace.indent_level") (fA (cst 3)) (FuncBody.stmts (fB (cst 3))) (fS (cst 3)) 3 [] PySem.Value.none PySem.Value.none PySem.Value.none (PySem.Value.str (PySem.Str.ofString "cpy313.tabnanny") 2257) none (PySem.Value.ref 127) PySem.Value.none 0)) #[])
noncomputable def o129_0 (P : Params) : Obj := (PySem.Obj.mk (PySem.Value.type "tuple") none (PySem.Data.seq #[] 0) #[])
noncomputable def o130_0 (P : Params) : Obj := (PySem.Obj.mk PySem.Value.none none (PySem.Data.fields #[]) #[])
noncomputable def o131_0 (P : Params) : Obj := (PySem.Obj.mk (PySem.Value.type "tuple") none (PySem.Data.seq #[(PySem.Value.str (PySem.Str.ofString "self") 2309), (PySem.Value.str (PySem.Str.ofString "other") 2310)] 0) #[])
noncomputable def o132_0 (P : Params) : Obj := (PySem.Obj.mk (PySem.Value.type "tuple") none (PySem.Data.seq #[] 0) #[])
noncomputable def o133_0 (P : Params) : Obj := (Obj.mk PySem.Value.none none (Data.func (FuncData.mk (PySem.Str.ofString "equal") (PySem.Str.ofString "Whitespace.equal") (fA (cst 4)) (FuncBody.stmts (fB (cst 4))) (fS (cst 4)) 0 [] PySem.Value.none PySem.Value.none PySem.Value.none PySem.Value.none none PySem.Value.none PySem.Value.none 0)) #[])
noncomputable def o134_0 (P : Params) : Obj := (PySem.Obj.mk (PySem.Value.type "code") none (PySem.Data.fields #[(PySem.Value.str (PySem.Str.ofString "equal") 2306), (PySem.Value.str (PySem.Str.ofString "Whitespace.equal") 2307), (PySem.Value.str (PySem.Str.ofString "/claim/cut.py") 2308), (PySem.Value.int 50 0), (PySem.Value.int 2 0), (PySem.Value.int 0 0), (PySem.Value.int 0 0), (PySem.Value.int 3 0), (PySem.Value.ref 129), (PySem.Value.bool Bool.true), (PySem.Value.int 181 0), (PySem.Value.ref 130), PySem.Value.none, (PySem.Value.ref 131), (PySem.Value.ref 132), (PySem.Value.ref 133), (PySem.Value.int 2311 0), (PySem.Value.int 50 0), (PySem.Value.str (PySem.Str.ofString "/claim/cut.py") 2312)]) #[])
noncomputable def o135_0 (P : Params) : Obj := (Obj.mk (PySem.Value.type "function") none (Data.func (FuncData.mk (PySem.Str.ofString "equal") (PySem.Str.ofString "Whitespace.equal") (fA (cst 4)) (FuncBody.stmts (fB (cst 4))) (fS (cst 4)) 3 [] PySem.Value.none PySem.Value.none PySem.Value.none (PySem.Value.str (PySem.Str.ofString "cpy313.tabnanny") 2257) none (PySem.Value.ref 134) PySem.Value.none 0)) #[])
noncomputable def o136_0 (P : Params) : Obj := (PySem.Obj.mk (PySem.Value.type "tuple") none (PySem.Data.seq #[] 0) #[])
noncomputable def o137_0 (P : Params) : Obj := (PySem.Obj.mk PySem.Value.none none (PySem.Data.fields #[]) #[])
noncomputable def o138_0 (P : Params) : Obj := (PySem.Obj.mk (PySem.Value.type "tuple") none (PySem.Data.seq #[(PySem.Value.str (PySem.Str.ofString "self") 2317), (PySem.Value.str (PySem.Str.ofString "other") 2318)] 0) #[])
noncomputable def o139_0 (P : Params) : Obj := (PySem.Obj.mk (PySem.Value.type "tuple") none (PySem.Data.seq #[] 0) #[])
noncomputable def o140_0 (P : Params) : Obj := (Obj.mk PySem.Value.none none (Data.func (FuncData.mk (PySem.Str.ofString "not_equal_witness") (PySem.Str.ofString "Whitespace.not_equal_witness") (fA (cst 5)) (FuncBody.stmts (fB (cst 5))) (fS (cst 5)) 0 [] PySem.Value.none PySem.Value.none PySem.Value.none PySem.Value.none none PySem.Value.none PySem.Value.none 0)) #[])
noncomputable def o141_0 (P : Params) : Obj := (PySem.Obj.mk (PySem.Value.type "code") none (PySem.Data.fields #[(PySem.Value.str (PySem.Str.ofString "not_equal_witness") 2314), (PySem.Value.str (PySem.Str.ofString "Whitespace.not_equal_witness") 2315), (PySem.Value.str (PySem.Str.ofString "/claim/cut.py") 2316), (PySem.Value.int 53 0), (PySem.Value.int 2 0), (PySem.Value.int 0 0), (PySem.Value.int 0 0), (PySem.Value.int 3 0), (PySem.Value.ref 136), (PySem.Value.bool Bool.true), (PySem.Value.int 181 0), (PySem.Value.ref 137), PySem.Value.none, (PySem.Value.ref 138), (PySem.Value.ref 139), (PySem.Value.ref 140), (PySem.Value.int 2319 0), (PySem.Value.int 53 0), (PySem.Value.str (PySem.Str.ofString "/claim/cut.py") 2320)]) #[])
noncomputable def o142_0 (P : Params) : Obj := (Obj.mk (PySem.Value.type "function") none (Data.func (FuncData.mk (PySem.Str.ofString "not_equal_witness") (PySem.Str.ofString "Whitespace.not_equal_witness") (fA (cst 5)) (FuncBody.stmts (fB (cst 5))) (fS (cst 5)) 3 [] PySem.Value.none PySem.Value.none PySem.Value.none (PySem.Value.str (PySem.Str.ofString "cpy313.tabnanny") 2257) none (PySem.Value.ref 141) PySem.Value.none 0)) #[])
noncomputable def o143_0 (P : Params) : Obj := (PySem.Obj.mk (PySem.Value.type "tuple") none (PySem.Data.seq #[] 0) #[])
noncomputable def o144_0 (P : Params) : Obj := (PySem.Obj.mk PySem.Value.none none (PySem.Data.fields #[]) #[])
noncomputable def o145_0 (P : Params) : Obj := (PySem.Obj.mk (PySem.Value.type "tuple") none (PySem.Data.seq #[(PySem.Value.str (PySem.Str.ofString "self") 2325), (PySem.Value.str (PySem.Str.ofString "other") 2326)] 0) #[])
noncomputable def o146_0 (P : Params) : Obj := (PySem.Obj.mk (PySem.Value.type "tuple") none (PySem.Data.seq #[] 0) #[])
noncomputable def o147_0 (P : Params) : Obj := (Obj.mk PySem.Value.none none (Data.func (FuncData.mk (PySem.Str.ofString "less") (PySem.Str.ofString "Whitespace.less") (fA (cst 6)) (FuncBody.stmts (fB (cst 6))) (fS (cst 6)) 0 [] PySem.Value.none PySem.Value.none PySem.Value.none PySem.Value.none none PySem.Value.none PySem.Value.none 0)) #[])
noncomputable def o148_0 (P : Params) : Obj := (PySem.Obj.mk (PySem.Value.type "code") none (PySem.Data.fields #[(PySem.Value.str (PySem.Str.ofString "less") 2322), (PySem.Value.str (PySem.Str.ofString "Whitespace.less") 2323), (PySem.Value.str (PySem.Str.ofString "/claim/cut.py") 2324), (PySem.Value.int 56 0), (PySem.Value.int 2 0), (PySem.Value.int 0 0), (PySem.Value.int 0 0), (PySem.Value.int 3 0), (PySem.Value.ref 143), (PySem.Value.bool Bool.true), (PySem.Value.int 181 0), (PySem.Value.ref 144), PySem.Value.none, (PySem.Value.ref 145), (PySem.Value.ref 146), (PySem.Value.ref 147), (PySem.Value.int 2327 0), (PySem.Value.int 56 0), (PySem.Value.str (PySem.Str.ofString "/claim/cut.py") 2328)]) #[])
noncomputable def o149_0 (P : Params) : Obj := (Obj.mk (PySem.Value.type "function") none (Data.func (FuncData.mk (PySem.Str.ofString "less") (PySem.Str.ofString "Whitespace.less") (fA (cst 6)) (FuncBody.stmts (fB (cst 6))) (fS (cst 6)) 3 [] PySem.Value.none PySem.Value.none PySem.Value.none (PySem.Value.str (PySem.Str.ofString "cpy313.tabnanny") 2257) none (PySem.Value.ref 148) PySem.Value.none 0)) #[])
noncomputable def o150_0 (P : Params) : Obj := (PySem.Obj.mk (PySem.Value.type "tuple") none (PySem.Data.seq #[] 0) #[])
noncomputable def o151_0 (P : Params) : Obj := (PySem.Obj.mk PySem.Value.none none (PySem.Data.fields #[]) #[])
noncomputable def o152_0 (P : Params) : Obj := (PySem.Obj.mk (PySem.Value.type "tuple") none (PySem.Data.seq #[(PySem.Value.str (PySem.Str.ofString "self") 2333), (PySem.Value.str (PySem.Str.ofString "other") 2334)] 0) #[])
noncomputable def o153_0 (P : Params) : Obj := (PySem.Obj.mk (PySem.Value.type "tuple") none (PySem.Data.seq #[] 0) #[])
noncomputable def o154_0 (P : Params) : Obj := (Obj.mk PySem.Value.none none (Data.func (FuncData.mk (PySem.Str.ofString "not_less_witness") (PySem.Str.ofString "Whitespace.not_less_witness") (fA (cst 7)) (FuncBody.stmts (fB (cst 7))) (fS (cst 7)) 0 [] PySem.Value.none PySem.Value.none PySem.Value.none PySem.Value.none none PySem.Value.none PySem.Value.none 0)) #[])
noncomputable def o155_0 (P : Params) : Obj := (PySem.Obj.mk (PySem.Value.type "code") none (PySem.Data.fields #[(PySem.Value.str (PySem.Str.ofString "not_less_witness") 2330), (PySem.Value.str (PySem.Str.ofString "Whitespace.not_less_witness") 2331), (PySem.Value.str (PySem.Str.ofString "/claim/cut.py") 2332), (PySem.Value.int 59 0), (PySem.Value.int 2 0), (PySem.Value.int 0 0), (PySem.Value.int 0 0), (PySem.Value.int 3 0), (PySem.Value.ref 150), (PySem.Value.bool Bool.true), (PySem.Value.int 181 0), (PySem.Value.ref 151), PySem.Value.none, (PySem.Value.ref 152), (PySem.Value.ref 153), (PySem.Value.ref 154), (PySem.Value.int 2335 0), (PySem.Value.int 59 0), (PySem.Value.str (PySem.Str.ofString "/claim/cut.py") 2336)]) #[])
noncomputable def o156_0 (P : Params) : Obj := (Obj.mk (PySem.Value.type "function") none (Data.func (FuncData.mk (PySem.Str.ofString "not_less_witness") (PySem.Str.ofString "Whitespace.not_less_witness") (fA (cst 7)) (FuncBody.stmts (fB (cst 7))) (fS (cst 7)) 3 [] PySem.Value.none PySem.Value.none PySem.Value.none (PySem.Value.str (PySem.Str.ofString "cpy313.tabnanny") 2257) none (PySem.Value.ref 155) PySem.Value.none 0)) #[])
noncomputable def o157_0 (P : Params) : Obj := (PySem.Obj.mk (PySem.Value.type "tuple") none (PySem.Data.seq #[(PySem.Value.str (PySem.Str.ofString "is_simple") 2338), (PySem.Value.str (PySem.Str.ofString "n") 2339), (PySem.Value.str (PySem.Str.ofString "norm") 2340), (PySem.Value.str (PySem.Str.ofString "nt") 2341), (PySem.Value.str (PySem.Str.ofString "raw") 2342)] 0) #[])
noncomputable def o158_0 (P : Params) : Obj := (PySem.Obj.mk (PySem.Value.type "dict") none (PySem.Data.dict #[(PySem.DictEntry.mk (PySem.PyData.keyHash P (PySem.Str.ofString "__module__")) (PySem.Value.str (PySem.Str.ofString "__module__") 2266) (PySem.Value.str (PySem.Str.ofString "cpy313.tabnanny") 2257)), (PySem.DictEntry.mk (PySem.PyData.keyHash P (PySem.Str.ofString "__firstlineno__")) (PySem.Value.str (PySem.Str.ofString "__firstlineno__") 2270) (PySem.Value.int 18 2269)), (PySem.DictEntry.mk (PySem.PyData.keyHash P (PySem.Str.ofString "S")) (PySem.Value.str (PySem.Str.ofString "S") 2274) (PySem.Value.str (PySem.Str.ofString " ") 2272)), (PySem.DictEntry.mk (PySem.PyData.keyHash P (PySem.Str.ofString "T")) (PySem.Value.str (PySem.Str.ofString "T") 2275) (PySem.Value.str (PySem.Str.ofString "\t") 2273)), (PySem.DictEntry.mk (PySem.PyData.keyHash P (PySem.Str.ofString "__init__")) (PySem.Value.str (PySem.Str.ofString "__init__") 2290) (PySem.Value.ref 114)), (PySem.DictEntry.mk (PySem.PyData.keyHash P (PySem.Str.ofString "longest_run_of_spaces")) (PySem.Value.str (PySem.Str.ofString "longest_run_of_spaces") 2297) (PySem.Value.ref 121)), (PySem.DictEntry.mk (PySem.PyData.keyHash P (PySem.Str.ofString "indent_level")) (PySem.Value.str (PySem.Str.ofString "indent_level") 2305) (PySem.Value.ref 128)), (PySem.DictEntry.mk (PySem.PyData.keyHash P (PySem.Str.ofString "equal")) (PySem.Value.str (PySem.Str.ofString "equal") 2313) (PySem.Value.ref 135)), (PySem.DictEntry.mk (PySem.PyData.keyHash P (PySem.Str.ofString "not_equal_witness")) (PySem.Value.str (PySem.Str.ofString "not_equal_witness") 2321) (PySem.Value.ref 142)), (PySem.DictEntry.mk (PySem.PyData.keyHash P (PySem.Str.ofString "less")) (PySem.Value.str (PySem.Str.ofString "less") 2329) (PySem.Value.ref 149)), (PySem.DictEntry.mk (PySem.PyData.keyHash P (PySem.Str.ofString "not_less_witness")) (PySem.Value.str (PySem.Str.ofString "not_less_witness") 2337) (PySem.Value.ref 156)), (PySem.DictEntry.mk (PySem.PyData.keyHash P (PySem.Str.ofString "__static_attributes__")) (PySem.Value.str (PySem.Str.ofString "__static_attributes__") 2343) (PySem.Value.ref 157)), (PySem.DictEntry.mk (PySem.PyData.keyHash P (PySem.Str.ofString "__dict__")) (PySem.Value.str (PySem.Str.ofString "__dict__") 2345) (PySem.Value.ref 160)), (PySem.DictEntry.mk (PySem.PyData.keyHash P (PySem.Str.ofString "__weakref__")) (PySem.Value.str (PySem.Str.ofString "__weakref__") 2347) (PySem.Value.ref 161)), (PySem.DictEntry.mk (PySem.PyData.keyHash P (PySem.Str.ofString "__doc__")) (PySem.Value.str (PySem.Str.ofString "__doc__") 2348) PySem.Value.none)] 4) #[])
noncomputable def o159_0 (P : Params) : Obj := (PySem.Obj.mk (PySem.Value.type "type") none (PySem.Data.cls (PySem.ClassData.mk (PySem.Str.ofString "Whitespace") [(PySem.Value.type "object")] [(PySem.Value.ref 159), (PySem.Value.type "object")] 158 (PySem.Str.ofString "Whitespace") Bool.true [] [] Bool.false none Bool.false)) #[none, none, (some (PySem.Value.str (PySem.Str.ofString "Whitespace") 2259)), (some (PySem.Value.str (PySem.Str.ofString "Whitespace") 2267)), (some (PySem.Value.builtin "object.__new__")), (some (PySem.Value.bool Bool.true))])
noncomputable def o160_0 (P : Params) : Obj := (PySem.Obj.mk (PySem.Value.type "getset_descriptor") none (PySem.Data.fields #[(PySem.Value.str (PySem.Str.ofString "__dict__") 2344), (PySem.Value.ref 159), (PySem.Value.builtin "function.__dict__"), (PySem.Value.builtin "function.__dict__#set")]) #[])
noncomputable def o161_0 (P : Params) : Obj := (PySem.Obj.mk (PySem.Value.type "getset_descriptor") none (PySem.Data.fields #[(PySem.Value.str (PySem.Str.ofString "__weakref__") 2346), (PySem.Value.ref 159), (PySem.Value.builtin "ExceptionGroup.__weakref__"), PySem.Value.none]) #[])
noncomputable def o162_0 (P : Params) : Obj := (PySem.Obj.mk (PySem.Value.type "super") none (PySem.Data.fields #[(PySem.Value.ref 159), (PySem.Value.ref 159), (PySem.Value.ref 159)]) #[])
noncomputable def o163_0 (P : Params) : Obj := (PySem.Obj.mk (PySem.Value.type "builtin_function_or_method") none (PySem.Data.fields #[(PySem.Value.builtin "object.__init_subclass__"), (PySem.Value.ref 159)]) #[])
noncomputable def o3_9 (P : Params) : Obj := (PySem.Obj.mk (PySem.Value.type "dict") none (PySem.Data.dict #[(PySem.DictEntry.mk (PySem.PyData.keyHash P (PySem.Str.ofString "__name__")) (PySem.Value.str (PySem.Str.ofString "__name__") 165) (PySem.Value.str (PySem.Str.ofString "law_re0162_01") 2378)), (PySem.DictEntry.mk (PySem.PyData.keyHash P (PySem.Str.ofString "__doc__")) (PySem.Value.str (PySem.Str.ofString "__doc__") 166) PySem.Value.none), (PySem.DictEntry.mk (PySem.PyData.keyHash P (PySem.Str.ofString "__package__")) (PySem.Value.str (PySem.Str.ofString "__package__") 167) PySem.Value.none), (PySem.DictEntry.mk (PySem.PyData.keyHash P (PySem.Str.ofString "__loader__")) (PySem.Value.str (PySem.Str.ofString "__loader__") 168) (PySem.Value.builtin "__main__.__loader__#opaque")), (PySem.DictEntry.mk (PySem.PyData.keyHash P (PySem.Str.ofString "__spec__")) (PySem.Value.str (PySem.Str.ofString "__spec__") 169) PySem.Value.none), (PySem.DictEntry.mk (PySem.PyData.keyHash P (PySem.Str.ofString "__annotations__")) (PySem.Value.str (PySem.Str.ofString "__annotations__") 170) (PySem.Value.ref 6)), (PySem.DictEntry.mk (PySem.PyData.keyHash P (PySem.Str.ofString "__builtins__")) (PySem.Value.str (PySem.Str.ofString "__builtins__") 171) (PySem.Value.ref 4)), (PySem.DictEntry.mk (PySem.PyData.keyHash P (PySem.Str.ofString "__file__")) (PySem.Value.str (PySem.Str.ofString "__file__") 173) (PySem.Value.str (PySem.Str.ofString "/claim/cut.py") 172)), (PySem.DictEntry.mk (PySem.PyData.keyHash P (PySem.Str.ofString "__cached__")) (PySem.Value.str (PySem.Str.ofString "__cached__") 174) PySem.Value.none), (PySem.DictEntry.mk (PySem.PyData.keyHash P (PySem.Str.ofString "_wall")) (PySem.Value.str (PySem.Str.ofString "_wall") 193) (PySem.Value.ref 21)), (PySem.DictEntry.mk (PySem.PyData.keyHash P (PySem.Str.ofString "b1_set")) (PySem.Value.str (PySem.Str.ofString "b1_set") 255) (PySem.Value.ref 29)), (PySem.DictEntry.mk (PySem.PyData.keyHash P (PySem.Str.ofString "in_table_b1")) (PySem.Value.str (PySem.Str.ofString "in_table_b1") 262) (PySem.Value.ref 39)), (PySem.DictEntry.mk (PySem.PyData.keyHash P (PySem.Str.ofString "b3_exceptions")) (PySem.Value.str (PySem.Str.ofString "b3_exceptions") 2213) (PySem.Value.ref 40)), (PySem.DictEntry.mk (PySem.PyData.keyHash P (PySem.Str.ofString "map_table_b3")) (PySem.Value.str (PySem.Str.ofString "map_table_b3") 2221) (PySem.Value.ref 85)), (PySem.DictEntry.mk (PySem.PyData.keyHash P (PySem.Str.ofString "c7_set")) (PySem.Value.str (PySem.Str.ofString "c7_set") 2249) (PySem.Value.ref 87)), (PySem.DictEntry.mk (PySem.PyData.keyHash P (PySem.Str.ofString "in_table_c7")) (PySem.Value.str (PySem.Str.ofString "in_table_c7") 2256) (PySem.Value.ref 97)), (PySem.DictEntry.mk (PySem.PyData.keyHash P (PySem.Str.ofString "Whitespace")) (PySem.Value.str (PySem.Str.ofString "Whitespace") 2350) (PySem.Value.ref 159)), (PySem.DictEntry.mk (PySem.PyData.keyHash P (PySem.Str.ofString "ENDMARKER")) (PySem.Value.str (PySem.Str.ofString "ENDMARKER") 2354) (PySem.Value.int 0 2353)), (PySem.DictEntry.mk (PySem.PyData.keyHash P (PySem.Str.ofString "NT_OFFSET")) (PySem.Value.str (PySem.Str.ofString "NT_OFFSET") 2356) (PySem.Value.int 256 2355)), (PySem.DictEntry.mk (PySem.PyData.keyHash P (PySem.Str.ofString "ISTERMINAL")) (PySem.Value.str (PySem.Str.ofString "ISTERMINAL") 2363) (PySem.Value.ref 170)), (PySem.DictEntry.mk (PySem.PyData.keyHash P (PySem.Str.ofString "ISNONTERMINAL")) (PySem.Value.str (PySem.Str.ofString "ISNONTERMINAL") 2370) (PySem.Value.ref 177)), (PySem.DictEntry.mk (PySem.PyData.keyHash P (PySem.Str.ofString "ISEOF")) (PySem.Value.str (PySem.Str.ofString "ISEOF") 2377) (PySem.Value.ref 184)), (PySem.DictEntry.mk (PySem.PyData.keyHash P (PySem.Str.ofString "_law_tree")) (PySem.Value.str (PySem.Str.ofString "_law_tree") 2389) (PySem.Value.ref 191)), (PySem.DictEntry.mk (PySem.PyData.keyHash P (PySem.Str.ofString "_law_row")) (PySem.Value.str (PySem.Str.ofString "_law_row") 2395) (PySem.Value.ref 196)), (PySem.DictEntry.mk (PySem.PyData.keyHash P (PySem.Str.ofString "_law_turns")) (PySem.Value.str (PySem.Str.ofString "_law_turns") 2401) (PySem.Value.ref 201)), (PySem.DictEntry.mk (PySem.PyData.keyHash P (PySem.Str.ofString "_law_page")) (PySem.Value.str (PySem.Str.ofString "_law_page") 2414) (PySem.Value.ref 208)), (PySem.DictEntry.mk (PySem.PyData.keyHash P (PySem.Str.ofString "_law_read")) (PySem.Value.str (PySem.Str.ofString "_law_read") 2420) (PySem.Value.ref 213)), (PySem.DictEntry.mk (PySem.PyData.keyHash P (PySem.Str.ofString "law")) (PySem.Value.str (PySem.Str.ofString "law") 2426) (PySem.Value.ref 218))] 28) #[])
noncomputable def o12_6 (P : Params) : Obj := (PySem.Obj.mk PySem.Value.none none (PySem.Data.fields (List.toArray ((PySem.Value.int 1 0) :: (PySem.Value.int 0 0) :: (PySem.Value.ref 20) :: (PySem.Value.int 6 0) :: (PySem.Value.int 0 0) :: (PySem.Value.ref 38) :: (PySem.Value.int 9 0) :: (PySem.Value.int 0 0) :: (PySem.Value.ref 84) :: (PySem.Value.int 15 0) :: (PySem.Value.int 0 0) :: (PySem.Value.ref 96) :: (PySem.Value.int 18 0) :: (PySem.Value.int 0 0) :: (PySem.Value.ref 103) :: (PySem.Value.int 64 0) :: (PySem.Value.int 0 0) :: (PySem.Value.ref 169) :: (PySem.Value.int 66 0) :: (PySem.Value.int 0 0) :: (PySem.Value.ref 176) :: (PySem.Value.int 68 0) :: (PySem.Value.int 0 0) :: (PySem.Value.ref 183) :: (PySem.Value.int 71 0) :: (PySem.Value.int 0 0) :: (PySem.Value.ref 190) :: (PySem.Value.int 82 0) :: (PySem.Value.int 0 0) :: (PySem.Value.ref 195) :: (PySem.Value.int 87 0) :: (PySem.Value.int 0 0) :: (PySem.Value.ref 200) :: (PySem.Value.int 102 0) :: (PySem.Value.int 0 0) :: (PySem.Value.ref 207) :: (PySem.Value.int 115 0) :: (PySem.Value.int 0 0) :: (PySem.Value.ref 212) :: (PySem.Value.int 150 0) :: (PySem.Value.int 0 0) :: (PySem.Value.ref 217) :: []))) #[])
noncomputable def o164_0 (P : Params) : Obj := (PySem.Obj.mk (PySem.Value.type "tuple") none (PySem.Data.seq #[] 0) #[])
noncomputable def o165_0 (P : Params) : Obj := (PySem.Obj.mk PySem.Value.none none (PySem.Data.fields #[]) #[])
noncomputable def o166_0 (P : Params) : Obj := (PySem.Obj.mk (PySem.Value.type "tuple") none (PySem.Data.seq #[(PySem.Value.str (PySem.Str.ofString "x") 2360)] 0) #[])
noncomputable def o167_0 (P : Params) : Obj := (PySem.Obj.mk (PySem.Value.type "tuple") none (PySem.Data.seq #[] 0) #[])
noncomputable def o168_0 (P : Params) : Obj := (Obj.mk PySem.Value.none none (Data.func (FuncData.mk (PySem.Str.ofString "ISTERMINAL") (PySem.Str.ofString "ISTERMINAL") (fA (st 13)) (FuncBody.stmts (fB (st 13))) (fS (st 13)) 0 [] PySem.Value.none PySem.Value.none PySem.Value.none PySem.Value.none none PySem.Value.none PySem.Value.none 0)) #[])
noncomputable def o169_0 (P : Params) : Obj := (PySem.Obj.mk (PySem.Value.type "code") none (PySem.Data.fields #[(PySem.Value.str (PySem.Str.ofString "ISTERMINAL") 2357), (PySem.Value.str (PySem.Str.ofString "ISTERMINAL") 2358), (PySem.Value.str (PySem.Str.ofString "/claim/cut.py") 2359), (PySem.Value.int 64 0), (PySem.Value.int 1 0), (PySem.Value.int 0 0), (PySem.Value.int 0 0), (PySem.Value.int 3 0), (PySem.Value.ref 164), (PySem.Value.bool Bool.true), (PySem.Value.int 181 0), (PySem.Value.ref 165), PySem.Value.none, (PySem.Value.ref 166), (PySem.Value.ref 167), (PySem.Value.ref 168), (PySem.Value.int 2361 0), (PySem.Value.int 64 0), (PySem.Value.str (PySem.Str.ofString "/claim/cut.py") 2362)]) #[])
noncomputable def o170_0 (P : Params) : Obj := (Obj.mk (PySem.Value.type "function") none (Data.func (FuncData.mk (PySem.Str.ofString "ISTERMINAL") (PySem.Str.ofString "ISTERMINAL") (fA (st 13)) (FuncBody.stmts (fB (st 13))) (fS (st 13)) 3 [] PySem.Value.none PySem.Value.none PySem.Value.none (PySem.Value.str (PySem.Str.ofString "cpy313.token") 2351) none (PySem.Value.ref 169) PySem.Value.none 0)) #[])
noncomputable def o171_0 (P : Params) : Obj := (PySem.Obj.mk (PySem.Value.type "tuple") none (PySem.Data.seq #[] 0) #[])
noncomputable def o172_0 (P : Params) : Obj := (PySem.Obj.mk PySem.Value.none none (PySem.Data.fields #[]) #[])
noncomputable def o173_0 (P : Params) : Obj := (PySem.Obj.mk (PySem.Value.type "tuple") none (PySem.Data.seq #[(PySem.Value.str (PySem.Str.ofString "x") 2367)] 0) #[])
noncomputable def o174_0 (P : Params) : Obj := (PySem.Obj.mk (PySem.Value.type "tuple") none (PySem.Data.seq #[] 0) #[])
noncomputable def o175_0 (P : Params) : Obj := (Obj.mk PySem.Value.none none (Data.func (FuncData.mk (PySem.Str.ofString "ISNONTERMINAL") (PySem.Str.ofString "ISNONTERMINAL") (fA (st 14)) (FuncBody.stmts (fB (st 14))) (fS (st 14)) 0 [] PySem.Value.none PySem.Value.none PySem.Value.none PySem.Value.none none PySem.Value.none PySem.Value.none 0)) #[])
noncomputable def o176_0 (P : Params) : Obj := (PySem.Obj.mk (PySem.Value.type "code") none (PySem.Data.fields #[(PySem.Value.str (PySem.Str.ofString "ISNONTERMINAL") 2364), (PySem.Value.str (PySem.Str.ofString "ISNONTERMINAL") 2365), (PySem.Value.str (PySem.Str.ofString "/claim/cut.py") 2366), (PySem.Value.int 66 0), (PySem.Value.int 1 0), (PySem.Value.int 0 0), (PySem.Value.int 0 0), (PySem.Value.int 3 0), (PySem.Value.ref 171), (PySem.Value.bool Bool.true), (PySem.Value.int 181 0), (PySem.Value.ref 172), PySem.Value.none, (PySem.Value.ref 173), (PySem.Value.ref 174), (PySem.Value.ref 175), (PySem.Value.int 2368 0), (PySem.Value.int 66 0), (PySem.Value.str (PySem.Str.ofString "/claim/cut.py") 2369)]) #[])
noncomputable def o177_0 (P : Params) : Obj := (Obj.mk (PySem.Value.type "function") none (Data.func (FuncData.mk (PySem.Str.ofString "ISNONTERMINAL") (PySem.Str.ofString "ISNONTERMINAL") (fA (st 14)) (FuncBody.stmts (fB (st 14))) (fS (st 14)) 3 [] PySem.Value.none PySem.Value.none PySem.Value.none (PySem.Value.str (PySem.Str.ofString "cpy313.token") 2351) none (PySem.Value.ref 176) PySem.Value.none 0)) #[])
noncomputable def o178_0 (P : Params) : Obj := (PySem.Obj.mk (PySem.Value.type "tuple") none (PySem.Data.seq #[] 0) #[])
noncomputable def o179_0 (P : Params) : Obj := (PySem.Obj.mk PySem.Value.none none (PySem.Data.fields #[]) #[])
noncomputable def o180_0 (P : Params) : Obj := (PySem.Obj.mk (PySem.Value.type "tuple") none (PySem.Data.seq #[(PySem.Value.str (PySem.Str.ofString "x") 2374)] 0) #[])
noncomputable def o181_0 (P : Params) : Obj := (PySem.Obj.mk (PySem.Value.type "tuple") none (PySem.Data.seq #[] 0) #[])
noncomputable def o182_0 (P : Params) : Obj := (Obj.mk PySem.Value.none none (Data.func (FuncData.mk (PySem.Str.ofString "ISEOF") (PySem.Str.ofString "ISEOF") (fA (st 15)) (FuncBody.stmts (fB (st 15))) (fS (st 15)) 0 [] PySem.Value.none PySem.Value.none PySem.Value.none PySem.Value.none none PySem.Value.none PySem.Value.none 0)) #[])
noncomputable def o183_0 (P : Params) : Obj := (PySem.Obj.mk (PySem.Value.type "code") none (PySem.Data.fields #[(PySem.Value.str (PySem.Str.ofString "ISEOF") 2371), (PySem.Value.str (PySem.Str.ofString "ISEOF") 2372), (PySem.Value.str (PySem.Str.ofString "/claim/cut.py") 2373), (PySem.Value.int 68 0), (PySem.Value.int 1 0), (PySem.Value.int 0 0), (PySem.Value.int 0 0), (PySem.Value.int 3 0), (PySem.Value.ref 178), (PySem.Value.bool Bool.true), (PySem.Value.int 181 0), (PySem.Value.ref 179), PySem.Value.none, (PySem.Value.ref 180), (PySem.Value.ref 181), (PySem.Value.ref 182), (PySem.Value.int 2375 0), (PySem.Value.int 68 0), (PySem.Value.str (PySem.Str.ofString "/claim/cut.py") 2376)]) #[])
noncomputable def o184_0 (P : Params) : Obj := (Obj.mk (PySem.Value.type "function") none (Data.func (FuncData.mk (PySem.Str.ofString "ISEOF") (PySem.Str.ofString "ISEOF") (fA (st 15)) (FuncBody.stmts (fB (st 15))) (fS (st 15)) 3 [] PySem.Value.none PySem.Value.none PySem.Value.none (PySem.Value.str (PySem.Str.ofString "cpy313.token") 2351) none (PySem.Value.ref 183) PySem.Value.none 0)) #[])
noncomputable def o185_0 (P : Params) : Obj := (PySem.Obj.mk (PySem.Value.type "tuple") none (PySem.Data.seq #[] 0) #[])
noncomputable def o186_0 (P : Params) : Obj := (PySem.Obj.mk PySem.Value.none none (PySem.Data.fields #[]) #[])
noncomputable def o187_0 (P : Params) : Obj := (PySem.Obj.mk (PySem.Value.type "tuple") none (PySem.Data.seq #[(PySem.Value.str (PySem.Str.ofString "kinds") 2383), (PySem.Value.str (PySem.Str.ofString "labels") 2384), (PySem.Value.str (PySem.Str.ofString "queue") 2385), (PySem.Value.str (PySem.Str.ofString "label") 2386)] 0) #[])
noncomputable def o188_0 (P : Params) : Obj := (PySem.Obj.mk (PySem.Value.type "tuple") none (PySem.Data.seq #[] 0) #[])
noncomputable def o189_0 (P : Params) : Obj := (Obj.mk PySem.Value.none none (Data.func (FuncData.mk (PySem.Str.ofString "_law_tree") (PySem.Str.ofString "_law_tree") (fA (st 17)) (FuncBody.stmts (fB (st 17))) (fS (st 17)) 0 [] PySem.Value.none PySem.Value.none PySem.Value.none PySem.Value.none none PySem.Value.none PySem.Value.none 0)) #[])
noncomputable def o190_0 (P : Params) : Obj := (PySem.Obj.mk (PySem.Value.type "code") none (PySem.Data.fields #[(PySem.Value.str (PySem.Str.ofString "_law_tree") 2380), (PySem.Value.str (PySem.Str.ofString "_law_tree") 2381), (PySem.Value.str (PySem.Str.ofString "/claim/cut.py") 2382), (PySem.Value.int 71 0), (PySem.Value.int 2 0), (PySem.Value.int 0 0), (PySem.Value.int 0 0), (PySem.Value.int 3 0), (PySem.Value.ref 185), (PySem.Value.bool Bool.true), (PySem.Value.int 181 0), (PySem.Value.ref 186), PySem.Value.none, (PySem.Value.ref 187), (PySem.Value.ref 188), (PySem.Value.ref 189), (PySem.Value.int 2387 0), (PySem.Value.int 71 0), (PySem.Value.str (PySem.Str.ofString "/claim/cut.py") 2388)]) #[])
noncomputable def o191_0 (P : Params) : Obj := (Obj.mk (PySem.Value.type "function") none (Data.func (FuncData.mk (PySem.Str.ofString "_law_tree") (PySem.Str.ofString "_law_tree") (fA (st 17)) (FuncBody.stmts (fB (st 17))) (fS (st 17)) 3 [] PySem.Value.none PySem.Value.none PySem.Value.none (PySem.Value.str (PySem.Str.ofString "law_re0162_01") 2378) none (PySem.Value.ref 190) PySem.Value.none 0)) #[])
noncomputable def o192_0 (P : Params) : Obj := (PySem.Obj.mk (PySem.Value.type "tuple") none (PySem.Data.seq #[] 0) #[])
noncomputable def o193_0 (P : Params) : Obj := (PySem.Obj.mk PySem.Value.none none (PySem.Data.fields #[]) #[])
noncomputable def o194_0 (P : Params) : Obj := (Obj.mk PySem.Value.none none (Data.func (FuncData.mk (PySem.Str.ofString "_law_row") (PySem.Str.ofString "_law_row") (fA (st 18)) (FuncBody.stmts (fB (st 18))) (fS (st 18)) 0 [] PySem.Value.none PySem.Value.none PySem.Value.none PySem.Value.none none PySem.Value.none PySem.Value.none 0)) #[])
noncomputable def o195_0 (P : Params) : Obj := (PySem.Obj.mk (PySem.Value.type "code") none (PySem.Data.fields #[(PySem.Value.str (PySem.Str.ofString "_law_row") 2390), (PySem.Value.str (PySem.Str.ofString "_law_row") 2391), (PySem.Value.str (PySem.Str.ofString "/claim/cut.py") 2392), (PySem.Value.int 82 0), (PySem.Value.int 2 0), (PySem.Value.int 0 0), (PySem.Value.int 0 0), (PySem.Value.int 3 0), (PySem.Value.ref 192), (PySem.Value.bool Bool.true), (PySem.Value.int 181 0), (PySem.Value.ref 193), PySem.Value.none, PySem.Value.none, PySem.Value.none, (PySem.Value.ref 194), (PySem.Value.int 2393 0), (PySem.Value.int 82 0), (PySem.Value.str (PySem.Str.ofString "/claim/cut.py") 2394)]) #[])
noncomputable def o196_0 (P : Params) : Obj := (Obj.mk (PySem.Value.type "function") none (Data.func (FuncData.mk (PySem.Str.ofString "_law_row") (PySem.Str.ofString "_law_row") (fA (st 18)) (FuncBody.stmts (fB (st 18))) (fS (st 18)) 3 [] PySem.Value.none PySem.Value.none PySem.Value.none (PySem.Value.str (PySem.Str.ofString "law_re0162_01") 2378) none (PySem.Value.ref 195) PySem.Value.none 0)) #[])
noncomputable def o197_0 (P : Params) : Obj := (PySem.Obj.mk (PySem.Value.type "tuple") none (PySem.Data.seq #[] 0) #[])
noncomputable def o198_0 (P : Params) : Obj := (PySem.Obj.mk PySem.Value.none none (PySem.Data.fields #[]) #[])
noncomputable def o199_0 (P : Params) : Obj := (Obj.mk PySem.Value.none none (Data.func (FuncData.mk (PySem.Str.ofString "_law_turns") (PySem.Str.ofString "_law_turns") (fA (st 19)) (FuncBody.stmts (fB (st 19))) (fS (st 19)) 0 [] PySem.Value.none PySem.Value.none PySem.Value.none PySem.Value.none none PySem.Value.none PySem.Value.none 0)) #[])
noncomputable def o200_0 (P : Params) : Obj := (PySem.Obj.mk (PySem.Value.type "code") none (PySem.Data.fields #[(PySem.Value.str (PySem.Str.ofString "_law_turns") 2396), (PySem.Value.str (PySem.Str.ofString "_law_turns") 2397), (PySem.Value.str (PySem.Str.ofString "/claim/cut.py") 2398), (PySem.Value.int 87 0), (PySem.Value.int 1 0), (PySem.Value.int 0 0), (PySem.Value.int 0 0), (PySem.Value.int 3 0), (PySem.Value.ref 197), (PySem.Value.bool Bool.true), (PySem.Value.int 181 0), (PySem.Value.ref 198), PySem.Value.none, PySem.Value.none, PySem.Value.none, (PySem.Value.ref 199), (PySem.Value.int 2399 0), (PySem.Value.int 87 0), (PySem.Value.str (PySem.Str.ofString "/claim/cut.py") 2400)]) #[])
noncomputable def o201_0 (P : Params) : Obj := (Obj.mk (PySem.Value.type "function") none (Data.func (FuncData.mk (PySem.Str.ofString "_law_turns") (PySem.Str.ofString "_law_turns") (fA (st 19)) (FuncBody.stmts (fB (st 19))) (fS (st 19)) 3 [] PySem.Value.none PySem.Value.none PySem.Value.none (PySem.Value.str (PySem.Str.ofString "law_re0162_01") 2378) none (PySem.Value.ref 200) PySem.Value.none 0)) #[])
noncomputable def o202_0 (P : Params) : Obj := (PySem.Obj.mk (PySem.Value.type "tuple") none (PySem.Data.seq #[] 0) #[])
noncomputable def o203_0 (P : Params) : Obj := (PySem.Obj.mk PySem.Value.none none (PySem.Data.fields #[]) #[])
noncomputable def o204_0 (P : Params) : Obj := (PySem.Obj.mk (PySem.Value.type "tuple") none (PySem.Data.seq #[(PySem.Value.str (PySem.Str.ofString "row") 2405), (PySem.Value.str (PySem.Str.ofString "x") 2406), (PySem.Value.str (PySem.Str.ofString "unseen") 2407), (PySem.Value.str (PySem.Str.ofString "forms") 2408), (PySem.Value.str (PySem.Str.ofString "page") 2409), (PySem.Value.str (PySem.Str.ofString "k") 2410), (PySem.Value.str (PySem.Str.ofString "form") 2411)] 0) #[])
noncomputable def o205_0 (P : Params) : Obj := (PySem.Obj.mk (PySem.Value.type "tuple") none (PySem.Data.seq #[] 0) #[])
noncomputable def o206_0 (P : Params) : Obj := (Obj.mk PySem.Value.none none (Data.func (FuncData.mk (PySem.Str.ofString "_law_page") (PySem.Str.ofString "_law_page") (fA (st 20)) (FuncBody.stmts (fB (st 20))) (fS (st 20)) 0 [] PySem.Value.none PySem.Value.none PySem.Value.none PySem.Value.none none PySem.Value.none PySem.Value.none 0)) #[])
noncomputable def o207_0 (P : Params) : Obj := (PySem.Obj.mk (PySem.Value.type "code") none (PySem.Data.fields #[(PySem.Value.str (PySem.Str.ofString "_law_page") 2402), (PySem.Value.str (PySem.Str.ofString "_law_page") 2403), (PySem.Value.str (PySem.Str.ofString "/claim/cut.py") 2404), (PySem.Value.int 102 0), (PySem.Value.int 2 0), (PySem.Value.int 0 0), (PySem.Value.int 0 0), (PySem.Value.int 3 0), (PySem.Value.ref 202), (PySem.Value.bool Bool.true), (PySem.Value.int 181 0), (PySem.Value.ref 203), PySem.Value.none, (PySem.Value.ref 204), (PySem.Value.ref 205), (PySem.Value.ref 206), (PySem.Value.int 2412 0), (PySem.Value.int 102 0), (PySem.Value.str (PySem.Str.ofString "/claim/cut.py") 2413)]) #[])
noncomputable def o208_0 (P : Params) : Obj := (Obj.mk (PySem.Value.type "function") none (Data.func (FuncData.mk (PySem.Str.ofString "_law_page") (PySem.Str.ofString "_law_page") (fA (st 20)) (FuncBody.stmts (fB (st 20))) (fS (st 20)) 3 [] PySem.Value.none PySem.Value.none PySem.Value.none (PySem.Value.str (PySem.Str.ofString "law_re0162_01") 2378) none (PySem.Value.ref 207) PySem.Value.none 0)) #[])
noncomputable def o209_0 (P : Params) : Obj := (PySem.Obj.mk (PySem.Value.type "tuple") none (PySem.Data.seq #[] 0) #[])
noncomputable def o210_0 (P : Params) : Obj := (PySem.Obj.mk PySem.Value.none none (PySem.Data.fields #[]) #[])
noncomputable def o211_0 (P : Params) : Obj := (Obj.mk PySem.Value.none none (Data.func (FuncData.mk (PySem.Str.ofString "_law_read") (PySem.Str.ofString "_law_read") (fA (st 21)) (FuncBody.stmts (fB (st 21))) (fS (st 21)) 0 [] PySem.Value.none PySem.Value.none PySem.Value.none PySem.Value.none none PySem.Value.none PySem.Value.none 0)) #[])
noncomputable def o212_0 (P : Params) : Obj := (PySem.Obj.mk (PySem.Value.type "code") none (PySem.Data.fields #[(PySem.Value.str (PySem.Str.ofString "_law_read") 2415), (PySem.Value.str (PySem.Str.ofString "_law_read") 2416), (PySem.Value.str (PySem.Str.ofString "/claim/cut.py") 2417), (PySem.Value.int 115 0), (PySem.Value.int 3 0), (PySem.Value.int 0 0), (PySem.Value.int 0 0), (PySem.Value.int 3 0), (PySem.Value.ref 209), (PySem.Value.bool Bool.true), (PySem.Value.int 181 0), (PySem.Value.ref 210), PySem.Value.none, PySem.Value.none, PySem.Value.none, (PySem.Value.ref 211), (PySem.Value.int 2418 0), (PySem.Value.int 115 0), (PySem.Value.str (PySem.Str.ofString "/claim/cut.py") 2419)]) #[])
noncomputable def o213_0 (P : Params) : Obj := (Obj.mk (PySem.Value.type "function") none (Data.func (FuncData.mk (PySem.Str.ofString "_law_read") (PySem.Str.ofString "_law_read") (fA (st 21)) (FuncBody.stmts (fB (st 21))) (fS (st 21)) 3 [] PySem.Value.none PySem.Value.none PySem.Value.none (PySem.Value.str (PySem.Str.ofString "law_re0162_01") 2378) none (PySem.Value.ref 212) PySem.Value.none 0)) #[])
noncomputable def o214_0 (P : Params) : Obj := (PySem.Obj.mk (PySem.Value.type "tuple") none (PySem.Data.seq #[] 0) #[])
noncomputable def o215_0 (P : Params) : Obj := (PySem.Obj.mk PySem.Value.none none (PySem.Data.fields #[]) #[])
noncomputable def o216_0 (P : Params) : Obj := (Obj.mk PySem.Value.none none (Data.func (FuncData.mk (PySem.Str.ofString "law") (PySem.Str.ofString "law") (fA (st 22)) (FuncBody.stmts (fB (st 22))) (fS (st 22)) 0 [] PySem.Value.none PySem.Value.none PySem.Value.none PySem.Value.none none PySem.Value.none PySem.Value.none 0)) #[])
noncomputable def o217_0 (P : Params) : Obj := (PySem.Obj.mk (PySem.Value.type "code") none (PySem.Data.fields #[(PySem.Value.str (PySem.Str.ofString "law") 2421), (PySem.Value.str (PySem.Str.ofString "law") 2422), (PySem.Value.str (PySem.Str.ofString "/claim/cut.py") 2423), (PySem.Value.int 150 0), (PySem.Value.int 1 0), (PySem.Value.int 0 0), (PySem.Value.int 0 0), (PySem.Value.int 3 0), (PySem.Value.ref 214), (PySem.Value.bool Bool.true), (PySem.Value.int 181 0), (PySem.Value.ref 215), PySem.Value.none, PySem.Value.none, PySem.Value.none, (PySem.Value.ref 216), (PySem.Value.int 2424 0), (PySem.Value.int 150 0), (PySem.Value.str (PySem.Str.ofString "/claim/cut.py") 2425)]) #[])
noncomputable def o218_0 (P : Params) : Obj := (Obj.mk (PySem.Value.type "function") none (Data.func (FuncData.mk (PySem.Str.ofString "law") (PySem.Str.ofString "law") (fA (st 22)) (FuncBody.stmts (fB (st 22))) (fS (st 22)) 3 [] PySem.Value.none PySem.Value.none PySem.Value.none (PySem.Value.str (PySem.Str.ofString "law_re0162_01") 2378) none (PySem.Value.ref 217) PySem.Value.none 0)) #[])
noncomputable def Ha (P : Params) : Heap := ⟨#[(boot_o_0 P), (boot_o_1 P), (boot_o_2 P), (boot_o_3 P), (boot_o_4 P), (boot_o_5 P), (boot_o_6 P), (boot_o_7 P), (boot_o_8 P), (boot_o_9 P), (boot_o_10 P), (o11_0 P), (o12_0 P), (o13_0 P), (o14_0 P)], lifeR⟩
noncomputable def Tb (P : Params) : BT := (.node (boot_o_0 P) (.node (boot_o_1 P) (.node (boot_o_3 P) (.node (boot_o_7 P) .nil .nil) (.node (o11_0 P) .nil .nil)) (.node (boot_o_5 P) (.node (boot_o_9 P) .nil .nil) (.node (o13_0 P) .nil .nil))) (.node (boot_o_2 P) (.node (boot_o_4 P) (.node (boot_o_8 P) .nil .nil) (.node (o12_0 P) .nil .nil)) (.node (boot_o_6 P) (.node (boot_o_10 P) .nil .nil) (.node (o14_0 P) .nil .nil))))
noncomputable def Sb (w : World) (os : OsState) : SharedT := ⟨Tb w.params, 15, lifeR, #[], drawnR, 187, os⟩
noncomputable def T1 (P : Params) : BT := (.node (boot_o_0 P) (.node (boot_o_1 P) (.node (o3_1 P) (.node (boot_o_7 P) (.node (o15_0 P) .nil .nil) .nil) (.node (o11_0 P) (.node (o19_0 P) .nil .nil) .nil)) (.node (boot_o_5 P) (.node (boot_o_9 P) (.node (o17_0 P) .nil .nil) .nil) (.node (o13_0 P) (.node (o21_0 P) .nil .nil) .nil))) (.node (boot_o_2 P) (.node (boot_o_4 P) (.node (boot_o_8 P) (.node (o16_0 P) .nil .nil) .nil) (.node (o12_1 P) (.node (o20_0 P) .nil .nil) .nil)) (.node (boot_o_6 P) (.node (boot_o_10 P) (.node (o18_0 P) .nil .nil) .nil) (.node (o14_0 P) .nil .nil))))
noncomputable def S1 (w : World) (os : OsState) : SharedT := ⟨T1 w.params, 22, lifeR, #[], drawnR, 196, os⟩
noncomputable def T2 (P : Params) : BT := (.node (boot_o_0 P) (.node (boot_o_1 P) (.node (o3_2 P) (.node (boot_o_7 P) (.node (o15_0 P) (.node (o31_0 P) .nil .nil) .nil) (.node (o23_0 P) .nil .nil)) (.node (o11_0 P) (.node (o19_0 P) .nil .nil) (.node (o27_0 P) .nil .nil))) (.node (boot_o_5 P) (.node (boot_o_9 P) (.node (o17_0 P) .nil .nil) (.node (o25_0 P) .nil .nil)) (.node (o13_0 P) (.node (o21_0 P) .nil .nil) (.node (o29_0 P) .nil .nil)))) (.node (boot_o_2 P) (.node (boot_o_4 P) (.node (boot_o_8 P) (.node (o16_0 P) (.node (o32_0 P) .nil .nil) .nil) (.node (o24_0 P) .nil .nil)) (.node (o12_1 P) (.node (o20_0 P) .nil .nil) (.node (o28_0 P) .nil .nil))) (.node (boot_o_6 P) (.node (boot_o_10 P) (.node (o18_0 P) .nil .nil) (.node (o26_0 P) .nil .nil)) (.node (o14_0 P) (.node (o22_0 P) .nil .nil) (.node (o30_0 P) .nil .nil)))))
noncomputable def S2 (w : World) (os : OsState) : SharedT := ⟨T2 w.params, 33, lifeR, #[], drawnR, 256, os⟩
noncomputable def Tm (P : Params) (x : Nat → Obj) : BT := (.node (boot_o_0 P) (.node (boot_o_1 P) (.node (o3_3 P) (.node (boot_o_7 P) (.node (o15_0 P) (.node (o31_0 P) (.node (x 63) .nil .nil) .nil) (.node (x 47) .nil .nil)) (.node (o23_0 P) (.node (o39_0 P) (.node (x 71) .nil .nil) .nil) (.node (x 55) .nil .nil))) (.node (o11_0 P) (.node (o19_0 P) (.node (o35_0 P) (.node (x 67) .nil .nil) .nil) (.node (x 51) .nil .nil)) (.node (o27_0 P) (.node (x 43) (.node (x 75) .nil .nil) .nil) (.node (x 59) .nil .nil)))) (.node (boot_o_5 P) (.node (boot_o_9 P) (.node (o17_0 P) (.node (o33_0 P) (.node (x 65) .nil .nil) .nil) (.node (x 49) .nil .nil)) (.node (o25_0 P) (.node (x 41) (.node (x 73) .nil .nil) .nil) (.node (x 57) .nil .nil))) (.node (o13_0 P) (.node (o21_0 P) (.node (o37_0 P) (.node (x 69) .nil .nil) .nil) (.node (x 53) .nil .nil)) (.node (o29_0 P) (.node (x 45) (.node (x 77) .nil .nil) .nil) (.node (x 61) .nil .nil))))) (.node (boot_o_2 P) (.node (boot_o_4 P) (.node (boot_o_8 P) (.node (o16_0 P) (.node (o32_0 P) (.node (x 64) .nil .nil) .nil) (.node (x 48) .nil .nil)) (.node (o24_0 P) (.node (o40_0 P) (.node (x 72) .nil .nil) .nil) (.node (x 56) .nil .nil))) (.node (o12_2 P) (.node (o20_0 P) (.node (o36_0 P) (.node (x 68) .nil .nil) .nil) (.node (x 52) .nil .nil)) (.node (o28_0 P) (.node (x 44) (.node (x 76) .nil .nil) .nil) (.node (x 60) .nil .nil)))) (.node (boot_o_6 P) (.node (boot_o_10 P) (.node (o18_0 P) (.node (o34_0 P) (.node (x 66) .nil .nil) .nil) (.node (x 50) .nil .nil)) (.node (o26_0 P) (.node (x 42) (.node (x 74) .nil .nil) .nil) (.node (x 58) .nil .nil))) (.node (o14_0 P) (.node (o22_0 P) (.node (o38_0 P) (.node (x 70) .nil .nil) .nil) (.node (x 54) .nil .nil)) (.node (o30_0 P) (.node (x 46) (.node (x 78) .nil .nil) .nil) (.node (x 62) .nil .nil))))))
noncomputable def T3 (P : Params) : BT := (.node (boot_o_0 P) (.node (boot_o_1 P) (.node (o3_3 P) (.node (boot_o_7 P) (.node (o15_0 P) (.node (o31_0 P) .nil .nil) .nil) (.node (o23_0 P) (.node (o39_0 P) .nil .nil) .nil)) (.node (o11_0 P) (.node (o19_0 P) (.node (o35_0 P) .nil .nil) .nil) (.node (o27_0 P) .nil .nil))) (.node (boot_o_5 P) (.node (boot_o_9 P) (.node (o17_0 P) (.node (o33_0 P) .nil .nil) .nil) (.node (o25_0 P) .nil .nil)) (.node (o13_0 P) (.node (o21_0 P) (.node (o37_0 P) .nil .nil) .nil) (.node (o29_0 P) .nil .nil)))) (.node (boot_o_2 P) (.node (boot_o_4 P) (.node (boot_o_8 P) (.node (o16_0 P) (.node (o32_0 P) .nil .nil) .nil) (.node (o24_0 P) .nil .nil)) (.node (o12_2 P) (.node (o20_0 P) (.node (o36_0 P) .nil .nil) .nil) (.node (o28_0 P) .nil .nil))) (.node (boot_o_6 P) (.node (boot_o_10 P) (.node (o18_0 P) (.node (o34_0 P) .nil .nil) .nil) (.node (o26_0 P) .nil .nil)) (.node (o14_0 P) (.node (o22_0 P) (.node (o38_0 P) .nil .nil) .nil) (.node (o30_0 P) .nil .nil)))))
noncomputable def S3 (w : World) (os : OsState) : SharedT := ⟨T3 w.params, 40, lifeR, #[], drawnR, 263, os⟩
noncomputable def T4 (P : Params) (x : Nat → Obj) : BT := (.node (boot_o_0 P) (.node (boot_o_1 P) (.node (o3_4 P) (.node (boot_o_7 P) (.node (o15_0 P) (.node (o31_0 P) (.node (x 63) .nil .nil) .nil) (.node (x 47) .nil .nil)) (.node (o23_0 P) (.node (o39_0 P) (.node (x 71) .nil .nil) .nil) (.node (x 55) .nil .nil))) (.node (o11_0 P) (.node (o19_0 P) (.node (o35_0 P) (.node (x 67) .nil .nil) .nil) (.node (x 51) .nil .nil)) (.node (o27_0 P) (.node (x 43) (.node (x 75) .nil .nil) .nil) (.node (x 59) .nil .nil)))) (.node (boot_o_5 P) (.node (boot_o_9 P) (.node (o17_0 P) (.node (o33_0 P) (.node (x 65) .nil .nil) .nil) (.node (x 49) .nil .nil)) (.node (o25_0 P) (.node (x 41) (.node (x 73) .nil .nil) .nil) (.node (x 57) .nil .nil))) (.node (o13_0 P) (.node (o21_0 P) (.node (o37_0 P) (.node (x 69) .nil .nil) .nil) (.node (x 53) .nil .nil)) (.node (o29_0 P) (.node (x 45) (.node (x 77) .nil .nil) .nil) (.node (x 61) .nil .nil))))) (.node (boot_o_2 P) (.node (boot_o_4 P) (.node (boot_o_8 P) (.node (o16_0 P) (.node (o32_0 P) (.node (x 64) .nil .nil) .nil) (.node (x 48) .nil .nil)) (.node (o24_0 P) (.node (o40_0 P) (.node (x 72) .nil .nil) .nil) (.node (x 56) .nil .nil))) (.node (o12_2 P) (.node (o20_0 P) (.node (o36_0 P) (.node (x 68) .nil .nil) .nil) (.node (x 52) .nil .nil)) (.node (o28_0 P) (.node (x 44) (.node (x 76) .nil .nil) .nil) (.node (x 60) .nil .nil)))) (.node (boot_o_6 P) (.node (boot_o_10 P) (.node (o18_0 P) (.node (o34_0 P) (.node (x 66) .nil .nil) .nil) (.node (x 50) .nil .nil)) (.node (o26_0 P) (.node (x 42) (.node (x 74) .nil .nil) .nil) (.node (x 58) .nil .nil))) (.node (o14_0 P) (.node (o22_0 P) (.node (o38_0 P) (.node (x 70) .nil .nil) .nil) (.node (x 54) .nil .nil)) (.node (o30_0 P) (.node (x 46) (.node (x 78) .nil .nil) .nil) (.node (x 62) .nil .nil))))))
noncomputable def S4 (w : World) (x : Nat → Obj) (os : OsState) : SharedT := ⟨T4 w.params x, 79, lifeR, #[], drawnR, 2214, os⟩
noncomputable def T5 (P : Params) (x : Nat → Obj) : BT := (.node (boot_o_0 P) (.node (boot_o_1 P) (.node (o3_5 P) (.node (boot_o_7 P) (.node (o15_0 P) (.node (o31_0 P) (.node (x 63) .nil .nil) .nil) (.node (x 47) (.node (o79_0 P) .nil .nil) .nil)) (.node (o23_0 P) (.node (o39_0 P) (.node (x 71) .nil .nil) .nil) (.node (x 55) .nil .nil))) (.node (o11_0 P) (.node (o19_0 P) (.node (o35_0 P) (.node (x 67) .nil .nil) .nil) (.node (x 51) (.node (o83_0 P) .nil .nil) .nil)) (.node (o27_0 P) (.node (x 43) (.node (x 75) .nil .nil) .nil) (.node (x 59) .nil .nil)))) (.node (boot_o_5 P) (.node (boot_o_9 P) (.node (o17_0 P) (.node (o33_0 P) (.node (x 65) .nil .nil) .nil) (.node (x 49) (.node (o81_0 P) .nil .nil) .nil)) (.node (o25_0 P) (.node (x 41) (.node (x 73) .nil .nil) .nil) (.node (x 57) .nil .nil))) (.node (o13_0 P) (.node (o21_0 P) (.node (o37_0 P) (.node (x 69) .nil .nil) .nil) (.node (x 53) (.node (o85_0 P) .nil .nil) .nil)) (.node (o29_0 P) (.node (x 45) (.node (x 77) .nil .nil) .nil) (.node (x 61) .nil .nil))))) (.node (boot_o_2 P) (.node (boot_o_4 P) (.node (boot_o_8 P) (.node (o16_0 P) (.node (o32_0 P) (.node (x 64) .nil .nil) .nil) (.node (x 48) (.node (o80_0 P) .nil .nil) .nil)) (.node (o24_0 P) (.node (o40_0 P) (.node (x 72) .nil .nil) .nil) (.node (x 56) .nil .nil))) (.node (o12_3 P) (.node (o20_0 P) (.node (o36_0 P) (.node (x 68) .nil .nil) .nil) (.node (x 52) (.node (o84_0 P) .nil .nil) .nil)) (.node (o28_0 P) (.node (x 44) (.node (x 76) .nil .nil) .nil) (.node (x 60) .nil .nil)))) (.node (boot_o_6 P) (.node (boot_o_10 P) (.node (o18_0 P) (.node (o34_0 P) (.node (x 66) .nil .nil) .nil) (.node (x 50) (.node (o82_0 P) .nil .nil) .nil)) (.node (o26_0 P) (.node (x 42) (.node (x 74) .nil .nil) .nil) (.node (x 58) .nil .nil))) (.node (o14_0 P) (.node (o22_0 P) (.node (o38_0 P) (.node (x 70) .nil .nil) .nil) (.node (x 54) .nil .nil)) (.node (o30_0 P) (.node (x 46) (.node (x 78) .nil .nil) .nil) (.node (x 62) .nil .nil))))))
noncomputable def S5 (w : World) (x : Nat → Obj) (os : OsState) : SharedT := ⟨T5 w.params x, 86, lifeR, #[], drawnR, 2222, os⟩
noncomputable def T6 (P : Params) (x : Nat → Obj) : BT := (.node (boot_o_0 P) (.node (boot_o_1 P) (.node (o3_6 P) (.node (boot_o_7 P) (.node (o15_0 P) (.node (o31_0 P) (.node (x 63) .nil .nil) .nil) (.node (x 47) (.node (o79_0 P) .nil .nil) .nil)) (.node (o23_0 P) (.node (o39_0 P) (.node (x 71) .nil .nil) .nil) (.node (x 55) (.node (o87_0 P) .nil .nil) .nil))) (.node (o11_0 P) (.node (o19_0 P) (.node (o35_0 P) (.node (x 67) .nil .nil) .nil) (.node (x 51) (.node (o83_0 P) .nil .nil) .nil)) (.node (o27_0 P) (.node (x 43) (.node (x 75) .nil .nil) .nil) (.node (x 59) .nil .nil)))) (.node (boot_o_5 P) (.node (boot_o_9 P) (.node (o17_0 P) (.node (o33_0 P) (.node (x 65) .nil .nil) .nil) (.node (x 49) (.node (o81_0 P) .nil .nil) .nil)) (.node (o25_0 P) (.node (x 41) (.node (x 73) .nil .nil) .nil) (.node (x 57) (.node (o89_0 P) .nil .nil) .nil))) (.node (o13_0 P) (.node (o21_0 P) (.node (o37_0 P) (.node (x 69) .nil .nil) .nil) (.node (x 53) (.node (o85_0 P) .nil .nil) .nil)) (.node (o29_0 P) (.node (x 45) (.node (x 77) .nil .nil) .nil) (.node (x 61) .nil .nil))))) (.node (boot_o_2 P) (.node (boot_o_4 P) (.node (boot_o_8 P) (.node (o16_0 P) (.node (o32_0 P) (.node (x 64) .nil .nil) .nil) (.node (x 48) (.node (o80_0 P) .nil .nil) .nil)) (.node (o24_0 P) (.node (o40_0 P) (.node (x 72) .nil .nil) .nil) (.node (x 56) (.node (o88_0 P) .nil .nil) .nil))) (.node (o12_3 P) (.node (o20_0 P) (.node (o36_0 P) (.node (x 68) .nil .nil) .nil) (.node (x 52) (.node (o84_0 P) .nil .nil) .nil)) (.node (o28_0 P) (.node (x 44) (.node (x 76) .nil .nil) .nil) (.node (x 60) .nil .nil)))) (.node (boot_o_6 P) (.node (boot_o_10 P) (.node (o18_0 P) (.node (o34_0 P) (.node (x 66) .nil .nil) .nil) (.node (x 50) (.node (o82_0 P) .nil .nil) .nil)) (.node (o26_0 P) (.node (x 42) (.node (x 74) .nil .nil) .nil) (.node (x 58) (.node (o90_0 P) .nil .nil) .nil))) (.node (o14_0 P) (.node (o22_0 P) (.node (o38_0 P) (.node (x 70) .nil .nil) .nil) (.node (x 54) (.node (o86_0 P) .nil .nil) .nil)) (.node (o30_0 P) (.node (x 46) (.node (x 78) .nil .nil) .nil) (.node (x 62) .nil .nil))))))
noncomputable def S6 (w : World) (x : Nat → Obj) (os : OsState) : SharedT := ⟨T6 w.params x, 91, lifeR, #[], drawnR, 2250, os⟩
noncomputable def T8 (P : Params) (x : Nat → Obj) : BT := (.node (boot_o_0 P) (.node (boot_o_1 P) (.node (o3_7 P) (.node (boot_o_7 P) (.node (o15_0 P) (.node (o31_0 P) (.node (x 63) .nil .nil) (.node (o95_0 P) .nil .nil)) (.node (x 47) (.node (o79_0 P) .nil .nil) .nil)) (.node (o23_0 P) (.node (o39_0 P) (.node (x 71) .nil .nil) .nil) (.node (x 55) (.node (o87_0 P) .nil .nil) .nil))) (.node (o11_0 P) (.node (o19_0 P) (.node (o35_0 P) (.node (x 67) .nil .nil) .nil) (.node (x 51) (.node (o83_0 P) .nil .nil) .nil)) (.node (o27_0 P) (.node (x 43) (.node (x 75) .nil .nil) .nil) (.node (x 59) (.node (o91_0 P) .nil .nil) .nil)))) (.node (boot_o_5 P) (.node (boot_o_9 P) (.node (o17_0 P) (.node (o33_0 P) (.node (x 65) .nil .nil) (.node (o97_0 P) .nil .nil)) (.node (x 49) (.node (o81_0 P) .nil .nil) .nil)) (.node (o25_0 P) (.node (x 41) (.node (x 73) .nil .nil) .nil) (.node (x 57) (.node (o89_0 P) .nil .nil) .nil))) (.node (o13_0 P) (.node (o21_0 P) (.node (o37_0 P) (.node (x 69) .nil .nil) .nil) (.node (x 53) (.node (o85_0 P) .nil .nil) .nil)) (.node (o29_0 P) (.node (x 45) (.node (x 77) .nil .nil) .nil) (.node (x 61) (.node (o93_0 P) .nil .nil) .nil))))) (.node (boot_o_2 P) (.node (boot_o_4 P) (.node (boot_o_8 P) (.node (o16_0 P) (.node (o32_0 P) (.node (x 64) .nil .nil) (.node (o96_0 P) .nil .nil)) (.node (x 48) (.node (o80_0 P) .nil .nil) .nil)) (.node (o24_0 P) (.node (o40_0 P) (.node (x 72) .nil .nil) .nil) (.node (x 56) (.node (o88_0 P) .nil .nil) .nil))) (.node (o12_4 P) (.node (o20_0 P) (.node (o36_0 P) (.node (x 68) .nil .nil) .nil) (.node (x 52) (.node (o84_0 P) .nil .nil) .nil)) (.node (o28_0 P) (.node (x 44) (.node (x 76) .nil .nil) .nil) (.node (x 60) (.node (o92_0 P) .nil .nil) .nil)))) (.node (boot_o_6 P) (.node (boot_o_10 P) (.node (o18_0 P) (.node (o34_0 P) (.node (x 66) .nil .nil) .nil) (.node (x 50) (.node (o82_0 P) .nil .nil) .nil)) (.node (o26_0 P) (.node (x 42) (.node (x 74) .nil .nil) .nil) (.node (x 58) (.node (o90_0 P) .nil .nil) .nil))) (.node (o14_0 P) (.node (o22_0 P) (.node (o38_0 P) (.node (x 70) .nil .nil) .nil) (.node (x 54) (.node (o86_0 P) .nil .nil) .nil)) (.node (o30_0 P) (.node (x 46) (.node (x 78) .nil .nil) .nil) (.node (x 62) (.node (o94_0 P) .nil .nil) .nil))))))
noncomputable def S8 (w : World) (x : Nat → Obj) (os : OsState) : SharedT := ⟨T8 w.params x, 98, lifeR, #[], drawnR, 2259, os⟩
noncomputable def T9 (P : Params) (x : Nat → Obj) : BT := (.node (boot_o_0 P) (.node (boot_o_1 P) (.node (o3_8 P) (.node (boot_o_7 P) (.node (o15_0 P) (.node (o31_0 P) (.node (x 63) (.node (o127_0 P) .nil .nil) .nil) (.node (o95_0 P) (.node (o159_0 P) .nil .nil) .nil)) (.node (x 47) (.node (o79_0 P) (.node (o143_0 P) .nil .nil) .nil) (.node (o111_0 P) .nil .nil))) (.node (o23_0 P) (.node (o39_0 P) (.node (x 71) (.node (o135_0 P) .nil .nil) .nil) (.node (o103_0 P) .nil .nil)) (.node (x 55) (.node (o87_0 P) (.node (o151_0 P) .nil .nil) .nil) (.node (o119_0 P) .nil .nil)))) (.node (o11_0 P) (.node (o19_0 P) (.node (o35_0 P) (.node (x 67) (.node (o131_0 P) .nil .nil) .nil) (.node (o99_0 P) (.node (o163_0 P) .nil .nil) .nil)) (.node (x 51) (.node (o83_0 P) (.node (o147_0 P) .nil .nil) .nil) (.node (o115_0 P) .nil .nil))) (.node (o27_0 P) (.node (x 43) (.node (x 75) (.node (o139_0 P) .nil .nil) .nil) (.node (o107_0 P) .nil .nil)) (.node (x 59) (.node (o91_0 P) (.node (o155_0 P) .nil .nil) .nil) (.node (o123_0 P) .nil .nil))))) (.node (boot_o_5 P) (.node (boot_o_9 P) (.node (o17_0 P) (.node (o33_0 P) (.node (x 65) (.node (o129_0 P) .nil .nil) .nil) (.node (o97_0 P) (.node (o161_0 P) .nil .nil) .nil)) (.node (x 49) (.node (o81_0 P) (.node (o145_0 P) .nil .nil) .nil) (.node (o113_0 P) .nil .nil))) (.node (o25_0 P) (.node (x 41) (.node (x 73) (.node (o137_0 P) .nil .nil) .nil) (.node (o105_0 P) .nil .nil)) (.node (x 57) (.node (o89_0 P) (.node (o153_0 P) .nil .nil) .nil) (.node (o121_0 P) .nil .nil)))) (.node (o13_0 P) (.node (o21_0 P) (.node (o37_0 P) (.node (x 69) (.node (o133_0 P) .nil .nil) .nil) (.node (o101_0 P) .nil .nil)) (.node (x 53) (.node (o85_0 P) (.node (o149_0 P) .nil .nil) .nil) (.node (o117_0 P) .nil .nil))) (.node (o29_0 P) (.node (x 45) (.node (x 77) (.node (o141_0 P) .nil .nil) .nil) (.node (o109_0 P) .nil .nil)) (.node (x 61) (.node (o93_0 P) (.node (o157_0 P) .nil .nil) .nil) (.node (o125_0 P) .nil .nil)))))) (.node (boot_o_2 P) (.node (boot_o_4 P) (.node (boot_o_8 P) (.node (o16_0 P) (.node (o32_0 P) (.node (x 64) (.node (o128_0 P) .nil .nil) .nil) (.node (o96_0 P) (.node (o160_0 P) .nil .nil) .nil)) (.node (x 48) (.node (o80_0 P) (.node (o144_0 P) .nil .nil) .nil) (.node (o112_0 P) .nil .nil))) (.node (o24_0 P) (.node (o40_0 P) (.node (x 72) (.node (o136_0 P) .nil .nil) .nil) (.node (o104_0 P) .nil .nil)) (.node (x 56) (.node (o88_0 P) (.node (o152_0 P) .nil .nil) .nil) (.node (o120_0 P) .nil .nil)))) (.node (o12_5 P) (.node (o20_0 P) (.node (o36_0 P) (.node (x 68) (.node (o132_0 P) .nil .nil) .nil) (.node (o100_0 P) .nil .nil)) (.node (x 52) (.node (o84_0 P) (.node (o148_0 P) .nil .nil) .nil) (.node (o116_0 P) .nil .nil))) (.node (o28_0 P) (.node (x 44) (.node (x 76) (.node (o140_0 P) .nil .nil) .nil) (.node (o108_0 P) .nil .nil)) (.node (x 60) (.node (o92_0 P) (.node (o156_0 P) .nil .nil) .nil) (.node (o124_0 P) .nil .nil))))) (.node (boot_o_6 P) (.node (boot_o_10 P) (.node (o18_0 P) (.node (o34_0 P) (.node (x 66) (.node (o130_0 P) .nil .nil) .nil) (.node (o98_0 P) (.node (o162_0 P) .nil .nil) .nil)) (.node (x 50) (.node (o82_0 P) (.node (o146_0 P) .nil .nil) .nil) (.node (o114_0 P) .nil .nil))) (.node (o26_0 P) (.node (x 42) (.node (x 74) (.node (o138_0 P) .nil .nil) .nil) (.node (o106_0 P) .nil .nil)) (.node (x 58) (.node (o90_0 P) (.node (o154_0 P) .nil .nil) .nil) (.node (o122_0 P) .nil .nil)))) (.node (o14_0 P) (.node (o22_0 P) (.node (o38_0 P) (.node (x 70) (.node (o134_0 P) .nil .nil) .nil) (.node (o102_0 P) .nil .nil)) (.node (x 54) (.node (o86_0 P) (.node (o150_0 P) .nil .nil) .nil) (.node (o118_0 P) .nil .nil))) (.node (o30_0 P) (.node (x 46) (.node (x 78) (.node (o142_0 P) .nil .nil) .nil) (.node (o110_0 P) .nil .nil)) (.node (x 62) (.node (o94_0 P) (.node (o158_0 P) .nil .nil) .nil) (.node (o126_0 P) .nil .nil)))))))
noncomputable def S9 (w : World) (x : Nat → Obj) (os : OsState) : SharedT := ⟨T9 w.params x, 164, lifeR, #[], drawnR, 2351, os⟩
noncomputable def T22 (P : Params) (x : Nat → Obj) : BT := (.node (boot_o_0 P) (.node (boot_o_1 P) (.node (o3_9 P) (.node (boot_o_7 P) (.node (o15_0 P) (.node (o31_0 P) (.node (x 63) (.node (o127_0 P) .nil .nil) (.node (o191_0 P) .nil .nil)) (.node (o95_0 P) (.node (o159_0 P) .nil .nil) .nil)) (.node (x 47) (.node (o79_0 P) (.node (o143_0 P) .nil .nil) (.node (o207_0 P) .nil .nil)) (.node (o111_0 P) (.node (o175_0 P) .nil .nil) .nil))) (.node (o23_0 P) (.node (o39_0 P) (.node (x 71) (.node (o135_0 P) .nil .nil) (.node (o199_0 P) .nil .nil)) (.node (o103_0 P) (.node (o167_0 P) .nil .nil) .nil)) (.node (x 55) (.node (o87_0 P) (.node (o151_0 P) .nil .nil) (.node (o215_0 P) .nil .nil)) (.node (o119_0 P) (.node (o183_0 P) .nil .nil) .nil)))) (.node (o11_0 P) (.node (o19_0 P) (.node (o35_0 P) (.node (x 67) (.node (o131_0 P) .nil .nil) (.node (o195_0 P) .nil .nil)) (.node (o99_0 P) (.node (o163_0 P) .nil .nil) .nil)) (.node (x 51) (.node (o83_0 P) (.node (o147_0 P) .nil .nil) (.node (o211_0 P) .nil .nil)) (.node (o115_0 P) (.node (o179_0 P) .nil .nil) .nil))) (.node (o27_0 P) (.node (x 43) (.node (x 75) (.node (o139_0 P) .nil .nil) (.node (o203_0 P) .nil .nil)) (.node (o107_0 P) (.node (o171_0 P) .nil .nil) .nil)) (.node (x 59) (.node (o91_0 P) (.node (o155_0 P) .nil .nil) .nil) (.node (o123_0 P) (.node (o187_0 P) .nil .nil) .nil))))) (.node (boot_o_5 P) (.node (boot_o_9 P) (.node (o17_0 P) (.node (o33_0 P) (.node (x 65) (.node (o129_0 P) .nil .nil) (.node (o193_0 P) .nil .nil)) (.node (o97_0 P) (.node (o161_0 P) .nil .nil) .nil)) (.node (x 49) (.node (o81_0 P) (.node (o145_0 P) .nil .nil) (.node (o209_0 P) .nil .nil)) (.node (o113_0 P) (.node (o177_0 P) .nil .nil) .nil))) (.node (o25_0 P) (.node (x 41) (.node (x 73) (.node (o137_0 P) .nil .nil) (.node (o201_0 P) .nil .nil)) (.node (o105_0 P) (.node (o169_0 P) .nil .nil) .nil)) (.node (x 57) (.node (o89_0 P) (.node (o153_0 P) .nil .nil) (.node (o217_0 P) .nil .nil)) (.node (o121_0 P) (.node (o185_0 P) .nil .nil) .nil)))) (.node (o13_0 P) (.node (o21_0 P) (.node (o37_0 P) (.node (x 69) (.node (o133_0 P) .nil .nil) (.node (o197_0 P) .nil .nil)) (.node (o101_0 P) (.node (o165_0 P) .nil .nil) .nil)) (.node (x 53) (.node (o85_0 P) (.node (o149_0 P) .nil .nil) (.node (o213_0 P) .nil .nil)) (.node (o117_0 P) (.node (o181_0 P) .nil .nil) .nil))) (.node (o29_0 P) (.node (x 45) (.node (x 77) (.node (o141_0 P) .nil .nil) (.node (o205_0 P) .nil .nil)) (.node (o109_0 P) (.node (o173_0 P) .nil .nil) .nil)) (.node (x 61) (.node (o93_0 P) (.node (o157_0 P) .nil .nil) .nil) (.node (o125_0 P) (.node (o189_0 P) .nil .nil) .nil)))))) (.node (boot_o_2 P) (.node (boot_o_4 P) (.node (boot_o_8 P) (.node (o16_0 P) (.node (o32_0 P) (.node (x 64) (.node (o128_0 P) .nil .nil) (.node (o192_0 P) .nil .nil)) (.node (o96_0 P) (.node (o160_0 P) .nil .nil) .nil)) (.node (x 48) (.node (o80_0 P) (.node (o144_0 P) .nil .nil) (.node (o208_0 P) .nil .nil)) (.node (o112_0 P) (.node (o176_0 P) .nil .nil) .nil))) (.node (o24_0 P) (.node (o40_0 P) (.node (x 72) (.node (o136_0 P) .nil .nil) (.node (o200_0 P) .nil .nil)) (.node (o104_0 P) (.node (o168_0 P) .nil .nil) .nil)) (.node (x 56) (.node (o88_0 P) (.node (o152_0 P) .nil .nil) (.node (o216_0 P) .nil .nil)) (.node (o120_0 P) (.node (o184_0 P) .nil .nil) .nil)))) (.node (o12_6 P) (.node (o20_0 P) (.node (o36_0 P) (.node (x 68) (.node (o132_0 P) .nil .nil) (.node (o196_0 P) .nil .nil)) (.node (o100_0 P) (.node (o164_0 P) .nil .nil) .nil)) (.node (x 52) (.node (o84_0 P) (.node (o148_0 P) .nil .nil) (.node (o212_0 P) .nil .nil)) (.node (o116_0 P) (.node (o180_0 P) .nil .nil) .nil))) (.node (o28_0 P) (.node (x 44) (.node (x 76) (.node (o140_0 P) .nil .nil) (.node (o204_0 P) .nil .nil)) (.node (o108_0 P) (.node (o172_0 P) .nil .nil) .nil)) (.node (x 60) (.node (o92_0 P) (.node (o156_0 P) .nil .nil) .nil) (.node (o124_0 P) (.node (o188_0 P) .nil .nil) .nil))))) (.node (boot_o_6 P) (.node (boot_o_10 P) (.node (o18_0 P) (.node (o34_0 P) (.node (x 66) (.node (o130_0 P) .nil .nil) (.node (o194_0 P) .nil .nil)) (.node (o98_0 P) (.node (o162_0 P) .nil .nil) .nil)) (.node (x 50) (.node (o82_0 P) (.node (o146_0 P) .nil .nil) (.node (o210_0 P) .nil .nil)) (.node (o114_0 P) (.node (o178_0 P) .nil .nil) .nil))) (.node (o26_0 P) (.node (x 42) (.node (x 74) (.node (o138_0 P) .nil .nil) (.node (o202_0 P) .nil .nil)) (.node (o106_0 P) (.node (o170_0 P) .nil .nil) .nil)) (.node (x 58) (.node (o90_0 P) (.node (o154_0 P) .nil .nil) (.node (o218_0 P) .nil .nil)) (.node (o122_0 P) (.node (o186_0 P) .nil .nil) .nil)))) (.node (o14_0 P) (.node (o22_0 P) (.node (o38_0 P) (.node (x 70) (.node (o134_0 P) .nil .nil) (.node (o198_0 P) .nil .nil)) (.node (o102_0 P) (.node (o166_0 P) .nil .nil) .nil)) (.node (x 54) (.node (o86_0 P) (.node (o150_0 P) .nil .nil) (.node (o214_0 P) .nil .nil)) (.node (o118_0 P) (.node (o182_0 P) .nil .nil) .nil))) (.node (o30_0 P) (.node (x 46) (.node (x 78) (.node (o142_0 P) .nil .nil) (.node (o206_0 P) .nil .nil)) (.node (o110_0 P) (.node (o174_0 P) .nil .nil) .nil)) (.node (x 62) (.node (o94_0 P) (.node (o158_0 P) .nil .nil) .nil) (.node (o126_0 P) (.node (o190_0 P) .nil .nil) .nil)))))))
noncomputable def S22 (w : World) (x : Nat → Obj) (os : OsState) : SharedT := ⟨T22 w.params x, 219, lifeR, #[], drawnR, 2427, os⟩

noncomputable def envR : Env := { scope := pw.main.scope, locals := mainNs, globals := mainNs, cells := [], code := .ref 13, frame := some 14 }
noncomputable def cR : Code := .body (behindTheImports pw) envR
noncomputable abbrev qR : Pos := ⟨0, 0, 0, 0⟩
noncomputable abbrev annR : Option Value := some (.ref 6)
theorem pre_R : ∀ (w : World) (os : OsState), topGo treeTable pw w 11 annR 12 ⟨boot_heap w.params, #[], boot_drawn, boot_toks, os⟩ (topStub pw) = some (⟨Ha w.params, #[], drawnR, 187, os⟩, ⟨denote treeTable cR, cR, qR, [topFrame qR]⟩) := fun w os => by kernel_rfl
theorem heap_R : ∀ P : Params, Ha P = absHeap (Tb P) 15 lifeR := fun P => by kernel_rfl
theorem block_R : ∀ (w : World) (os : OsState), segRunT treeTable pw w 11 annR 1 1 (Sb w os) (blockOf (behindTheImports pw) envR cR qR [topFrame qR]) = some (.next, Sb w os, cR, qR) := fun w os => by kernel_rfl
theorem g0_R : ∀ (w : World) (os : OsState), segRunT treeTable pw w 11 annR 1 40 (Sb w os) (piecesOf [st 0, st 1] envR cR qR [topFrame qR]) = some (.next, S1 w os, cR, ⟨4, 0, 4, 8⟩) := fun w os => by kernel_rfl
end MineH

/-! HeadU -/
namespace MineH
open Mine PySem PySem.W PySem.Calls PyProof.Rows
noncomputable def G2 (w : World) : Prop := ∀ os : OsState, segRunT treeTable pw w 11 annR 1 1010 (S1 w os) (piecesOf [st 2] envR cR ⟨4, 0, 4, 8⟩ [topFrame qR]) = some (.next, S2 w os, cR, ⟨5, 0, 5, 6⟩)
theorem g2_ff (w : World) : G2 ((w.withFollow "special-get-raises" false).withFollow "set-order" false) := fun os => by rw [PySem.W.Fast.te10110043849684766642, PySem.W.Fast.te14364793385576792824]; kernel_rfl
theorem g2_ft (w : World) : G2 ((w.withFollow "special-get-raises" true).withFollow "set-order" false) := fun os => by rw [PySem.W.Fast.te10110043849684766642, PySem.W.Fast.te14364793385576792824]; kernel_rfl
theorem g2_tf (w : World) : G2 ((w.withFollow "special-get-raises" false).withFollow "set-order" true) := fun os => by rw [PySem.W.Fast.te10110043849684766642, PySem.W.Fast.te14364793385576792824]; kernel_rfl
theorem g2_tt (w : World) : G2 ((w.withFollow "special-get-raises" true).withFollow "set-order" true) := fun os => by rw [PySem.W.Fast.te10110043849684766642, PySem.W.Fast.te14364793385576792824]; kernel_rfl
theorem g2_R (w : World) : G2 w := byRow2 "set-order" (P := G2) (fun w => byRow2 "special-get-raises" (P := fun w => G2 (w.withFollow "set-order" false)) g2_ff g2_ft w) (fun w => byRow2 "special-get-raises" (P := fun w => G2 (w.withFollow "set-order" true)) g2_tf g2_tt w) w
noncomputable def G6 (w : World) : Prop := ∀ (x : Nat → Obj) (os : OsState), segRunT treeTable pw w 11 annR 1 400 (S5 w x os) (piecesOf [st 6] envR cR ⟨9, 0, 13, 23⟩ [topFrame qR]) = some (.next, S6 w x os, cR, ⟨14, 0, 14, 6⟩)
theorem g6_ff (w : World) : G6 ((w.withFollow "special-get-raises" false).withFollow "set-order" false) := fun x os => by rw [PySem.W.Fast.te10110043849684766642, PySem.W.Fast.te14364793385576792824]; kernel_rfl
theorem g6_ft (w : World) : G6 ((w.withFollow "special-get-raises" true).withFollow "set-order" false) := fun x os => by rw [PySem.W.Fast.te10110043849684766642, PySem.W.Fast.te14364793385576792824]; kernel_rfl
theorem g6_tf (w : World) : G6 ((w.withFollow "special-get-raises" false).withFollow "set-order" true) := fun x os => by rw [PySem.W.Fast.te10110043849684766642, PySem.W.Fast.te14364793385576792824]; kernel_rfl
theorem g6_tt (w : World) : G6 ((w.withFollow "special-get-raises" true).withFollow "set-order" true) := fun x os => by rw [PySem.W.Fast.te10110043849684766642, PySem.W.Fast.te14364793385576792824]; kernel_rfl
theorem g6_R (w : World) : G6 w := byRow2 "set-order" (P := G6) (fun w => byRow2 "special-get-raises" (P := fun w => G6 (w.withFollow "set-order" false)) g6_ff g6_ft w) (fun w => byRow2 "special-get-raises" (P := fun w => G6 (w.withFollow "set-order" true)) g6_tf g6_tt w) w
noncomputable def G9 (w : World) : Prop := ∀ (x : Nat → Obj) (os : OsState), segRunT treeTable pw w 11 annR 1 520 (S8 w x os) (piecesOf [st 9] envR cR ⟨17, 0, 17, 8⟩ [topFrame qR]) = some (.next, S9 w x os, cR, ⟨18, 0, 60, 16⟩)
theorem g9_f (w : World) : G9 (w.withFollow "special-get-raises" false) := fun x os => by rw [PySem.W.Fast.te10110043849684766642, PySem.W.Fast.te14364793385576792824]; kernel_rfl
theorem g9_t (w : World) : G9 (w.withFollow "special-get-raises" true) := fun x os => by rw [PySem.W.Fast.te10110043849684766642, PySem.W.Fast.te14364793385576792824]; kernel_rfl
theorem g9_R (w : World) : G9 w := byRow2 "special-get-raises" (P := G9) g9_f g9_t w
theorem g3_R : ∀ (w : World) (os : OsState), segRunT treeTable pw w 11 annR 1 40 (S2 w os) (piecesOf [st 3] envR cR ⟨5, 0, 5, 6⟩ [topFrame qR]) = some (.next, S3 w os, cR, ⟨6, 0, 7, 30⟩) := fun w os => by kernel_rfl
theorem g5_R : ∀ (w : World) (x : Nat → Obj) (os : OsState), segRunT treeTable pw w 11 annR 1 40 (S4 w x os) (piecesOf [st 5] envR cR ⟨8, 0, 8, 13⟩ [topFrame qR]) = some (.next, S5 w x os, cR, ⟨9, 0, 13, 23⟩) := fun w x os => by kernel_rfl
theorem g8_R : ∀ (w : World) (x : Nat → Obj) (os : OsState), segRunT treeTable pw w 11 annR 1 50 (S6 w x os) (piecesOf [st 7, st 8] envR cR ⟨14, 0, 14, 6⟩ [topFrame qR]) = some (.next, S8 w x os, cR, ⟨17, 0, 17, 8⟩) := fun w x os => by kernel_rfl
theorem g22_R : ∀ (w : World) (x : Nat → Obj) (os : OsState), segRunT treeTable pw w 11 annR 1 400 (S9 w x os) (piecesOf [st 10, st 11, st 12, st 13, st 14, st 15, st 16, st 17, st 18, st 19, st 20, st 21, st 22] envR cR ⟨18, 0, 60, 16⟩ [topFrame qR]) = some (.next, S22 w x os, cR, ⟨150, 0, 166, 46⟩) := fun w x os => by kernel_rfl
end MineH

/-! HeadV -/
namespace MineH
open Mine PySem PySem.W PySem.Calls PyProof.Rows
noncomputable def dT : Stmt → PySem.Expr
  | .Assign (t :: _) _ _ => t
  | _ => .Constant .none 0 ⟨0, 0, 0, 0⟩
noncomputable def dK : Stmt → List (Option PySem.Expr)
  | .Assign _ (.Dict ks _ _) _ => ks
  | _ => []
noncomputable def dV : Stmt → List PySem.Expr
  | .Assign _ (.Dict _ vs _) _ => vs
  | _ => []
noncomputable def dP : Stmt → Pos
  | .Assign _ (.Dict _ _ p) _ => p
  | _ => ⟨0, 0, 0, 0⟩
noncomputable def dA : Stmt → Pos
  | .Assign _ _ a => a
  | _ => ⟨0, 0, 0, 0⟩
theorem st4 : st 4 = .Assign [dT (st 4)] (.Dict (dK (st 4)) (dV (st 4)) (dP (st 4))) (dA (st 4)) := by kernel_rfl
theorem get4 : getE (dK (st 4)) (dV (st 4)) = some lR := by kernel_rfl
theorem len4 : lR.length = 17 * 38 + 4 := by kernel_rfl
noncomputable def asc : List Int → Bool
  | [] => true
  | [_] => true
  | a :: b :: l => decide (a < b) && asc (b :: l)
theorem asc_pw : ∀ l : List Int, asc l = true → l.Pairwise (· < ·)
  | [], _ => List.Pairwise.nil
  | [a], _ => List.pairwise_singleton _ _
  | a :: b :: l, h => by
    simp only [asc, Bool.and_eq_true, decide_eq_true_eq] at h
    have ih := asc_pw (b :: l) h.2
    refine List.Pairwise.cons (fun c hc => ?_) ih
    rcases List.mem_cons.mp hc with rfl | hc
    · exact h.1
    · exact Int.lt_trans h.1 ((List.pairwise_cons.mp ih).1 c hc)
theorem asc4 : asc (hsh lR) = true := by kernel_rfl
theorem nd4 : (hsh lR).Nodup := (asc_pw _ asc4).imp (fun h => Int.ne_of_lt h)
theorem elen4 : (entsD lR 38 263).length = 650 := by kernel_rfl
theorem dobj4 (P : Params) : dObj (entsD lR 38 263) = o40_0 P := by
  unfold dObj
  rw [elen4]
  rfl
/-- pushes, on a tree -/
noncomputable def insAll (t : BT) (n : Nat) : List Obj → BT
  | [] => t
  | o :: l => insAll (t.ins n o) (n + 1) l
noncomputable def insOk (t : BT) (n : Nat) : List Obj → Bool
  | [] => true
  | o :: l => ((t.ins n o).get n).isSome && insOk (t.ins n o) (n + 1) l
theorem pushes_abs {life : Life} : ∀ (l : List Obj) (t : BT) (n : Nat), insOk t n l = true → pushes (absHeap t n life) l = absHeap (insAll t n l) (n + l.length) life
  | [], _, _, _ => rfl
  | o :: l, t, n, h => by
    obtain ⟨h1, h2⟩ := Bool.and_eq_true_iff.mp h
    have e : n + (o :: l).length = n + 1 + l.length := by rw [List.length_cons]; omega
    rw [pushes, ← absHeap_ins h1, pushes_abs l _ _ h2, e]
    rfl
theorem ins_R (P : Params) (x : Nat → Obj) : insAll (T3 P) 40 (o40_0 P :: (List.range' 41 38).map x) = Tm P x := by kernel_rfl
theorem insOk_R (P : Params) (x : Nat → Obj) : insOk (T3 P) 40 (o40_0 P :: (List.range' 41 38).map x) = true := by kernel_rfl
theorem list_of {subs : List Obj} (h : subs.length = 38) : (List.range' 41 38).map (fun i => subs.getD (i - 41) default) = subs := by
  refine List.ext_getElem (by simp [h]) fun i h1 h2 => ?_
  simp only [List.getElem_map, List.getElem_range', List.getD_eq_getElem?_getD]
  rw [show 41 + 1 * i - 41 = i by omega, List.getElem?_eq_getElem h2]
  rfl
noncomputable def Sm (w : World) (x : Nat → Obj) (os : OsState) : SharedT := ⟨Tm w.params x, 79, lifeR, #[], drawnR, 2213, os⟩
theorem g4b_R (w : World) (x : Nat → Obj) (os : OsState) (q : Pos) : segRunT treeTable pw w 11 annR 1 40 (Sm w x os) ⟨(restD (dT (st 4)) (dK (st 4)) (dV (st 4)) (dP (st 4)) envR (.ref 40)).wrap doneF deadEnd id id, cR, q, [topFrame qR]⟩ = some (.next, S4 w x os, cR, ⟨8, 0, 8, 13⟩) := by kernel_rfl
theorem g4_R (w : World) (os : OsState) : ∃ n x, n ≤ 15700 ∧ segRun treeTable pw w 11 annR 1 n (S3 w os).abs (pieceOf (st 4) envR cR ⟨6, 0, 7, 30⟩ [topFrame qR]) = some (.next, (S4 w x os).abs, cR, ⟨8, 0, 8, 13⟩) := by
  have hsz : (S3 w os).abs.heap.objs.size = 40 := absHeap_size _ _ _
  obtain ⟨n, subs, q', hn, hs, g⟩ := go_stmt (p := pw) (w := w) (n₀ := 11) (ann := annR) (t := dT (st 4)) (pos := dP (st 4)) (apos := dA (st 4)) (env := envR) (s := (S3 w os).abs) (q := ⟨6, 0, 7, 30⟩) (b := behindTheImports pw) (fr := topFrame qR) get4 len4 (by omega) (by omega) nd4 (by rw [len4]; decide) (by rw [hsz]; rfl) (by rw [hsz]; decide)
  refine ⟨n + 40, fun i => subs.getD (i - 41) default, by omega, ?_⟩
  rw [← st4, hsz, len4] at g
  have e : ({ (S3 w os).abs with heap := pushes ((S3 w os).abs.heap.push (dObj (entsD lR 38 (S3 w os).abs.toks))) subs, toks := (S3 w os).abs.toks + 3 * (17 * 38 + 4) } : Shared) = (Sm w (fun i => subs.getD (i - 41) default) os).abs := by
    have h1 : pushes ((S3 w os).abs.heap.push (dObj (entsD lR 38 (S3 w os).abs.toks))) subs = absHeap (Tm w.params (fun i => subs.getD (i - 41) default)) 79 lifeR := by
      show pushes (absHeap (T3 w.params) 40 lifeR) (dObj (entsD lR 38 263) :: subs) = _
      rw [dobj4 w.params]
      have h2 := pushes_abs (life := lifeR) _ _ _ (insOk_R w.params (fun i => subs.getD (i - 41) default))
      rw [ins_R, list_of hs] at h2
      rw [h2, List.length_cons, hs]
    rw [h1]
    rfl
  rw [e] at g
  exact seg_go g (segRun_of (g4b_R w _ os q'))
end MineH

/-! HeadW -/
namespace MineH
open Mine PySem PySem.W PySem.Calls PyProof.Rows
theorem body_R : behindTheImports pw = [st 0, st 1] ++ ([st 2] ++ ([st 3] ++ (st 4 :: ([st 5] ++ ([st 6] ++ ([st 7, st 8] ++ ([st 9] ++ ([st 10, st 11, st 12, st 13, st 14, st 15, st 16, st 17, st 18, st 19, st 20, st 21, st 22] ++ [])))))))) := by kernel_rfl
theorem fin_R (w : World) (s : Shared) : topRun treeTable pw w 11 annR 3 s ⟨doneF .next, cR, ⟨150, 0, 166, 46⟩, [topFrame qR]⟩ = some s := by
  obtain ⟨h, g, d, t, os⟩ := s
  kernel_rfl
theorem run_R (w : World) (os : OsState) : ∃ N x, N ≤ 29716 ∧ topRun treeTable pw w 11 annR N ⟨boot_heap w.params, #[], boot_drawn, boot_toks, os⟩ (topStub pw) = some (S22 w x os).abs := by
  obtain ⟨n, x, hn, h4⟩ := g4_R w os
  have k9 := piece_app (segRun_of (g22_R w x os)) (piece_nil (fin_R w (S22 w x os).abs))
  have k8 := piece_app (segRun_of (g9_R w x os)) k9
  have k7 := piece_app (segRun_of (g8_R w x os)) k8
  have k6 := piece_app (segRun_of (g6_R w x os)) k7
  have k5 := piece_app (segRun_of (g5_R w x os)) k6
  have k4 := piece_cons h4 k5
  have k3 := piece_app (segRun_of (g3_R w os)) k4
  have k2 := piece_app (segRun_of (g2_R w os)) k3
  have k0 := piece_app (segRun_of (g0_R w os)) k2
  rw [← body_R] at k0
  have kb := piece_block (segRun_of (block_R w os)) k0
  have hp := pre_R w os
  rw [heap_R] at hp
  exact ⟨_, x, by omega, go_top hp kb⟩
end MineH

/-! HeadX -/
namespace MineH
open Mine PySem PySem.W PySem.Calls PyProof.Rows
noncomputable def Hf (P : Params) (x : Nat → Obj) : Heap := ⟨⟨(boot_o_0 P) :: (boot_o_1 P) :: (boot_o_2 P) :: (o3_9 P) :: (boot_o_4 P) :: (boot_o_5 P) :: (boot_o_6 P) :: (boot_o_7 P) :: (boot_o_8 P) :: (boot_o_9 P) :: (boot_o_10 P) :: (o11_0 P) :: (o12_6 P) :: (o13_0 P) :: (o14_0 P) :: (o15_0 P) :: (o16_0 P) :: (o17_0 P) :: (o18_0 P) :: (o19_0 P) :: (o20_0 P) :: (o21_0 P) :: (o22_0 P) :: (o23_0 P) :: (o24_0 P) :: (o25_0 P) :: (o26_0 P) :: (o27_0 P) :: (o28_0 P) :: (o29_0 P) :: (o30_0 P) :: (o31_0 P) :: (o32_0 P) :: (o33_0 P) :: (o34_0 P) :: (o35_0 P) :: (o36_0 P) :: (o37_0 P) :: (o38_0 P) :: (o39_0 P) :: (o40_0 P) :: (x 41) :: (x 42) :: (x 43) :: (x 44) :: (x 45) :: (x 46) :: (x 47) :: (x 48) :: (x 49) :: (x 50) :: (x 51) :: (x 52) :: (x 53) :: (x 54) :: (x 55) :: (x 56) :: (x 57) :: (x 58) :: (x 59) :: (x 60) :: (x 61) :: (x 62) :: (x 63) :: (x 64) :: (x 65) :: (x 66) :: (x 67) :: (x 68) :: (x 69) :: (x 70) :: (x 71) :: (x 72) :: (x 73) :: (x 74) :: (x 75) :: (x 76) :: (x 77) :: (x 78) :: (o79_0 P) :: (o80_0 P) :: (o81_0 P) :: (o82_0 P) :: (o83_0 P) :: (o84_0 P) :: (o85_0 P) :: (o86_0 P) :: (o87_0 P) :: (o88_0 P) :: (o89_0 P) :: (o90_0 P) :: (o91_0 P) :: (o92_0 P) :: (o93_0 P) :: (o94_0 P) :: (o95_0 P) :: (o96_0 P) :: (o97_0 P) :: (o98_0 P) :: (o99_0 P) :: (o100_0 P) :: (o101_0 P) :: (o102_0 P) :: (o103_0 P) :: (o104_0 P) :: (o105_0 P) :: (o106_0 P) :: (o107_0 P) :: (o108_0 P) :: (o109_0 P) :: (o110_0 P) :: (o111_0 P) :: (o112_0 P) :: (o113_0 P) :: (o114_0 P) :: (o115_0 P) :: (o116_0 P) :: (o117_0 P) :: (o118_0 P) :: (o119_0 P) :: (o120_0 P) :: (o121_0 P) :: (o122_0 P) :: (o123_0 P) :: (o124_0 P) :: (o125_0 P) :: (o126_0 P) :: (o127_0 P) :: (o128_0 P) :: (o129_0 P) :: (o130_0 P) :: (o131_0 P) :: (o132_0 P) :: (o133_0 P) :: (o134_0 P) :: (o135_0 P) :: (o136_0 P) :: (o137_0 P) :: (o138_0 P) :: (o139_0 P) :: (o140_0 P) :: (o141_0 P) :: (o142_0 P) :: (o143_0 P) :: (o144_0 P) :: (o145_0 P) :: (o146_0 P) :: (o147_0 P) :: (o148_0 P) :: (o149_0 P) :: (o150_0 P) :: (o151_0 P) :: (o152_0 P) :: (o153_0 P) :: (o154_0 P) :: (o155_0 P) :: (o156_0 P) :: (o157_0 P) :: (o158_0 P) :: (o159_0 P) :: (o160_0 P) :: (o161_0 P) :: (o162_0 P) :: (o163_0 P) :: (o164_0 P) :: (o165_0 P) :: (o166_0 P) :: (o167_0 P) :: (o168_0 P) :: (o169_0 P) :: (o170_0 P) :: (o171_0 P) :: (o172_0 P) :: (o173_0 P) :: (o174_0 P) :: (o175_0 P) :: (o176_0 P) :: (o177_0 P) :: (o178_0 P) :: (o179_0 P) :: (o180_0 P) :: (o181_0 P) :: (o182_0 P) :: (o183_0 P) :: (o184_0 P) :: (o185_0 P) :: (o186_0 P) :: (o187_0 P) :: (o188_0 P) :: (o189_0 P) :: (o190_0 P) :: (o191_0 P) :: (o192_0 P) :: (o193_0 P) :: (o194_0 P) :: (o195_0 P) :: (o196_0 P) :: (o197_0 P) :: (o198_0 P) :: (o199_0 P) :: (o200_0 P) :: (o201_0 P) :: (o202_0 P) :: (o203_0 P) :: (o204_0 P) :: (o205_0 P) :: (o206_0 P) :: (o207_0 P) :: (o208_0 P) :: (o209_0 P) :: (o210_0 P) :: (o211_0 P) :: (o212_0 P) :: (o213_0 P) :: (o214_0 P) :: (o215_0 P) :: (o216_0 P) :: (o217_0 P) :: (o218_0 P) :: []⟩, lifeR⟩
noncomputable def Sf (w : World) (x : Nat → Obj) (os : OsState) : Shared := ⟨Hf w.params x, #[], drawnR, 2427, os⟩
theorem abs_R (w : World) (x : Nat → Obj) (os : OsState) : (S22 w x os).abs = Sf w x os := by kernel_rfl
end MineH

/-! HeadY -/
namespace Mine
open MineH PySem PySem.W PySem.Calls PyProof.Rows
noncomputable abbrev rR : RowW := OpenRow.toRowW PySem.Challenge.rw_re0162_01.row
noncomputable abbrev hookR := kHook devHeap kAddrs (fun _ => by kernel_rfl)
noncomputable def ascKeys : Int → List (PyData × PyData) → Bool
  | _, [] => true
  | m, (.int k, _) :: D => decide (m < k) && ascKeys k D
  | _, _ => false
theorem asc_has : ∀ (D : List (PyData × PyData)) (m k : Int), ascKeys m D = true → k ≤ m → hasIntKey k D = false
  | [], _, _, _, _ => rfl
  | (.int j, _) :: D, m, k, h, hk => by
    simp only [ascKeys, Bool.and_eq_true, decide_eq_true_eq] at h
    simp only [hasIntKey, asc_has D j k h.2 (by omega), Bool.or_false, beq_eq_false_iff_ne]
    omega
  | (.none, _) :: D, m, k, h, _ => by simp [ascKeys] at h
  | (.bool _, _) :: D, m, k, h, _ => by simp [ascKeys] at h
  | (.str _, _) :: D, m, k, h, _ => by simp [ascKeys] at h
theorem asc_apart : ∀ (D : List (PyData × PyData)) (m : Int), ascKeys m D = true → keysApartInt D = true
  | [], _, _ => rfl
  | (.int j, _) :: D, m, h => by
    simp only [ascKeys, Bool.and_eq_true, decide_eq_true_eq] at h
    simp only [keysApartInt, asc_has D j j h.2 (Int.le_refl _), asc_apart D j h.2, Bool.not_false, Bool.and_self]
  | (.none, _) :: D, m, h => by simp [ascKeys] at h
  | (.bool _, _) :: D, m, h => by simp [ascKeys] at h
  | (.str _, _) :: D, m, h => by simp [ascKeys] at h
theorem tabOk_of {h : Heap} {name : Str} {D : List (PyData × PyData)} {a : Addr} {o : Obj} {es : Array DictEntry} {n : Nat} (e1 : h.nsMap mainGlobals name = some (.ref a)) (e2 : h.get? a = some o) (c : o.cls = .type "dict") (d : o.dict = none) (dt : o.data = .dict es n) (sl : o.slots = #[])
    (he : entriesAreInt es.toList D = true) (ha : ascKeys (-1) D = true) (hs : (a != sysModules) = true) : h.tabIntOk name D = true := by
  unfold Heap.tabIntOk
  rw [e1]
  dsimp only
  rw [e2]
  dsimp only
  rw [c, d, dt, sl]
  dsimp only
  rw [he, asc_apart D _ ha, hs]
  rfl
theorem all_but {l : List Str} {f : Str → Bool} (b : Str) (h : l.all (fun x => x == b || f x) = true) (hb : f b = true) : l.all f = true := by
  refine List.all_eq_true.mpr fun x hx => ?_
  rcases Bool.or_eq_true_iff.mp (List.all_eq_true.mp h x hx) with e | e
  · rw [beq_iff_eq.mp e]; exact hb
  · exact e
noncomputable def dR : List (PyData × PyData) := (tabIntOf devView (Str.ofString "b3_exceptions")).getD []
section
variable (w : World) (x : Nat → Obj) (os : OsState)
theorem look0 : (staticsOk (importedModules pw.main.body) (boot_heap w.params) (Hf w.params x) && namesBound pw (Hf w.params x) && gensDone (Sf w x os) && laidKept (boot_heap w.params) (Hf w.params x)) = true := by kernel_rfl
theorem look1 : seen ((recsOf devView).map (·.name)) (ownsOf devView) [] { Sf w x os with gens := #[] } = expectedOf devView := by kernel_rfl
theorem look2 : (Sf w x os).heap.bltView = bltViewBooted := by kernel_rfl
theorem look3a : (Sf w x os).heap.keysOk (looseW devView looseR) ((recsOf devView).map (·.name)) ((litsOf devView).map (·.1)) ((clssOf devView (looseW devView looseR)).map (·.name)) = true := by kernel_rfl
theorem look3b : (Sf w x os).heap.accountedOkI (importedModules pw.main.body) = true := by kernel_rfl
theorem look3c : (Sf w x os).heap.isNs mainGlobals = true := by kernel_rfl
theorem look3d : (Sf w x os).heap.isNs builtinsNs = true := by kernel_rfl
theorem tab3 : tabIntOf devView (Str.ofString "b3_exceptions") = some dR := by kernel_rfl
theorem tab4 : (Sf w x os).heap.tabIntOk (Str.ofString "b3_exceptions") dR = true :=
  tabOk_of (a := 40) (o := o40_0 w.params) (es := es40) (n := 650) (by kernel_rfl) (by kernel_rfl) rfl rfl rfl rfl (by kernel_rfl) (by kernel_rfl) (by kernel_rfl)
theorem look3e : tablesOk devView (Sf w x os).heap = true := by
  unfold tablesOk
  refine all_but (Str.ofString "b3_exceptions") (by kernel_rfl) ?_
  refine Bool.and_eq_true_iff.mpr ⟨Bool.and_eq_true_iff.mpr ⟨by kernel_rfl, by kernel_rfl⟩, ?_⟩
  have e3 := tab3
  have e4 := tab4 w x os
  generalize (Sf w x os).heap = hh at e4 ⊢
  generalize dR = dd at e3 e4
  generalize tabIntOf devView (Str.ofString "b3_exceptions") = oo at e3 ⊢
  subst e3
  exact e4
theorem look3f : (xlAt devView [] (Sf w x os) && recOk rR.records (Sf w x os)) = true := by kernel_rfl
theorem look4 : tabsOk devView (Sf w x os) = true := by kernel_rfl
theorem look5 : pinSeenD devView (drecsOf devView) (Sf w x os) = pinGoodD (drecsOf devView) := by kernel_rfl
theorem look6 : plainSeenE devView (looseW devView looseR) (Sf w x os) = plainGoodE devView (looseW devView looseR) := by kernel_rfl
theorem look7 : plainSeenD devView looseR (Sf w x os) = plainGoodD devView looseR := by kernel_rfl
theorem look8 : wideSeen devView (Sf w x os) = wideGood devView := by kernel_rfl
theorem look9 : clsSeenW devView looseR (Sf w x os) = clsGoodW devView looseR := by kernel_rfl
theorem look10 : hookR.obs (Sf w x os) = hookR.val w := by kernel_rfl
theorem size1 : ((boot_heap w.params).isNs mainGlobals && (#[] : Array GenState).size == 0) = true := by kernel_rfl
theorem size2 : (boot_heap w.params).objs.size = 11 := by kernel_rfl
theorem size3 : (boot_heap w.params).nsMap mainGlobals "__annotations__" = annR := by kernel_rfl
theorem look3 : ((Sf w x os).heap.keysOk (looseW devView looseR) ((recsOf devView).map (·.name)) ((litsOf devView).map (·.1)) ((clssOf devView (looseW devView looseR)).map (·.name)) && (Sf w x os).heap.accountedOkI (importedModules pw.main.body) && (Sf w x os).heap.isNs mainGlobals && (Sf w x os).heap.isNs builtinsNs && tablesOk devView (Sf w x os).heap && (xlAt devView [] (Sf w x os) && recOk rR.records (Sf w x os)) && (if true then (Sf w x os).gens.size == 0 else !leftWithCleanup (Sf w x os).gens)) = true := by
  rw [look3a, look3b, look3c, look3d, look3e, look3f]
  rfl
theorem looks : openSeen devView looseR (importedModules pw.main.body) (fun s => xlAt devView [] s && recOk rR.records s) true (Sf w x os) = openGood devView looseR :=
  looks_pair (look1 w x os) (looks_pair (look2 w x os) (looks_pair (look3 w x os) (looks_pair (look4 w x os) (looks_pair (look5 w x os) (looks_pair (look6 w x os) (looks_pair (look7 w x os) (looks_pair (look8 w x os) (look9 w x os))))))))
end
theorem leftR : LeftO PySem.Challenge.rw_re0162_01.row.prog devView looseR (fun s => xlAt devView [] s && recOk rR.records s) hookR.obs hookR.val 29716 := fun w => by
  obtain ⟨⟨h, gs, d, k, os⟩, e, e'⟩ := Option.map_eq_some_iff.mp (boot_open (p := pw) (N := 29716) (by kernel_rfl) (by kernel_rfl) (fun s => by kernel_rfl) w)
  obtain ⟨rfl, rfl, rfl, rfl⟩ : h = boot_heap w.params ∧ gs = #[] ∧ d = boot_drawn ∧ k = boot_toks := by simpa using e'
  obtain ⟨N, x, hN, r⟩ := run_R w os
  have r2 := topRun_mono (29716 - N) _ _ _ _ r
  rw [show N + (29716 - N) = 29716 by omega, abs_R] at r2
  have t : topFrom treeTable pw w 29716 ⟨boot_heap w.params, #[], boot_drawn, boot_toks, os⟩ = some (Sf w x os) := by
    unfold topFrom
    dsimp only
    rw [size1, size2, size3, r2]
    show (match staticsOk (importedModules pw.main.body) (boot_heap w.params) (Hf w.params x) && namesBound pw (Hf w.params x) && gensDone (Sf w x os) && laidKept (boot_heap w.params) (Hf w.params x) with | true => some (Sf w x os) | false => none) = _
    rw [look0]
  show (openEnds treeTable pw w 29716).map _ = _
  unfold openEnds
  rw [e]
  show (topFrom treeTable pw w 29716 _).map _ = _
  rw [t]
  exact congrArg some (Prod.ext (looks w x os) (look10 w x os))
end Mine

/-! Base -/
namespace Mine
open PySem PySem.W PyProof.Rows PySem.Calls PySem.Spec

theorem kfill0 : (fun (_ : OpenLaw) (_ : Params → Frag) => True) PySem.Challenge.rw_re0162_01 devHeap := by k_fill; trivial

/-- several things at once, in one step -/
inductive Ex3 {α1 α2 α3 : Type} (P : α1 → α2 → α3 → Prop) : Prop
  | mk (a1 : α1) (a2 : α2) (a3 : α3) (h : P a1 a2 a3)
inductive Ex4 {α1 α2 α3 α4 : Type} (P : α1 → α2 → α3 → α4 → Prop) : Prop
  | mk (a1 : α1) (a2 : α2) (a3 : α3) (a4 : α4) (h : P a1 a2 a3 a4)
inductive Ex5 {α1 α2 α3 α4 α5 : Type} (P : α1 → α2 → α3 → α4 → α5 → Prop) : Prop
  | mk (a1 : α1) (a2 : α2) (a3 : α3) (a4 : α4) (a5 : α5) (h : P a1 a2 a3 a4 a5)
inductive Ex6 {α1 α2 α3 α4 α5 α6 : Type} (P : α1 → α2 → α3 → α4 → α5 → α6 → Prop) : Prop
  | mk (a1 : α1) (a2 : α2) (a3 : α3) (a4 : α4) (a5 : α5) (a6 : α6) (h : P a1 a2 a3 a4 a5 a6)
inductive Ex7 {α1 α2 α3 α4 α5 α6 α7 : Type} (P : α1 → α2 → α3 → α4 → α5 → α6 → α7 → Prop) : Prop
  | mk (a1 : α1) (a2 : α2) (a3 : α3) (a4 : α4) (a5 : α5) (a6 : α6) (a7 : α7) (h : P a1 a2 a3 a4 a5 a6 a7)
inductive Ex8 {α1 α2 α3 α4 α5 α6 α7 α8 : Type} (P : α1 → α2 → α3 → α4 → α5 → α6 → α7 → α8 → Prop) : Prop
  | mk (a1 : α1) (a2 : α2) (a3 : α3) (a4 : α4) (a5 : α5) (a6 : α6) (a7 : α7) (a8 : α8) (h : P a1 a2 a3 a4 a5 a6 a7 a8)
inductive Ex9 {α1 α2 α3 α4 α5 α6 α7 α8 α9 : Type} (P : α1 → α2 → α3 → α4 → α5 → α6 → α7 → α8 → α9 → Prop) : Prop
  | mk (a1 : α1) (a2 : α2) (a3 : α3) (a4 : α4) (a5 : α5) (a6 : α6) (a7 : α7) (a8 : α8) (a9 : α9) (h : P a1 a2 a3 a4 a5 a6 a7 a8 a9)
inductive Ex12 {α1 α2 α3 α4 α5 α6 α7 α8 α9 α10 α11 α12 : Type} (P : α1 → α2 → α3 → α4 → α5 → α6 → α7 → α8 → α9 → α10 → α11 → α12 → Prop) : Prop
  | mk (a1 : α1) (a2 : α2) (a3 : α3) (a4 : α4) (a5 : α5) (a6 : α6) (a7 : α7) (a8 : α8) (a9 : α9) (a10 : α10) (a11 : α11) (a12 : α12) (h : P a1 a2 a3 a4 a5 a6 a7 a8 a9 a10 a11 a12)
inductive Ex15 {α1 α2 α3 α4 α5 α6 α7 α8 α9 α10 α11 α12 α13 α14 α15 : Type} (P : α1 → α2 → α3 → α4 → α5 → α6 → α7 → α8 → α9 → α10 → α11 → α12 → α13 → α14 → α15 → Prop) : Prop
  | mk (a1 : α1) (a2 : α2) (a3 : α3) (a4 : α4) (a5 : α5) (a6 : α6) (a7 : α7) (a8 : α8) (a9 : α9) (a10 : α10) (a11 : α11) (a12 : α12) (a13 : α13) (a14 : α14) (a15 : α15) (h : P a1 a2 a3 a4 a5 a6 a7 a8 a9 a10 a11 a12 a13 a14 a15)
inductive Ex17 {α1 α2 α3 α4 α5 α6 α7 α8 α9 α10 α11 α12 α13 α14 α15 α16 α17 : Type} (P : α1 → α2 → α3 → α4 → α5 → α6 → α7 → α8 → α9 → α10 → α11 → α12 → α13 → α14 → α15 → α16 → α17 → Prop) : Prop
  | mk (a1 : α1) (a2 : α2) (a3 : α3) (a4 : α4) (a5 : α5) (a6 : α6) (a7 : α7) (a8 : α8) (a9 : α9) (a10 : α10) (a11 : α11) (a12 : α12) (a13 : α13) (a14 : α14) (a15 : α15) (a16 : α16) (a17 : α17) (h : P a1 a2 a3 a4 a5 a6 a7 a8 a9 a10 a11 a12 a13 a14 a15 a16 a17)
inductive Ex18 {α1 α2 α3 α4 α5 α6 α7 α8 α9 α10 α11 α12 α13 α14 α15 α16 α17 α18 : Type} (P : α1 → α2 → α3 → α4 → α5 → α6 → α7 → α8 → α9 → α10 → α11 → α12 → α13 → α14 → α15 → α16 → α17 → α18 → Prop) : Prop
  | mk (a1 : α1) (a2 : α2) (a3 : α3) (a4 : α4) (a5 : α5) (a6 : α6) (a7 : α7) (a8 : α8) (a9 : α9) (a10 : α10) (a11 : α11) (a12 : α12) (a13 : α13) (a14 : α14) (a15 : α15) (a16 : α16) (a17 : α17) (a18 : α18) (h : P a1 a2 a3 a4 a5 a6 a7 a8 a9 a10 a11 a12 a13 a14 a15 a16 a17 a18)
inductive Ex19 {α1 α2 α3 α4 α5 α6 α7 α8 α9 α10 α11 α12 α13 α14 α15 α16 α17 α18 α19 : Type} (P : α1 → α2 → α3 → α4 → α5 → α6 → α7 → α8 → α9 → α10 → α11 → α12 → α13 → α14 → α15 → α16 → α17 → α18 → α19 → Prop) : Prop
  | mk (a1 : α1) (a2 : α2) (a3 : α3) (a4 : α4) (a5 : α5) (a6 : α6) (a7 : α7) (a8 : α8) (a9 : α9) (a10 : α10) (a11 : α11) (a12 : α12) (a13 : α13) (a14 : α14) (a15 : α15) (a16 : α16) (a17 : α17) (a18 : α18) (a19 : α19) (h : P a1 a2 a3 a4 a5 a6 a7 a8 a9 a10 a11 a12 a13 a14 a15 a16 a17 a18 a19)
inductive All5 (P1 P2 P3 P4 P5 : Prop) : Prop
  | mk (h1 : P1) (h2 : P2) (h3 : P3) (h4 : P4) (h5 : P5)
inductive All6 (P1 P2 P3 P4 P5 P6 : Prop) : Prop
  | mk (h1 : P1) (h2 : P2) (h3 : P3) (h4 : P4) (h5 : P5) (h6 : P6)
inductive All8 (P1 P2 P3 P4 P5 P6 P7 P8 : Prop) : Prop
  | mk (h1 : P1) (h2 : P2) (h3 : P3) (h4 : P4) (h5 : P5) (h6 : P6) (h7 : P7) (h8 : P8)
inductive All9 (P1 P2 P3 P4 P5 P6 P7 P8 P9 : Prop) : Prop
  | mk (h1 : P1) (h2 : P2) (h3 : P3) (h4 : P4) (h5 : P5) (h6 : P6) (h7 : P7) (h8 : P8) (h9 : P9)
inductive All10 (P1 P2 P3 P4 P5 P6 P7 P8 P9 P10 : Prop) : Prop
  | mk (h1 : P1) (h2 : P2) (h3 : P3) (h4 : P4) (h5 : P5) (h6 : P6) (h7 : P7) (h8 : P8) (h9 : P9) (h10 : P10)
inductive All13 (P1 P2 P3 P4 P5 P6 P7 P8 P9 P10 P11 P12 P13 : Prop) : Prop
  | mk (h1 : P1) (h2 : P2) (h3 : P3) (h4 : P4) (h5 : P5) (h6 : P6) (h7 : P7) (h8 : P8) (h9 : P9) (h10 : P10) (h11 : P11) (h12 : P12) (h13 : P13)
inductive All14 (P1 P2 P3 P4 P5 P6 P7 P8 P9 P10 P11 P12 P13 P14 : Prop) : Prop
  | mk (h1 : P1) (h2 : P2) (h3 : P3) (h4 : P4) (h5 : P5) (h6 : P6) (h7 : P7) (h8 : P8) (h9 : P9) (h10 : P10) (h11 : P11) (h12 : P12) (h13 : P13) (h14 : P14)
inductive All16 (P1 P2 P3 P4 P5 P6 P7 P8 P9 P10 P11 P12 P13 P14 P15 P16 : Prop) : Prop
  | mk (h1 : P1) (h2 : P2) (h3 : P3) (h4 : P4) (h5 : P5) (h6 : P6) (h7 : P7) (h8 : P8) (h9 : P9) (h10 : P10) (h11 : P11) (h12 : P12) (h13 : P13) (h14 : P14) (h15 : P15) (h16 : P16)
inductive All19 (P1 P2 P3 P4 P5 P6 P7 P8 P9 P10 P11 P12 P13 P14 P15 P16 P17 P18 P19 : Prop) : Prop
  | mk (h1 : P1) (h2 : P2) (h3 : P3) (h4 : P4) (h5 : P5) (h6 : P6) (h7 : P7) (h8 : P8) (h9 : P9) (h10 : P10) (h11 : P11) (h12 : P12) (h13 : P13) (h14 : P14) (h15 : P15) (h16 : P16) (h17 : P17) (h18 : P18) (h19 : P19)
inductive All20 (P1 P2 P3 P4 P5 P6 P7 P8 P9 P10 P11 P12 P13 P14 P15 P16 P17 P18 P19 P20 : Prop) : Prop
  | mk (h1 : P1) (h2 : P2) (h3 : P3) (h4 : P4) (h5 : P5) (h6 : P6) (h7 : P7) (h8 : P8) (h9 : P9) (h10 : P10) (h11 : P11) (h12 : P12) (h13 : P13) (h14 : P14) (h15 : P15) (h16 : P16) (h17 : P17) (h18 : P18) (h19 : P19) (h20 : P20)
inductive All21 (P1 P2 P3 P4 P5 P6 P7 P8 P9 P10 P11 P12 P13 P14 P15 P16 P17 P18 P19 P20 P21 : Prop) : Prop
  | mk (h1 : P1) (h2 : P2) (h3 : P3) (h4 : P4) (h5 : P5) (h6 : P6) (h7 : P7) (h8 : P8) (h9 : P9) (h10 : P10) (h11 : P11) (h12 : P12) (h13 : P13) (h14 : P14) (h15 : P15) (h16 : P16) (h17 : P17) (h18 : P18) (h19 : P19) (h20 : P20) (h21 : P21)
inductive All25 (P1 P2 P3 P4 P5 P6 P7 P8 P9 P10 P11 P12 P13 P14 P15 P16 P17 P18 P19 P20 P21 P22 P23 P24 P25 : Prop) : Prop
  | mk (h1 : P1) (h2 : P2) (h3 : P3) (h4 : P4) (h5 : P5) (h6 : P6) (h7 : P7) (h8 : P8) (h9 : P9) (h10 : P10) (h11 : P11) (h12 : P12) (h13 : P13) (h14 : P14) (h15 : P15) (h16 : P16) (h17 : P17) (h18 : P18) (h19 : P19) (h20 : P20) (h21 : P21) (h22 : P22) (h23 : P23) (h24 : P24) (h25 : P25)
/-- what is asked of an exception may be forgotten -/
theorem gen_E {M : Model} {A : Around} {α : Type} {c : Sem α} {Q : α → Shared → Prop} {E : Value → Shared → Prop} {s : Shared} (h : ∀ E' : Value → Shared → Prop, wpAny M A c Q E' s) : wpAny M A c Q E s := h E
/-- the aim, unsaid -/
theorem gen_Q {M : Model} {A : Around} {α : Type} {c : Sem α} {Q : α → Shared → Prop} {E : Value → Shared → Prop} {s : Shared} (h : ∀ (Q' : α → Shared → Prop) (E' : Value → Shared → Prop), (∀ v s', Q v s' → Q' v s') → wpAny M A c Q' E' s) : wpAny M A c Q E s := h Q E fun _ _ h' => h'
noncomputable abbrev Led := List (Addr × Obj)
/-! small arithmetic, once -/
theorem cut_eq (n j : Nat) : n - j + min j n = n := by rw [Nat.min_comm, Nat.sub_add_min_cancel]
theorem cut_le (n j : Nat) : n - j + min j n ≤ n := Nat.le_of_eq (cut_eq n j)
theorem len2 {α : Type} : ∀ {l : List α}, l.length = 2 → ∃ a b, l = [a, b]
  | [a, b], _ => ⟨a, b, rfl⟩
theorem len3 {α : Type} : ∀ {l : List α}, l.length = 3 → ∃ a b c, l = [a, b, c]
  | [a, b, c], _ => ⟨a, b, c, rfl⟩
theorem ar_c7 {c : Nat} (h : c = 12272 ∨ c = 12283 ∨ c = 12274 ∨ c = 12275) : 12272 ≤ c ∧ c < 12284 := by rcases h with rfl | rfl | rfl | rfl <;> decide
theorem ar_sub {c : Nat} (h : 12272 ≤ c) : ((c : Int) - 12272).toNat = c - 12272 := Int.toNat_sub c 12272
theorem ar_one (k : Nat) : ((1 : Int) + (k : Nat)).toNat = 1 + k := Int.toNat_natCast (1 + k)
theorem ar_one_le {k : Nat} (h : k < 201) : ((1 : Int) + (k : Nat)).toNat ≤ 1000 := by
  rw [ar_one]; exact Nat.le_trans (Nat.add_le_add_left (Nat.le_of_lt h) 1) (by decide)
theorem ar_63 {k n : Nat} (h : k < n) (h2 : n = 2 ∨ n = 3) : ((k : Nat) : Int) < 2 ^ 63 :=
  Int.lt_of_lt_of_le (Int.ofNat_lt.mpr (Nat.lt_of_lt_of_le h (h2.elim (fun e => Nat.le_trans (Nat.le_of_eq e) (by decide)) fun e => Nat.le_of_eq e))) (by decide)
theorem ar_two {l l' : Nat} (h : l = 12272 ∨ l = 12283) (h' : l' = 12272 ∨ l' = 12283) (e : l' - 12272 = l - 12272) : l' = l := by
  rcases h with rfl | rfl <;> rcases h' with rfl | rfl <;> first | rfl | exact absurd e (by decide)
theorem ar_three {l l' : Nat} (h : l = 12274 ∨ l = 12275) (h' : l' = 12274 ∨ l' = 12275) (e : l' - 12272 = l - 12272) : l' = l := by
  rcases h with rfl | rfl <;> rcases h' with rfl | rfl <;> first | rfl | exact absurd e (by decide)
theorem ar_mix {l l' : Nat} (h : l = 12272 ∨ l = 12283) (h' : l' = 12274 ∨ l' = 12275) (e : l' - 12272 = l - 12272) : False := by
  rcases h with rfl | rfl <;> rcases h' with rfl | rfl <;> exact absurd e (by decide)
theorem ar_int {k : Int} {n : Nat} (h0 : 0 ≤ k) (h1 : k < n) : ∃ m, m < n ∧ k = (m : Nat) := ⟨k.toNat, (Int.toNat_lt h0).mpr h1, (Int.toNat_of_nonneg h0).symm⟩
theorem ar_upto {P : Nat → Prop} {n : Nat} (d : ∀ m, m < n → P m) {k : Nat} (h : k < n) : P k := d k h

/-- a def's contract: from a frame of any kind, over a ledger that bears the arguments -/
noncomputable def Ct (w : World) (loose : List Str) (mean : ExcName → Option Value) (mg mb : Str → Option Value) (f : Addr) (sz : Nat) (Rel : Led → List Value → Prop) (Out : Led → List Value → Led → Value → Prop) : Prop :=
  ∀ (dp un : Nat) (gd : Option (List Code)) (cn : Str) (cs : Scope) (a : Addr) (ccd : Value) (cl : List (Str × Addr)) (outer : List Env) (A₀ : Around) (base h₀ : Heap) (L : Addr) (m : Str → Option Value) (news : Led) (s : Shared) (vs : List Value)
    (Q E : Value → Shared → Prop),
    Below A₀ base outer h₀ → Fr h₀ L s.heap m → (devHeap w.params).In h₀ → News h₀ L s.heap news → Top devView loose mean mg mb h₀ → cs.kind = .function → Rel news vs → dp + sz < recursionLimit → un + 8 * sz < cLine →
    (∀ r tl h' tk', Fr h₀ L h' m → News h₀ L h' (tl ++ news) → (∀ q ∈ news, ∀ p ∈ tl, q.1 < p.1) → Out news vs tl r → Q r { s with heap := h', toks := tk' }) →
    wpAny (model PySem.Challenge.rw_re0162_01.row.prog w) (ktrTop dp un gd cn cs L a ccd cl outer) (call (.ref f) vs) Q E s

section
variable {w : World} {A : Around} {E : Value → Shared → Prop} {s : Shared} {h₀ h : Heap} {L : Addr} {m : Str → Option Value} {prog : Program}

noncomputable def okInt (e : Int × Value) : Bool := match e.2 with
  | .int k _ => e.1 == hashInt k
  | _ => false
theorem okInt_of {es : List (Int × Value)} (h : es.all okInt = true) {e : Int × Value} (he : e ∈ es) : ∃ k t, e.2 = .int k t ∧ e.1 = hashInt k := by
  have h1 := List.all_eq_true.mp h e he
  unfold okInt at h1
  split at h1
  · rename_i k t e2
    exact ⟨k, t, e2, by simpa using h1⟩
  · cases h1
noncomputable def keysI (es : List (Int × Value)) : List Int := es.filterMap fun e => match e.2 with | .int k _ => some k | _ => none
theorem keysI_mem {es : List (Int × Value)} (h : es.all okInt = true) (k : Int) : k ∈ keysI es ↔ ∃ e ∈ es, Value.isInt k e.2 = true := by
  unfold keysI
  rw [List.mem_filterMap]
  constructor
  · rintro ⟨e, he, h2⟩
    obtain ⟨j, t, h3, _⟩ := okInt_of h he
    rw [h3] at h2
    refine ⟨e, he, ?_⟩
    rw [h3]
    simpa [Value.isInt] using h2
  · rintro ⟨e, he, h2⟩
    obtain ⟨j, t, h3, _⟩ := okInt_of h he
    rw [h3] at h2
    refine ⟨e, he, ?_⟩
    rw [h3]
    simpa [Value.isInt] using h2
theorem rng_mem {l : List Int} {a : Int} {n : Nat} (h : (List.range n).all (fun i => l.contains (a + (i : Int))) = true) {k : Int} (h1 : a ≤ k) (h2 : k < a + n) : k ∈ l := by
  have h3 := List.all_eq_true.mp h (k - a).toNat (List.mem_range.mpr (by omega))
  rw [show a + ((k - a).toNat : Int) = k by omega] at h3
  exact List.contains_iff_mem.mp h3
theorem sub_mem {l m : List Int} (h : m.all (fun i => l.contains i) = true) {k : Int} (h1 : k ∈ m) : k ∈ l := List.contains_iff_mem.mp (List.all_eq_true.mp h k h1)
theorem all_mem {l : List Int} {p : Int → Bool} (h : l.all p = true) {k : Int} (hk : k ∈ l) : p k = true := List.all_eq_true.mp h k hk
theorem inK29 (P : Params) : ∃ o, (devHeap P).lookup 29 = some o ∧ ∀ prog w, Obj.SetObjOf (intKind prog w) o (fun k => decide (k ∈ ([173, 847, 6150, 6155, 6156, 6157, 8203, 8204, 8205, 8288, 65279] : List Int) ∨ (65024 ≤ k ∧ k < 65040))) 27 := by
  refine ⟨_, rfl, fun prog w => ⟨⟨rfl, rfl, rfl⟩, _, _, _, rfl, ?_, ?_, rfl, rfl⟩⟩
  · intro e he
    obtain ⟨k, t, h2, h1⟩ := okInt_of (by decide +kernel) he
    exact ⟨⟨k, by rw [h2]; exact intKind_is _ _ _ _, h1⟩, by rw [h2]; rfl⟩
  · intro k
    refine Iff.trans ?_ (keysI_mem (by decide +kernel) k)
    refine Iff.trans decide_eq_true_iff ⟨fun h => ?_, fun h => ?_⟩
    · rcases h with h | ⟨h1, h2⟩
      · exact sub_mem (by decide +kernel) h
      · exact rng_mem (a := 65024) (n := 16) (by decide +kernel) h1 h2
    · exact of_decide_eq_true (all_mem (p := fun k : Int => decide (k ∈ ([173, 847, 6150, 6155, 6156, 6157, 8203, 8204, 8205, 8288, 65279] : List Int) ∨ (65024 ≤ k ∧ k < 65040))) (by decide +kernel) h)
theorem inK87 (P : Params) : ∃ o, (devHeap P).lookup 87 = some o ∧ ∀ prog w, Obj.SetObjOf (intKind prog w) o (fun k => decide (12272 ≤ k ∧ k < 12284)) 12 := by
  refine ⟨_, rfl, fun prog w => ⟨⟨rfl, rfl, rfl⟩, _, _, _, rfl, ?_, ?_, rfl, rfl⟩⟩
  · intro e he
    obtain ⟨k, t, h2, h1⟩ := okInt_of (by decide +kernel) he
    exact ⟨⟨k, by rw [h2]; exact intKind_is _ _ _ _, h1⟩, by rw [h2]; rfl⟩
  · intro k
    refine Iff.trans ?_ (keysI_mem (by decide +kernel) k)
    refine Iff.trans decide_eq_true_iff ⟨fun h => ?_, fun h => ?_⟩
    · exact rng_mem (a := 12272) (n := 12) (by decide +kernel) h.1 h.2
    · exact of_decide_eq_true (all_mem (p := fun k : Int => decide (12272 ≤ k ∧ k < 12284)) (by decide +kernel) h)
end

/-! K40 -/
open PySem PySem.W PyProof.Rows PySem.Calls PySem.Spec
noncomputable def intKeyed (es : List DictEntry) : Bool := es.all fun e => match e.key with | .int k _ => e.hash == hashInt k | _ => false
noncomputable def strAt (es : Array DictEntry) (k : Int) (word : List Nat) : Bool := match findBy Value.isInt es k with | some (.str x _) => x == ⟨word.toArray⟩ | _ => false
noncomputable def b3Words : List (Nat × List Nat) := [(8459, [104]), (8460, [104]), (8461, [104]), (64261, [115, 116]), (64262, [115, 116])]
noncomputable def b3Not : List Nat := [104, 72, 12284]
theorem findBy_none {k : Int} (l : List DictEntry) (h : l.all (fun e => !Value.isInt k e.key) = true) : findBy Value.isInt l.toArray k = none := by
  unfold findBy
  rw [List.find?_toArray, List.find?_eq_none.mpr fun e he => by have := List.all_eq_true.mp h e he; simpa using this]
  rfl
theorem inK40 (P : Params) : ∃ es n, (devHeap P).lookup 40 = some ⟨.type "dict", none, .dict es n, #[]⟩ ∧ intKeyed es.toList = true ∧ (b3Words.all fun x => strAt es x.1 x.2) = true ∧ ∀ c ∈ b3Not, findBy Value.isInt es (c : Nat) = none :=
  ⟨_, _, rfl, by decide +kernel, by decide +kernel, fun c hc => findBy_none _ (List.all_eq_true.mp (show (b3Not.all fun (c : Nat) => (MineH.entsD lR 38 263).all fun e => !Value.isInt (c : Int) e.key) = true by decide +kernel) c hc)⟩

/-! F1 -/
open PySem PySem.W PyProof.Rows PySem.Calls PySem.Spec
local macro_rules | `(tactic| walk_at $s:str) => `(tactic| k_extra $s)
theorem kfill1 : (fun (_ : OpenLaw) (_ : Params → Frag) => True) PySem.Challenge.rw_re0162_01 devHeap := by k_fill; trivial
section
variable {w : World} {A : Around} {E : Value → Shared → Prop} {s : Shared} {h₀ h : Heap} {L : Addr} {m : Str → Option Value} {prog : Program}

noncomputable def inB1 (c : Int) : Bool := decide (c ∈ ([173, 847, 6150, 6155, 6156, 6157, 8203, 8204, 8205, 8288, 65279] : List Int) ∨ (65024 ≤ c ∧ c < 65040))
noncomputable def inC7 (c : Int) : Bool := decide (12272 ≤ c ∧ c < 12284)

theorem in29 (X : (devHeap w.params).In s.heap) {c : Int} {t : Tok} {Q : Value → Shared → Prop} (h : Q (.bool (inB1 c)) { s with toks := s.toks + 1 }) : wpAny (model prog w) A (compareOp .In (.int c t) (.ref 29)) Q E s :=
  have ⟨_, h1, h2⟩ := inK29 w.params
  wpAny_inSet_of (intKind_is prog w c t) rfl ((h2 prog w).setOf (X _ _ h1) (by decide)) h
theorem in87 (X : (devHeap w.params).In s.heap) {c : Int} {t : Tok} {Q : Value → Shared → Prop} (h : Q (.bool (inC7 c)) { s with toks := s.toks + 1 }) : wpAny (model prog w) A (compareOp .In (.int c t) (.ref 87)) Q E s :=
  have ⟨_, h1, h2⟩ := inK87 w.params
  wpAny_inSet_of (intKind_is prog w c t) rfl ((h2 prog w).setOf (X _ _ h1) (by decide)) h
end


section
variable {w : World} {loose : List Str} {mean : ExcName → Option Value} {mg mb : Str → Option Value}
set_option maxHeartbeats 4000000 in
theorem b1_ct (c : Nat) : Ct w loose mean mg mb 39 10 (fun _ vs => ∃ t, vs = [.str ⟨#[c]⟩ t]) (fun _ _ tl r => tl = [] ∧ r = .bool (inB1 c)) := by
  k_with_none
  k_with "compareOp In int ref" => (k_here; first | (refine' in29 ?zqk1 ?_; (case zqk1 => k_in)) | (refine' in87 ?zqk1 ?_; (case zqk1 => k_in)))
  unfold Ct
  intro dp un gd cn cs a ccd cl outer A₀ base h₀ L m news s vs Q E B F X N T hk hR hd hu hret
  obtain ⟨t, rfl⟩ := hR
  refine wpAny_call ?_
  k_dflt ktr_enter
  k_steps
  (with_reducible rename Fr _ _ _ _ => kF9); (with_reducible rename News _ _ _ _ => kN9)
  refine hret _ [] _ _ kF9 kN9 (fun _ _ _ h => nomatch h) ⟨rfl, rfl⟩
set_option maxHeartbeats 4000000 in
theorem c7_ct (c : Nat) : Ct w loose mean mg mb 97 10 (fun _ vs => ∃ t, vs = [.str ⟨#[c]⟩ t]) (fun _ _ tl r => tl = [] ∧ r = .bool (inC7 c)) := by
  unfold Ct
  intro dp un gd cn cs a ccd cl outer A₀ base h₀ L m news s vs Q E B F X N T hk hR hd hu hret
  obtain ⟨t, rfl⟩ := hR
  refine wpAny_call ?_
  k_dflt ktr_enter
  k_steps
  (with_reducible rename Fr _ _ _ _ => kF9); (with_reducible rename News _ _ _ _ => kN9)
  refine hret _ [] _ _ kF9 kN9 (fun _ _ _ h => nomatch h) ⟨rfl, rfl⟩
set_option maxHeartbeats 4000000 in
theorem term_ct (c : Int) : Ct w loose mean mg mb 170 10 (fun _ vs => ∃ t, vs = [.int c t]) (fun _ _ tl r => tl = [] ∧ r = .bool (decide (c < 256))) := by
  unfold Ct
  intro dp un gd cn cs a ccd cl outer A₀ base h₀ L m news s vs Q E B F X N T hk hR hd hu hret
  obtain ⟨t, rfl⟩ := hR
  refine wpAny_call ?_
  k_dflt ktr_enter
  k_steps
  (with_reducible rename Fr _ _ _ _ => kF9); (with_reducible rename News _ _ _ _ => kN9)
  refine hret _ [] _ _ kF9 kN9 (fun _ _ _ h => nomatch h) ⟨rfl, rfl⟩
set_option maxHeartbeats 4000000 in
theorem nont_ct (c : Int) : Ct w loose mean mg mb 177 10 (fun _ vs => ∃ t, vs = [.int c t]) (fun _ _ tl r => tl = [] ∧ r = .bool (decide (256 ≤ c))) := by
  unfold Ct
  intro dp un gd cn cs a ccd cl outer A₀ base h₀ L m news s vs Q E B F X N T hk hR hd hu hret
  obtain ⟨t, rfl⟩ := hR
  refine wpAny_call ?_
  k_dflt ktr_enter
  k_steps
  (with_reducible rename Fr _ _ _ _ => kF9); (with_reducible rename News _ _ _ _ => kN9)
  refine hret _ [] _ _ kF9 kN9 (fun _ _ _ h => nomatch h) ⟨rfl, rfl⟩
set_option maxHeartbeats 4000000 in
theorem eof_ct (c : Int) : Ct w loose mean mg mb 184 10 (fun _ vs => ∃ t, vs = [.int c t]) (fun _ _ tl r => tl = [] ∧ r = .bool (decide (c = 0))) := by
  unfold Ct
  intro dp un gd cn cs a ccd cl outer A₀ base h₀ L m news s vs Q E B F X N T hk hR hd hu hret
  obtain ⟨t, rfl⟩ := hR
  refine wpAny_call ?_
  k_dflt ktr_enter
  k_steps
  (with_reducible rename Fr _ _ _ _ => kF9); (with_reducible rename News _ _ _ _ => kN9)
  refine hret _ [] _ _ kF9 kN9 (fun _ _ _ h => nomatch h) ⟨rfl, rfl⟩

end
section
variable {w : World} {A : Around} {E : Value → Shared → Prop} {s : Shared} {h₀ h : Heap} {L : Addr} {m : Str → Option Value} {prog : Program}
theorem map40 (X : (devHeap w.params).In h) (prog : Program) : ∃ f, h.MapOf (intKind prog w) 40 f ∧ (∀ c word, (c, word) ∈ b3Words → ∃ t, f (c : Nat) = some (.str ⟨word.toArray⟩ t)) ∧ ∀ c ∈ b3Not, f (c : Nat) = none := by
  obtain ⟨es, n, h1, h2, h3, h4⟩ := inK40 w.params
  refine ⟨fun k => findBy Value.isInt es k, ⟨_, es, n, X _ _ h1, ⟨rfl, rfl, rfl⟩, rfl, fun e he => ?_, fun k => rfl⟩, fun c word hc => ?_, fun c hc => ?_⟩
  · have := List.all_eq_true.mp h2 e (Array.mem_toList_iff.mpr he)
    revert this
    cases hk : e.key <;> intro h' <;> first | (simp at h'; done) | skip
    rename_i k t
    exact ⟨k, intKind_is _ _ _ _, by simp only [beq_iff_eq] at h'; exact h'⟩
  · have := List.all_eq_true.mp h3 _ hc
    simp only [strAt] at this
    split at this
    · rename_i x t e
      refine ⟨t, ?_⟩
      rw [beq_iff_eq.mp this] at e
      exact e
    · cases this
  · exact h4 c hc
theorem get40_meth (X : (devHeap w.params).In s.heap) {pl : Sem Bool} {Q : Value × List Value → Shared → Prop} (h : Q (.builtin "dict.get", [.ref 40]) s) : wpAny (model prog w) A (getMethod (.ref 40) "get" pl) Q E s := by
  obtain ⟨f, hm, _⟩ := map40 X prog
  exact getMethod_builtin hm.typeIs PySem.F.plainAttrs_dict PySem.F.slot_dict_get PySem.F.type_dict_get hm.noDict h
theorem get40 (X : (devHeap w.params).In s.heap) {c : Nat} {t : Tok} {word : List Nat} {Q : Value → Shared → Prop} (hc : (c, word) ∈ b3Words) (h : ∀ t', Q (.str ⟨word.toArray⟩ t') { s with toks := s.toks + 1 }) :
    wpAny (model prog w) A (call (.builtin "dict.get") [.ref 40, .int c t]) Q E s := by
  obtain ⟨f, hm, hw, _⟩ := map40 X prog
  obtain ⟨t', ht⟩ := hw c word hc
  exact call_meetsIn PySem.F.slot_dict_get hm.typeIs PySem.F.entry_dict_get (PySem.F.args_dict_get_2 _ _) (meets_dict_get (intKind prog w) 40 (intKind_is _ _ _ _) rfl) ⟨_, hm, by rw [ht]; exact h t'⟩
theorem get40_none (X : (devHeap w.params).In s.heap) {c : Nat} {t : Tok} {Q : Value → Shared → Prop} (hc : c ∈ b3Not) (h : Q .none { s with toks := s.toks + 1 }) :
    wpAny (model prog w) A (call (.builtin "dict.get") [.ref 40, .int c t]) Q E s := by
  obtain ⟨f, hm, _, hw⟩ := map40 X prog
  exact call_meetsIn PySem.F.slot_dict_get hm.typeIs PySem.F.entry_dict_get (PySem.F.args_dict_get_2 _ _) (meets_dict_get (intKind prog w) 40 (intKind_is _ _ _ _) rfl) ⟨_, hm, by rw [hw c hc]; exact h⟩
end
section
variable {w : World} {loose : List Str} {mean : ExcName → Option Value} {mg mb : Str → Option Value}
set_option maxHeartbeats 4000000 in
theorem b3_ct1 (c : Nat) (word : List Nat) (hc : (c, word) ∈ b3Words) : Ct w loose mean mg mb 85 10 (fun _ vs => ∃ t, vs = [.str ⟨#[c]⟩ t]) (fun _ _ tl r => tl = [] ∧ ∃ t, r = .str ⟨word.toArray⟩ t) := by
  k_with "getMethod ref" => (k_here; refine' get40_meth ?zqk1 ?_; (case zqk1 => k_in))
  k_with "call builtin:dict.get" => (k_here; (rename _ ∈ b3Words => hc9); refine' get40 ?zqk1 hc9 ?_; (case zqk1 => k_in); intro _)
  unfold Ct
  intro dp un gd cn cs a ccd cl outer A₀ base h₀ L m news s vs Q E B F X N T hk hR hd hu hret
  obtain ⟨t, rfl⟩ := hR
  refine wpAny_call ?_
  k_dflt ktr_enter
  k_steps
  (with_reducible rename Fr _ _ _ _ => kF9); (with_reducible rename News _ _ _ _ => kN9)
  refine hret _ [] _ _ kF9 kN9 (fun _ _ _ h => nomatch h) ⟨rfl, _, rfl⟩
end
section
variable {w : World} {loose : List Str} {mean : ExcName → Option Value} {mg mb : Str → Option Value}
set_option maxHeartbeats 4000000 in
theorem b3_ct0 (c : Nat) (hc : c ∈ b3Not) : Ct w loose mean mg mb 85 10 (fun _ vs => ∃ t, vs = [.str ⟨#[c]⟩ t]) (fun _ _ tl r => tl = [] ∧ ∃ t, r = .str (Txt.lower ⟨#[c]⟩) t) := by
  k_with_none
  k_with "compareOp In int ref" => (k_here; first | (refine' in29 ?zqk1 ?_; (case zqk1 => k_in)) | (refine' in87 ?zqk1 ?_; (case zqk1 => k_in)))
  k_with "getMethod ref" => (k_here; refine' get40_meth ?zqk1 ?_; (case zqk1 => k_in))
  k_with "call builtin:dict.get" => (k_here; (rename _ ∈ b3Not => hc9); refine' get40_none ?zqk1 hc9 ?_; (case zqk1 => k_in))
  k_with "call builtin:str.lower" => (k_here; (with_reducible show wpAny _ _ (call (Value.builtin "str.lower") [Value.str _ _]) _ _ _); refine SCL.lower (Nat.le_of_ble_eq_true rfl) ?_; intro _)
  unfold Ct
  intro dp un gd cn cs a ccd cl outer A₀ base h₀ L m news s vs Q E B F X N T hk hR hd hu hret
  obtain ⟨t, rfl⟩ := hR
  refine wpAny_call ?_
  k_dflt ktr_enter
  k_steps
  (with_reducible rename Fr _ _ _ _ => kF9); (with_reducible rename News _ _ _ _ => kN9)
  refine hret _ [] _ _ kF9 kN9 (fun _ _ _ h => nomatch h) ⟨rfl, _, rfl⟩
noncomputable def b3All : List (Nat × List Nat) := [(8459, [104]), (8460, [104]), (8461, [104]), (64261, [115, 116]), (64262, [115, 116]), (104, [104]), (72, [104]), (12284, [12284])]
theorem low1 : Txt.lower ⟨#[104]⟩ = ⟨#[104]⟩ := by decide +kernel
theorem low2 : Txt.lower ⟨#[72]⟩ = ⟨#[104]⟩ := by decide +kernel
theorem low3 : Txt.lower ⟨#[12284]⟩ = ⟨#[12284]⟩ := by decide +kernel
theorem b3_ct (c : Nat) (word : List Nat) (hc : (c, word) ∈ b3All) : Ct w loose mean mg mb 85 10 (fun _ vs => ∃ t, vs = [.str ⟨#[c]⟩ t]) (fun _ _ tl r => tl = [] ∧ ∃ t, r = .str ⟨word.toArray⟩ t) := by
  simp only [b3All, List.mem_cons, Prod.mk.injEq, List.not_mem_nil, or_false] at hc
  rcases hc with ⟨rfl, rfl⟩ | ⟨rfl, rfl⟩ | ⟨rfl, rfl⟩ | ⟨rfl, rfl⟩ | ⟨rfl, rfl⟩ | ⟨rfl, rfl⟩ | ⟨rfl, rfl⟩ | ⟨rfl, rfl⟩
  · exact b3_ct1 _ _ (by decide)
  · exact b3_ct1 _ _ (by decide)
  · exact b3_ct1 _ _ (by decide)
  · exact b3_ct1 _ _ (by decide)
  · exact b3_ct1 _ _ (by decide)
  · exact low1 ▸ b3_ct0 104 (by decide)
  · exact low2 ▸ b3_ct0 72 (by decide)
  · exact low3 ▸ b3_ct0 12284 (by decide)
end

/-! Loop -/
open PySem PySem.W PyProof.Rows PySem.Calls PySem.Spec

section
variable {prog : Program} {w : World} {A : Around} {E : Value → Shared → Prop} {s : Shared} {env : Env} {h₀ : Heap} {x : Str} {body : List Stmt} {Q : Flow → Shared → Prop}

/-- the end of a turn: the iterator stands as it stood, beside a new ledger -/
noncomputable def TurnE (h₀ : Heap) (L : Addr) (I : Addr) (oI : Obj) (J : (Str → Option Value) → Led → Prop) (s₁ s₂ : Shared) : Prop :=
  Ex4 fun h' tk m' nx => All5 (s₂ = { s₁ with heap := h', toks := tk }) (Fr h₀ L h' m') (News h₀ L h' ((I, oI) :: nx)) (∀ p ∈ nx, p.1 ≠ I) (J m' nx)
noncomputable def TurnP (h₀ : Heap) (L : Addr) (I : Addr) (oI : Obj) (J : (Str → Option Value) → Led → Prop) (s₁ : Shared) (Q : Flow → Shared → Prop) (f : Flow) (s₂ : Shared) : Prop :=
  match f with
  | .ret v => Q (.ret v) s₂
  | .brk => Q .next s₂
  | _ => TurnE h₀ L I oI J s₁ s₂
theorem TurnE.intro {L I : Addr} {oI : Obj} {J : (Str → Option Value) → Led → Prop} {s₁ : Shared} {h' : Heap} {tk : Nat} {m' : Str → Option Value} (nx : Led) (F : Fr h₀ L h' m') (N : News h₀ L h' ((I, oI) :: nx)) (hi : ∀ p ∈ nx, p.1 ≠ I) (hj : J m' nx) :
    TurnE h₀ L I oI J s₁ { s₁ with heap := h', toks := tk } := ⟨h', tk, m', nx, rfl, F, N, hi, hj⟩

/-- what was made, newest first, each above all that stood -/
noncomputable def Abv : Led → Led → Prop
  | [], _ => True
  | p :: r, b => (∀ q ∈ r ++ b, q.1 < p.1) ∧ Abv r b
theorem abv_of {b : Led} : ∀ {a : Led}, Abv a b → ∀ p ∈ a, ∀ q ∈ b, q.1 < p.1
  | [], _, _, hp, _, _ => nomatch hp
  | p :: r, h, p', hp, q, hq => by
    rcases List.mem_cons.mp hp with rfl | hp
    · exact h.1 q (List.mem_append_right _ hq)
    · exact abv_of h.2 p' hp q hq
theorem TurnE.mk {L I : Addr} {oI : Obj} {J : (Str → Option Value) → Led → Prop} {s₁ : Shared} {h' : Heap} {tk : Nat} {m' : Str → Option Value} {nx : Led} (new : Led) (F : Fr h₀ L h' m') (N : News h₀ L h' (new ++ (I, oI) :: nx)) (ab : ∀ p ∈ new, ∀ q ∈ (I, oI) :: nx, q.1 < p.1)
    (hi : ∀ p ∈ nx, p.1 ≠ I) (hj : J m' (new ++ nx)) : TurnE h₀ L I oI J s₁ { s₁ with heap := h', toks := tk } := by
  refine ⟨h', tk, m', new ++ nx, rfl, F, fun p hp => N p ?_, fun p hp => ?_, hj⟩
  · rcases List.mem_cons.mp hp with rfl | hp
    · exact List.mem_append_right _ List.mem_cons_self
    · rcases List.mem_append.mp hp with hp | hp
      · exact List.mem_append_left _ hp
      · exact List.mem_append_right _ (List.mem_cons_of_mem _ hp)
  · rcases List.mem_append.mp hp with hp | hp
    · exact Nat.ne_of_gt (ab p hp _ List.mem_cons_self)
    · exact hi p hp

/-- a for over a list of the ledger, whatever its items are; the body leaves the list as it is -/
theorem for_list {l : Addr} {vs : List Value} {n : Nat} {m₀ : Str → Option Value} {news : Led} (J : Nat → (Str → Option Value) → Led → Prop)
    (hh : A.handled = none) (F : Fr h₀ env.locals s.heap m₀) (N : News h₀ env.locals s.heap news) (hl : (l, listOf vs.toArray n) ∈ news) (hj : J 0 m₀ news)
    (turn : ∀ i v I oI m₁ nx h tk, vs[i]? = some v → J i m₁ nx → (∀ p ∈ nx, p.1 ≠ I) → (l, listOf vs.toArray n) ∈ nx → Fr h₀ env.locals h (fun y => if y = x then some v else m₁ y) → News h₀ env.locals h ((I, oI) :: nx) →
      ∀ (Q9 : Flow → Shared → Prop), (∀ s', TurnE h₀ env.locals I oI (fun m' nx' => J (i + 1) m' nx' ∧ (l, listOf vs.toArray n) ∈ nx') { s with heap := h, toks := tk } s' → Q9 .next s' ∧ Q9 .cont s') → wpAny (model prog w) A (execs body env) Q9 E { s with heap := h, toks := tk })
    (done : ∀ m₁ nx h tk, J vs.length m₁ nx → Fr h₀ env.locals h m₁ → News h₀ env.locals h nx → Q .next { s with heap := h, toks := tk }) :
    wpAny (model prog w) A (pyIter (.ref l)) (fun it s₂ => LoopAtV prog w A h₀ env x body Q E it s₂) E s := by
  have hls : s.heap.IsList l vs.toArray := ⟨_, (N _ hl).1, rfl, n, rfl⟩
  have hlt : l < s.heap.objs.size := Heap.lt_size (N _ hl).1
  have hne : l ≠ s.heap.objs.size := Nat.ne_of_lt hlt
  refine wpAny_pyIter_list hls ?_
  have W := Walks.list (prog := prog) (w := w) hh s.heap.objs.size l hne vs.toArray
  have hlen : vs.toArray.size = vs.length := by simp
  rw [hlen] at W
  refine ⟨_, _, _, vs.length, _, _, m₀, news, (fun i m nx => J i m nx ∧ (l, listOf vs.toArray n) ∈ nx), rfl, W, ?_, ?_, ?_, ⟨⟨_, Heap.get?_push_size _ rfl, rfl, rfl⟩, hls.at fun o e => Heap.get?_push_of_some _ e⟩, F.push _, (fun p hp => ⟨Heap.get?_push_of_some _ (N p hp).1, (N p hp).2⟩), ⟨hj, hl⟩, ?_, ?_⟩
  · intro hm
    rcases List.mem_cons.mp hm with e | hm
    · exact absurd F.ns.lt (e ▸ Nat.lt_irrefl _)
    · exact (N _ hl).2.1 (List.mem_singleton.mp hm).symm
  · intro b hb
    rw [List.mem_singleton.mp hb]
    exact next_is_new F
  · intro p hp hI
    exact absurd (Heap.lt_size (N p hp).1) ((List.mem_singleton.mp hI) ▸ Nat.lt_irrefl _)
  · rintro i v m₁ nx s₁ own ⟨hh', tk', rfl⟩ hin hP ⟨hJ, hml⟩ hoff hown _ hmem hst F₁ N₁
    obtain ⟨⟨oi, hoi, _⟩, _⟩ := hst
    have hI : (s.heap.objs.size, oi) ∈ own := hmem _ (.head _) (next_is_new F) oi hoi
    have hne1 : ∀ p ∈ nx, p.1 ≠ s.heap.objs.size := fun p hp e => hoff p hp (List.mem_singleton.mpr e)
    have hv : vs[i]? = some v := by simpa using hP
    have N₂ : News h₀ env.locals hh' ((s.heap.objs.size, oi) :: nx) := fun p hp => by
      rcases List.mem_cons.mp hp with rfl | hp
      · exact N₁ _ (List.mem_append.mpr (.inl hI))
      · exact N₁ p (List.mem_append.mpr (.inr hp))
    refine wpAny_mono (turn i v s.heap.objs.size oi m₁ nx hh' tk' hv hJ hne1 hml F₁ N₂ (TurnP h₀ env.locals s.heap.objs.size oi (fun m' nx' => J (i + 1) m' nx' ∧ (l, listOf vs.toArray n) ∈ nx') { s with heap := hh', toks := tk' } Q) fun _ h => ⟨h, h⟩) (fun f s₂ p => ?_) fun _ _ e => e
    have fin : TurnE h₀ env.locals s.heap.objs.size oi (fun m' nx' => J (i + 1) m' nx' ∧ (l, listOf vs.toArray n) ∈ nx') { s with heap := hh', toks := tk' } s₂ →
        LoopStepU h₀ env.locals [s.heap.objs.size] own (fun m nx => J (i + 1) m nx ∧ (l, listOf vs.toArray n) ∈ nx) { s with heap := hh', toks := tk' } .next s₂ := by
      rintro ⟨h', tk, m', nx', e, F', N', ha, hJ', hml'⟩
      refine ⟨rfl, h', tk, m', nx', e, F', fun p hp => ?_, fun p hp hq => ha p hp (List.mem_singleton.mp hq), hJ', hml'⟩
      rcases List.mem_append.mp hp with hp | hp
      · rcases List.mem_cons.mp (hown p hp) with h1 | h1
        · have h2 := (N₁ p (List.mem_append.mpr (.inl hp))).1
          have h3 := (N₁ _ (List.mem_append.mpr (.inl hI))).1
          rw [h1] at h2
          obtain ⟨pa, po⟩ := p
          dsimp only at h1 h2 h3
          subst h1
          rw [h3] at h2
          cases h2
          exact N' _ (.head _)
        · have h4 := List.mem_singleton.mp h1
          have h2 := (N₁ p (List.mem_append.mpr (.inl hp))).1
          have h3 := (N₁ _ (List.mem_append.mpr (.inr hml))).1
          obtain ⟨pa, po⟩ := p
          dsimp only at h4 h2 h3
          subst h4
          rw [h3] at h2
          cases h2
          exact N' _ (.tail _ hml')
      · exact N' p (.tail _ hp)
    cases f with
    | ret v => exact .ret p
    | brk => exact .brk p
    | next => exact .next (fin p)
    | cont => exact .cont (fin p)
  · rintro h' tk m' nx F' N' _ ⟨hJ, _⟩
    exact done m' nx h' tk hJ F' N'
end
theorem asIf {m : Str → Option Value} {x : Str} {v : Value} (h : m x = some v) : m = fun y => if y = x then some v else m y := by
  funext y
  by_cases e : y = x
  · subst e; rw [if_pos rfl]; exact h
  · rw [if_neg e]

/-! Rules -/
open PySem PySem.W PyProof.Rows PySem.Calls PySem.Spec

/-- a list whose length the model can bear -/
noncomputable def Sm (vs : List Value) : Prop := vs.length ≤ 100000
theorem Sm.sz {vs : List Value} (h : Sm vs) : vs.toArray.size ≤ sizeLine := by
  rw [List.size_toArray]; exact Nat.le_trans h (by decide)
theorem Sm.drop {vs : List Value} (h : Sm vs) (k : Nat) : Sm (vs.drop k) := by unfold Sm at *; rw [List.length_drop]; omega
theorem Sm.take {vs : List Value} (h : Sm vs) (k : Nat) : Sm (vs.take k) := by unfold Sm at *; rw [List.length_take]; omega
theorem Sm.sl {vs : List Value} (h : Sm vs) : vs.length ≤ sizeLine := Nat.le_trans h (by decide)

section
variable {prog : Program} {w : World} {A : Around} {E : Value → Shared → Prop} {s : Shared} {h₀ : Heap} {L l : Addr} {m : Str → Option Value} {news : Led} {n : Nat} {vs : List Value} {Q : Value → Shared → Prop} {value slice : PySem.Expr}

theorem rl_isList (N : News h₀ L s.heap news) (hm : (l, listOf vs.toArray n) ∈ news) : s.heap.IsList l vs.toArray := ⟨_, (N _ hm).1, rfl, n, rfl⟩

theorem rl_copy (F : Fr h₀ L s.heap m) (N : News h₀ L s.heap news) (hm : (l, listOf vs.toArray n) ∈ news) (hz : Sm vs)
    (h : ∀ D c h', Fr h₀ L h' m → News h₀ L h' ((D, listOf vs.toArray c) :: news) → (∀ q ∈ news, q.1 < D) → Q (.ref D) { s with heap := h' }) : wpAny (model prog w) A (call (.type "list") [.ref l]) Q E s :=
  list_copyK F N (rl_isList N hm) h hz.sz

theorem rl_from {k : Int} {t : Tok} (h0 : 0 ≤ k) (F : Fr h₀ L s.heap m) (N : News h₀ L s.heap news) (hm : (l, listOf vs.toArray n) ∈ news) (hz : Sm vs)
    (h : ∀ D h', Fr h₀ L h' m → News h₀ L h' ((D, listOf (vs.drop k.toNat).toArray 0) :: news) → (∀ p ∈ news, p.1 < D) → Q (.ref D) { s with heap := h' })
    (hs : subscripted slice false (.ref l) (.ref s.heap.objs.size) = operate [.ref s.heap.objs.size, .ref l] (getItem (.ref l) (.ref s.heap.objs.size))) (ht : ∀ r, letTemporaryGo value (.ref l) r = pure ()) :
    wpAny (model prog w) A (subscriptTail value slice (.ref l) (.ref s.heap.objs.size)) Q E { s with heap := s.heap.push { cls := .type "slice", data := .fields #[.int k t, .none, .none] } } := by
  refine kmk_slice F N (rl_isList N hm) (IsPart.int _ _) IsPart.none (fun D h' F' N' hl => h D h' F' ?_ hl) hs ht hz.sz
  have e : sliceBounds (some k) none none vs.toArray.size = (((min k.toNat vs.toArray.size : Nat) : Int), ((vs.toArray.size : Nat) : Int), 1) := by
    simp only [sliceBounds, Option.getD_none, show (1 : Int) > 0 by decide, if_true, if_neg (show ¬ (k < 0) by omega)]
    congr 1
    obtain ⟨n9, rfl⟩ := Int.eq_ofNat_of_zero_le h0
    rw [Int.toNat_natCast]
    rcases Nat.le_total n9 vs.toArray.size with h9 | h9
    · rw [Int.min_eq_left (Int.ofNat_le.mpr h9), Nat.min_eq_left h9, Int.max_eq_right (Int.natCast_nonneg _)]
    · rw [Int.min_eq_right (Int.ofNat_le.mpr h9), Nat.min_eq_right h9, Int.max_eq_right (Int.natCast_nonneg _)]
  rw [kmk_pick_nat _ e] at N'
  have e2 : (List.take (vs.toArray.size - min k.toNat vs.toArray.size) (List.drop (min k.toNat vs.toArray.size) vs.toArray.toList)) = vs.drop k.toNat := by
    show List.take _ (List.drop _ vs) = _
    rw [List.size_toArray, kmk_drop_min, List.take_of_length_le (by rw [List.length_drop]; exact Nat.sub_le_sub_left (Nat.min_le_left _ _) _)]
  rw [e2] at N'
  exact N'
theorem rl_upto {k : Int} {t : Tok} (h0 : 0 ≤ k) (F : Fr h₀ L s.heap m) (N : News h₀ L s.heap news) (hm : (l, listOf vs.toArray n) ∈ news) (hz : Sm vs)
    (h : ∀ D h', Fr h₀ L h' m → News h₀ L h' ((D, listOf (vs.take k.toNat).toArray 0) :: news) → (∀ p ∈ news, p.1 < D) → Q (.ref D) { s with heap := h' })
    (hs : subscripted slice false (.ref l) (.ref s.heap.objs.size) = operate [.ref s.heap.objs.size, .ref l] (getItem (.ref l) (.ref s.heap.objs.size))) (ht : ∀ r, letTemporaryGo value (.ref l) r = pure ()) :
    wpAny (model prog w) A (subscriptTail value slice (.ref l) (.ref s.heap.objs.size)) Q E { s with heap := s.heap.push { cls := .type "slice", data := .fields #[.none, .int k t, .none] } } := by
  refine kmk_slice F N (rl_isList N hm) IsPart.none (IsPart.int _ _) (fun D h' F' N' hl => h D h' F' ?_ hl) hs ht hz.sz
  have e : sliceBounds none (some k) none vs.toArray.size = (((0 : Nat) : Int), ((min k.toNat vs.toArray.size : Nat) : Int), 1) := by
    simp only [sliceBounds, Option.getD_none, show (1 : Int) > 0 by decide, if_true, if_neg (show ¬ (k < 0) by omega)]
    congr 1
    congr 1
    omega
  rw [kmk_pick_nat _ e] at N'
  have e2 : (List.take (min k.toNat vs.toArray.size - 0) (List.drop 0 vs.toArray.toList)) = vs.take k.toNat := by
    show List.take _ (List.drop 0 vs) = _
    rw [List.drop_zero, Nat.sub_zero, List.size_toArray, kmk_take_min]
  rw [e2] at N'
  exact N'

theorem rl_len (N : News h₀ L s.heap news) (hm : (l, listOf vs.toArray n) ∈ news) (hz : Sm vs) (h : Q (.int vs.length (s.toks + 1)) { s with toks := s.toks + 1 + 1 }) : wpAny (model prog w) A (call (.builtin "len") [.ref l]) Q E s := by
  refine len_list (rl_isList N hm) ?_ ?_
  · rw [List.size_toArray]; unfold Sm at hz; omega
  · rw [List.size_toArray]; exact h
theorem rl_cat {b : Addr} {n2 : Nat} {ws : List Value} (F : Fr h₀ L s.heap m) (N : News h₀ L s.heap news) (ha : (l, listOf vs.toArray n) ∈ news) (hb : (b, listOf ws.toArray n2) ∈ news) (hz : Sm vs) (hz2 : Sm ws)
    (h : ∀ D h', Fr h₀ L h' m → News h₀ L h' ((D, listOf (vs ++ ws).toArray 0) :: news) → (∀ p ∈ news, p.1 < D) → Q (.ref D) { s with heap := h' }) : wpAny (model prog w) A (binaryOp .Add (.ref l) (.ref b)) Q E s := by
  refine kmk_add_lit (zs := vs ++ ws) F N (rl_isList N ha) (rl_isList N hb) rfl h ?_
  have : sizeLine = 16777216 := rfl
  unfold Sm at hz hz2
  rw [this]; show vs.length + ws.length ≤ _; omega
theorem rl_item {k : Int} {u : Tok} {x : Value} (N : News h₀ L s.heap news) (hm : (l, listOf vs.toArray n) ∈ news) (h0 : 0 ≤ k) (hfit : k < 2 ^ 63) (hx : vs[k.toNat]? = some x) (h : Q x s)
    (hs : subscripted slice false (.ref l) (.int k u) = operate [.ref l, .int k u] (getItem (.ref l) (.int k u))) (hg : ∀ r, letTemporaryGo value (.ref l) r = pure ()) :
    wpAny (model prog w) A (subscriptTail value slice (.ref l) (.int k u)) Q E s := item_list (rl_isList N hm) h0 hfit (by simpa using hx) h hs hg
theorem rl_append {x : Value} (F : Fr h₀ L s.heap m) (N : News h₀ L s.heap news) (hm : (l, listOf vs.toArray n) ∈ news) (hz : Sm vs)
    (h : ∀ h', Fr h₀ L h' m → News h₀ L h' ((l, listOf (vs ++ [x]).toArray (n + 1)) :: news.filter (fun p => p.1 != l)) → Q .none { s with heap := h' }) : wpAny (model prog w) A (call (.builtin "list.append") [.ref l, x]) Q E s := by
  have z := N _ hm
  refine append_at (hsz := hz.sz) z.1 fun h' hs ho' => h h' (F.change hs z.2.1 z.2.2) ?_
  intro p hp
  rcases List.mem_cons.mp hp with rfl | hp
  · refine ⟨?_, z.2.1, z.2.2⟩
    have e : (vs ++ [x]).toArray = vs.toArray.push x := by simp
    rw [e]; exact ho'
  · obtain ⟨h1, h2⟩ := List.mem_filter.mp hp
    have hne : p.1 ≠ l := by simpa using h2
    exact ⟨(hs.2 p.1 hne).trans (N p h1).1, (N p h1).2⟩
end

/-! Tree -/
open PySem PySem.W PyProof.Rows PySem.Calls PySem.Spec
local macro_rules | `(tactic| k_mem) => `(tactic| k_extra "mem")
local macro_rules | `(tactic| k_ne) => `(tactic| k_extra "ne")
local macro_rules | `(tactic| k_lt $_) => `(tactic| k_extra "lt0")
local macro_rules | `(tactic| ktr_enter) => `(tactic| (k_extra "enter"; intro g' L' h' tk' cells' FG' F' N' Y' B' X' T' l1; k_cells Y'; (try simp only [List.cons_append, List.nil_append] at N'); (try dsimp only); (try k_fold)))
local macro_rules | `(tactic| walk_at "exec For") => `(tactic| (k_extra "own for"; (rename Fr _ _ _ _ => lF'); (with_unfolding_all refine' For_invVF lF' ?k1 ?k2 ?_; (case k1 => exact rfl); (case k2 => exact rfl); k_whole)))
theorem kfill2 : (fun (_ : OpenLaw) (_ : Params → Frag) => True) PySem.Challenge.rw_re0162_01 devHeap := by k_fill; trivial

inductive Tr where
  | leaf (c : Nat)
  | two (l : Nat) (a b : Tr)
  | three (l : Nat) (a b c : Tr)

noncomputable abbrev tupOf (vs : List Value) : Obj := { cls := .type "tuple", data := .seq vs.toArray }

inductive Rep (news : Led) : Value → Tr → Prop where
  | leaf {c : Nat} {t : Tok} : Rep news (.str ⟨#[c]⟩ t) (.leaf c)
  | two {x q : Addr} {l : Nat} {t : Tok} {n : Nat} {v1 v2 : Value} {a b : Tr} : (x, tupOf [.str ⟨#[l]⟩ t, .ref q]) ∈ news → (q, listOf #[v1, v2] n) ∈ news → Rep news v1 a → Rep news v2 b → Rep news (.ref x) (.two l a b)
  | three {x q : Addr} {l : Nat} {t : Tok} {n : Nat} {v1 v2 v3 : Value} {a b c : Tr} : (x, tupOf [.str ⟨#[l]⟩ t, .ref q]) ∈ news → (q, listOf #[v1, v2, v3] n) ∈ news → Rep news v1 a → Rep news v2 b → Rep news v3 c → Rep news (.ref x) (.three l a b c)
theorem Rep.mono {news news' : Led} {v : Value} {t : Tr} (h : Rep news v t) (k : ∀ p ∈ news, p ∈ news') : Rep news' v t := by
  induction h with
  | leaf => exact .leaf
  | two h1 h2 _ _ i1 i2 => exact .two (k _ h1) (k _ h2) i1 i2
  | three h1 h2 _ _ _ i1 i2 i3 => exact .three (k _ h1) (k _ h2) i1 i2 i3

inductive RepL (news : Led) : List Value → List Tr → Prop where
  | nil : RepL news [] []
  | cons {v : Value} {t : Tr} {vs : List Value} {ts : List Tr} : Rep news v t → RepL news vs ts → RepL news (v :: vs) (t :: ts)
theorem RepL.mono {news news' : Led} {v : List Value} {t : List Tr} (h : RepL news v t) (k : ∀ p ∈ news, p ∈ news') : RepL news' v t := by
  induction h with
  | nil => exact .nil
  | cons h1 _ i => exact .cons (h1.mono k) i
theorem RepL.len {news : Led} {v : List Value} {t : List Tr} (h : RepL news v t) : v.length = t.length := by
  induction h with
  | nil => rfl
  | cons _ _ i => simp [i]
theorem RepL.append {news : Led} {v v' : List Value} {t t' : List Tr} (h : RepL news v t) (h' : RepL news v' t') : RepL news (v ++ v') (t ++ t') := by
  induction h with
  | nil => exact h'
  | cons h1 _ i => exact .cons h1 i

theorem RepL.drop {news : Led} {v : List Value} {t : List Tr} (h : RepL news v t) (k : Nat) : RepL news (v.drop k) (t.drop k) := by
  induction h generalizing k with
  | nil => simpa using RepL.nil
  | cons h1 h2 i => cases k with
    | zero => exact .cons h1 h2
    | succ k => simpa using i k
theorem RepL.take {news : Led} {v : List Value} {t : List Tr} (h : RepL news v t) (k : Nat) : RepL news (v.take k) (t.take k) := by
  induction h generalizing k with
  | nil => simpa using RepL.nil
  | cons h1 h2 i => cases k with
    | zero => exact .nil
    | succ k => simpa using RepL.cons h1 (i k)
theorem RepL.get {news : Led} {vs : List Value} {ts : List Tr} (h : RepL news vs ts) {i : Nat} {v : Value} (e : vs[i]? = some v) : ∃ t, ts[i]? = some t ∧ Rep news v t := by
  induction h generalizing i with
  | nil => simp at e
  | cons h1 _ ih => cases i with
    | zero => simp at e; subst e; exact ⟨_, by simp, h1⟩
    | succ i => simp at e; obtain ⟨t, h2, h3⟩ := ih e; exact ⟨t, by simpa using h2, h3⟩

/-- one-sign texts -/
inductive Chars : List Value → List Nat → Prop where
  | nil : Chars [] []
  | cons {c : Nat} {t : Tok} {vs : List Value} {cs : List Nat} : Chars vs cs → Chars (.str ⟨#[c]⟩ t :: vs) (c :: cs)
theorem Chars.get {vs : List Value} {cs : List Nat} (h : Chars vs cs) {i : Nat} {v : Value} (e : vs[i]? = some v) : ∃ c t, v = .str ⟨#[c]⟩ t ∧ cs[i]? = some c := by
  induction h generalizing i with
  | nil => simp at e
  | cons _ ih => cases i with
    | zero => simp at e; subst e; exact ⟨_, _, rfl, by simp⟩
    | succ i => simp at e; obtain ⟨c, t, h1, h2⟩ := ih e; exact ⟨c, t, h1, by simpa using h2⟩
theorem Chars.len {vs : List Value} {cs : List Nat} (h : Chars vs cs) : vs.length = cs.length := by
  induction h with
  | nil => rfl
  | cons _ i => simp [i]

noncomputable def isT (l : Nat) : Bool := l == 12274 || l == 12275
noncomputable def step1 (q : List Tr) (l : Nat) : List Tr := match q with
  | a :: b :: rest => if isT l then (match rest with | c :: rest' => rest' ++ [.three l a b c] | [] => [.two 12272 a b]) else rest ++ [.two l a b]
  | q => q
noncomputable def treeOf (ts : List Tr) (ls : List Nat) : Tr := (ls.foldl step1 ts).headD (.leaf 48)
section
variable {w : World} {loose : List Str} {mean : ExcName → Option Value} {mg mb : Str → Option Value}
noncomputable def TreeRel (ts : List Tr) (ls : List Nat) (news : Led) (vs : List Value) : Prop :=
  ∃ ka la kv lv kn ln, vs = [.ref ka, .ref la] ∧ (ka, listOf kv.toArray kn) ∈ news ∧ (la, listOf lv.toArray ln) ∈ news ∧ RepL news kv ts ∧ Chars lv ls


noncomputable def TreeJ (news : Led) (ts : List Tr) (ls : List Nat) (i : Nat) (m : Str → Option Value) (nx : Led) : Prop :=
  Ex4 fun q n extra vs => All5 (m (Str.ofString "queue") = some (.ref q)) (nx = extra ++ news) (∀ p' ∈ extra, ∀ p ∈ news, p.1 < p'.1) ((q, listOf (List.toArray vs) n) ∈ nx) (RepL nx vs ((ls.take i).foldl step1 ts))
theorem step1_len (q : List Tr) (l : Nat) (n : Nat) (h : q.length ≤ n) : (step1 q l).length ≤ n ∧ (q ≠ [] → step1 q l ≠ []) := by
  unfold step1
  split
  · rename_i a b rest
    split
    · split <;> simp_all <;> omega
    · simp_all; omega
  · exact ⟨h, id⟩
theorem steps_len (ls : List Nat) : ∀ (q : List Tr) (n : Nat), q.length ≤ n → (ls.foldl step1 q).length ≤ n ∧ (q ≠ [] → ls.foldl step1 q ≠ []) := by
  induction ls with
  | nil => exact fun q n h => ⟨h, id⟩
  | cons l r ih =>
    intro q n h
    have h1 := step1_len q l n h
    have h2 := ih (step1 q l) n h1.1
    exact ⟨h2.1, fun e => h2.2 (h1.2 e)⟩

theorem occ_isT {l : Nat} (h : l ∈ [12272, 12283, 12274, 12275]) : (Builtin.Str.occurrences (Str.ofString "⿲⿳") ⟨#[l]⟩ 0 (Str.ofString "⿲⿳").length 1).isEmpty = !isT l := by
  simp only [List.mem_cons, List.not_mem_nil, or_false] at h
  rcases h with rfl | rfl | rfl | rfl <;> decide +kernel
theorem RepL.three {nx nx' : Led} {vs : List Value} {q : List Tr} {l : Nat} {t : Tok} {x y n : Nat} (h : RepL nx vs q) (hl : isT l = true) (h3 : 2 < vs.length) (k : ∀ p ∈ nx, p ∈ nx') (hx : (x, tupOf [.str ⟨#[l]⟩ t, .ref y]) ∈ nx') (hy : (y, listOf (vs.take 3).toArray n) ∈ nx') :
    RepL nx' (vs.drop 3 ++ [.ref x]) (step1 q l) := by
  cases h with
  | nil => simp at h3
  | cons a h => cases h with
    | nil => simp at h3
    | cons b h => cases h with
      | nil => simp at h3
      | cons c h =>
        simp only [step1, hl, if_true]
        exact (h.mono k).append (.cons (.three hx hy (a.mono k) (b.mono k) (c.mono k)) .nil)
theorem RepL.twoT {nx nx' : Led} {vs : List Value} {q : List Tr} {l : Nat} {t : Tok} {x y n : Nat} (h : RepL nx vs q) (hl : isT l = true) (h2 : 1 < vs.length) (h3 : ¬ 2 < vs.length) (k : ∀ p ∈ nx, p ∈ nx') (hx : (x, tupOf [.str ⟨#[12272]⟩ t, .ref y]) ∈ nx') (hy : (y, listOf (vs.take 2).toArray n) ∈ nx') :
    RepL nx' (vs.drop 2 ++ [.ref x]) (step1 q l) := by
  cases h with
  | nil => simp at h2
  | cons a h => cases h with
    | nil => simp at h2
    | cons b h => cases h with
      | nil =>
        simp only [step1, hl, if_true]
        exact .cons (.two hx hy (a.mono k) (b.mono k)) .nil
      | cons c h => simp at h3
theorem RepL.twoN {nx nx' : Led} {vs : List Value} {q : List Tr} {l : Nat} {t : Tok} {x y n : Nat} (h : RepL nx vs q) (hl : isT l = false) (h2 : 1 < vs.length) (k : ∀ p ∈ nx, p ∈ nx') (hx : (x, tupOf [.str ⟨#[l]⟩ t, .ref y]) ∈ nx') (hy : (y, listOf (vs.take 2).toArray n) ∈ nx') :
    RepL nx' (vs.drop 2 ++ [.ref x]) (step1 q l) := by
  cases h with
  | nil => simp at h2
  | cons a h => cases h with
    | nil => simp at h2
    | cons b h =>
      simp only [step1, hl, Bool.false_eq_true, if_false]
      exact (h.mono k).append (.cons (.two hx hy (a.mono k) (b.mono k)) .nil)
theorem RepL.one {nx : Led} {vs : List Value} {q : List Tr} {l : Nat} (h : RepL nx vs q) (h2 : ¬ 1 < vs.length) : RepL nx vs (step1 q l) := by
  cases h with
  | nil => exact .nil
  | cons a h => cases h with
    | nil => exact .cons a .nil
    | cons b h => simp at h2
theorem take_step {ts : List Tr} {ls : List Nat} {i l : Nat} (h : ls[i]? = some l) : (ls.take (i + 1)).foldl step1 ts = step1 ((ls.take i).foldl step1 ts) l := by
  rw [List.take_add_one, h]; simp
set_option maxHeartbeats 4000000 in
theorem tree_ct (ts : List Tr) (ls : List Nat) (h1 : ts ≠ []) (h2 : ts.length ≤ 6) (h3 : ls.length ≤ 6) (h4 : ∀ l ∈ ls, l ∈ [12272, 12283, 12274, 12275]) :
    Ct w loose mean mg mb 191 10 (TreeRel ts ls) (fun news _ tl r => Rep (tl ++ news) r (treeOf ts ls)) := by
  k_with_none
  k_with "ne" => ((try dsimp only); with_reducible first | assumption | exact Ne.symm (by assumption) | exact Nat.ne_of_lt (by assumption) | exact Nat.ne_of_gt (by assumption) | fail "ne")
  k_with "own for" => skip
  k_with "mem" => first | with_reducible assumption | exact List.mem_cons_self | (refine List.mem_cons_of_mem _ ?_; k_mem) | (refine List.mem_append_right _ ?_; k_mem) | (refine List.mem_append_left _ ?_; k_mem)
  k_with "lt0" => skip
  k_with "call type:list" => (k_here; (with_reducible show wpAny _ _ (call (Value.type _) [Value.ref _]) _ _ _); refine' rl_copy ?zqk1 ?zqk2 ?zqk3 ?zqk4 ?_; (case zqk1 => k_asm); (case zqk2 => k_asm); (case zqk3 => k_mem); (case zqk4 => assumption); intro _ _ _ _ _ _; (try k_sweep))
  k_with "pyIter ref" => fail "own"
  k_with "call builtin:len" => (k_here; (with_reducible show wpAny _ _ (call (Value.builtin "len") [Value.ref _]) _ _ _); refine' rl_len ?zqk1 ?zqk2 ?zqk3 ?_; (case zqk1 => k_asm); (case zqk2 => k_mem); (case zqk3 => assumption))
  k_with "subscriptTail Name Slice ref ref" => (k_here; (with_reducible show wpAny _ _ (subscriptTail _ _ (Value.ref _) (Value.ref _)) _ _ _); k_dflt (first | (refine' rl_from ?zqk0 ?zqk1 ?zqk2 ?zqk3 ?zqk4 ?_ ?zqs ?zqt; (case zqk0 => decide); (case zqk1 => k_asm); (case zqk2 => k_asm); (case zqk3 => k_mem); (case zqk4 => assumption); (case zqs => with_unfolding_all rfl); (case zqt => (intro _; with_unfolding_all rfl))) | (refine' rl_upto ?zqk0 ?zqk1 ?zqk2 ?zqk3 ?zqk4 ?_ ?zqs ?zqt; (case zqk0 => decide); (case zqk1 => k_asm); (case zqk2 => k_asm); (case zqk3 => k_mem); (case zqk4 => assumption); (case zqs => with_unfolding_all rfl); (case zqt => (intro _; with_unfolding_all rfl)))); intro _ _ _ _ _; (try k_sweep))
  k_with "binaryOp Add ref ref" => (k_here; (with_reducible show wpAny _ _ (binaryOp _ (Value.ref _) (Value.ref _)) _ _ _); k_dflt (refine' rl_cat ?zqk1 ?zqk2 ?zqk3 ?zqk4 ?zqz1 ?zqz2 ?_; (case zqk1 => k_asm); (case zqk2 => k_asm); (case zqk3 => k_mem); (case zqk4 => k_mem); (case zqz1 => first | assumption | exact Sm.drop (by assumption) _ | exact Sm.take (by assumption) _ | exact Nat.le_of_ble_eq_true rfl); (case zqz2 => first | assumption | exact Sm.drop (by assumption) _ | exact Sm.take (by assumption) _ | exact Nat.le_of_ble_eq_true rfl)); intro _ _ _ _ _; (try k_sweep))
  k_with "subscriptTail Name Constant ref int" => (k_here; (with_reducible show wpAny _ _ (subscriptTail _ _ (Value.ref _) (Value.int _ _)) _ _ _); k_dflt (refine' rl_item ?zqk1 ?zqk2 ?zqa ?zqb ?zqd ?_ ?zqs ?zqt; (case zqk1 => k_asm); (case zqk2 => k_mem); (case zqa => decide); (case zqb => decide); (case zqd => rfl); (case zqs => with_unfolding_all rfl); (case zqt => (intro _; with_unfolding_all rfl))))
  unfold Ct
  intro dp un gd cn cs a ccd cl outer A₀ base h₀ L m news s vs Q E B F X N T hk hR hd hu hret
  obtain ⟨ka, la, kv, lv, kn, ln, rfl, hka, hla, hkr, hlr⟩ := hR
  have hk1 : Sm kv := by have := hkr.len; unfold Sm; omega
  refine wpAny_call ?_
  k_dflt ktr_enter
  k_steps
  (with_reducible rename Fr _ _ _ _ => lF); (with_reducible rename News _ _ _ _ => lN)
  rename_i g' L' _ _ _ _ _ _ D c _ l1 _
  refine for_list (TreeJ news ts ls) rfl lF lN (List.mem_cons_of_mem _ hla) ?_ ?_ ?_
  · refine ⟨D, c, [(D, listOf kv.toArray c)], kv, rfl, rfl, fun p' hp' p hp => ?_, List.mem_cons_self, hkr.mono fun p hp => List.mem_cons_of_mem _ hp⟩
    rw [List.mem_singleton.mp hp']; exact l1 p hp
  · clear lF lN
    rintro i v I oI m₁ nx h tk hv ⟨q, n, extra, vs, hq, rfl, hord, hmq, hrep⟩ hoff hml F₁ N₁ Q9 hQ9
    obtain ⟨l, lt, rfl, hl⟩ := hlr.get hv
    have hlm := h4 l (List.mem_of_getElem? hl)
    rw [asIf hq] at F₁
    have hsm : Sm vs := by have := hrep.len; have := (steps_len (ls.take i) ts 6 h2).1; unfold Sm; omega
    have fin : ∀ {h' : Heap} {tk' : Nat} {m' : Str → Option Value} {new : Led} {q' n' : Nat} {vs' : List Value}, Fr g' L' h' m' → News g' L' h' (new ++ (I, oI) :: (extra ++ news)) → Abv new ((I, oI) :: (extra ++ news)) → m' (Str.ofString "queue") = some (.ref q') →
        (q', listOf (List.toArray vs') n') ∈ new ++ (extra ++ news) → RepL (new ++ (extra ++ news)) vs' (step1 ((ls.take i).foldl step1 ts) l) → TurnE g' L' I oI (fun m' nx' => TreeJ news ts ls (i + 1) m' nx' ∧ (la, listOf lv.toArray ln) ∈ nx') { s with heap := h, toks := tk } { s with heap := h', toks := tk' } := by
      intro h' tk' m' new q' n' vs' F' N' ab hq' hm' hr'
      refine TurnE.mk new F' N' (abv_of ab) hoff ⟨⟨q', n', new ++ extra, vs', hq', by rw [List.append_assoc], fun p' hp' p hp => ?_, hm', ?_⟩, List.mem_append_right _ hml⟩
      · rcases List.mem_append.mp hp' with hp' | hp'
        · exact abv_of ab p' hp' p (List.mem_cons_of_mem _ (List.mem_append_right _ hp))
        · exact hord p' hp' p hp
      · rw [take_step hl]; exact hr'
    k_steps
    all_goals (with_reducible rename Fr _ _ _ _ => eF); (with_reducible rename News _ _ _ _ => eN)
    · rename (Builtin.Str.occurrences _ _ _ _ _).isEmpty = _ => eo
      rw [occ_isT hlm] at eo
      refine (hQ9 _ ?_).1
      exact fin (new := [_, _, _, _, _]) eF eN ⟨by assumption, by assumption, by assumption, by assumption, by assumption, trivial⟩ rfl List.mem_cons_self (hrep.twoN (by simpa using eo) (by omega) (fun p hp => List.mem_append_right _ hp) (by k_mem) (by k_mem))
    · rename (Builtin.Str.occurrences _ _ _ _ _).isEmpty = _ => eo
      rw [occ_isT hlm] at eo
      refine (hQ9 _ ?_).1
      exact fin (new := [_, _, _, _, _]) eF eN ⟨by assumption, by assumption, by assumption, by assumption, by assumption, trivial⟩ rfl List.mem_cons_self (hrep.three (by simpa using eo) (by omega) (fun p hp => List.mem_append_right _ hp) (by k_mem) (by k_mem))
    · rename (Builtin.Str.occurrences _ _ _ _ _).isEmpty = _ => eo
      rw [occ_isT hlm] at eo
      refine (hQ9 _ ?_).1
      exact fin (new := [_, _, _, _, _]) eF eN ⟨by assumption, by assumption, by assumption, by assumption, by assumption, trivial⟩ rfl List.mem_cons_self (hrep.twoT (by simpa using eo) (by omega) (by omega) (fun p hp => List.mem_append_right _ hp) (by k_mem) (by k_mem))
    · refine (hQ9 _ ?_).1
      exact fin (new := []) eF eN trivial rfl hmq (hrep.one (by omega))
  · clear lF lN
    rintro m₁ nx h tk ⟨q, n, extra, vs, hq, rfl, hord, hmq, hrep⟩ F₁ N₁
    rw [asIf hq] at F₁
    have hsm : Sm vs := by have := hrep.len; have := (steps_len (ls.take lv.length) ts 6 h2).1; unfold Sm; omega
    have hne := (steps_len (ls.take lv.length) ts 6 h2).2 h1
    have hls : ls.take lv.length = ls := by rw [hlr.len, List.take_length]
    have hout : ∃ v0 rest, vs = v0 :: rest ∧ Rep (extra ++ news) v0 (treeOf ts ls) := by
      rw [hls] at hrep hne
      unfold treeOf
      revert hrep hne
      generalize List.foldl step1 ts ls = qs
      intro hr hne
      cases hr with
      | nil => exact absurd rfl hne
      | cons a h => exact ⟨_, _, rfl, a⟩
    obtain ⟨v0, rest, rfl, hv0⟩ := hout
    k_steps
    (with_reducible rename Fr _ _ _ _ => kF9); (with_reducible rename News _ _ _ _ => kN9)
    exact hret _ extra _ _ kF9 kN9 (fun q hq p hp => hord p hp q hq) hv0
end

/-! Comp -/
open PySem PySem.W PyProof.Rows PySem.Calls PySem.Spec

theorem ct_use {w : World} {loose : List Str} {mean : ExcName → Option Value} {mg mb : Str → Option Value} {f : Addr} {sz : Nat} {Rel : Led → List Value → Prop} {Out : Led → List Value → Led → Value → Prop} (C : Ct w loose mean mg mb f sz Rel Out)
    {dp un : Nat} {gd : Option (List Code)} {cn : Str} {cs : Scope} {a : Addr} {ccd : Value} {cl : List (Str × Addr)} {outer : List Env} {A₀ : Around} {base h₀ : Heap} {L : Addr} {m : Str → Option Value} {news : Led} {s : Shared} {vs : List Value} {Q E : Value → Shared → Prop}
    (B : Below A₀ base outer h₀) (F : Fr h₀ L s.heap m) (X : (devHeap w.params).In h₀) (N : News h₀ L s.heap news) (T : Top devView loose mean mg mb h₀) (hk : cs.kind = .function) (R : Rel news vs) (hd : dp + sz < recursionLimit) (hu : un + 8 * sz < cLine)
    (ret : ∀ r tl h' tk', Fr h₀ L h' m → News h₀ L h' (tl ++ news) → (∀ q ∈ news, ∀ p ∈ tl, q.1 < p.1) → Out news vs tl r → Q r { s with heap := h', toks := tk' }) :
    wpAny (model PySem.Challenge.rw_re0162_01.row.prog w) (ktrTop dp un gd cn cs L a ccd cl outer) (call (.ref f) vs) Q E s := C _ _ _ _ _ _ _ _ _ _ _ _ _ _ _ _ _ _ _ B F X N T hk R hd hu ret
theorem Ct.wider {w : World} {loose : List Str} {mean : ExcName → Option Value} {mg mb : Str → Option Value} {f : Addr} {sz sz' : Nat} {Rel : Led → List Value → Prop} {Out : Led → List Value → Led → Value → Prop} (C : Ct w loose mean mg mb f sz Rel Out) (h : sz ≤ sz') : Ct w loose mean mg mb f sz' Rel Out :=
  fun _ _ _ _ _ _ _ _ _ _ _ _ _ _ _ _ _ _ _ B F X N T hk R hd hu ret => ct_use C B F X N T hk R (by omega) (by omega) ret

theorem Ct.conv {w : World} {loose : List Str} {mean : ExcName → Option Value} {mg mb : Str → Option Value} {f : Addr} {sz : Nat} {Rel Rel' : Led → List Value → Prop} {Out Out' : Led → List Value → Led → Value → Prop} (C : Ct w loose mean mg mb f sz Rel Out) (h : ∀ news vs, Rel' news vs → Rel news vs)
    (h2 : ∀ news vs tl r, Rel' news vs → Out news vs tl r → Out' news vs tl r) : Ct w loose mean mg mb f sz Rel' Out' :=
  fun _ _ _ _ _ _ _ _ _ _ _ _ _ _ _ _ _ _ _ B F X N T hk R hd hu ret => ct_use C B F X N T hk (h _ _ R) hd hu fun r tl h' tk' a b c d => ret r tl h' tk' a b c (h2 _ _ _ _ R d)

/-! a comprehension over a list of the ledger (one clause, no test) -/
section
variable {prog : Program} {w : World} {A : Around} {s : Shared} {h₀ : Heap} {L : Addr} {m : Str → Option Value} {env : Env} {elt : PySem.Expr} {x : Str} {scope : Scope} {cl : List (Str × Addr)} {news : Led} {S : Led → Prop} {P : Nat → Value → Prop} {Fin : List Value → Led → Prop}

/-- the end of a comprehension's element: the three things of the comprehension's own stand as they stood -/
noncomputable def EltE (h₀ : Heap) (L : Addr) (m : Str → Option Value) (s₁ : Shared) (I : Addr) (oI : Obj) (C : Addr) (oC : Obj) (D : Addr) (oD : Obj) (J : Value → Led → Prop) (y : Value) (s₂ : Shared) : Prop :=
  Ex3 fun h' tk nx => All5 (s₂ = { s₁ with heap := h', toks := tk }) (Fr h₀ L h' m) (News h₀ L h' ((I, oI) :: (C, oC) :: (D, oD) :: nx)) (∀ p ∈ nx, p.1 ≠ I ∧ p.1 ≠ C ∧ p.1 ≠ D) (J y nx)
theorem EltE.mk {s₁ : Shared} {I C D : Addr} {oI oC oD : Obj} {J : Value → Led → Prop} {y : Value} {h' : Heap} {tk : Nat} {nx : Led} (new : Led) (F : Fr h₀ L h' m) (N : News h₀ L h' (new ++ (I, oI) :: (C, oC) :: (D, oD) :: nx)) (ab : ∀ p ∈ new, ∀ q ∈ (I, oI) :: (C, oC) :: (D, oD) :: nx, q.1 < p.1)
    (off : ∀ p ∈ nx, p.1 ≠ I ∧ p.1 ≠ C ∧ p.1 ≠ D) (hj : J y (new ++ nx)) : EltE h₀ L m s₁ I oI C oC D oD J y { s₁ with heap := h', toks := tk } := by
  refine ⟨h', tk, new ++ nx, rfl, F, fun p hp => N p ?_, fun p hp => ?_, hj⟩
  · rcases List.mem_cons.mp hp with rfl | hp
    · exact List.mem_append_right _ List.mem_cons_self
    · rcases List.mem_cons.mp hp with rfl | hp
      · exact List.mem_append_right _ (List.mem_cons_of_mem _ List.mem_cons_self)
      · rcases List.mem_cons.mp hp with rfl | hp
        · exact List.mem_append_right _ (List.mem_cons_of_mem _ (List.mem_cons_of_mem _ List.mem_cons_self))
        · rcases List.mem_append.mp hp with hp | hp
          · exact List.mem_append_left _ hp
          · exact List.mem_append_right _ (List.mem_cons_of_mem _ (List.mem_cons_of_mem _ (List.mem_cons_of_mem _ hp)))
  · rcases List.mem_append.mp hp with hp | hp
    · have := ab p hp
      exact ⟨Nat.ne_of_gt (this _ List.mem_cons_self), Nat.ne_of_gt (this _ (List.mem_cons_of_mem _ List.mem_cons_self)), Nat.ne_of_gt (this _ (List.mem_cons_of_mem _ (List.mem_cons_of_mem _ List.mem_cons_self)))⟩
    · exact off p hp
theorem comp_rest {n : Nat} (J : Nat → List Value → Led → Prop) (hS : ∀ i ys nx, J i ys nx → S nx) (h0 : J 0 [] news)
    (turn : ∀ i v I oI C oC D m₂ ys nx h tk (E' : Value → Shared → Prop), i < n → P i v → J i ys nx → LCg.NsObj oC m₂ → m₂ x = some v → Fr h₀ L h m → News h₀ L h ((I, oI) :: (C, oC) :: (D, LCg.lst ys) :: nx) → (∀ p ∈ nx, p.1 ≠ I ∧ p.1 ≠ C ∧ p.1 ≠ D) →
      ∀ Q9 : Value → Shared → Prop, (∀ y s', EltE h₀ L m { s with heap := h, toks := tk } I oI C oC D (LCg.lst ys) (fun y nx' => J (i + 1) (ys ++ [y]) nx') y s' → Q9 y s') → wpAny (model prog w) A (eval elt (compEnvC scope cl C env)) Q9 E' { s with heap := h, toks := tk })
    (fin : ∀ ys nx, J n ys nx → Fin ys nx) : LCg.CompRest prog w A h₀ L m env elt x scope cl s S P Fin n 0 [] news := by
  have key : ∀ (j i : Nat) (ys : List Value) (nx : Led), i + j = n → J i ys nx → LCg.CompRest prog w A h₀ L m env elt x scope cl s S P Fin j i ys nx := by
    intro j
    induction j with
    | zero =>
      intro i ys nx hi hJ
      have e : i = n := by omega
      subst e
      exact LCg.CompRest.zero (fin ys nx hJ)
    | succ j ih =>
      intro i ys nx hi hJ
      refine LCg.CompRest.succ ?_
      intro v I oI C oC D m₂ h tk E' hv hC hx F N off ne
      refine wpAny_mono (turn i v I oI C oC D m₂ ys nx h tk E' (by omega) hv hJ hC hx F N (LCg.Off3.mem off) _ fun _ _ h => h) (fun y s₂ hq => ?_) fun _ _ e => e
      obtain ⟨h', tk', nx', e, F', N', off', hJ'⟩ := hq
      exact ⟨h', tk', nx', e, F', N', LCg.Off3.of off', hS _ _ _ hJ', ih (i + 1) _ _ (by omega) hJ'⟩
  exact key n 0 [] news (by omega) h0
theorem off1_of {D : Addr} {l : Led} (h : LCg.Off1 D l) : ∀ p ∈ l, p.1 ≠ D := by
  induction l with
  | nil => intro p hp; cases hp
  | cons q r ih =>
    intro p hp
    rcases List.mem_cons.mp hp with rfl | hp
    · exact h.1
    · exact ih h.2 p hp
end
/-! texts as lists of signs -/
theorem strMk_append (a b : List Nat) : (⟨a.toArray⟩ : Str) ++ ⟨b.toArray⟩ = ⟨(a ++ b).toArray⟩ := by
  apply Str.ext'
  rw [Str.cps_append]
  simp
theorem strMk_len (a : List Nat) : Str.length ⟨a.toArray⟩ = a.length := by simp [Str.length]
/-- texts as lists of signs, a list of them -/
inductive Texts : List Value → List (List Nat) → Prop where
  | nil : Texts [] []
  | cons {c : List Nat} {t : Tok} {vs : List Value} {cs : List (List Nat)} : Texts vs cs → Texts (.str ⟨c.toArray⟩ t :: vs) (c :: cs)
theorem Texts.append {vs vs' : List Value} {cs cs' : List (List Nat)} (h : Texts vs cs) (h' : Texts vs' cs') : Texts (vs ++ vs') (cs ++ cs') := by
  induction h with
  | nil => exact h'
  | cons _ ih => exact .cons ih
theorem Texts.len {vs : List Value} {cs : List (List Nat)} (h : Texts vs cs) : vs.length = cs.length := by
  induction h with
  | nil => rfl
  | cons _ i => simp [i]
theorem Texts.strs {vs : List Value} {cs : List (List Nat)} (h : Texts vs cs) : StrsAre vs (cs.map fun c => ⟨c.toArray⟩) := by
  induction h with
  | nil => exact .nil
  | cons _ i => exact .cons _ _ i
theorem Texts.get {vs : List Value} {cs : List (List Nat)} (h : Texts vs cs) {i : Nat} {v : Value} (e : vs[i]? = some v) : ∃ c t, v = .str ⟨c.toArray⟩ t ∧ cs[i]? = some c := by
  induction h generalizing i with
  | nil => simp at e
  | cons _ ih => cases i with
    | zero => simp at e; subst e; exact ⟨_, _, rfl, by simp⟩
    | succ i => simp at e; obtain ⟨c, t, h1, h2⟩ := ih e; exact ⟨c, t, h1, by simpa using h2⟩
theorem join_cps : ∀ cs : List (List Nat), Str.join ⟨#[]⟩ (cs.map fun c => (⟨c.toArray⟩ : Str)) = ⟨cs.flatten.toArray⟩
  | [] => rfl
  | [c] => by
    show (⟨c.toArray⟩ : Str) = _
    simp
  | c :: d :: r => by
    have ih := join_cps (d :: r)
    show (⟨c.toArray⟩ : Str) ++ ⟨#[]⟩ ++ Str.join ⟨#[]⟩ ((d :: r).map fun c => (⟨c.toArray⟩ : Str)) = _
    rw [ih]
    have e2 : (⟨c.toArray⟩ : Str) ++ ⟨#[]⟩ = ⟨c.toArray⟩ := by
      have := strMk_append c []
      simpa using this
    rw [e2, strMk_append]
    rfl
theorem join_texts (cs : List (List Nat)) : Txt.join ⟨#[]⟩ (cs.map fun c => (⟨c.toArray⟩ : Str)) = ⟨cs.flatten.toArray⟩ := (StrLaws.glued_eq_join _ _).trans (join_cps cs)
theorem rl_adds {prog : Program} {w : World} {A : Around} {E : Value → Shared → Prop} {s : Shared} {a b : List Nat} {t u : Tok} {Q : Value → Shared → Prop} (hz : a.length + b.length ≤ 16777216) (h : ∀ t' k, Q (.str ⟨(a ++ b).toArray⟩ t') { s with toks := k }) :
    wpAny (model prog w) A (binaryOp .Add (.str ⟨a.toArray⟩ t) (.str ⟨b.toArray⟩ u)) Q E s := by
  refine PyProof.Rows.add_str (fun t' k => ?_) (by rw [strMk_len, strMk_len]; exact hz)
  rw [strMk_append]; exact h t' k
theorem sum_le {k : Nat} : ∀ {l : List Nat}, (∀ n ∈ l, n ≤ k) → l.sum ≤ l.length * k
  | [], _ => by simp
  | n :: r, h => by
    have h1 := h n List.mem_cons_self
    have h2 := sum_le (l := r) fun m hm => h m (List.mem_cons_of_mem _ hm)
    rw [List.sum_cons, List.length_cons, Nat.add_mul]
    omega
theorem empty_eq : Str.ofString "" = ⟨#[]⟩ := by decide +kernel
theorem rl_join {prog : Program} {w : World} {A : Around} {E : Value → Shared → Prop} {s : Shared} {h₀ : Heap} {L D : Addr} {news : Led} {n : Nat} {vs : List Value} {cs : List (List Nat)} {t : Tok} {Q : Value → Shared → Prop}
    (N : News h₀ L s.heap news) (hm : (D, listOf vs.toArray n) ∈ news) (ht : Texts vs cs) (hz : (cs.map List.length).sum ≤ 16777216) (h : ∀ t' k, Q (.str ⟨cs.flatten.toArray⟩ t') { s with toks := k }) :
    wpAny (model prog w) A (call (.builtin "str.join") [.str (Str.ofString "") t, .ref D]) Q E s := by
  rw [empty_eq]
  refine join_list (rl_isList N hm) ht.strs ?_ fun t' k => ?_
  · have e : (cs.map fun c => (⟨c.toArray⟩ : Str)).map (·.length) = cs.map List.length := by
      rw [List.map_map]
      exact List.map_congr_left fun c _ => strMk_len c
    rw [e]
    simpa [Str.length] using hz
  · rw [join_texts]
    exact h t' k

/-! Row -/
open PySem PySem.W PyProof.Rows PySem.Calls PySem.Spec
theorem kfill3 : (fun (_ : OpenLaw) (_ : Params → Frag) => True) PySem.Challenge.rw_re0162_01 devHeap := by k_fill; trivial

noncomputable def flat : Tr → List Nat
  | .leaf c => [c]
  | .two l a b => l :: (flat a ++ flat b)
  | .three l a b c => l :: (flat a ++ (flat b ++ flat c))
noncomputable def rot : Tr → Int → Tr
  | .leaf c, _ => .leaf c
  | .two l a b, x => if x % 2 = 0 then .two l (rot a (x / 3 + 1)) (rot b (x / 3 + 1)) else .two l (rot b (x / 3 + 1)) (rot a (x / 3 + 1))
  | .three l a b c, x => if x % 3 = 0 then .three l (rot a (x / 3 + 1)) (rot b (x / 3 + 1)) (rot c (x / 3 + 1)) else if x % 3 = 1 then .three l (rot b (x / 3 + 1)) (rot c (x / 3 + 1)) (rot a (x / 3 + 1))
    else .three l (rot c (x / 3 + 1)) (rot a (x / 3 + 1)) (rot b (x / 3 + 1))
noncomputable def Tr.ht : Tr → Nat
  | .leaf _ => 0
  | .two _ a b => max a.ht b.ht + 1
  | .three _ a b c => max a.ht (max b.ht c.ht) + 1
section
variable {w : World} {loose : List Str} {mean : ExcName → Option Value} {mg mb : Str → Option Value}
noncomputable def RowRel (t : Tr) (x : Int) (news : Led) (vs : List Value) : Prop := ∃ v k, vs = [v, .int x k] ∧ Rep news v t
noncomputable def RowOut (t : Tr) (x : Int) (_ : Led) (_ : List Value) (_ : Led) (r : Value) : Prop := ∃ k, r = .str ⟨(flat (rot t x)).toArray⟩ k

noncomputable def NodeRel (l : Nat) (cs : List Tr) (x : Int) (news : Led) (vs : List Value) : Prop :=
  ∃ a q lt n cv k, vs = [.ref a, .int x k] ∧ (a, tupOf [.str ⟨#[l]⟩ lt, .ref q]) ∈ news ∧ (q, listOf (List.toArray cv) n) ∈ news ∧ RepL news cv cs
noncomputable def nodeRow (l : Nat) (cs : List Tr) (x : Int) : List Nat := l :: ((cs.drop (x % cs.length).toNat ++ cs.take (x % cs.length).toNat).map fun c => flat (rot c (x / 3 + 1))).flatten
set_option maxHeartbeats 1000000 in
theorem row_node (l : Nat) (cs : List Tr) (x : Int) (sz : Nat) (hc : cs.length = 2 ∨ cs.length = 3) (hb : ∀ c ∈ cs, ∀ x, (flat (rot c x)).length ≤ 1000) (ih : ∀ c ∈ cs, ∀ x, Ct w loose mean mg mb 196 sz (RowRel c x) (RowOut c x)) :
    Ct w loose mean mg mb 196 (sz + 4) (NodeRel l cs x) (fun _ _ _ r => ∃ k, r = .str ⟨(nodeRow l cs x).toArray⟩ k) := by
  k_with_none
  k_with "ne" => ((try dsimp only); with_reducible first | assumption | exact Ne.symm (by assumption) | exact Nat.ne_of_lt (by assumption) | exact Nat.ne_of_gt (by assumption) | fail "ne")
  k_with "lt0" => skip
  k_with "mem" => first | with_reducible assumption | exact List.mem_cons_self | (refine List.mem_cons_of_mem _ ?_; k_mem) | (refine List.mem_append_right _ ?_; k_mem) | (refine List.mem_append_left _ ?_; k_mem)
  k_with "enter" => (refine' code_defC ?zqk1 ?zqk2 ?zqk3 ?zqk4 ?zqk5 ?zqkA ?zqkF ?zqkK ?zqk6 ?zqk7 ?zqk8 ?zqk9 ?zqkB ?zqkD ?_ ?zqc2 ?zqc3 ?zqc4; (case zqkA => exact rfl); (case zqkF => exact rfl); (case zqkK => assumption); (case zqk1 => k_asm); (case zqk2 => k_asm); (case zqk3 => k_asm); (case zqk4 => k_asm); (case zqk5 => k_asm); (case zqk6 => k_is); (case zqk7 => k_is); (case zqk8 => ktr_room); (case zqk9 => exact BindsTo.of_eq rfl); (case zqkB => exact rfl); (case zqkD => decide +kernel); (case zqc2 => exact rfl); (case zqc3 => exact rfl); (case zqc4 => exact rfl); k_whole)
  k_with "call builtin:len" => (k_here; (with_reducible show wpAny _ _ (call (Value.builtin "len") [Value.ref _]) _ _ _); refine' rl_len ?zqk1 ?zqk2 ?zqk3 ?_; (case zqk1 => k_asm); (case zqk2 => k_mem); (case zqk3 => assumption))
  k_with "subscriptTail Name Slice ref ref" => (k_here; (with_reducible show wpAny _ _ (subscriptTail _ _ (Value.ref _) (Value.ref _)) _ _ _); k_dflt (first | (refine' rl_from ?zqk0 ?zqk1 ?zqk2 ?zqk3 ?zqk4 ?_ ?zqs ?zqt; (case zqk0 => assumption); (case zqk1 => k_asm); (case zqk2 => k_asm); (case zqk3 => k_mem); (case zqk4 => assumption); (case zqs => with_unfolding_all rfl); (case zqt => (intro _; with_unfolding_all rfl))) | (refine' rl_upto ?zqk0 ?zqk1 ?zqk2 ?zqk3 ?zqk4 ?_ ?zqs ?zqt; (case zqk0 => assumption); (case zqk1 => k_asm); (case zqk2 => k_asm); (case zqk3 => k_mem); (case zqk4 => assumption); (case zqs => with_unfolding_all rfl); (case zqt => (intro _; with_unfolding_all rfl)))); intro _ _ _ _ _; (try k_sweep))
  k_with "binaryOp Add ref ref" => (k_here; (with_reducible show wpAny _ _ (binaryOp _ (Value.ref _) (Value.ref _)) _ _ _); k_dflt (refine' rl_cat ?zqk1 ?zqk2 ?zqk3 ?zqk4 ?zqz1 ?zqz2 ?_; (case zqk1 => k_asm); (case zqk2 => k_asm); (case zqk3 => k_mem); (case zqk4 => k_mem); (case zqz1 => first | assumption | exact Sm.drop (by assumption) _ | exact Sm.take (by assumption) _ | exact Nat.le_of_ble_eq_true rfl); (case zqz2 => first | assumption | exact Sm.drop (by assumption) _ | exact Sm.take (by assumption) _ | exact Nat.le_of_ble_eq_true rfl)); intro _ _ _ _ _; (try k_sweep))
  k_with "eval ListComp" => (k_here; k_dflt (refine LCg.ListComp_U (F₀ := by k_asm) (by with_unfolding_all rfl) (by decide) (by rfl) (by decide) (by rfl) ?_))
  k_with "call ref" => (k_here; k_dflt (refine' ct_use ?zqC ?zqk1 ?zqk2 ?zqk3 ?zqk4 ?zqk5 ?zqkK ?zqkR ?zqkd ?zqku ?_; (case zqC => assumption); (case zqk1 => k_asm); (case zqk2 => k_asm); (case zqk3 => k_asm); (case zqk4 => k_asm); (case zqk5 => k_asm); (case zqkK => first | exact rfl | assumption); (case zqkR => exact ⟨_, _, rfl, Rep.mono (by assumption) (fun p hp => by k_mem)⟩); (case zqkd => ktr_room); (case zqku => ktr_units); intro _ _ _ _ _ _ _ _; (try dsimp only)))
  k_with "call builtin:str.join" => (k_here; (with_reducible show wpAny _ _ (call (Value.builtin "str.join") [Value.str _ _, Value.ref _]) _ _ _); k_dflt (refine' rl_join ?zqk1 ?zqk2 ?zqk3 ?zqk4 ?_; (case zqk1 => k_asm); (case zqk2 => k_mem); (case zqk3 => assumption); (case zqk4 => assumption)); intro _ _)
  k_with "binaryOp Add str str" => (k_here; (with_reducible show wpAny _ _ (binaryOp _ (Value.str _ _) (Value.str _ _)) _ _ _); (refine' rl_adds ?zqk1 ?_; (case zqk1 => (simp only [List.length_cons, List.length_nil]; omega))); intro _ _)
  unfold Ct
  intro dp un gd cn cs' a ccd cl outer A₀ base h₀ L m news s vs Q E B F X N T hk hR hd hu hret
  obtain ⟨a', q, lt, n, cv, k, rfl, ha, hq, hr⟩ := hR
  have hlen := hr.len
  have hsm : Sm cv := by unfold Sm; omega
  have hpos : (0 : Int) < (cv.length : Int) := by omega
  have hmod : 0 ≤ Int.fmod x cv.length := Int.fmod_nonneg_of_pos _ hpos
  refine wpAny_call ?_
  k_dflt ktr_enter
  k_steps
  (with_reducible rename Fr _ _ _ _ => lF); (with_reducible rename News _ _ _ _ => lN)
  refine LCg.CompSrc.ledger rfl lF lN List.mem_cons_self (Sm.sz (by unfold Sm at *; rw [List.length_append, List.length_drop, List.length_take]; exact Nat.le_trans (cut_le _ _) hsm)) ?_
  intro gg
  generalize hN0 : (_ :: _ :: _ :: _ :: news : Led) = N0 at lN ⊢
  have hsub : ∀ p ∈ news, p ∈ N0 := by subst hN0; intro p hp; k_mem
  generalize hj : (Int.fmod x cv.length).toNat = j at hN0 ⊢
  have hD : (_, listOf (cv.drop j ++ cv.take j).toArray 0) ∈ N0 := hN0 ▸ List.mem_cons_self
  have hcell : ∃ o', (_, o') ∈ N0 ∧ o'.data = _ := ⟨_, hN0 ▸ (List.mem_cons_of_mem _ (List.mem_cons_of_mem _ (List.mem_cons_of_mem _ List.mem_cons_self))), by assumption⟩
  obtain ⟨oc, hcm, hcd⟩ := hcell
  have hparts : RepL news (cv.drop j ++ cv.take j) (cs.drop j ++ cs.take j) := (hr.drop j).append (hr.take j)
  refine comp_rest (fun i ys nx => ∃ extra, nx = extra ++ N0 ∧ (∀ p' ∈ extra, ∀ p ∈ N0, p.1 < p'.1) ∧ Texts ys (((cs.drop j ++ cs.take j).take i).map fun c => flat (rot c (x.fdiv 3 + 1)))) ?_ ⟨[], rfl, (fun _ h => nomatch h), Texts.nil⟩ ?_ ?_
  · rintro i ys nx ⟨extra, rfl, -, -⟩
    exact .inr ⟨_, List.mem_append_right _ hD, rfl, _, rfl⟩
  · clear lF lN hN0
    rintro i v I oI C oC D m₂ ys nx h tk E' hi hv ⟨extra, rfl, hord, hys⟩ hC hx F₁ N₁ off Q9 hQ9
    obtain ⟨c, hc', hrep⟩ := hparts.get (by simpa using hv)
    have hct := ih c (by have := List.mem_of_getElem? hc'; rcases List.mem_append.mp this with h | h; exact List.mem_of_mem_drop h; exact List.mem_of_mem_take h) (x.fdiv 3 + 1)
    have hrep' := hrep.mono hsub
    k_steps
    (with_reducible rename Fr _ _ _ _ => eF); (with_reducible rename News _ _ _ _ => eN)
    rename_i hab ho
    obtain ⟨kk, rfl⟩ := ho
    refine hQ9 _ _ ?_
    refine EltE.mk _ eF eN (fun p hp q hq => hab q hq p hp) off ⟨_ ++ extra, (List.append_assoc _ _ _).symm, fun p' hp' p hp => ?_, ?_⟩
    · rcases List.mem_append.mp hp' with h' | h'
      · exact hab p (by k_mem) p' h'
      · exact hord p' h' p hp
    · rw [List.take_add_one, hc', List.map_append]
      exact hys.append (.cons .nil)
  · rintro ys nx ⟨extra, rfl, hord, hys⟩
    unfold LCg.FinE
    intro D2 h2 tk2 F2 N2 o2
    have htake : (cs.drop j ++ cs.take j).take ((cv.drop j ++ cv.take j).toArray.size) = cs.drop j ++ cs.take j := by
      refine List.take_of_length_le ?_
      simp only [List.size_toArray, List.length_append, List.length_drop, List.length_take]; rw [hlen]; exact Nat.le_refl _
    rw [htake] at hys
    have hc3 : cs.length ≤ 3 := by rcases hc with h | h <;> rw [h] <;> decide
    have hall : ∀ n ∈ List.map List.length ((cs.drop j ++ cs.take j).map fun c => flat (rot c (x.fdiv 3 + 1))), n ≤ 1000 := by
      intro n hn
      rw [List.map_map] at hn
      obtain ⟨c, hc1, rfl⟩ := List.mem_map.mp hn
      refine hb c ?_ _
      rcases List.mem_append.mp hc1 with h | h
      · exact List.mem_of_mem_drop h
      · exact List.mem_of_mem_take h
    have hsum : (List.map List.length ((cs.drop j ++ cs.take j).map fun c => flat (rot c (x.fdiv 3 + 1)))).sum ≤ 16777216 := by
      refine Nat.le_trans (sum_le hall) ?_
      simp only [List.length_map, List.length_append, List.length_drop, List.length_take]; exact Nat.le_trans (Nat.mul_le_mul_right _ (Nat.le_trans (cut_le _ _) hc3)) (by decide)
    have hfl : ((cs.drop j ++ cs.take j).map fun c => flat (rot c (x.fdiv 3 + 1))).flatten.length ≤ 10000 := by
      rw [List.length_flatten]
      refine Nat.le_trans (sum_le hall) ?_
      simp only [List.length_map, List.length_append, List.length_drop, List.length_take]; exact Nat.le_trans (Nat.mul_le_mul_right _ (Nat.le_trans (cut_le _ _) hc3)) (by decide)
    have hj2 : j = (x % cs.length).toNat := by rw [← hj, hlen, Int.fmod_eq_emod_of_nonneg _ (by omega)]
    have hrow : [l] ++ ((cs.drop j ++ cs.take j).map fun c => flat (rot c (x.fdiv 3 + 1))).flatten = nodeRow l cs x := by
      unfold nodeRow
      rw [hj2, Int.fdiv_eq_ediv_of_nonneg _ (by decide)]
      rfl
    k_steps
    (with_reducible rename Fr _ _ _ _ => kF9); (with_reducible rename News _ _ _ _ => kN9)
    rw [hrow]
    exact hret _ [] _ _ kF9 (fun p hp => kN9 p (List.mem_cons_of_mem _ (List.mem_append_right _ (hsub p hp)))) (fun _ _ _ h => nomatch h) ⟨_, rfl⟩
set_option maxHeartbeats 1000000 in
theorem row_leaf (c : Nat) (x : Int) : Ct w loose mean mg mb 196 4 (RowRel (.leaf c) x) (RowOut (.leaf c) x) := by
  unfold Ct
  intro dp un gd cn cs a ccd cl outer A₀ base h₀ L m news s vs Q E B F X N T hk hR hd hu hret
  obtain ⟨v, k, rfl, hr⟩ := hR
  cases hr
  refine wpAny_call ?_
  k_dflt ktr_enter
  k_steps
  (with_reducible rename Fr _ _ _ _ => kF9); (with_reducible rename News _ _ _ _ => kN9)
  exact hret _ [] _ _ kF9 (fun p hp => kN9 p (by first | exact hp | exact List.mem_cons_of_mem _ hp)) (fun _ _ _ h => nomatch h) ⟨_, rfl⟩
end

theorem flat_rot_len : ∀ (t : Tr) (x : Int), (flat (rot t x)).length = (flat t).length := by
  intro t
  induction t with
  | leaf c => intro x; rfl
  | two l a b iha ihb => intro x; unfold rot; split <;> simp only [flat, List.length_cons, List.length_append, iha, ihb] <;> omega
  | three l a b c iha ihb ihc => intro x; unfold rot; split; simp only [flat, List.length_cons, List.length_append, iha, ihb, ihc]; split <;> simp only [flat, List.length_cons, List.length_append, iha, ihb, ihc] <;> omega
theorem rot_two (l : Nat) (a b : Tr) (x : Int) : rot (.two l a b) x = if x % 2 = 0 then .two l (rot a (x / 3 + 1)) (rot b (x / 3 + 1)) else .two l (rot b (x / 3 + 1)) (rot a (x / 3 + 1)) := rfl
theorem rot_three (l : Nat) (a b c : Tr) (x : Int) : rot (.three l a b c) x = if x % 3 = 0 then .three l (rot a (x / 3 + 1)) (rot b (x / 3 + 1)) (rot c (x / 3 + 1)) else if x % 3 = 1 then .three l (rot b (x / 3 + 1)) (rot c (x / 3 + 1)) (rot a (x / 3 + 1))
    else .three l (rot c (x / 3 + 1)) (rot a (x / 3 + 1)) (rot b (x / 3 + 1)) := rfl
theorem nodeRow_two (l : Nat) (a b : Tr) (x : Int) : nodeRow l [a, b] x = flat (rot (.two l a b) x) := by
  have h : x % 2 = 0 ∨ x % 2 = 1 := Int.emod_two_eq x
  rw [rot_two]
  unfold nodeRow
  rcases h with h | h <;> simp [h, flat]
theorem nodeRow_three (l : Nat) (a b c : Tr) (x : Int) : nodeRow l [a, b, c] x = flat (rot (.three l a b c) x) := by
  have h : x % 3 = 0 ∨ x % 3 = 1 ∨ x % 3 = 2 := by
    obtain ⟨m, hm, e⟩ := ar_int (Int.emod_nonneg x (show (3 : Int) ≠ 0 by decide)) (show x % 3 < (3 : Nat) from Int.emod_lt_of_pos x (by decide))
    rw [e]
    exact ar_upto (P := fun m => ((m : Nat) : Int) = 0 ∨ ((m : Nat) : Int) = 1 ∨ ((m : Nat) : Int) = 2) (by decide) hm
  rw [rot_three]
  unfold nodeRow
  rcases h with h | h | h <;> simp [h, flat]
section
variable {w : World} {loose : List Str} {mean : ExcName → Option Value} {mg mb : Str → Option Value}
theorem row_ct : ∀ (t : Tr) (_ : (flat t).length ≤ 1000) (x : Int), Ct w loose mean mg mb 196 (4 * t.ht + 4) (RowRel t x) (RowOut t x) := by
  intro t
  induction t with
  | leaf c => exact fun _ x => row_leaf c x
  | two l a b iha ihb =>
    intro hl x
    simp only [flat, List.length_cons, List.length_append] at hl
    have h := row_node l [a, b] x (4 * max a.ht b.ht + 4) (.inl rfl) (w := w) (loose := loose) (mean := mean) (mg := mg) (mb := mb) (fun c hc x => by
      rw [flat_rot_len]
      simp only [List.mem_cons, List.not_mem_nil, or_false] at hc
      rcases hc with rfl | rfl <;> omega) (fun c hc x => by
      simp only [List.mem_cons, List.not_mem_nil, or_false] at hc
      rcases hc with rfl | rfl
      · exact (iha (by omega) x).wider (by omega)
      · exact (ihb (by omega) x).wider (by omega))
    rw [nodeRow_two] at h
    refine (h.conv (fun news vs hR => ?_) fun _ _ _ _ _ ho => ho).wider (by simp only [Tr.ht]; omega)
    obtain ⟨v, k, rfl, hr⟩ := hR
    cases hr with
    | two h1 h2 h3 h4 => exact ⟨_, _, _, _, [_, _], k, rfl, h1, h2, .cons h3 (.cons h4 .nil)⟩
  | three l a b c iha ihb ihc =>
    intro hl x
    simp only [flat, List.length_cons, List.length_append] at hl
    have h := row_node l [a, b, c] x (4 * max a.ht (max b.ht c.ht) + 4) (.inr rfl) (w := w) (loose := loose) (mean := mean) (mg := mg) (mb := mb) (fun c hc x => by
      rw [flat_rot_len]
      simp only [List.mem_cons, List.not_mem_nil, or_false] at hc
      rcases hc with rfl | rfl | rfl <;> omega) (fun c hc x => by
      simp only [List.mem_cons, List.not_mem_nil, or_false] at hc
      rcases hc with rfl | rfl | rfl
      · exact (iha (by omega) x).wider (by omega)
      · exact (ihb (by omega) x).wider (by omega)
      · exact (ihc (by omega) x).wider (by omega))
    rw [nodeRow_three] at h
    refine (h.conv (fun news vs hR => ?_) fun _ _ _ _ _ ho => ho).wider (by simp only [Tr.ht]; omega)
    obtain ⟨v, k, rfl, hr⟩ := hR
    cases hr with
    | three h1 h2 h3 h4 h5 => exact ⟨_, _, _, _, [_, _, _], k, rfl, h1, h2, .cons h3 (.cons h4 (.cons h5 .nil))⟩
end

/-! LoopR -/
open PySem PySem.W PyProof.Rows PySem.Calls PySem.Spec
section
variable {prog : Program} {w : World} {A : Around} {E : Value → Shared → Prop} {s : Shared} {env : Env} {h₀ : Heap} {x : Str} {body : List Stmt} {Q : Flow → Shared → Prop}

/-- a for over range(n) -/
theorem for_range {r : Addr} {n : Nat} {t u v : Tok} {m₀ : Str → Option Value} {news : Led} (J : Nat → (Str → Option Value) → Led → Prop)
    (hh : A.handled = none) (F : Fr h₀ env.locals s.heap m₀) (N : News h₀ env.locals s.heap news) (hr : IsRange s.heap r 0 (n : Int) 1 t u v) (hsm : Builtin.Range.small 0 (n : Int) 1 = true) (hn : Builtin.Range.rangeSize 0 (n : Int) 1 = (n : Int)) (hj : J 0 m₀ news)
    (turn : ∀ i t I oI m₁ nx h tk, i < n → J i m₁ nx → (∀ p ∈ nx, p.1 ≠ I) → Fr h₀ env.locals h (fun y => if y = x then some (.int (i : Int) t) else m₁ y) → News h₀ env.locals h ((I, oI) :: nx) →
      ∀ (Q9 : Flow → Shared → Prop), (∀ s', TurnE h₀ env.locals I oI (J (i + 1)) { s with heap := h, toks := tk } s' → Q9 .next s' ∧ Q9 .cont s') → wpAny (model prog w) A (execs body env) Q9 E { s with heap := h, toks := tk })
    (done : ∀ m₁ nx h tk, J n m₁ nx → Fr h₀ env.locals h m₁ → News h₀ env.locals h nx → Q .next { s with heap := h, toks := tk }) :
    wpAny (model prog w) A (pyIter (.ref r)) (fun it s₂ => LoopAtV prog w A h₀ env x body Q E it s₂) E s := by
  refine wpAny_pyIter_range hr hsm ?_
  have W := LCg.range_walks (prog := prog) (w := w) (I := s.heap.objs.size) hh 0 n
  refine ⟨_, _, _, n, _, _, m₀, news, J, rfl, W, ?_, ?_, ?_, (by show IsRangeIter _ _ _ _ _; rw [hn]; simpa using Heap.get?_push_size _ rfl), F.push _, (fun p hp => ⟨Heap.get?_push_of_some _ (N p hp).1, (N p hp).2⟩), hj, ?_, ?_⟩
  · intro hm
    exact absurd F.ns.lt ((List.mem_singleton.mp hm) ▸ Nat.lt_irrefl _)
  · intro b hb
    rw [List.mem_singleton.mp hb]
    exact next_is_new F
  · intro p hp hI
    exact absurd (Heap.lt_size (N p hp).1) ((List.mem_singleton.mp hI) ▸ Nat.lt_irrefl _)
  · rintro i vv m₁ nx s₁ own ⟨hh', tk', rfl⟩ hin ⟨t', rfl⟩ hJ hoff hown _ hmem hst F₁ N₁
    obtain ⟨oi, hoi⟩ : ∃ oi, hh'.get? s.heap.objs.size = some oi := ⟨_, hst⟩
    have hI := hmem _ (.head _) (next_is_new F) _ hoi
    have hne1 : ∀ p ∈ nx, p.1 ≠ s.heap.objs.size := fun p hp e => hoff p hp (List.mem_singleton.mpr e)
    have N₂ : News h₀ env.locals hh' ((s.heap.objs.size, oi) :: nx) := fun p hp => by
      rcases List.mem_cons.mp hp with rfl | hp
      · exact N₁ _ (List.mem_append.mpr (.inl hI))
      · exact N₁ p (List.mem_append.mpr (.inr hp))
    rw [Int.zero_add] at F₁
    refine wpAny_mono (turn i t' s.heap.objs.size oi m₁ nx hh' tk' hin hJ hne1 F₁ N₂ (TurnP h₀ env.locals s.heap.objs.size oi (J (i + 1)) { s with heap := hh', toks := tk' } Q) fun _ h => ⟨h, h⟩) (fun f s₂ p => ?_) fun _ _ e => e
    have fin : TurnE h₀ env.locals s.heap.objs.size oi (J (i + 1)) { s with heap := hh', toks := tk' } s₂ → LoopStepU h₀ env.locals [s.heap.objs.size] own (J (i + 1)) { s with heap := hh', toks := tk' } .next s₂ := by
      rintro ⟨h', tk, m', nx', e, F', N', ha, hJ'⟩
      refine ⟨rfl, h', tk, m', nx', e, F', fun p hp => ?_, fun p hp hq => ha p hp (List.mem_singleton.mp hq), hJ'⟩
      rcases List.mem_append.mp hp with hp | hp
      · have h1 := List.mem_singleton.mp (hown p hp)
        have h2 := (N₁ p (List.mem_append.mpr (.inl hp))).1
        have h3 := (N₁ _ (List.mem_append.mpr (.inl hI))).1
        obtain ⟨pa, po⟩ := p
        dsimp only at h1 h2 h3
        subst h1
        rw [h3] at h2
        cases h2
        exact N' _ (.head _)
      · exact N' p (.tail _ hp)
    cases f with
    | ret v => exact .ret p
    | brk => exact .brk p
    | next => exact .next (fin p)
    | cont => exact .cont (fin p)
  · rintro h' tk m' nx F' N' _ hJ
    exact done m' nx h' tk hJ F' N'
end
section
variable {prog : Program} {w : World} {A : Around} {E : Value → Shared → Prop} {s : Shared} {Q : Value → Shared → Prop} {value slice : PySem.Expr}
theorem rl_schr {l : List Nat} {i : Int} {c : Nat} {t u : Tok} (h0 : 0 ≤ i) (hz : l.length ≤ 1000000) (hc : l[i.toNat]? = some c) (h : ∀ t', Q (.str ⟨#[c]⟩ t') { s with toks := s.toks + 1 })
    (hs : subscripted slice false (.str ⟨l.toArray⟩ t) (.int i u) = operate [.str ⟨l.toArray⟩ t, .int i u] (getItem (.str ⟨l.toArray⟩ t) (.int i u))) (ht : ∀ r, letTemporaryGo value (.str ⟨l.toArray⟩ t) r = pure ()) :
    wpAny (model prog w) A (subscriptTail value slice (.str ⟨l.toArray⟩ t) (.int i u)) Q E s := by
  have hl : i.toNat < l.length := (List.getElem?_eq_some_iff.mp hc).1
  have hi : i < l.length := by omega
  have hlen := strMk_len l
  have hf : fitsSsize i = true := by
    have h1 : decide (i < -(2 ^ 63 : Int)) = false := decide_eq_false (by omega)
    have h2 : decide (i ≥ (2 : Int) ^ 63) = false := decide_eq_false (by omega)
    unfold fitsSsize; rw [h1, h2]; rfl
  refine item_str hf (by omega) (by rw [hlen]; exact hi) (fun _ => ?_) hs ht
  have e : Txt.item ⟨l.toArray⟩ i = ⟨#[c]⟩ := by
    unfold Txt.item Txt.charAt
    have h1 : seqIndex? i (⟨l.toArray⟩ : Str).length = some i.toNat := by
      unfold seqIndex?
      rw [hlen, if_neg (show ¬ i < 0 by omega)]
      simp only [Bool.and_eq_true, decide_eq_true_eq]
      rw [if_pos ⟨h0, hi⟩]
    rw [h1]
    simp [hc]
  rw [e]; exact h _
end
section
variable {prog : Program} {w : World} {A : Around} {E : Value → Shared → Prop} {s : Shared} {h₀ : Heap} {L : Addr} {m : Str → Option Value} {news : Led} {Q : Value → Shared → Prop}
theorem rl_clen {l : List Nat} {t : Tok} (hz : l.length ≤ 1000000) (h : Q (.int l.length (s.toks + 1)) { s with toks := s.toks + 1 + 1 }) : wpAny (model prog w) A (call (.builtin "len") [.str ⟨l.toArray⟩ t]) Q E s := by
  refine P.len_str (by rw [strMk_len]; omega) ?_
  rw [strMk_len]; exact h
theorem rl_range {n : Nat} {t : Tok} (F : Fr h₀ L s.heap m) (N : News h₀ L s.heap news)
    (h : ∀ r u v h', Fr h₀ L h' m → News h₀ L h' ((r, { cls := .type "range", data := .fields #[.int 0 u, .int n t, .int 1 v] }) :: news) → (∀ p ∈ news, p.1 < r) → Q (.ref r) { s with heap := h', toks := s.toks + 1 + 1 }) :
    wpAny (model prog w) A (call (.type "range") [.int n t]) Q E s :=
  call_range_1 (h _ _ _ _ (F.push _) (N.push F _) fun p hp => Heap.lt_size (N p hp).1)
theorem rl_instr {x y : Str} {t u : Tok} {b : Bool} (hb : (!(Builtin.Str.occurrences x y 0 x.length 1).isEmpty) = b) (h : Q (.bool b) s) : wpAny (model prog w) A (compareOp .In (.str y u) (.str x t)) Q E s :=
  P.in_str (by rw [hb]; exact h)
theorem rl_stridx {x y : Str} {t u : Tok} {i : Nat} (ho : Builtin.Str.occurrences x y 0 x.length 1 = [i]) (h : Q (.int i s.toks) { s with toks := s.toks + 1 }) : wpAny (model prog w) A (call (.builtin "str.index") [.str x t, .str y u]) Q E s :=
  SC.index ho h
theorem rl_iadds {a b : List Nat} {t u : Tok} (hz : a.length + b.length ≤ 16777216) (h : ∀ t' k, Q (.str ⟨(a ++ b).toArray⟩ t') { s with toks := k }) :
    wpAny (model prog w) A (inplaceOp .Add (.str ⟨a.toArray⟩ t) (.str ⟨b.toArray⟩ u)) Q E s := by
  refine PyProof.Rows.iadd_str (fun t' k => ?_) (by rw [strMk_len, strMk_len]; exact hz)
  rw [strMk_append]; exact h t' k
theorem rangeSize_nat (n : Nat) : Builtin.Range.rangeSize 0 (n : Int) 1 = (n : Int) := by
  unfold Builtin.Range.rangeSize
  rw [if_pos (by decide)]
  split <;> omega
theorem rangeSmall_nat (n : Nat) (h : n ≤ 1000000) : Builtin.Range.small 0 (n : Int) 1 = true := by
  unfold Builtin.Range.small
  simp only [rangeSize_nat]
  have fit : ∀ k : Int, 0 ≤ k → k ≤ 1000000 → Builtin.Range.rangeFitsLong k = true := fun k h1 h2 => by
    unfold Builtin.Range.rangeFitsLong
    simp only [Bool.and_eq_true, decide_eq_true_eq]
    omega
  rw [if_pos (by decide), fit 0 (by omega) (by omega), fit n (by omega) (by omega), fit 1 (by omega) (by omega), fit (n + (1 - 1)) (by omega) (by omega)]
  simp
end

/-! Page -/
open PySem PySem.W PyProof.Rows PySem.Calls PySem.Spec
theorem kfill4 : (fun (_ : OpenLaw) (_ : Params → Frag) => True) PySem.Challenge.rw_re0162_01 devHeap := by k_fill; trivial
section
variable {w : World} {loose : List Str} {mean : ExcName → Option Value} {mg mb : Str → Option Value}
/-- a sign of the row, as it may stand on the page -/
noncomputable def encs : List (Nat × Nat) := [(48, 104), (48, 72), (48, 8459), (48, 8460), (48, 8461), (49, 64261), (49, 64262), (50, 12284), (12272, 12272), (12283, 12283), (12274, 12274), (12275, 12275)]
inductive PageOf : List Nat → List Nat → Prop where
  | nil : PageOf [] []
  | plain {row pg : List Nat} {c s : Nat} : PageOf row pg → (c, s) ∈ encs → PageOf (row ++ [c]) (pg ++ [s])
  | unseen {row pg : List Nat} {c s u : Nat} : PageOf row pg → (c, s) ∈ encs → inB1 u = true → PageOf (row ++ [c]) (pg ++ [s] ++ [u])
noncomputable def PageJ (row : List Nat) (t : Tok) (x : Int) (u : Tok) (uD fD : Addr) (N0 : Led) (i : Nat) (m : Str → Option Value) (nx : Led) : Prop :=
  All6 (∃ pg k, m (Str.ofString "page") = some (.str ⟨(List.toArray pg)⟩ k) ∧ PageOf (row.take i) pg) (m (Str.ofString "forms") = some (.ref fD)) (m (Str.ofString "unseen") = some (.ref uD)) (m (Str.ofString "row") = some (.str ⟨row.toArray⟩ t)) (m (Str.ofString "x") = some (.int x u)) (nx = N0)
theorem PageOf.len {row pg : List Nat} (h : PageOf row pg) : pg.length ≤ 2 * row.length := by
  induction h with
  | nil => exact Nat.le_refl _
  | plain _ _ ih => simp only [List.length_append, List.length_cons, List.length_nil]; omega
  | unseen _ _ _ ih => simp only [List.length_append, List.length_cons, List.length_nil]; omega
theorem unseen27 : ∀ j < 27, ∃ uc : Int, ([173, 847, 6150, 6155, 6156, 6157, 8203, 8204, 8205, 8288, 65279] ++ rangeInts 65024 1 ((65040 : Int) - 65024).toNat : List Int)[j]? = some uc ∧ inB1 uc = true ∧ 0 ≤ uc ∧ uc ≤ 1114111 := by
  intro j hj
  have : ∀ j : Fin 27, (match ([173, 847, 6150, 6155, 6156, 6157, 8203, 8204, 8205, 8288, 65279] ++ rangeInts 65024 1 ((65040 : Int) - 65024).toNat : List Int)[j.val]? with | some uc => inB1 uc && decide (0 ≤ uc) && decide (uc ≤ 1114111) | none => false) = true := by decide
  have h := this ⟨j, hj⟩
  dsimp only at h
  split at h
  · rename_i uc e
    simp only [Bool.and_eq_true, decide_eq_true_eq] at h
    exact ⟨uc, e, h.1.1, h.1.2, h.2⟩
  · cases h
theorem in0 : (!(Builtin.Str.occurrences (Str.ofString "012") ⟨#[48]⟩ 0 (Str.ofString "012").length 1).isEmpty) = true := by decide +kernel
theorem in1 : (!(Builtin.Str.occurrences (Str.ofString "012") ⟨#[49]⟩ 0 (Str.ofString "012").length 1).isEmpty) = true := by decide +kernel
theorem in2 : (!(Builtin.Str.occurrences (Str.ofString "012") ⟨#[50]⟩ 0 (Str.ofString "012").length 1).isEmpty) = true := by decide +kernel
theorem inN {c : Nat} (h : c = 12272 ∨ c = 12283 ∨ c = 12274 ∨ c = 12275) : (!(Builtin.Str.occurrences (Str.ofString "012") ⟨#[c]⟩ 0 (Str.ofString "012").length 1).isEmpty) = false := by
  rcases h with rfl | rfl | rfl | rfl <;> decide +kernel
theorem ix0 : Builtin.Str.occurrences (Str.ofString "012") ⟨#[48]⟩ 0 (Str.ofString "012").length 1 = [0] := by decide +kernel
theorem ix1 : Builtin.Str.occurrences (Str.ofString "012") ⟨#[49]⟩ 0 (Str.ofString "012").length 1 = [1] := by decide +kernel
theorem ix2 : Builtin.Str.occurrences (Str.ofString "012") ⟨#[50]⟩ 0 (Str.ofString "012").length 1 = [2] := by decide +kernel
theorem pick5 (k : Int) (h0 : 0 ≤ k) (h1 : k < 5) : ∃ e, [104, 72, 8459, 8460, 8461][k.toNat]? = some e ∧ (48, e) ∈ encs := by
  obtain ⟨m, hm, rfl⟩ := ar_int (n := 5) h0 h1
  rw [Int.toNat_natCast]
  exact ar_upto (P := fun m => ∃ e, [104, 72, 8459, 8460, 8461][m]? = some e ∧ (48, e) ∈ encs) (fun m hm => match m, hm with | 0, _ => ⟨_, rfl, by decide⟩ | 1, _ => ⟨_, rfl, by decide⟩ | 2, _ => ⟨_, rfl, by decide⟩ | 3, _ => ⟨_, rfl, by decide⟩ | 4, _ => ⟨_, rfl, by decide⟩) hm
theorem pick2 (k : Int) (h0 : 0 ≤ k) (h1 : k < 2) : ∃ e, [64261, 64262][k.toNat]? = some e ∧ (49, e) ∈ encs := by
  have h : k = 0 ∨ k = 1 := by omega
  rcases h with rfl | rfl <;> exact ⟨_, rfl, by decide⟩
theorem pick1 (k : Int) (h0 : 0 ≤ k) (h1 : k < 1) : ∃ e, [12284][k.toNat]? = some e ∧ (50, e) ∈ encs := by
  have h : k = 0 := by omega
  subst h
  exact ⟨_, rfl, by decide⟩
theorem form0 : Str.ofString "hHℋℌℍ" = ⟨[104, 72, 8459, 8460, 8461].toArray⟩ := by decide +kernel
theorem form1 : Str.ofString "ﬅﬆ" = ⟨[64261, 64262].toArray⟩ := by decide +kernel
theorem form2 : Str.ofString "⿼" = ⟨[12284].toArray⟩ := by decide +kernel
set_option maxHeartbeats 1000000 in
theorem page_ct (row : List Nat) (x : Int) (hl : row.length ≤ 1000) (hrow : ∀ c ∈ row, c ∈ [48, 49, 50, 12272, 12283, 12274, 12275]) : Ct w loose mean mg mb 208 10 (fun _ vs => ∃ t u, vs = [.str ⟨row.toArray⟩ t, .int x u]) (fun _ _ _ r => ∃ pg k, r = .str ⟨(List.toArray pg)⟩ k ∧ PageOf row pg) := by
  k_with_none
  k_with "ne" => ((try dsimp only); with_reducible first | assumption | exact Ne.symm (by assumption) | exact Nat.ne_of_lt (by assumption) | exact Nat.ne_of_gt (by assumption) | fail "ne")
  k_with "lt0" => skip
  k_with "mem" => first | with_reducible assumption | exact List.mem_cons_self | (refine List.mem_cons_of_mem _ ?_; k_mem) | (refine List.mem_append_right _ ?_; k_mem) | (refine List.mem_append_left _ ?_; k_mem)
  k_with "own for" => skip
  k_with "call builtin:len" => (k_here; (with_reducible show wpAny _ _ (call (Value.builtin "len") [Value.str _ _]) _ _ _); refine' rl_clen ?zqk1 ?_; (case zqk1 => first | omega | (simp only [List.length_cons, List.length_nil]; omega)))
  k_with "call type:range" => (k_here; (with_reducible show wpAny _ _ (call (Value.type "range") [Value.int (Nat.cast _) _]) _ _ _); k_dflt (refine' rl_range ?zqk1 ?zqk2 ?_; (case zqk1 => k_asm); (case zqk2 => k_asm)); intro _ _ _ _ _ _ _; (try k_sweep))
  k_with "inplaceOp Add str str" => (k_here; (with_reducible show wpAny _ _ (inplaceOp _ (Value.str _ _) (Value.str _ _)) _ _ _); (refine' rl_iadds ?zqk1 ?_; (case zqk1 => (simp only [List.length_append, List.length_cons, List.length_nil]; omega))); intro _ _)
  k_with "subscriptTail Name Name str int" => (k_here; (with_reducible show wpAny _ _ (subscriptTail _ _ (Value.str _ _) (Value.int _ _)) _ _ _); k_dflt (refine' rl_schr ?zqa ?zqb ?zqd ?_ ?zqs ?zqt; (case zqa => first | omega | assumption); (case zqb => first | omega | exact Nat.le_of_ble_eq_true rfl); (case zqd => assumption); (case zqs => with_unfolding_all rfl); (case zqt => (intro _; with_unfolding_all rfl))); intro _)
  k_with "subscriptTail Name BinOp str int" => (k_here; (with_reducible show wpAny _ _ (subscriptTail _ _ (Value.str _ _) (Value.int _ _)) _ _ _); k_dflt (refine' rl_schr ?zqa ?zqb ?zqd ?_ ?zqs ?zqt; (case zqa => first | omega | assumption); (case zqb => first | omega | exact Nat.le_of_ble_eq_true rfl); (case zqd => assumption); (case zqs => with_unfolding_all rfl); (case zqt => (intro _; with_unfolding_all rfl))); intro _)
  k_with "subscriptTail Name BinOp ref int" => (k_here; (with_reducible show wpAny _ _ (subscriptTail _ _ (Value.ref _) (Value.int _ _)) _ _ _); k_dflt (refine' rl_item ?zqk1 ?zqk2 ?zqa ?zqb ?zqd ?_ ?zqs ?zqt; (case zqk1 => k_asm); (case zqk2 => k_mem); (case zqa => first | omega | assumption); (case zqb => omega); (case zqd => assumption); (case zqs => with_unfolding_all rfl); (case zqt => (intro _; with_unfolding_all rfl))))
  k_with "compareOp In str str" => (k_here; (refine' rl_instr ?zqk1 ?_; (case zqk1 => assumption)))
  k_with "call builtin:str.index" => (k_here; (refine' rl_stridx ?zqk1 ?_; (case zqk1 => assumption)))
  k_with "subscriptTail Name Call ref int" => (k_here; (with_reducible show wpAny _ _ (subscriptTail _ _ (Value.ref _) (Value.int _ _)) _ _ _); k_dflt (refine' rl_item ?zqk1 ?zqk2 ?zqa ?zqb ?zqd ?_ ?zqs ?zqt; (case zqk1 => k_asm); (case zqk2 => k_mem); (case zqa => decide); (case zqb => decide); (case zqd => rfl); (case zqs => with_unfolding_all rfl); (case zqt => (intro _; with_unfolding_all rfl))))
  unfold Ct
  intro dp un gd cn cs' a ccd cl outer A₀ base h₀ L m news s vs Q E B F X N T hk hR hd hu hret
  obtain ⟨t, u, rfl⟩ := hR
  refine wpAny_call ?_
  k_dflt ktr_enter
  k_steps
  (with_reducible rename Fr _ _ _ _ => lF); (with_reducible rename News _ _ _ _ => lN)
  rename CarriedAll _ _ => hca
  rename Heap.IsList _ _ _ => hli
  refine kmk_add_ints (ns := [173, 847, 6150, 6155, 6156, 6157, 8203, 8204, 8205, 8288, 65279]) lF lN (rl_isList lN List.mem_cons_self) hli (by repeat constructor) (IntsAre.ofCarried hca) ?_ (by decide)
  intro uD us h3 F3 N3 l3 hus
  k_steps
  (with_reducible rename Fr _ _ _ _ => lF); (with_reducible rename News _ _ _ _ => lN)
  rename_i _ fD _ _ _ _ rD ru rv _ _
  generalize hN0 : (_ :: _ :: _ :: _ :: news : Led) = N0 at lN ⊢
  have hsub : ∀ p ∈ news, p ∈ N0 := by subst hN0; intro p hp; k_mem
  obtain ⟨t0, t1, t2, hfD⟩ : ∃ t0 t1 t2, (fD, listOf #[.str (Str.ofString "hHℋℌℍ") t0, .str (Str.ofString "ﬅﬆ") t1, .str (Str.ofString "⿼") t2] 0) ∈ N0 := by rw [← hN0]; exact ⟨_, _, _, List.mem_cons_of_mem _ List.mem_cons_self⟩
  have huD : (uD, listOf us.toArray 0) ∈ N0 := by rw [← hN0]; exact List.mem_cons_of_mem _ (List.mem_cons_of_mem _ List.mem_cons_self)
  have hrD : (rD, _) ∈ N0 := hN0 ▸ List.mem_cons_self
  rw [form0, form1, form2] at hfD
  refine for_range (n := row.length) (PageJ row t x u uD fD N0) rfl lF lN (lN _ hrD).1 (rangeSmall_nat _ (by omega)) (rangeSize_nat _) ⟨⟨[], _, congrArg (fun z => some (Value.str z _)) empty_eq, .nil⟩, rfl, rfl, rfl, rfl, rfl⟩ ?_ ?_
  · clear lF lN hN0
    rintro i t9 I oI m₁ nx h tk hi ⟨⟨pg, k, hp, hpg⟩, hf, hu', hr, hx, rfl⟩ hoff F₁ N₁ Q9 hQ9
    have hmem : row[i] ∈ row := List.getElem_mem hi
    have hci : row[i]? = some row[i] := List.getElem?_eq_getElem hi
    generalize row[i] = c at hmem hci
    rw [asIf hp, asIf hf, asIf hu', asIf hr, asIf hx] at F₁
    have hcs := hrow c hmem
    have hci' : row[((i : Nat) : Int).toNat]? = some c := by simpa using hci
    have hpl := hpg.len
    have htl : (row.take i).length ≤ 1000 := by rw [List.length_take]; omega
    have hm27 : 0 ≤ (x + 7 * (i : Int)).fmod 27 ∧ (x + 7 * (i : Int)).fmod 27 < 27 := ⟨Int.fmod_nonneg_of_pos _ (by decide), Int.fmod_lt_of_pos _ (by decide)⟩
    obtain ⟨hm27a, hm27b⟩ := hm27
    obtain ⟨uc, hucL, hucB, huc0, huc1⟩ := unseen27 ((x + 7 * (i : Int)).fmod 27).toNat (by omega)
    obtain ⟨ut, hut⟩ := hus.get _ _ hucL
    simp only [List.mem_cons, List.not_mem_nil, or_false] at hcs
    have hub : inB1 (uc.toNat : Nat) = true := by rw [Int.toNat_of_nonneg huc0]; exact hucB
    have htk : row.take (i + 1) = row.take i ++ [c] := by rw [List.take_add_one, hci]; rfl
    rcases hcs with rfl | rfl | rfl | hcs
    · have q1 := in0
      have q2 := ix0
      obtain ⟨e, he, hes⟩ := pick5 ((x + (i : Int)).fmod 5) (Int.fmod_nonneg_of_pos _ (by decide)) (Int.fmod_lt_of_pos _ (by decide))
      have hm5 : 0 ≤ (x + (i : Int)).fmod 5 := Int.fmod_nonneg_of_pos _ (by decide)
      k_steps
      all_goals (with_reducible rename Fr _ _ _ _ => eF); (with_reducible rename News _ _ _ _ => eN)
      · refine (hQ9 _ ?_).1
        exact TurnE.mk [] eF eN (fun _ h => nomatch h) hoff ⟨⟨_, _, rfl, htk ▸ PageOf.unseen hpg hes hub⟩, rfl, rfl, rfl, rfl, rfl⟩
      · refine (hQ9 _ ?_).1
        exact TurnE.mk [] eF eN (fun _ h => nomatch h) hoff ⟨⟨_, _, rfl, htk ▸ PageOf.plain hpg hes⟩, rfl, rfl, rfl, rfl, rfl⟩
    · have q1 := in1
      have q2 := ix1
      obtain ⟨e, he, hes⟩ := pick2 ((x + (i : Int)).fmod 2) (Int.fmod_nonneg_of_pos _ (by decide)) (Int.fmod_lt_of_pos _ (by decide))
      have hm5 : 0 ≤ (x + (i : Int)).fmod 2 := Int.fmod_nonneg_of_pos _ (by decide)
      k_steps
      all_goals (with_reducible rename Fr _ _ _ _ => eF); (with_reducible rename News _ _ _ _ => eN)
      · refine (hQ9 _ ?_).1
        exact TurnE.mk [] eF eN (fun _ h => nomatch h) hoff ⟨⟨_, _, rfl, htk ▸ PageOf.unseen hpg hes hub⟩, rfl, rfl, rfl, rfl, rfl⟩
      · refine (hQ9 _ ?_).1
        exact TurnE.mk [] eF eN (fun _ h => nomatch h) hoff ⟨⟨_, _, rfl, htk ▸ PageOf.plain hpg hes⟩, rfl, rfl, rfl, rfl, rfl⟩
    · have q1 := in2
      have q2 := ix2
      obtain ⟨e, he, hes⟩ := pick1 ((x + (i : Int)).fmod 1) (Int.fmod_nonneg_of_pos _ (by decide)) (Int.fmod_lt_of_pos _ (by decide))
      have hm5 : 0 ≤ (x + (i : Int)).fmod 1 := Int.fmod_nonneg_of_pos _ (by decide)
      k_steps
      all_goals (with_reducible rename Fr _ _ _ _ => eF); (with_reducible rename News _ _ _ _ => eN)
      · refine (hQ9 _ ?_).1
        exact TurnE.mk [] eF eN (fun _ h => nomatch h) hoff ⟨⟨_, _, rfl, htk ▸ PageOf.unseen hpg hes hub⟩, rfl, rfl, rfl, rfl, rfl⟩
      · refine (hQ9 _ ?_).1
        exact TurnE.mk [] eF eN (fun _ h => nomatch h) hoff ⟨⟨_, _, rfl, htk ▸ PageOf.plain hpg hes⟩, rfl, rfl, rfl, rfl, rfl⟩
    · have q1 := inN hcs
      have hes : (c, c) ∈ encs := by rcases hcs with rfl | rfl | rfl | rfl <;> decide
      k_steps
      all_goals (with_reducible rename Fr _ _ _ _ => eF); (with_reducible rename News _ _ _ _ => eN)
      · refine (hQ9 _ ?_).1
        exact TurnE.mk [] eF eN (fun _ h => nomatch h) hoff ⟨⟨_, _, rfl, htk ▸ PageOf.unseen hpg hes hub⟩, rfl, rfl, rfl, rfl, rfl⟩
      · refine (hQ9 _ ?_).1
        exact TurnE.mk [] eF eN (fun _ h => nomatch h) hoff ⟨⟨_, _, rfl, htk ▸ PageOf.plain hpg hes⟩, rfl, rfl, rfl, rfl, rfl⟩
  · clear lF lN hN0
    rintro m₁ nx h tk ⟨⟨pg, k, hp, hpg⟩, hf, hu', hr, hx, rfl⟩ F₁ N₁
    rw [asIf hp] at F₁
    rw [List.take_length] at hpg
    k_steps
    (with_reducible rename Fr _ _ _ _ => kF9); (with_reducible rename News _ _ _ _ => kN9)
    exact hret _ [] _ _ kF9 (fun p hp => kN9 p (hsub p hp)) (fun _ _ _ h => nomatch h) ⟨_, _, rfl, hpg⟩
end

/-! StrL -/
open PySem PySem.W PyProof.Rows PySem.Calls PySem.Spec
section
variable {prog : Program} {w : World} {A : Around} {E : Value → Shared → Prop} {s : Shared} {env : Env} {h₀ : Heap} {x : Str} {body : List Stmt} {Q : Flow → Shared → Prop}

/-- a for over the letters of a text -/
theorem for_str {l : List Nat} {tx : Tok} {m₀ : Str → Option Value} {news : Led} (J : Nat → (Str → Option Value) → Led → Prop)
    (hh : A.handled = none) (F : Fr h₀ env.locals s.heap m₀) (N : News h₀ env.locals s.heap news) (hj : J 0 m₀ news)
    (turn : ∀ i c t I oI m₁ nx h tk, l[i]? = some c → J i m₁ nx → (∀ p ∈ nx, p.1 ≠ I) → Fr h₀ env.locals h (fun y => if y = x then some (.str ⟨#[c]⟩ t) else m₁ y) → News h₀ env.locals h ((I, oI) :: nx) →
      ∀ (Q9 : Flow → Shared → Prop), (∀ s', TurnE h₀ env.locals I oI (J (i + 1)) { s with heap := h, toks := tk } s' → Q9 .next s' ∧ Q9 .cont s') → wpAny (model prog w) A (execs body env) Q9 E { s with heap := h, toks := tk })
    (done : ∀ m₁ nx h tk, J l.length m₁ nx → Fr h₀ env.locals h m₁ → News h₀ env.locals h nx → Q .next { s with heap := h, toks := tk }) :
    wpAny (model prog w) A (pyIter (.str ⟨l.toArray⟩ tx)) (fun it s₂ => LoopAtV prog w A h₀ env x body Q E it s₂) E s := by
  have core : ∀ (o : Obj) (ty : String), Walks prog w A s.heap.objs.size [s.heap.objs.size] [s.heap.objs.size] (⟨l.toArray⟩ : Str).cps.size (SignAt ⟨l.toArray⟩) (fun i h => h.IsStrIter s.heap.objs.size ty ⟨l.toArray⟩ tx i) →
      (s.heap.push o).IsStrIter s.heap.objs.size ty ⟨l.toArray⟩ tx 0 → LoopAtV prog w A h₀ env x body Q E (.ref s.heap.objs.size) { s with heap := s.heap.push o } := by
    intro o ty W hst
    have hsz : (⟨l.toArray⟩ : Str).cps.size = l.length := by simp
    rw [hsz] at W
    refine ⟨_, _, _, l.length, _, _, m₀, news, J, rfl, W, ?_, ?_, ?_, hst, F.push _, (fun p hp => ⟨Heap.get?_push_of_some _ (N p hp).1, (N p hp).2⟩), hj, ?_, ?_⟩
    · intro hm
      exact absurd F.ns.lt ((List.mem_singleton.mp hm) ▸ Nat.lt_irrefl _)
    · intro b hb
      rw [List.mem_singleton.mp hb]
      exact next_is_new F
    · intro p hp hI
      exact absurd (Heap.lt_size (N p hp).1) ((List.mem_singleton.mp hI) ▸ Nat.lt_irrefl _)
    · rintro i vv m₁ nx s₁ own ⟨hh', tk', rfl⟩ hin ⟨c, t', hc, rfl⟩ hJ hoff hown _ hmem hst F₁ N₁
      obtain ⟨oi, hoi, _⟩ := hst
      have hI := hmem _ (.head _) (next_is_new F) _ hoi
      have hne1 : ∀ p ∈ nx, p.1 ≠ s.heap.objs.size := fun p hp e => hoff p hp (List.mem_singleton.mpr e)
      have N₂ : News h₀ env.locals hh' ((s.heap.objs.size, oi) :: nx) := fun p hp => by
        rcases List.mem_cons.mp hp with rfl | hp
        · exact N₁ _ (List.mem_append.mpr (.inl hI))
        · exact N₁ p (List.mem_append.mpr (.inr hp))
      have hc' : l[i]? = some c := by simpa using hc
      refine wpAny_mono (turn i c t' s.heap.objs.size oi m₁ nx hh' tk' hc' hJ hne1 F₁ N₂ (TurnP h₀ env.locals s.heap.objs.size oi (J (i + 1)) { s with heap := hh', toks := tk' } Q) fun _ h => ⟨h, h⟩) (fun f s₂ p => ?_) fun _ _ e => e
      have fin : TurnE h₀ env.locals s.heap.objs.size oi (J (i + 1)) { s with heap := hh', toks := tk' } s₂ → LoopStepU h₀ env.locals [s.heap.objs.size] own (J (i + 1)) { s with heap := hh', toks := tk' } .next s₂ := by
        rintro ⟨h', tk, m', nx', e, F', N', ha, hJ'⟩
        refine ⟨rfl, h', tk, m', nx', e, F', fun p hp => ?_, fun p hp hq => ha p hp (List.mem_singleton.mp hq), hJ'⟩
        rcases List.mem_append.mp hp with hp | hp
        · have h1 := List.mem_singleton.mp (hown p hp)
          have h2 := (N₁ p (List.mem_append.mpr (.inl hp))).1
          have h3 := (N₁ _ (List.mem_append.mpr (.inl hI))).1
          obtain ⟨pa, po⟩ := p
          dsimp only at h1 h2 h3
          subst h1
          rw [h3] at h2
          cases h2
          exact N' _ (.head _)
        · exact N' p (.tail _ hp)
      cases f with
      | ret v => exact .ret p
      | brk => exact .brk p
      | next => exact .next (fin p)
      | cont => exact .cont (fin p)
    · rintro h' tk m' nx F' N' _ hJ
      exact done m' nx h' tk hJ F' N'
  cases ha : (⟨l.toArray⟩ : Str).cps.all (· < 128)
  · exact wpAny_pyIter_wide ha (core _ _ (Walks.strWide hh _ _ _) ⟨_, Heap.get?_push_size _ rfl, rfl, rfl⟩)
  · exact wpAny_pyIter_ascii ha (core _ _ (Walks.strAscii hh _ _ _) ⟨_, Heap.get?_push_size _ rfl, rfl, rfl⟩)
end
section
variable {prog : Program} {w : World} {A : Around} {E : Value → Shared → Prop} {s : Shared} {h₀ : Heap} {L l : Addr} {m : Str → Option Value} {news : Led} {n : Nat} {vs : List Value}
theorem rl_set {k : Int} {t : Tok} {x : Value} {Q : Unit → Shared → Prop} (F : Fr h₀ L s.heap m) (N : News h₀ L s.heap news) (hm : (l, listOf vs.toArray n) ∈ news) (h0 : 0 ≤ k) (hz : vs.length ≤ 100000) (hk : k < vs.length)
    (h : ∀ h', Fr h₀ L h' m → News h₀ L h' ((l, listOf (vs.set k.toNat x).toArray n) :: news.filter (fun p => p.1 != l)) → Q () { s with heap := h' }) : wpAny (model prog w) A (setItem (.ref l) (.int k t) x) Q E s := by
  have z := N _ hm
  refine ki_setAt z.1 h0 (by omega) (by simpa using hk) (h _ (F.change (Heap.SameBut.update ..) z.2.1 z.2.2) ?_)
  intro p hp
  rcases List.mem_cons.mp hp with rfl | hp
  · refine ⟨?_, z.2.1, z.2.2⟩
    have e : (vs.set k.toNat x).toArray = vs.toArray.setIfInBounds k.toNat x := by simp
    have q := PySem.IsL.update z.1 (fun a => a.setIfInBounds k.toNat x)
    rw [if_pos (by simp)] at q
    rw [e]
    exact q
  · obtain ⟨h1, h2⟩ := List.mem_filter.mp hp
    have hne : p.1 ≠ l := by simpa using h2
    exact ⟨(Heap.SameBut.update ..).2 p.1 hne |>.trans (N p h1).1, (N p h1).2⟩
end

/-! Ws -/
open PySem PySem.W PyProof.Rows PySem.Calls PySem.Spec
theorem kfill5 : (fun (_ : OpenLaw) (_ : Params → Frag) => True) PySem.Challenge.rw_re0162_01 devHeap := by k_fill; trivial

noncomputable def wsStep (st : List Nat × Nat) (c : Nat) : List Nat × Nat :=
  if c = 32 then (st.1, st.2 + 1)
  else ((if st.1.length ≤ st.2 then st.1 ++ List.replicate (st.2 - st.1.length + 1) 0 else st.1).set st.2 ((if st.1.length ≤ st.2 then st.1 ++ List.replicate (st.2 - st.1.length + 1) 0 else st.1).getD st.2 0 + 1), 0)
noncomputable def wsNorm (l : List Nat) : List Nat × Nat := l.foldl wsStep ([], 0)
noncomputable def WsObj (led : Led) (x : Addr) (cs : List Nat) (b : Nat) : Prop :=
  ∃ dx nm ct h1 t1 v1 h2 t2 v2 h3 t3 v3 h4 t4 h5 t5 v5 us t, (x, instObj 159 dx) ∈ led ∧
    (dx, dictOf [⟨h1, .str (Str.ofString "raw") t1, v1⟩, ⟨h2, .str (Str.ofString "n") t2, v2⟩, ⟨h3, .str (Str.ofString "nt") t3, v3⟩, ⟨h4, .str (Str.ofString "norm") t4, .ref nm⟩, ⟨h5, .str (Str.ofString "is_simple") t5, v5⟩] 5) ∈ led ∧
    (nm, tupOf [.ref ct, .int b t]) ∈ led ∧ (ct, tupOf us) ∈ led ∧ IntsAre us (cs.map fun (c : Nat) => (c : Int))
theorem off_lt {news : Led} {d : Addr} (h : ∀ p ∈ news, p.1 < d) : ∀ q ∈ news, q.1 ≠ d := fun q hq => Nat.ne_of_lt (h q hq)
theorem set_nat (c : List Nat) (b : Nat) : (c.map fun (c : Nat) => (c : Int)).set b ((c.map fun (c : Nat) => (c : Int)).getD b 0 + 1) = (c.set b (c.getD b 0 + 1)).map fun (c : Nat) => (c : Int) := by
  rw [List.map_set]
  congr 1
  simp only [List.getD_eq_getElem?_getD, List.getElem?_map]
  cases c[b]? <;> simp
theorem grow_nat (c : List Nat) (k : Nat) : (c.map fun (c : Nat) => (c : Int)) ++ (List.replicate k [(0 : Int)]).flatten = (c ++ List.replicate k 0).map fun (c : Nat) => (c : Int) := by
  rw [List.map_append]
  congr 1
  induction k with
  | zero => rfl
  | succ k ih => rw [List.replicate_succ, List.flatten_cons, ih, List.replicate_succ]; rfl
theorem wsStep_len (c : List Nat) (b x i : Nat) (h1 : b ≤ i) (h2 : c.length ≤ i) : (wsStep (c, b) x).2 ≤ i + 1 ∧ (wsStep (c, b) x).1.length ≤ i + 1 := by
  unfold wsStep
  by_cases hx : x = 32
  · rw [if_pos hx]; dsimp only; omega
  · rw [if_neg hx]
    dsimp only
    refine ⟨Nat.zero_le _, ?_⟩
    rw [List.length_set]
    split
    · rw [List.length_append, List.length_replicate]; omega
    · omega
theorem subEq (b v : Nat) (h : v ≤ b) : ((b : Int) - (v : Int) + 1).toNat = b - v + 1 := by omega
theorem TurnE.sub {h₀ : Heap} {L I : Addr} {oI : Obj} {J : (Str → Option Value) → Led → Prop} {s₁ : Shared} {h' : Heap} {tk : Nat} {m' : Str → Option Value} {full : Led} (nx : Led) (F : Fr h₀ L h' m') (N : News h₀ L h' full) (hs : ∀ p ∈ (I, oI) :: nx, p ∈ full)
    (hi : ∀ p ∈ nx, p.1 ≠ I) (hj : J m' nx) : TurnE h₀ L I oI J s₁ { s₁ with heap := h', toks := tk } := ⟨h', tk, m', nx, rfl, F, fun p hp => N p (hs p hp), hi, hj⟩
theorem rl_tuple {prog : Program} {w : World} {A : Around} {E : Value → Shared → Prop} {s : Shared} {h₀ : Heap} {L l : Addr} {m : Str → Option Value} {news : Led} {n : Nat} {vs : List Value} {Q : Value → Shared → Prop} (F : Fr h₀ L s.heap m) (N : News h₀ L s.heap news) (hm : (l, listOf vs.toArray n) ∈ news) (hz : vs.length ≤ 10000)
    (h : ∀ D h', Fr h₀ L h' m → News h₀ L h' ((D, tupOf vs) :: news) → (∀ p ∈ news, p.1 < D) → Q (.ref D) { s with heap := h' }) : wpAny (model prog w) A (call (.type "tuple") [.ref l]) Q E s :=
  kde_tupleOf F N (rl_isList N hm) (by simpa using Nat.le_trans hz (by decide)) rfl h
noncomputable def WsJ (l : List Nat) (x : Addr) (base : Led) (i : Nat) (m : Str → Option Value) (nx : Led) : Prop :=
  Ex12 fun cD vs n b k1 t1 k2 t2 t3 t4 t5 cnt => All13 (m (Str.ofString "count") = some (.ref cD)) (m (Str.ofString "b") = some (.int ((b : Nat) : Int) t3)) (m (Str.ofString "n") = some (.int k1 t1)) (m (Str.ofString "nt") = some (.int k2 t2)) (m (Str.ofString "S") = some (.str (Str.ofString " ") t4)) (m (Str.ofString "T") = some (.str (Str.ofString "\t") t5)) (m (Str.ofString "self") = some (.ref x)) (nx = (cD, listOf (List.toArray vs) n) :: base) (∀ q ∈ base, q.1 < cD) (IntsAre vs ((cnt : List Nat).map fun (c : Nat) => (c : Int))) ((l.take i).foldl wsStep ([], 0) = (cnt, b)) (b ≤ i) (cnt.length ≤ i)
section
variable {w : World} {loose : List Str} {mean : ExcName → Option Value} {mg mb : Str → Option Value}
local macro_rules | `(tactic| k_lt $h) => `(tactic| (k_extra "lt1"; have hlt9 := allLt_of $h; simp only [AllLt, and_true] at hlt9))
local macro_rules | `(tactic| k_all) => `(tactic| k_extra "all")
local macro_rules | `(tactic| walk_at $s:str) => `(tactic| k_extra $s)
local macro_rules | `(tactic| walk_at "tail Ws1") => `(tactic| (intro D' h' F' N' l1; (try k_lt l1); (try k_sweep)))
set_option maxHeartbeats 1000000 in
theorem ws_ct (l : List Nat) (hl : ∀ c ∈ l, c = 32 ∨ c = 9) (hz : l.length ≤ 1000) : Ct w loose mean mg mb 159 10 (fun _ vs => ∃ t, vs = [.str ⟨l.toArray⟩ t]) (fun _ _ tl r => ∃ x, r = .ref x ∧ WsObj tl x (wsNorm l).1 (wsNorm l).2) := by
  k_with_none
  k_with "ne" => ((try dsimp only); with_reducible first | assumption | exact Ne.symm (by assumption) | exact Nat.ne_of_lt (by assumption) | exact Nat.ne_of_gt (by assumption) | fail "ne")
  k_with "lt1" => skip
  k_with "call type:tuple" => (k_here; (with_reducible show wpAny _ _ (call (Value.type _) [Value.ref _]) _ _ _); k_dflt (refine' rl_tuple ?zqk1 ?zqk2 ?zqk3 ?zqk4 ?_; (case zqk1 => k_asm); (case zqk2 => k_asm); (case zqk3 => k_mem); (case zqk4 => assumption)); walk_at "tail Ws1")
  k_with "mem" => first | with_reducible assumption | exact List.mem_cons_self | (refine List.mem_cons_of_mem _ ?_; k_mem) | (refine List.mem_append_right _ ?_; k_mem) | (refine List.mem_append_left _ ?_; k_mem)
  k_with "all" => first | exact off_lt (by assumption) | assumption | exact List.forall_mem_nil _ | exact List.forall_mem_cons.mpr ⟨by k_ne, by k_all⟩
  k_with "call builtin:len" => (k_here; (with_reducible show wpAny _ _ (call (Value.builtin "len") [Value.ref _]) _ _ _); refine' rl_len ?zqk1 ?zqk2 ?zqk3 ?_; (case zqk1 => k_asm); (case zqk2 => k_mem); (case zqk3 => assumption))
  k_with "own for" => skip
  unfold Ct
  intro dp un gd cn cs' a ccd cl outer A₀ base h₀ L m news s vs Q E B F X N T hk hR hd hu hret
  obtain ⟨t, rfl⟩ := hR
  k_dflt (refine' call_cls ?k1 ?k2 ?k3 ?k4 ?k5 ?k6 ?_; (case k1 => k_asm); (case k2 => k_in); (case k3 => k_asm); (case k4 => k_is); (case k5 => k_is); (case k6 => k_is))
  intro x dx h' F' N' l1 l2
  have l2' : x ≠ dx := Nat.ne_of_gt l2
  k_dflt ktr_enter
  k_steps
  (with_reducible rename Fr _ _ _ _ => lF); (with_reducible rename News _ _ _ _ => lN)
  rename_i cD _ hltC _ _ _ _ _
  refine for_str (WsJ l x _) rfl lF lN ⟨cD, [], 0, 0, _, _, _, _, _, _, _, [], rfl, rfl, rfl, rfl, rfl, rfl, rfl, rfl, fun q hq => hltC q hq, .nil, rfl, Nat.zero_le _, Nat.zero_le _⟩ ?_ ?_
  · generalize hB0 : (_ :: _ :: _ :: news : Led) = B0 at lN ⊢
    clear lF lN hB0
    rintro i c t9 I oI m₁ nx h tk hi ⟨cD, vs, n, b, k1, t1, k2, t2, t3, t4, t5, cnt, hcount, hb, hn, hnt, hS, hT, hself, rfl, hoffb, hints, hst, hbi, hci⟩ hoff F₁ N₁ Q9 hQ9
    have hcs := hl c (List.mem_of_getElem? hi)
    rw [asIf hcount, asIf hb, asIf hn, asIf hnt, asIf hS, asIf hT, asIf hself] at F₁
    have hil : i < l.length := (List.getElem?_eq_some_iff.mp hi).1
    have htake : (l.take (i + 1)).foldl wsStep ([], 0) = wsStep (cnt, b) c := by rw [List.take_add_one, hi, List.foldl_append, hst]; rfl
    have hlen := hints.length
    rw [List.length_map] at hlen
    have hsm : Sm vs := by unfold Sm; omega
    have hIc : I ≠ cD := (hoff _ List.mem_cons_self).symm
    have hst' := wsStep_len cnt b c i hbi hci
    rcases hcs with rfl | rfl
    · k_steps
      (with_reducible rename Fr _ _ _ _ => eF); (with_reducible rename News _ _ _ _ => eN)
      refine (hQ9 _ ?_).1
      exact TurnE.mk [] eF eN (fun _ h => nomatch h) hoff ⟨cD, vs, n, b + 1, _, _, _, _, _, _, _, cnt, rfl, rfl, rfl, rfl, rfl, rfl, rfl, rfl, hoffb, hints, htake, hst'.1, hst'.2⟩
    · k_steps
      all_goals (with_reducible rename Fr _ _ _ _ => eF); (with_reducible rename News _ _ _ _ => eN)
      · rename IntsAre (List.set _ _ _) _ => hI9
        rename (vs.length : Int) ≤ (b : Int) => hle
        rename ∀ p ∈ _ :: _ :: (I, oI) :: _, _ => hl9
        rename_i D9 us9 _ _ _ _ _ _ _ _ _
        generalize hU : List.set us9 _ _ = us' at hI9 eN
        rw [hlen, subEq _ _ (by omega), grow_nat, Int.toNat_natCast, set_nat] at hI9
        refine (hQ9 _ ?_).1
        refine TurnE.sub ((D9, listOf us'.toArray 0) :: B0) eF eN (fun p hp => ?_) (fun p hp => ?_) ⟨_, _, _, 0, _, _, _, _, _, _, _, (wsStep (cnt, b) 9).1, rfl, rfl, rfl, rfl, rfl, rfl, rfl, rfl, fun q hq => hl9 q (by k_mem), ?_, ?_, Nat.zero_le _, hst'.2⟩
        · rcases List.mem_cons.mp hp with rfl | hp
          · k_mem
          · rcases List.mem_cons.mp hp with rfl | hp
            · k_mem
            · k_mem
        · rcases List.mem_cons.mp hp with rfl | hp
          · exact Nat.ne_of_gt (hl9 (I, oI) (by k_mem))
          · exact hoff p (List.mem_cons_of_mem _ hp)
        · unfold wsStep
          rw [if_neg (by decide)]
          dsimp only
          rw [if_pos (by omega)]
          exact hI9
        · rw [htake]; unfold wsStep; rw [if_neg (by decide)]
      · rename IntsAre (List.set _ _ _) _ => hI9
        rename ¬ (vs.length : Int) ≤ (b : Int) => hle
        rw [Int.toNat_natCast, set_nat] at hI9
        rw [Int.toNat_natCast] at eN
        refine (hQ9 _ ?_).1
        refine TurnE.sub ((cD, _) :: B0) eF eN (fun p hp => hp) (fun p hp => ?_) ⟨_, _, _, 0, _, _, _, _, _, _, _, (wsStep (cnt, b) 9).1, rfl, rfl, rfl, rfl, rfl, rfl, rfl, rfl, hoffb, ?_, ?_, Nat.zero_le _, hst'.2⟩
        · rcases List.mem_cons.mp hp with rfl | hp
          · exact hIc.symm
          · exact hoff p (List.mem_cons_of_mem _ hp)
        · unfold wsStep
          rw [if_neg (by decide)]
          dsimp only
          rw [if_neg (by omega)]
          exact hI9
        · rw [htake]; unfold wsStep; rw [if_neg (by decide)]
  · rintro m₁ nx h tk ⟨cD, vs, n, b, k1, t1, k2, t2, t3, t4, t5, cnt, hcount, hb, hn, hnt, hS, hT, hself, rfl, hoffb, hints, hst, hbi, hci⟩ F₁ N₁
    rw [asIf hcount, asIf hb, asIf hn, asIf hnt, asIf hS, asIf hT, asIf hself] at F₁
    have hlen := hints.length
    rw [List.length_map] at hlen
    have hsm : Sm vs := by unfold Sm; omega
    have hsm2 : vs.length ≤ 10000 := by omega
    clear lF lN hltC
    have hd1 : @LT.lt Nat _ dx cD := hoffb (dx, _) (by k_mem)
    have hd2 : @LT.lt Nat _ x cD := hoffb (x, _) (by k_mem)
    have hd3 := hoffb _ List.mem_cons_self
    replace hd3 := ltN hd3
    dsimp only at hd3
    k_steps
    (with_reducible rename Fr h₀ _ _ _ => kF9); (with_reducible rename News h₀ _ _ _ => kN9)
    rename ∀ p ∈ (_, tupOf vs) :: _, _ => hl9
    rw [List.take_length] at hst
    rename_i D1 _ _ _ D2 _ _ _ _ _ _ _ _
    refine hret (.ref x) (_ :: _ :: _ :: _ :: _ :: _ :: []) _ _ kF9 kN9 (fun q hq p hp => ?_) ⟨x, rfl, ?_⟩
    · have hq1 : q.1 < dx := l1 q hq
      have hq2 : @LT.lt Nat _ q.1 dx := hq1
      have l2'' : @LT.lt Nat _ dx x := l2
      simp only [List.mem_cons, List.not_mem_nil, or_false] at hp
      rcases hp with rfl | rfl | rfl | rfl | rfl | rfl <;> (refine ltN ?_; dsimp only; omega)
    · refine Exists.intro dx ?_
      iterate 18 apply Exists.intro
      refine ⟨List.mem_cons_of_mem _ (List.mem_cons_of_mem _ (List.mem_cons_of_mem _ (List.mem_cons_of_mem _ List.mem_cons_self))), List.mem_cons_of_mem _ (List.mem_cons_of_mem _ (List.mem_cons_of_mem _ (List.mem_cons_of_mem _ (List.mem_cons_of_mem _ List.mem_cons_self)))), ?_⟩
      have e : (wsNorm l) = (cnt, b) := hst
      rw [e]
      exact ⟨List.mem_cons_self, List.mem_cons_of_mem _ List.mem_cons_self, hints⟩
end

/-! WsEq -/
open PySem PySem.W PyProof.Rows PySem.Calls PySem.Spec
local macro_rules | `(tactic| k_lt $h) => `(tactic| (k_extra "lt1"; have hlt9 := allLt_of $h; simp only [AllLt, and_true] at hlt9))
local macro_rules | `(tactic| k_all) => `(tactic| k_extra "all")
theorem kfill6 : (fun (_ : OpenLaw) (_ : Params → Frag) => True) PySem.Challenge.rw_re0162_01 devHeap := by k_fill; trivial
theorem int_map (cs ds : List Nat) : (cs.map fun (c : Nat) => (c : Int)) = (ds.map fun (c : Nat) => (c : Int)) ↔ cs = ds := by
  constructor
  · intro h
    have : ∀ {l : List Nat}, (l.map fun (c : Nat) => (c : Int)).map Int.toNat = l := fun {l} => by rw [List.map_map]; exact (List.map_congr_left (g := _root_.id) fun c _ => Int.toNat_natCast c).trans (List.map_id _)
    have h2 := congrArg (List.map Int.toNat) h
    rwa [this, this] at h2
  · rintro rfl; rfl
section
variable {prog : Program} {w : World} {A : Around} {E : Value → Shared → Prop} {s : Shared} {h₀ : Heap} {L : Addr} {news : Led} {Q : Value → Shared → Prop}
theorem rl_normeq {nm nm' ct ct' : Addr} {us us' : List Value} {cs ds : List Nat} {b d : Nat} {t t' : Tok} (N : News h₀ L s.heap news) (g3 : (nm, tupOf [.ref ct, .int b t]) ∈ news) (g4 : (ct, tupOf us) ∈ news) (g5 : IntsAre us (cs.map fun (c : Nat) => (c : Int)))
    (g3' : (nm', tupOf [.ref ct', .int d t']) ∈ news) (g4' : (ct', tupOf us') ∈ news) (g5' : IntsAre us' (ds.map fun (c : Nat) => (c : Int))) (hu : A.units + 64 < cLine) (h : Q (.bool (decide (cs = ds ∧ b = d))) s) :
    wpAny (model prog w) A (compareOp .Eq (.ref nm) (.ref nm')) Q E s := by
  have rd : ∀ {nm ct : Addr} {us : List Value} {cs : List Nat} {b : Nat} {t : Tok}, (nm, tupOf [.ref ct, .int b t]) ∈ news → (ct, tupOf us) ∈ news → IntsAre us (cs.map fun (c : Nat) => (c : Int)) → Reads s.heap (.ref nm) (.tuple [.tuple ((cs.map fun (c : Nat) => (c : Int)).map PyData.int), .int b]) ([] ++ ([] ++ [])) :=
    fun g3 g4 g5 => reads_tuple_at (N _ g3).1 rfl rfl (ReadsAll.cons (reads_tuple_at (N _ g4).1 rfl rfl (ints_readAll _ g5)) (ReadsAll.cons (Reads.int _ _) .nil))
  have sh : ∀ (cs : List Nat) (b : Nat), SeqAt.shaped (.tuple [.tuple ((cs.map fun (c : Nat) => (c : Int)).map PyData.int), .int b]) = true := fun cs b => by
    generalize (cs.map fun (c : Nat) => (c : Int)) = ns
    simp only [SeqAt.shaped, PyData.canLay0, PyData.canLayAll0, PyData.depth, PyData.depthAll, ke_canLayAll0]
    have := ke_depthAll ns
    rw [Bool.and_eq_true]
    refine ⟨rfl, decide_eq_true ?_⟩
    omega
  refine eq_dataH (rd g3 g4 g5) (rd g3' g4' g5') (sh _ _) (sh _ _) hu ?_
  have e : PyData.eqv (.tuple [.tuple ((cs.map fun (c : Nat) => (c : Int)).map PyData.int), .int b]) (.tuple [.tuple ((ds.map fun (c : Nat) => (c : Int)).map PyData.int), .int d]) = decide (cs = ds ∧ b = d) := by
    simp only [PyData.eqv, PyData.eqvAll, ked_eqvAll, Bool.and_true]
    by_cases h1 : cs = ds
    · subst h1
      by_cases h2 : b = d
      · subst h2; simp
      · have : ¬ ((b : Int) = d) := by omega
        simp [h2, this]
    · have := (not_congr (int_map cs ds)).mpr h1
      simp [h1, this]
  rw [e]; exact h
end
section
variable {w : World} {loose : List Str} {mean : ExcName → Option Value} {mg mb : Str → Option Value}
set_option maxHeartbeats 1000000 in
theorem eq_ct (x y : Addr) (cs ds : List Nat) (b d : Nat) : Ct w loose mean mg mb 135 12 (fun news vs => vs = [.ref x, .ref y] ∧ WsObj news x cs b ∧ WsObj news y ds d) (fun _ _ tl r => tl = [] ∧ r = .bool (decide (cs = ds ∧ b = d))) := by
  k_with_none
  k_with "ne" => ((try dsimp only); with_reducible first | assumption | exact Ne.symm (by assumption) | exact Nat.ne_of_lt (by assumption) | exact Nat.ne_of_gt (by assumption) | fail "ne")
  k_with "lt0" => skip
  k_with "mem" => first | with_reducible assumption | exact List.mem_cons_self | (refine List.mem_cons_of_mem _ ?_; k_mem) | (refine List.mem_append_right _ ?_; k_mem) | (refine List.mem_append_left _ ?_; k_mem)
  k_with "compareOp Eq ref ref" => (k_here; k_dflt (refine' rl_normeq ?zqk1 ?zqk2 ?zqk3 ?zqk4 ?zqk5 ?zqk6 ?zqk7 ?zqk8 ?_; (case zqk1 => k_asm); (case zqk2 => assumption); (case zqk3 => assumption); (case zqk4 => assumption); (case zqk5 => assumption); (case zqk6 => assumption); (case zqk7 => assumption); (case zqk8 => ktr_units)))
  unfold Ct
  intro dp un gd cn cs' a ccd cl outer A₀ base h₀ L m news s vs Q E B F X N T hk hR hd hu hret
  obtain ⟨rfl, ⟨dx, nm, ct, h1, t1, v1, h2, t2, v2, h3, t3, v3, h4, t4, h5, t5, v5, us, t, g1, g2, g3, g4, g5⟩, ⟨dx', nm', ct', h1', t1', v1', h2', t2', v2', h3', t3', v3', h4', t4', h5', t5', v5', us', t', g1', g2', g3', g4', g5'⟩⟩ := hR
  refine wpAny_call ?_
  k_dflt ktr_enter
  k_steps
  (with_reducible rename Fr _ _ _ _ => kF9); (with_reducible rename News _ _ _ _ => kN9)
  exact hret _ [] _ _ kF9 kN9 (fun _ _ _ h => nomatch h) ⟨rfl, rfl⟩
end

/-! ReadR -/
open PySem PySem.W PyProof.Rows PySem.Calls PySem.Spec
section
variable {prog : Program} {w : World} {A : Around} {E : Value → Shared → Prop} {s : Shared} {env : Env} {h₀ : Heap} {x : Str} {body : List Stmt} {Q : Flow → Shared → Prop}
/-- a for over a tuple of the ledger -/
theorem for_tuple {l : Addr} {vs : List Value} {m₀ : Str → Option Value} {news : Led} (J : Nat → (Str → Option Value) → Led → Prop)
    (hh : A.handled = none) (F : Fr h₀ env.locals s.heap m₀) (N : News h₀ env.locals s.heap news) (hl : (l, tupOf vs) ∈ news) (hj : J 0 m₀ news)
    (turn : ∀ i v I oI m₁ nx h tk, vs[i]? = some v → J i m₁ nx → (∀ p ∈ nx, p.1 ≠ I) → (l, tupOf vs) ∈ nx → Fr h₀ env.locals h (fun y => if y = x then some v else m₁ y) → News h₀ env.locals h ((I, oI) :: nx) →
      ∀ (Q9 : Flow → Shared → Prop), (∀ s', TurnE h₀ env.locals I oI (fun m' nx' => J (i + 1) m' nx' ∧ (l, tupOf vs) ∈ nx') { s with heap := h, toks := tk } s' → Q9 .next s' ∧ Q9 .cont s') → wpAny (model prog w) A (execs body env) Q9 E { s with heap := h, toks := tk })
    (done : ∀ m₁ nx h tk, J vs.length m₁ nx → Fr h₀ env.locals h m₁ → News h₀ env.locals h nx → Q .next { s with heap := h, toks := tk }) :
    wpAny (model prog w) A (pyIter (.ref l)) (fun it s₂ => LoopAtV prog w A h₀ env x body Q E it s₂) E s := by
  have hls : s.heap.IsTuple l vs.toArray := ⟨_, (N _ hl).1, rfl, _, rfl⟩
  have hlt : l < s.heap.objs.size := Heap.lt_size (N _ hl).1
  have hne : l ≠ s.heap.objs.size := Nat.ne_of_lt hlt
  refine wpAny_pyIter_tuple hls ?_
  have W := Walks.tuple (prog := prog) (w := w) hh s.heap.objs.size l hne vs.toArray
  have hlen : vs.toArray.size = vs.length := by simp
  rw [hlen] at W
  refine ⟨_, _, _, vs.length, _, _, m₀, news, (fun i m nx => J i m nx ∧ (l, tupOf vs) ∈ nx), rfl, W, ?_, ?_, ?_, ⟨⟨_, Heap.get?_push_size _ rfl, rfl, rfl⟩, hls.at fun o e => Heap.get?_push_of_some _ e⟩, F.push _, (fun p hp => ⟨Heap.get?_push_of_some _ (N p hp).1, (N p hp).2⟩), ⟨hj, hl⟩, ?_, ?_⟩
  · intro hm
    rcases List.mem_cons.mp hm with e | hm
    · exact absurd F.ns.lt (e ▸ Nat.lt_irrefl _)
    · exact (N _ hl).2.1 (List.mem_singleton.mp hm).symm
  · intro b hb
    rw [List.mem_singleton.mp hb]
    exact next_is_new F
  · intro p hp hI
    exact absurd (Heap.lt_size (N p hp).1) ((List.mem_singleton.mp hI) ▸ Nat.lt_irrefl _)
  · rintro i v m₁ nx s₁ own ⟨hh', tk', rfl⟩ hin hP ⟨hJ, hml⟩ hoff hown _ hmem hst F₁ N₁
    obtain ⟨⟨oi, hoi, _⟩, _⟩ := hst
    have hI : (s.heap.objs.size, oi) ∈ own := hmem _ (.head _) (next_is_new F) oi hoi
    have hne1 : ∀ p ∈ nx, p.1 ≠ s.heap.objs.size := fun p hp e => hoff p hp (List.mem_singleton.mpr e)
    have hv : vs[i]? = some v := by simpa using hP
    have N₂ : News h₀ env.locals hh' ((s.heap.objs.size, oi) :: nx) := fun p hp => by
      rcases List.mem_cons.mp hp with rfl | hp
      · exact N₁ _ (List.mem_append.mpr (.inl hI))
      · exact N₁ p (List.mem_append.mpr (.inr hp))
    refine wpAny_mono (turn i v s.heap.objs.size oi m₁ nx hh' tk' hv hJ hne1 hml F₁ N₂ (TurnP h₀ env.locals s.heap.objs.size oi (fun m' nx' => J (i + 1) m' nx' ∧ (l, tupOf vs) ∈ nx') { s with heap := hh', toks := tk' } Q) fun _ h => ⟨h, h⟩) (fun f s₂ p => ?_) fun _ _ e => e
    have fin : TurnE h₀ env.locals s.heap.objs.size oi (fun m' nx' => J (i + 1) m' nx' ∧ (l, tupOf vs) ∈ nx') { s with heap := hh', toks := tk' } s₂ →
        LoopStepU h₀ env.locals [s.heap.objs.size] own (fun m nx => J (i + 1) m nx ∧ (l, tupOf vs) ∈ nx) { s with heap := hh', toks := tk' } .next s₂ := by
      rintro ⟨h', tk, m', nx', e, F', N', ha, hJ', hml'⟩
      refine ⟨rfl, h', tk, m', nx', e, F', fun p hp => ?_, fun p hp hq => ha p hp (List.mem_singleton.mp hq), hJ', hml'⟩
      rcases List.mem_append.mp hp with hp | hp
      · rcases List.mem_cons.mp (hown p hp) with h1 | h1
        · have h2 := (N₁ p (List.mem_append.mpr (.inl hp))).1
          have h3 := (N₁ _ (List.mem_append.mpr (.inl hI))).1
          rw [h1] at h2
          obtain ⟨pa, po⟩ := p
          dsimp only at h1 h2 h3
          subst h1
          rw [h3] at h2
          cases h2
          exact N' _ (.head _)
        · have h4 := List.mem_singleton.mp h1
          have h2 := (N₁ p (List.mem_append.mpr (.inl hp))).1
          have h3 := (N₁ _ (List.mem_append.mpr (.inr hml))).1
          obtain ⟨pa, po⟩ := p
          dsimp only at h4 h2 h3
          subst h4
          rw [h3] at h2
          cases h2
          exact N' _ (.tail _ hml')
      · exact N' p (.tail _ hp)
    cases f with
    | ret v => exact .ret p
    | brk => exact .brk p
    | next => exact .next (fin p)
    | cont => exact .cont (fin p)
  · rintro h' tk m' nx F' N' _ ⟨hJ, _⟩
    exact done m' nx h' tk hJ F' N'
end
theorem rev_idx (l : List Nat) : (Builtin.Str.strSliceIndices none none (-1) l.length).filterMap (l[·]?) = l.reverse := by
  have e : Builtin.Str.strSliceIndices none none (-1) l.length = (List.range l.length).map fun k => l.length - 1 - k := by
    unfold Builtin.Str.strSliceIndices sliceRange
    simp only [show ¬ ((-1 : Int) > 0) by decide, if_false]
    by_cases h : l.length = 0
    · rw [h]; rfl
    · have c : (l.length : Int) - 1 > -1 := by omega
      rw [if_pos c]
      have e1 : (((l.length : Int) - 1 - -1 - -1 - 1) / (- -1)).toNat = l.length := by
        rw [show (- -1 : Int) = 1 by decide, Int.ediv_one]; omega
      rw [e1]
      refine List.map_congr_left fun k _ => ?_
      omega
  rw [e, List.filterMap_map]
  have g : ∀ (l : List Nat), List.filterMap ((l[·]?) ∘ fun k => l.length - 1 - k) (List.range l.length) = l.reverse := by
    intro l
    apply List.ext_getElem?
    intro i
    have hf : ∀ (n : Nat), n ≤ l.length → (List.filterMap ((l[·]?) ∘ fun k => l.length - 1 - k) (List.range n)) = (l.reverse).take n := by
      intro n hn
      induction n with
      | zero => rfl
      | succ n ih =>
        rw [List.range_succ, List.filterMap_append, ih (by omega), List.take_add_one]
        congr 1
        have hlt : l.length - 1 - n < l.length := by omega
        have h1 : l.reverse[n]? = l[l.length - 1 - n]? := List.getElem?_reverse (by omega)
        rw [h1]
        simp [List.filterMap_cons, hlt]
    rw [hf _ (Nat.le_refl _), List.take_of_length_le (by simp)]
  exact g l
section
variable {prog : Program} {w : World} {A : Around} {E : Value → Shared → Prop} {s : Shared} {h₀ : Heap} {L : Addr} {m : Str → Option Value} {news : Led} {Q : Value → Shared → Prop} {value slice : PySem.Expr}
theorem rl_srev {l : List Nat} {t u : Tok} (F : Fr h₀ L s.heap m) (N : News h₀ L s.heap news) (hz : l.length ≤ 1000000) (h : ∀ h' t' c, Fr h₀ L h' m → News h₀ L h' news → Q (.str ⟨l.reverse.toArray⟩ t') { s with heap := h', toks := c })
    (hs : subscripted slice false (.str ⟨l.toArray⟩ t) (.ref s.heap.objs.size) = operate [.ref s.heap.objs.size, .str ⟨l.toArray⟩ t] (getItem (.str ⟨l.toArray⟩ t) (.ref s.heap.objs.size)))
    (ht : ∀ r, letTemporaryGo value (.str ⟨l.toArray⟩ t) r = pure ()) :
    wpAny (model prog w) A (subscriptTail value slice (.str ⟨l.toArray⟩ t) (.ref s.heap.objs.size)) Q E { s with heap := s.heap.push { cls := .type "slice", data := .fields #[.none, .none, .int (-1) u] } } := by
  have e : Txt.sliceBy ⟨l.toArray⟩ none none (-1, u) = ⟨l.reverse.toArray⟩ := by
    unfold Txt.sliceBy
    rw [if_neg (by simp)]
    congr 2
    unfold slicePicked
    have := rev_idx l
    rw [← this]
    have e2 : (⟨l.toArray⟩ : Str).length = l.length := strMk_len l
    rw [e2]
    simp
  refine slice_strK_nn F N (by decide) (fun h' t' c F' N' => ?_) hs ht (by rw [strMk_len]; exact Nat.le_trans hz (by decide))
  rw [e]; exact h h' t' c F' N'
theorem rl_srep {c : Nat} {i : Int} {t u : Tok} (h0 : 0 ≤ i) (h1 : i ≤ 100000) (h : ∀ t' k, Q (.str ⟨(List.replicate i.toNat c).toArray⟩ t') { s with toks := k }) : wpAny (model prog w) A (binaryOp .Mult (.str ⟨#[c]⟩ t) (.int i u)) Q E s := by
  refine SB.mul (mulOk_of 16 1048576 (by show 1 ≤ 16; decide) (by omega) (by omega) (by decide) (by decide)) fun t' k => ?_
  have e : Txt.mul ⟨#[c]⟩ i = ⟨(List.replicate i.toNat c).toArray⟩ := by
    unfold Txt.mul
    have g : ∀ (n : Nat) (a : Array Nat), (List.replicate n #[c]).foldl (· ++ ·) a = a ++ (List.replicate n c).toArray := by
      intro n
      induction n with
      | zero => intro a; simp
      | succ n ih =>
        intro a
        rw [List.replicate_succ, List.foldl_cons, ih, List.replicate_succ]
        apply Array.toList_inj.mp
        simp
    split
    · have e0 : i.toNat = 0 := by omega
      rw [e0]; rfl
    · split
      · rename_i h2 h3
        have e1 : i = 1 := by simpa [Str.length] using h3
        subst e1; rfl
      · rw [g]; simp
  rw [e]; exact h t' k
theorem texts_any {vs : List Value} {W : List (List Nat)} (h : Texts vs W) (word : List Nat) : ((W.map fun c => (⟨c.toArray⟩ : Str)).any (· == ⟨word.toArray⟩)) = decide (word ∈ W) := by
  clear h
  induction W with
  | nil => simp
  | cons c r ih =>
    rw [List.map_cons, List.any_cons, ih]
    by_cases e : c = word
    · subst e; simp
    · have h1 : ((⟨c.toArray⟩ : Str) == ⟨word.toArray⟩) = false := by
        rw [beq_eq_false_iff_ne]
        intro q
        apply e
        have := congrArg (fun z : Str => z.cps.toList) q
        simpa using this
      have h2 : ¬ word = c := fun q => e q.symm
      simp [h1, h2]
theorem rl_notin {l : Addr} {n : Nat} {vs : List Value} {W : List (List Nat)} {word : List Nat} {t : Tok} (N : News h₀ L s.heap news) (hm : (l, listOf vs.toArray n) ∈ news) (ht : Texts vs W) (h : Q (.bool (!decide (word ∈ W))) s) :
    wpAny (model prog w) A (compareOp .NotIn (.str ⟨word.toArray⟩ t) (.ref l)) Q E s := by
  refine notin_list_strs (rl_isList N hm) ht.strs ?_
  rw [texts_any ht]; exact h
theorem rl_windex {l : Addr} {n : Nat} {vs : List Value} {W : List (List Nat)} {word : List Nat} {t : Tok} (N : News h₀ L s.heap news) (hm : (l, listOf vs.toArray n) ∈ news) (ht : Texts vs W) (hz : W.length ≤ 100000) (hk : word ∈ W)
    (h : Q (.int (W.idxOf word : Nat) s.toks) { s with toks := s.toks + 1 }) :
    wpAny (model prog w) A (call (.builtin "list.index") [.ref l, .str ⟨word.toArray⟩ t]) Q E s := by
  have hlen := ht.len
  have hj : W.idxOf word < W.length := List.idxOf_lt_length_iff.mpr hk
  have at' : ∀ (j : Nat) (hj : j < vs.toArray.size), isStrOf ⟨word.toArray⟩ vs.toArray[j] = decide (W[j]? = some word) := by
    intro j hj
    have hj' : j < vs.length := by simpa using hj
    obtain ⟨c, t', h1, h2⟩ := ht.get (List.getElem?_eq_getElem hj')
    have e : vs.toArray[j] = vs[j] := by simp
    rw [e, h1, h2]
    show ((⟨c.toArray⟩ : Str) == ⟨word.toArray⟩) = _
    by_cases e : c = word
    · subst e; simp
    · have h1 : ((⟨c.toArray⟩ : Str) == ⟨word.toArray⟩) = false := by
        rw [beq_eq_false_iff_ne]
        intro q
        apply e
        have := congrArg (fun z : Str => z.cps.toList) q
        simpa using this
      rw [h1]; simp [e]
  refine call_meets PySem.F.slot_list_index ⟨_, (N _ hm).1, rfl⟩ PySem.F.entry_list_index (PySem.F.args_list_index_2 _ _)
    (SeqAt.list_indexAt l vs.toArray n none #[] (.str ⟨word.toArray⟩ t) (isStrOf ⟨word.toArray⟩) (W.idxOf word) (by simpa [hlen] using hj) (by omega) ?_ ?_) ⟨(N _ hm).1, fun y hy => (eq_isStrOf ⟨word.toArray⟩ t ht.strs y (by simpa using hy)).at _ _, h⟩
  · rw [at']
    simp [List.getElem?_eq_getElem hj]
  · intro j hjs hlt
    rw [at']
    have hj2 : j < W.length := by omega
    rw [List.getElem?_eq_getElem hj2]
    simp only [Option.some.injEq, decide_eq_false_iff_not]
    exact by have q := List.not_of_lt_findIdx (p := (· == word)) hlt; simpa using q
end
open PySem PySem.W PyProof.Rows PySem.Calls PySem.Spec
section
variable {prog : Program} {w : World} {A : Around} {E : Value → Shared → Prop} {s : Shared} {h₀ : Heap} {L l : Addr} {m : Str → Option Value} {news news' : Led} {n : Nat} {vs : List Value} {x : Value} {Q : Value → Shared → Prop}
theorem rl_app (F : Fr h₀ L s.heap m) (N : News h₀ L s.heap news) (U : Upd l (listOf vs.toArray n) (listOf (vs ++ [x]).toArray (n + 1)) news news') (hz : Sm vs)
    (h : ∀ h', Fr h₀ L h' m → News h₀ L h' news' → Q .none { s with heap := h' }) : wpAny (model prog w) A (call (.builtin "list.append") [.ref l, x]) Q E s := by
  obtain ⟨pre, post, rfl, rfl, a, b⟩ := U.split
  have z := N (l, listOf vs.toArray n) (List.mem_append.mpr (.inr (.head _)))
  refine append_at (hsz := hz.sz) z.1 fun h' hs ho' => h h' (F.change hs z.2.1 z.2.2) (news_set N a b hs ?_)
  have e : (vs ++ [x]).toArray = vs.toArray.push x := by simp
  rw [e]; exact ho'
end

/-! Pure -/
open PySem PySem.W PyProof.Rows PySem.Calls PySem.Spec

/-! what the reading does, without a program -/
structure St where
  W : List (List Nat)
  S : List (List Nat × Nat)
  pile : List Nat
  ways : Nat
noncomputable def putS (S : List (List Nat × Nat)) (h : List Nat × Nat) : List (List Nat × Nat) := if h ∈ S then S else S ++ [h]
noncomputable def factL : Nat → Nat
  | 0 => 1
  | 1 => 1
  | 2 => 2
  | _ => 6
noncomputable def divs (ways : Nat) (cs : List Nat) : Nat := cs.foldl (fun w c => w / factL c) ways
noncomputable def leadOf (parts : List Nat) (e : Nat) : List Nat := (parts.map fun p => List.replicate p 32 ++ [9]).flatten ++ List.replicate e 32
noncomputable def endStep (W : List (List Nat)) (S : List (List Nat × Nat)) (pile : List Nat) (ways : Nat) (lead : List Nat) : St :=
  ⟨W, putS S (wsNorm lead), pile ++ [(putS S (wsNorm lead)).idxOf (wsNorm lead)], divs ways (wsNorm lead).1⟩
noncomputable def putW (W : List (List Nat)) (word : List Nat) : List (List Nat) := if word ∈ W then W else W ++ [word]
noncomputable def leafStep (st : St) (word : List Nat) : St := endStep (putW st.W word) st.S st.pile st.ways (List.replicate (1 + (putW st.W word).idxOf word) 32)
noncomputable def manyOf (s : Nat) : Nat := if s = 12274 ∨ s = 12275 then 3 else 2
noncomputable def nodeStep (st : St) (s : Nat) : St :=
  endStep st.W st.S (st.pile.take (st.pile.length - manyOf s)) (st.ways * factL (manyOf s)) (leadOf (st.pile.drop (st.pile.length - manyOf s)) (s - 12272))
/-- one sign of the page -/
noncomputable def pgStep (st : St) (s : Nat) : Option St :=
  if inB1 s = true then some st else if inC7 s = true then (if manyOf s ≤ st.pile.length then some (nodeStep st s) else none) else (b3All.lookup s).map (leafStep st)
noncomputable def pgRun (st : St) : List Nat → Option St
  | [] => some st
  | s :: l => (pgStep st s).bind fun st' => pgRun st' l
theorem pgRun_append : ∀ (l l' : List Nat) (st : St), pgRun st (l ++ l') = (pgRun st l).bind fun st' => pgRun st' l'
  | [], _, _ => rfl
  | s :: l, l', st => by
    show (pgStep st s).bind _ = ((pgStep st s).bind _).bind _
    cases pgStep st s with
    | none => rfl
    | some a => exact pgRun_append l l' a
theorem pgRun_at {l : List Nat} {st r a : St} {i c : Nat} (h : pgRun st l = some r) (hc : l[i]? = some c) (ha : pgRun st (l.take i) = some a) : ∃ b, pgStep a c = some b ∧ pgRun st (l.take (i + 1)) = some b := by
  have hd : l.drop i = c :: l.drop (i + 1) := by
    obtain ⟨hi, e⟩ := List.getElem?_eq_some_iff.mp hc
    rw [List.drop_eq_getElem_cons hi, e]
  have e1 := pgRun_append (l.take i) (l.drop i) st
  rw [List.take_append_drop, h, ha, hd] at e1
  have e2 : some r = (pgStep a c).bind fun st' => pgRun st' (l.drop (i + 1)) := e1
  cases hb : pgStep a c with
  | none => rw [hb] at e2; cases e2
  | some b =>
    refine ⟨b, rfl, ?_⟩
    rw [List.take_add_one, hc, pgRun_append, ha]
    show (pgStep a c).bind _ = _
    rw [hb]; rfl
/-- what bounds the state -/
noncomputable def Wf (B : Nat) (st : St) : Prop := st.S.length ≤ B ∧ st.W.length ≤ B ∧ (∀ p ∈ st.pile, p < st.S.length) ∧ st.pile.length ≤ B
theorem putS_mem (S : List (List Nat × Nat)) (h : List Nat × Nat) : h ∈ putS S h := by
  unfold putS; split
  · assumption
  · exact List.mem_append_right _ List.mem_cons_self
theorem putS_len (S : List (List Nat × Nat)) (h : List Nat × Nat) : S.length ≤ (putS S h).length ∧ (putS S h).length ≤ S.length + 1 := by
  unfold putS; split
  · omega
  · rw [List.length_append, List.length_singleton]; omega
theorem putW_mem (W : List (List Nat)) (h : List Nat) : h ∈ putW W h := by
  unfold putW; split
  · assumption
  · exact List.mem_append_right _ List.mem_cons_self
theorem putW_len (W : List (List Nat)) (h : List Nat) : W.length ≤ (putW W h).length ∧ (putW W h).length ≤ W.length + 1 := by
  unfold putW; split
  · omega
  · rw [List.length_append, List.length_singleton]; omega
theorem wf_end {B : Nat} {W : List (List Nat)} {S : List (List Nat × Nat)} {pile : List Nat} {ways : Nat} {lead : List Nat} (h1 : S.length ≤ B) (h2 : W.length ≤ B + 1) (h3 : ∀ p ∈ pile, p < S.length) (h4 : pile.length ≤ B) : Wf (B + 1) (endStep W S pile ways lead) := by
  have hl := putS_len S (wsNorm lead)
  refine ⟨by show (putS S _).length ≤ _; omega, h2, fun p hp => ?_, by show (pile ++ [_]).length ≤ _; rw [List.length_append, List.length_singleton]; omega⟩
  show p < (putS S _).length
  rcases List.mem_append.mp hp with hp | hp
  · exact Nat.lt_of_lt_of_le (h3 p hp) hl.1
  · rw [List.mem_singleton.mp hp]
    exact List.idxOf_lt_length_iff.mpr (putS_mem _ _)
theorem wf_step {B : Nat} {st st' : St} {s : Nat} (h : Wf B st) (e : pgStep st s = some st') : Wf (B + 1) st' := by
  obtain ⟨h1, h2, h3, h4⟩ := h
  unfold pgStep at e
  split at e
  · cases e; exact ⟨by omega, by omega, h3, by omega⟩
  · split at e
    · split at e
      · cases e
        exact wf_end h1 (by omega) (fun p hp => h3 p (List.mem_of_mem_take hp)) (by rw [List.length_take]; omega)
      · cases e
    · cases hw : b3All.lookup s with
      | none => rw [hw] at e; cases e
      | some word =>
        rw [hw] at e
        cases e
        exact wf_end h1 (by have := putW_len st.W word; omega) h3 h4
theorem wf_run {l : List Nat} : ∀ {B : Nat} {st st' : St}, Wf B st → pgRun st l = some st' → Wf (B + l.length) st' := by
  induction l with
  | nil => intro B st st' h e; cases e; exact h
  | cons s l ih =>
    intro B st st' h e
    cases hb : pgStep st s with
    | none =>
      have : (pgStep st s).bind (fun st' => pgRun st' l) = some st' := e
      rw [hb] at this; cases this
    | some b =>
      have : (pgStep st s).bind (fun st' => pgRun st' l) = some st' := e
      rw [hb] at this
      have := ih (wf_step h hb) this
      rw [List.length_cons]
      have e2 : B + (l.length + 1) = B + 1 + l.length := by omega
      rw [e2]; exact this
/-! the lead's norm -/
theorem sum_set (l : List Nat) : ∀ b, b < l.length → (l.set b (l.getD b 0 + 1)).sum = l.sum + 1 := by
  induction l with
  | nil => intro b h; cases h
  | cons a r ih =>
    intro b h
    cases b with
    | zero => simp only [List.set_cons_zero, List.sum_cons, List.getD_cons_zero]; omega
    | succ b =>
      simp only [List.set_cons_succ, List.sum_cons, List.getD_cons_succ]
      rw [ih b (by simpa using h)]; omega
theorem sum_zeros (k : Nat) : (List.replicate k 0).sum = 0 := by
  induction k with
  | zero => rfl
  | succ k ih => rw [List.replicate_succ, List.sum_cons, ih]
theorem ws_sum1 (c : List Nat) (b x : Nat) (hx : x = 32 ∨ x = 9) : (wsStep (c, b) x).1.sum = c.sum + if x = 9 then 1 else 0 := by
  unfold wsStep
  rcases hx with rfl | rfl
  · rfl
  · rw [if_neg (by decide), if_pos rfl]
    dsimp only
    split
    · rw [sum_set _ _ (by rw [List.length_append, List.length_replicate]; omega), List.sum_append, sum_zeros]
      try omega
    · rw [sum_set _ _ (by omega)]
theorem ws_sum (l : List Nat) : ∀ (st : List Nat × Nat), (∀ c ∈ l, c = 32 ∨ c = 9) → (l.foldl wsStep st).1.sum = st.1.sum + l.count 9 := by
  induction l with
  | nil => intro st _; rfl
  | cons x l ih =>
    intro st h
    rw [List.foldl_cons, ih _ fun c hc => h c (List.mem_cons_of_mem _ hc)]
    obtain ⟨c, b⟩ := st
    rw [ws_sum1 c b x (h x List.mem_cons_self), List.count_cons]
    have : (if x = 9 then 1 else 0) = (if (x == 9) = true then 1 else 0) := by by_cases e : x = 9 <;> simp [e]
    rw [this]; dsimp only; omega
theorem le_sum {l : List Nat} {c : Nat} (h : c ∈ l) : c ≤ l.sum := by
  induction l with
  | nil => cases h
  | cons a r ih =>
    rw [List.sum_cons]
    rcases List.mem_cons.mp h with rfl | h
    · omega
    · have := ih h; omega
theorem lead_signs (parts : List Nat) (e : Nat) : ∀ c ∈ leadOf parts e, c = 32 ∨ c = 9 := by
  intro c hc
  unfold leadOf at hc
  rcases List.mem_append.mp hc with hc | hc
  · obtain ⟨l, hl, hc⟩ := List.mem_flatten.mp hc
    obtain ⟨p, _, rfl⟩ := List.mem_map.mp hl
    rcases List.mem_append.mp hc with hc | hc
    · exact .inl (List.eq_of_mem_replicate hc)
    · exact .inr (List.mem_singleton.mp hc)
  · exact .inl (List.eq_of_mem_replicate hc)
theorem lead_count (parts : List Nat) (e : Nat) : (leadOf parts e).count 9 = parts.length := by
  unfold leadOf
  rw [List.count_append]
  have h1 : List.count 9 (List.replicate e 32) = 0 := List.count_eq_zero.mpr fun h => by have := List.eq_of_mem_replicate h; omega
  rw [h1, Nat.add_zero]
  induction parts with
  | nil => rfl
  | cons p r ih =>
    rw [List.map_cons, List.flatten_cons, List.count_append, ih, List.count_append, List.length_cons]
    have h2 : List.count 9 (List.replicate p 32) = 0 := List.count_eq_zero.mpr fun h => by have := List.eq_of_mem_replicate h; omega
    rw [h2]; simp; omega
theorem lead_len (parts : List Nat) (e N : Nat) (h : ∀ p ∈ parts, p ≤ N) : (leadOf parts e).length ≤ parts.length * (N + 1) + e := by
  unfold leadOf
  rw [List.length_append, List.length_replicate, List.length_flatten]
  have : ((parts.map fun p => List.replicate p 32 ++ [9]).map List.length).sum ≤ parts.length * (N + 1) := by
    have := sum_le (l := (parts.map fun p => List.replicate p 32 ++ [9]).map List.length) (k := N + 1) (by
      intro n hn
      rw [List.map_map] at hn
      obtain ⟨p, hp, rfl⟩ := List.mem_map.mp hn
      simp only [Function.comp, List.length_append, List.length_replicate, List.length_singleton]
      have := h p hp
      omega)
    simpa using this
  omega
theorem norm_small {parts : List Nat} {e : Nat} (h : parts.length ≤ 3) : ∀ c ∈ (wsNorm (leadOf parts e)).1, c ≤ 3 := by
  intro c hc
  have h1 := le_sum hc
  have h2 := ws_sum (leadOf parts e) ([], 0) (lead_signs _ _)
  rw [lead_count] at h2
  have h3 : (wsNorm (leadOf parts e)).1.sum = parts.length := by unfold wsNorm; rw [h2]; exact Nat.zero_add _
  omega
theorem norm_blanks (n : Nat) : wsNorm (List.replicate n 32) = ([], n) := by
  unfold wsNorm
  have : ∀ (n b : Nat), (List.replicate n 32).foldl wsStep ([], b) = ([], b + n) := by
    intro n
    induction n with
    | zero => intro b; rfl
    | succ n ih =>
      intro b
      rw [List.replicate_succ, List.foldl_cons]
      have e : wsStep ([], b) 32 = ([], b + 1) := rfl
      rw [e, ih]; congr 1; omega
  rw [this, Nat.zero_add]

/-! Cut -/
open PySem PySem.W PyProof.Rows PySem.Calls PySem.Spec
theorem cut_wp {M : Model} {Γ : PySem.Ctx} {E : Value → Shared → Prop} {env : Env} {Q : Flow → Shared → Prop} (Mid : Shared → Prop) {post : List Stmt} (h2 : ∀ p s', Mid s' → Sem.wp M Γ (execs post env) (fun a _ s' => Q a s') (fun e _ s' => E e s') p s') :
    ∀ (pre : List Stmt) (p : Pos) (s : Shared), Sem.wp M Γ (execs pre env) (fun f _ s' => match f with | .next => Mid s' | f => Q f s') (fun e _ s' => E e s') p s → Sem.wp M Γ (execs (pre ++ post) env) (fun a _ s' => Q a s') (fun e _ s' => E e s') p s
  | [], p, s, h => h2 p s h
  | st :: rest, p, s, h => by
    rw [execs_cons, Sem.wp_bind'] at h
    rw [List.cons_append, execs_cons, Sem.wp_bind']
    refine Sem.wp_mono M Γ _ (fun f p' s' h9 => ?_) (fun _ _ _ h' => h') _ _ h
    cases f with
    | next => exact cut_wp Mid h2 rest p' s' h9
    | ret v => exact h9
    | brk => exact h9
    | cont => exact h9
theorem exec_cut {M : Model} {A : Around} {E : Value → Shared → Prop} {env : Env} {s : Shared} {Q : Flow → Shared → Prop} {pre post all : List Stmt} (Mid : Shared → Prop) (e : all = pre ++ post)
    (h1 : ∀ (Q9 : Flow → Shared → Prop), (∀ s', Mid s' → Q9 .next s') → wpAny M A (execs pre env) Q9 E s) (h2 : ∀ s', Mid s' → wpAny M A (execs post env) Q E s') : wpAny M A (execs all env) Q E s := by
  subst e
  exact fun Γ p hΓ => cut_wp Mid (fun p s' hm => h2 s' hm Γ p hΓ) pre p s (h1 (fun f s' => match f with | .next => Mid s' | f => Q f s') (fun _ h => h) Γ p hΓ)

/-! CompT -/
open PySem PySem.W PyProof.Rows PySem.Calls PySem.Spec
section
variable {prog : Program} {w : World} {A : Around} {s : Shared} {h₀ : Heap} {L : Addr} {m : Str → Option Value} {env : Env} {ct elt : PySem.Expr} {x : Str} {scope : Scope} {cl : List (Str × Addr)} {news : Led} {S : Led → Prop} {P : Nat → Value → Prop} {Fin : List Value → Led → Prop}
/-- a comprehension with one test -/
theorem comp_restT {n : Nat} (J : Nat → List Value → Led → Prop) (hS : ∀ i ys nx, J i ys nx → S nx) (h0 : J 0 [] news)
    (turn : ∀ i v I oI C oC D m₂ ys nx h tk (E' : Value → Shared → Prop), i < n → P i v → J i ys nx → LCg.NsObj oC m₂ → m₂ x = some v → Fr h₀ L h m → News h₀ L h ((I, oI) :: (C, oC) :: (D, LCg.lst ys) :: nx) → (∀ p ∈ nx, p.1 ≠ I ∧ p.1 ≠ C ∧ p.1 ≠ D) →
      ∀ (Q9 : Value → Shared → Prop) (R9 : Shared → Prop), (∀ y s', EltE h₀ L m { s with heap := h, toks := tk } I oI C oC D (LCg.lst ys) (fun y nx' => J (i + 1) (ys ++ [y]) nx') y s' → Q9 y s') → (∀ s', EltE h₀ L m { s with heap := h, toks := tk } I oI C oC D (LCg.lst ys) (fun _ nx' => J (i + 1) ys nx') Value.none s' → R9 s') →
        wpAny (model prog w) A (isTrue ct (compEnvC scope cl C env) (eval ct (compEnvC scope cl C env))) (fun ok s' => if ok = true then wpAny (model prog w) A (eval elt (compEnvC scope cl C env)) Q9 E' s' else R9 s') E' { s with heap := h, toks := tk })
    (fin : ∀ ys nx, J n ys nx → Fin ys nx) : LCt.CompRestT prog w A h₀ L m env ct elt x scope cl s S P Fin n 0 [] news := by
  have key : ∀ (j i : Nat) (ys : List Value) (nx : Led), i + j = n → J i ys nx → LCt.CompRestT prog w A h₀ L m env ct elt x scope cl s S P Fin j i ys nx := by
    intro j
    induction j with
    | zero =>
      intro i ys nx hi hJ
      have e : i = n := by omega
      subst e
      exact LCt.CompRestT.zero (fin ys nx hJ)
    | succ j ih =>
      intro i ys nx hi hJ
      refine LCt.CompRestT.succ ?_
      intro v I oI C oC D m₂ h tk E' hv hC hx F N off ne
      refine wpAny_mono (turn i v I oI C oC D m₂ ys nx h tk E' (by omega) hv hJ hC hx F N (LCg.Off3.mem off) _ _ (fun _ _ h => h) fun _ h => h) (fun ok s₂ hq => ?_) fun _ _ e => e
      cases ok with
      | true =>
        rw [if_pos rfl] at hq ⊢
        refine wpAny_mono hq (fun y s₃ hq => ?_) fun _ _ e => e
        obtain ⟨h', tk', nx', e, F', N', off', hJ'⟩ := hq
        exact ⟨h', tk', nx', e, F', N', LCg.Off3.of off', hS _ _ _ hJ', ih (i + 1) _ _ (by omega) hJ'⟩
      | false =>
        rw [if_neg (by decide)] at hq ⊢
        obtain ⟨h', tk', nx', e, F', N', off', hJ'⟩ := hq
        exact ⟨h', tk', nx', e, F', N', LCg.Off3.of off', hS _ _ _ hJ', ih (i + 1) _ _ (by omega) hJ'⟩
  exact key n 0 [] news (by omega) h0
end

/-! Alike -/
theorem alike_none {S : List (List Nat × Nat)} {h : List Nat × Nat} (hn : h ∉ S) : (List.range S.length).filter (fun k => S[k]? = some h) = [] := by
  rw [List.filter_eq_nil_iff]
  intro k _ e
  exact hn (List.mem_of_getElem? (by simpa using e))
theorem alike_some : ∀ {S : List (List Nat × Nat)} {h : List Nat × Nat}, h ∈ S → ∃ r, (List.range S.length).filter (fun k => S[k]? = some h) = S.idxOf h :: r
  | [], _, hm => by cases hm
  | a :: S, h, hm => by
    rw [List.length_cons, List.range_succ_eq_map, List.filter_cons, List.filter_map]
    by_cases e : a = h
    · subst e
      rw [if_pos (by simp), List.idxOf_cons_self]
      exact ⟨_, rfl⟩
    · have hm' : h ∈ S := by
        rcases List.mem_cons.mp hm with q | q
        · exact absurd q.symm e
        · exact q
      obtain ⟨r, hr⟩ := alike_some hm'
      refine ⟨r.map Nat.succ, ?_⟩
      have e1 : ((fun k => decide ((a :: S)[k]? = some h)) ∘ Nat.succ) = fun k => decide (S[k]? = some h) := by
        funext k; simp
      rw [if_neg (by simp [e]), e1, hr, List.map_cons]
      have e2 : (a :: S).idxOf h = S.idxOf h + 1 := by
        rw [List.idxOf_cons]
        have : (a == h) = false := by simp [e]
        rw [this]; rfl
      rw [e2]

/-! Read -/
open PySem PySem.W PyProof.Rows PySem.Calls PySem.Spec
theorem kfill7 : (fun (_ : OpenLaw) (_ : Params → Frag) => True) PySem.Challenge.rw_re0162_01 devHeap := by k_fill; trivial

/-- a contract of a def that changes what it is handed -/
noncomputable def CtM (w : World) (loose : List Str) (mean : ExcName → Option Value) (mg mb : Str → Option Value) (f : Addr) (sz : Nat) (Rel : Led → List Value → Prop) (Out : Led → List Value → Led → Value → Prop) : Prop :=
  ∀ (dp un : Nat) (gd : Option (List Code)) (cn : Str) (cs : Scope) (a : Addr) (ccd : Value) (cl : List (Str × Addr)) (outer : List Env) (A₀ : Around) (base h₀ : Heap) (L : Addr) (m : Str → Option Value) (news : Led) (s : Shared) (vs : List Value)
    (Q E : Value → Shared → Prop),
    Below A₀ base outer h₀ → Fr h₀ L s.heap m → (devHeap w.params).In h₀ → News h₀ L s.heap news → Top devView loose mean mg mb h₀ → cs.kind = .function → Rel news vs → dp + sz < recursionLimit → un + 8 * sz < cLine →
    (∀ r fin h' tk', Fr h₀ L h' m → News h₀ L h' fin → Out news vs fin r → Q r { s with heap := h', toks := tk' }) →
    wpAny (model PySem.Challenge.rw_re0162_01.row.prog w) (ktrTop dp un gd cn cs L a ccd cl outer) (call (.ref f) vs) Q E s

inductive ShelfIn (led : Led) : List Value → List (List Nat × Nat) → Prop where
  | nil : ShelfIn led [] []
  | cons {x : Addr} {c : List Nat} {b : Nat} {vs : List Value} {S : List (List Nat × Nat)} : WsObj led x c b → ShelfIn led vs S → ShelfIn led (.ref x :: vs) ((c, b) :: S)
theorem WsObj.mono {led led' : Led} {x : Addr} {c : List Nat} {b : Nat} (h : WsObj led x c b) (hs : ∀ p ∈ led, p ∈ led') : WsObj led' x c b := by
  obtain ⟨dx, nm, ct, h1, t1, v1, h2, t2, v2, h3, t3, v3, h4, t4, h5, t5, v5, us, t, g1, g2, g3, g4, g5⟩ := h
  exact ⟨dx, nm, ct, h1, t1, v1, h2, t2, v2, h3, t3, v3, h4, t4, h5, t5, v5, us, t, hs _ g1, hs _ g2, hs _ g3, hs _ g4, g5⟩
theorem ShelfIn.mono {led led' : Led} {vs : List Value} {S : List (List Nat × Nat)} (h : ShelfIn led vs S) (hs : ∀ p ∈ led, p ∈ led') : ShelfIn led' vs S := by
  induction h with
  | nil => exact .nil
  | cons a _ ih => exact .cons (a.mono hs) ih
theorem ShelfIn.len {led : Led} {vs : List Value} {S : List (List Nat × Nat)} (h : ShelfIn led vs S) : vs.length = S.length := by
  induction h with
  | nil => rfl
  | cons _ _ i => simp [i]
theorem ShelfIn.append {led : Led} {vs vs' : List Value} {S S' : List (List Nat × Nat)} (h : ShelfIn led vs S) (h' : ShelfIn led vs' S') : ShelfIn led (vs ++ vs') (S ++ S') := by
  induction h with
  | nil => exact h'
  | cons a _ ih => exact .cons a ih
theorem ShelfIn.get {led : Led} {vs : List Value} {S : List (List Nat × Nat)} (h : ShelfIn led vs S) {i : Nat} (hi : i < S.length) : ∃ x c b, vs[i]? = some (.ref x) ∧ S[i]? = some (c, b) ∧ WsObj led x c b := by
  induction h generalizing i with
  | nil => cases hi
  | cons a _ ih => cases i with
    | zero => exact ⟨_, _, _, rfl, rfl, a⟩
    | succ i => obtain ⟨x, c, b, h1, h2, h3⟩ := ih (by simpa using hi); exact ⟨x, c, b, by simpa using h1, by simpa using h2, h3⟩

noncomputable abbrev OffAll (bs : Led) (a : Addr) : Prop := ∀ q ∈ bs, q.1 ≠ a
/-- what the reading stands on: the two lists that it changes, and the rest -/
noncomputable def RdIn (W : List (List Nat)) (S : List (List Nat × Nat)) (sh wd : Addr) (news : Led) : Prop :=
  ∃ wv n1 shv n2 bs, news = (wd, listOf (List.toArray wv) n1) :: (sh, listOf (List.toArray shv) n2) :: bs ∧ @Ne Nat wd sh ∧ OffAll bs wd ∧ OffAll bs sh ∧ Texts wv W ∧ ShelfIn bs shv S
noncomputable def RdJ (st0 : St) (rp : List Nat) (sh wd fD cS cH : Addr) (bs0 : Led) (i : Nat) (m : Str → Option Value) (nx : Led) : Prop :=
  Ex12 fun st pD pv n3 oH v0 wv n1 shv n2 bs k => All21 (pgRun st0 (rp.take i) = some st) (m (Str.ofString "factorial") = some (.ref fD)) (m (Str.ofString "pile") = some (.ref pD)) (m (Str.ofString "ways") = some (.int (st.ways : Nat) k)) (m (Str.ofString "words") = some (.ref wd)) (nx = (pD, listOf (List.toArray pv) n3) :: (cH, oH) :: (wd, listOf (List.toArray wv) n1) :: (sh, listOf (List.toArray shv) n2) :: bs) (oH.data = .cell v0) (@Ne Nat pD cH) (@Ne Nat pD wd) (@Ne Nat pD sh) (@Ne Nat cH wd) (@Ne Nat cH sh) (@Ne Nat wd sh) (OffAll bs pD) (OffAll bs cH) (OffAll bs wd) (OffAll bs sh) (IntsAre pv (st.pile.map fun (c : Nat) => (c : Int))) (Texts wv st.W) (ShelfIn bs shv st.S) (∀ p ∈ bs0, p ∈ bs)
/-- in the middle of a turn: the new shape is made -/
noncomputable def RdMid (g' : Heap) (L' I : Addr) (oI : Obj) (sh wd fD cH : Addr) (bs2 : Led) (st st' : St) (s₁ s' : Shared) : Prop :=
  Ex18 fun h tk m W2 pile2 ways2 lead pD pv n3 oH wv n1 shv n2 bs3 k x => All25 (s' = { s₁ with heap := h, toks := tk }) (Fr g' L' h m) (News g' L' h ((I, oI) :: (pD, listOf (List.toArray pv) n3) :: (cH, oH) :: (wd, listOf (List.toArray wv) n1) :: (sh, listOf (List.toArray shv) n2) :: bs3)) (m (Str.ofString "factorial") = some (.ref fD)) (m (Str.ofString "pile") = some (.ref pD)) (m (Str.ofString "ways") = some (.int ((ways2 : Nat) : Int) k)) (m (Str.ofString "words") = some (.ref wd)) (oH.data = .cell (some (.ref x))) (@Ne Nat pD cH) (@Ne Nat pD wd) (@Ne Nat pD sh) (@Ne Nat I pD) (OffAll bs3 pD) (OffAll bs3 cH) (OffAll bs3 wd) (OffAll bs3 sh) (OffAll bs3 I) (IntsAre pv (pile2.map fun (c : Nat) => (c : Int))) (Texts wv W2) (ShelfIn bs3 shv st.S) (∀ p ∈ bs2, p ∈ bs3) (WsObj bs3 x (wsNorm lead).1 (wsNorm lead).2) (∀ c ∈ (wsNorm lead).1, c ≤ 3) (endStep W2 st.S pile2 ways2 lead = st') (pile2.length ≤ 1000)
theorem reshape {h₀ h : Heap} {L : Addr} {tl bs : Led} {a b c d e : Addr × Obj} (N : News h₀ L h (tl ++ a :: b :: c :: d :: e :: bs)) : News h₀ L h (a :: b :: c :: d :: e :: (tl ++ bs)) := by
  intro p hp
  refine N p ?_
  simp only [List.mem_cons, List.mem_append] at hp ⊢
  rcases hp with h | h | h | h | h | h | h
  · exact .inr (.inl h)
  · exact .inr (.inr (.inl h))
  · exact .inr (.inr (.inr (.inl h)))
  · exact .inr (.inr (.inr (.inr (.inl h))))
  · exact .inr (.inr (.inr (.inr (.inr (.inl h)))))
  · exact .inl h
  · exact .inr (.inr (.inr (.inr (.inr (.inr h)))))
theorem reshapeN {h₀ h : Heap} {L : Addr} {tl bs : Led} {d8 x2 x9 a b c d e : Addr × Obj} (N : News h₀ L h (tl ++ d8 :: x2 :: x9 :: a :: b :: c :: d :: e :: bs)) : News h₀ L h (a :: d8 :: c :: d :: e :: (tl ++ bs)) := by
  intro p hp
  refine N p ?_
  simp only [List.mem_cons, List.mem_append] at hp ⊢
  rcases hp with h | h | h | h | h | h | h
  · exact .inr (.inr (.inr (.inr (.inl h))))
  · exact .inr (.inl h)
  · exact .inr (.inr (.inr (.inr (.inr (.inr (.inl h))))))
  · exact .inr (.inr (.inr (.inr (.inr (.inr (.inr (.inl h)))))))
  · exact .inr (.inr (.inr (.inr (.inr (.inr (.inr (.inr (.inl h))))))))
  · exact .inl h
  · exact .inr (.inr (.inr (.inr (.inr (.inr (.inr (.inr (.inr h))))))))
theorem off_tl {tl bs old : Led} {x : Addr} {o : Obj} (hlt : ∀ q ∈ old, ∀ p ∈ tl, q.1 < p.1) (hx : (x, o) ∈ old) (hb : OffAll bs x) : OffAll (tl ++ bs) x := fun q hq => by
  rcases List.mem_append.mp hq with hq | hq
  · exact Nat.ne_of_gt (hlt _ hx q hq)
  · exact hb q hq
theorem enc_c7 {rc : Nat} (c : Nat) (h : (rc, c) ∈ encs) (h2 : inC7 c = true) : c = 12272 ∨ c = 12283 ∨ c = 12274 ∨ c = 12275 := by
  have : ∀ p ∈ encs, inC7 (p.2 : Nat) = true → (p.2 = 12272 ∨ p.2 = 12283 ∨ p.2 = 12274 ∨ p.2 = 12275) := by decide
  exact this _ h h2
theorem ints_natAt {vs : List Value} {l : List Nat} (h : IntsAre vs (l.map fun (c : Nat) => (c : Int))) {i : Nat} {v : Value} (hv : vs[i]? = some v) : ∃ p, l[i]? = some p ∧ ∃ t, v = .int (p : Nat) t := by
  have hlen := h.length
  rw [List.length_map] at hlen
  have hi : i < l.length := by rw [← hlen]; exact (List.getElem?_eq_some_iff.mp hv).1
  obtain ⟨t, ht⟩ := h.get i (l[i] : Nat) (by rw [List.getElem?_map, List.getElem?_eq_getElem hi]; rfl)
  rw [hv] at ht
  exact ⟨l[i], List.getElem?_eq_getElem hi, t, Option.some.inj ht⟩
theorem fact_at {fv : List Value} (h : IntsAre fv [1, 1, 2, 6]) {p : Nat} (hp : p ≤ 3) : ∃ t, fv[((p : Nat) : Int).toNat]? = some (.int (factL p : Nat) t) := by
  exact ar_upto (P := fun p => ∃ t, fv[((p : Nat) : Int).toNat]? = some (.int (factL p : Nat) t)) (fun p hp => match p, hp with | 0, _ => h.get 0 1 rfl | 1, _ => h.get 1 1 rfl | 2, _ => h.get 2 2 rfl | 3, _ => h.get 3 6 rfl) (Nat.lt_succ_of_le hp)
theorem factL_le (p : Nat) : factL p ≤ 6 := by
  unfold factL; split <;> decide
theorem factL_ne (p : Nat) : ((factL p : Nat) : Int) ≠ 0 := by
  unfold factL; split <;> decide
theorem idx_new {S : List (List Nat × Nat)} {h : List Nat × Nat} (hn : h ∉ S) : (S ++ [h]).idxOf h = S.length := by
  rw [List.idxOf_append]
  simp [hn]
theorem blank_eq : Str.ofString " " = ⟨#[32]⟩ := by decide +kernel
theorem tab_eq : Str.ofString "\t" = ⟨[9].toArray⟩ := by decide +kernel
theorem lookup_mem {l : List (Nat × List Nat)} {c : Nat} {word : List Nat} (h : l.lookup c = some word) : (c, word) ∈ l := by
  induction l with
  | nil => cases h
  | cons p r ih =>
    obtain ⟨a, b⟩ := p
    rw [List.lookup_cons] at h
    by_cases e : c = a
    · subst e
      simp at h
      subst h
      exact List.mem_cons_self
    · have : (c == a) = false := by simp [e]
      rw [this] at h
      exact List.mem_cons_of_mem _ (ih h)
theorem Wf.mono {B B' : Nat} {st : St} (h : Wf B st) (k : B ≤ B') : Wf B' st := ⟨Nat.le_trans h.1 k, Nat.le_trans h.2.1 k, h.2.2.1, Nat.le_trans h.2.2.2 k⟩
theorem leads_sum {parts : List Nat} (hp : ∀ p ∈ parts, p ≤ 200) (hl : parts.length ≤ 3) : ((parts.map fun p => List.replicate p 32 ++ [9]).map List.length).sum ≤ 16777216 := by
  have := sum_le (l := (parts.map fun p => List.replicate p 32 ++ [9]).map List.length) (k := 201) (by
    intro n hn
    rw [List.map_map] at hn
    obtain ⟨p, h, rfl⟩ := List.mem_map.mp hn
    simp only [Function.comp, List.length_append, List.length_replicate, List.length_singleton]
    exact Nat.succ_le_succ (hp p h))
  rw [List.length_map, List.length_map] at this
  exact Nat.le_trans this (Nat.le_trans (Nat.mul_le_mul_right _ hl) (by decide))
theorem leads_fit {parts : List Nat} (e : Nat) (hp : ∀ p ∈ parts, p ≤ 200) (hl : parts.length ≤ 3) (he : e < 12) : ((parts.map fun p => List.replicate p 32 ++ [9]).flatten ++ List.replicate e 32).length ≤ 1000 := by
  have := lead_len parts e 200 hp
  unfold leadOf at this
  exact Nat.le_trans this (Nat.le_trans (Nat.add_le_add (Nat.mul_le_mul_right 201 hl) (Nat.le_of_lt he)) (by decide))
theorem leads_flat {parts : List Nat} (hp : ∀ p ∈ parts, p ≤ 200) (hl : parts.length ≤ 3) : ((parts.map fun p => List.replicate p 32 ++ [9]).flatten).length ≤ 1000 := by
  have := leads_fit 0 hp hl (by decide)
  rwa [List.replicate_zero, List.append_nil] at this
theorem ar_lead {c : Nat} (h : 12272 ≤ c ∧ c < 12284) : ((c : Int) - 12272).toNat < 12 := by rw [ar_sub h.1]; exact Nat.sub_lt_left_of_lt_add h.1 h.2
section
variable {prog : Program} {w : World} {A : Around} {E : Value → Shared → Prop} {s : Shared} {h₀ : Heap} {L : Addr} {m : Str → Option Value} {news : Led} {Q : Value → Shared → Prop}
theorem rl_notin' {l : Addr} {n : Nat} {vs : List Value} {W : List (List Nat)} {word : List Nat} {t : Tok} {b : Bool} (N : News h₀ L s.heap news) (hm : (l, listOf vs.toArray n) ∈ news) (ht : Texts vs W) (hb : (!decide (word ∈ W)) = b) (h : Q (.bool b) s) :
    wpAny (model prog w) A (compareOp .NotIn (.str ⟨word.toArray⟩ t) (.ref l)) Q E s := rl_notin N hm ht (hb ▸ h)
theorem rl_idiv {a f : Nat} {t u : Tok} (hf : (f : Int) ≠ 0) (hs : f ≤ 6) (h : Q (.int ((a / f : Nat) : Int) s.toks) { s with toks := s.toks + 1 }) : wpAny (model prog w) A (inplaceOp .FloorDiv (.int (a : Nat) t) (.int (f : Nat) u)) Q E s := by
  refine ifloordiv_int hf ?_ (Or.inl (PyProof.noPylong_small (by omega)))
  rw [Int.fdiv_eq_ediv_of_nonneg _ (Int.natCast_nonneg f), ← Int.natCast_ediv]
  exact h
theorem rl_eqnil {a b : Addr} {n n' : Nat} {vs : List Value} {ns : List Int} {r : Bool} (N : News h₀ L s.heap news) (ha : (a, listOf vs.toArray n) ∈ news) (hb : (b, listOf (List.toArray []) n') ∈ news) (hi : IntsAre vs ns) (hr : decide (ns = []) = r) (hu : A.units + 64 < cLine) (h : Q (.bool r) s) :
    wpAny (model prog w) A (compareOp .Eq (.ref a) (.ref b)) Q E s := by
  refine ke_eq_ints (rl_isList N ha) (rl_isList N hb) hi .nil hu ?_
  rw [hr]; exact h
theorem rl_addtab {a : List Nat} {t u : Tok} (hz : a.length + 1 ≤ 16777216) (h : ∀ t' k, Q (.str ⟨(a ++ [9]).toArray⟩ t') { s with toks := k }) : wpAny (model prog w) A (binaryOp .Add (.str ⟨a.toArray⟩ t) (.str (Str.ofString "\t") u)) Q E s := by
  rw [tab_eq]; exact rl_adds (by rw [List.length_singleton]; exact hz) h
theorem rl_blanks {i : Int} {t u : Tok} (h0 : 0 ≤ i) (h1 : i ≤ 100000) (h : ∀ t' k, Q (.str ⟨(List.replicate i.toNat 32).toArray⟩ t') { s with toks := k }) : wpAny (model prog w) A (binaryOp .Mult (.str (Str.ofString " ") t) (.int i u)) Q E s := by
  rw [blank_eq]; exact rl_srep h0 h1 h
end
section
variable {w : World} {loose : List Str} {mean : ExcName → Option Value} {mg mb : Str → Option Value}
local macro_rules | `(tactic| walk_at "tail Read2") => `(tactic| (intro r9 tl9 h9 tk9 F9 N9 hl9 ho9; obtain ⟨hq1, hq2⟩ := ho9; subst hq1; (first | subst hq2 | (obtain ⟨t9, hq2⟩ := hq2; subst hq2)); clear hl9; replace N9 := N9; (try simp only [List.nil_append] at N9); (try k_sweep); (try dsimp only)))
local macro_rules | `(tactic| walk_at "tail Read3") => `(tactic| (intro r9 tl9 h9 tk9 F9 N9 hl9 ho9; obtain ⟨x9, hq1, ho9⟩ := ho9; subst hq1; (try k_sweep); (try dsimp only)))
local macro_rules | `(tactic| walk_at "tail Read4") => `(tactic| (intro r' u' v' h' F' N' l1; (try k_lt l1); (try k_sweep)))
set_option maxHeartbeats 16000000 in
theorem read_ct (W : List (List Nat)) (S : List (List Nat × Nat)) (pg : List Nat) (r : St) (k : Nat) (sh wd : Addr) (hpg : ∀ s ∈ pg, inB1 s = true ∨ ∃ c, (c, s) ∈ encs) (hl : W.length + S.length + pg.length ≤ 200) (hr : pgRun ⟨W, S, [], 1⟩ pg.reverse = some r) (hk1 : r.pile = [k]) :
    CtM w loose mean mg mb 213 30 (fun news vs => RdIn W S sh wd news ∧ ∃ t, vs = [.str ⟨pg.toArray⟩ t, .ref sh, .ref wd]) (fun news _ fin v => RdIn r.W r.S sh wd fin ∧ (∀ p ∈ news, p.1 ≠ sh → p.1 ≠ wd → p ∈ fin) ∧ ∃ q t u, v = .ref q ∧ (q, tupOf [.int k t, .int (r.ways : Nat) u]) ∈ fin) := by
  k_with_none
  k_with "ne" => ((try dsimp only); with_reducible first | assumption | exact Ne.symm (by assumption) | exact Nat.ne_of_lt (by assumption) | exact Nat.ne_of_gt (by assumption) | fail "ne")
  k_with "lt1" => skip
  k_with "all" => first | exact off_lt (by assumption) | assumption | exact List.forall_mem_nil _ | exact List.forall_mem_cons.mpr ⟨by k_ne, by k_all⟩
  k_with "mem" => first | with_reducible assumption | exact List.mem_cons_self | (refine List.mem_cons_of_mem _ ?_; k_mem) | (refine List.mem_append_right _ ?_; k_mem) | (refine List.mem_append_left _ ?_; k_mem)
  k_with "enter" => (refine' code_defC ?zqk1 ?zqk2 ?zqk3 ?zqk4 ?zqk5 ?zqkA ?zqkF ?zqkK ?zqk6 ?zqk7 ?zqk8 ?zqk9 ?zqkB ?zqkD ?_ ?zqc2 ?zqc3 ?zqc4; (case zqkA => exact rfl); (case zqkF => exact rfl); (case zqkK => assumption); (case zqk1 => k_asm); (case zqk2 => k_asm); (case zqk3 => k_asm); (case zqk4 => k_asm); (case zqk5 => k_asm); (case zqk6 => k_is); (case zqk7 => k_is); (case zqk8 => ktr_room); (case zqk9 => exact BindsTo.of_eq rfl); (case zqkB => exact rfl); (case zqkD => decide +kernel); (case zqc2 => exact rfl); (case zqc3 => exact rfl); (case zqc4 => exact rfl); k_whole)
  k_with "own for" => skip
  k_with "subscriptTail Name Slice str ref" => (k_here; k_dflt (refine' rl_srev ?zqk1 ?zqk2 ?zqk3 ?_ ?zqs ?zqt; (case zqk1 => k_asm); (case zqk2 => k_asm); (case zqk3 => omega); (case zqs => with_unfolding_all rfl); (case zqt => (intro _; with_unfolding_all rfl))); intro _ _ _ _ _; (try k_sweep))
  k_with "call ref" => (k_here; k_dflt (refine' ct_use ?zqC ?zqk1 ?zqk2 ?zqk3 ?zqk4 ?zqk5 ?zqkK ?zqkR ?zqkd ?zqku ?_; (case zqC => assumption); (case zqk1 => k_asm); (case zqk2 => k_asm); (case zqk3 => k_asm); (case zqk4 => k_asm); (case zqk5 => k_asm); (case zqkK => first | exact rfl | assumption); (case zqkR => first | exact ⟨_, rfl⟩ | exact ⟨rfl, by assumption, by assumption⟩); (case zqkd => ktr_room); (case zqku => ktr_units); walk_at "tail Read2"))
  k_with "call ref" => (k_here; (with_reducible show wpAny _ _ (call (Value.ref 159) _) _ _ _); k_dflt (refine' ct_use ?zqC ?zqk1 ?zqk2 ?zqk3 ?zqk4 ?zqk5 ?zqkK ?zqkR ?zqkd ?zqku ?_; (case zqC => assumption); (case zqk1 => k_asm); (case zqk2 => k_asm); (case zqk3 => k_asm); (case zqk4 => k_asm); (case zqk5 => k_asm); (case zqkK => first | exact rfl | assumption); (case zqkR => exact ⟨_, rfl⟩); (case zqkd => ktr_room); (case zqku => ktr_units); walk_at "tail Read3"))
  k_with "compareOp NotIn str ref" => (k_here; (refine' rl_notin' ?zqk1 ?zqk2 ?zqk3 ?zqk4 ?_; (case zqk1 => k_asm); (case zqk2 => k_mem); (case zqk3 => assumption); (case zqk4 => assumption)))
  k_with "compareOp In str str" => (k_here; (refine' rl_instr ?zqk1 ?_; (case zqk1 => assumption)))
  k_with "eval ListComp" => (k_here; k_dflt (refine LCg.ListComp_U (F₀ := by k_asm) (by with_unfolding_all rfl) (by decide) (by rfl) (by decide) (by rfl) ?_))
  k_with "binaryOp Add str str" => (k_here; first | (refine' rl_addtab ?zqk1 ?_; (case zqk1 => (rw [List.length_replicate]; omega)); intro _ _) | (refine' rl_adds ?zqk1 ?_; (case zqk1 => (rw [List.length_replicate]; omega)); intro _ _))
  k_with "call builtin:str.join" => (k_here; (with_reducible show wpAny _ _ (call (Value.builtin "str.join") [Value.str _ _, Value.ref _]) _ _ _); k_dflt (refine' rl_join ?zqk1 ?zqk2 ?zqk3 ?zqk4 ?_; (case zqk1 => k_asm); (case zqk2 => k_mem); (case zqk3 => assumption); (case zqk4 => assumption)); intro _ _)
  k_with "subscriptTail Name Name ref int" => (k_here; (with_reducible show wpAny _ _ (subscriptTail _ _ (Value.ref _) (Value.int _ _)) _ _ _); k_dflt (refine' rl_item ?zqk1 ?zqk2 ?zqa ?zqb ?zqd ?_ ?zqs ?zqt; (case zqk1 => k_asm); (case zqk2 => k_mem); (case zqa => first | omega | assumption); (case zqb => omega); (case zqd => assumption); (case zqs => with_unfolding_all rfl); (case zqt => (intro _; with_unfolding_all rfl))))
  k_with "exec Assign cons ListComp" => (k_here; k_dflt (refine LCt.Assign_ListComp_T (F₀ := by k_asm) (by rfl) (by with_unfolding_all rfl) (by with_unfolding_all rfl) (by decide) (by rfl) (by decide) (by rfl) (by rfl) (by rfl) ?_))
  k_with "call builtin:len" => (k_here; (with_reducible show wpAny _ _ (call (Value.builtin "len") [Value.ref _]) _ _ _); refine' rl_len ?zqk1 ?zqk2 ?zqk3 ?_; (case zqk1 => k_asm); (case zqk2 => k_mem); (case zqk3 => (unfold Sm; omega)))
  k_with "call type:range" => (k_here; (with_reducible show wpAny _ _ (call (Value.type "range") [Value.int (Nat.cast _) _]) _ _ _); k_dflt (refine' rl_range ?zqk1 ?zqk2 ?_; (case zqk1 => k_asm); (case zqk2 => k_asm)); walk_at "tail Read4")
  k_with "compareOp Eq ref ref" => (k_here; k_dflt (refine' rl_eqnil ?zqk1 ?zqk2 ?zqk3 ?zqk4 ?zqk5 ?zqk6 ?_; (case zqk1 => k_asm); (case zqk2 => k_mem); (case zqk3 => k_mem); (case zqk4 => assumption); (case zqk5 => assumption); (case zqk6 => ktr_units)))
  k_with "subscriptTail Name Constant ref int" => (k_here; (with_reducible show wpAny _ _ (subscriptTail _ _ (Value.ref _) (Value.int _ _)) _ _ _); k_dflt (refine' rl_item ?zqk1 ?zqk2 ?zqa ?zqb ?zqd ?_ ?zqs ?zqt; (case zqk1 => k_asm); (case zqk2 => k_mem); (case zqa => decide); (case zqb => decide); (case zqd => first | assumption | rfl); (case zqs => with_unfolding_all rfl); (case zqt => (intro _; with_unfolding_all rfl))))
  k_with "inplaceOp FloorDiv int int" => (k_here; refine' rl_idiv ?zqk1 ?zqk2 ?_; (case zqk1 => assumption); (case zqk2 => assumption))
  k_with "call builtin:list.append" => (k_here; k_dflt (refine' rl_app ?zqk1 ?zqk2 ?zqk3 ?zqk4 ?_; (case zqk1 => k_asm); (case zqk2 => k_asm); (case zqk3 => k_upd); (case zqk4 => (unfold Sm; omega))); intro _ _ _; (try k_sweep))
  k_with "call builtin:list.index" => (k_here; (with_reducible show wpAny _ _ (call (Value.builtin _) [Value.ref _, Value.str _ _]) _ _ _); (refine' rl_windex ?zqk1 ?zqk2 ?zqk3 ?zqk4 ?zqk5 ?_; (case zqk1 => k_asm); (case zqk2 => k_mem); (case zqk3 => first | assumption | exact Texts.append (by assumption) (.cons .nil)); (case zqk4 => first | omega | (rw [List.length_append, List.length_singleton]; omega)); (case zqk5 => first | assumption | exact List.mem_append_right _ List.mem_cons_self)))
  k_with "binaryOp Mult str int" => (k_here; (refine' rl_blanks ?zqk1 ?zqk2 ?_; (case zqk1 => omega); (case zqk2 => omega)); intro _ _)
  unfold CtM
  intro dp un gd cn cs' a ccd cl outer A₀ base h₀ L m news s vs Q E B F X N T hk hR hd hu hret
  obtain ⟨⟨wv, n1, shv, n2, bs, rfl, hws, hbw, hbs, hW, hS⟩, t, rfl⟩ := hR
  refine wpAny_call ?_
  k_dflt ktr_enter
  k_steps
  (with_reducible rename Fr _ _ _ _ => lF); (with_reducible rename News _ _ _ _ => lN)
  rename_i g' L' _ _ FG9 B9 X9 T9 lA oH oS dH dS fD _ lF1 hF _ _ pD _ lP hP _ _ _ _ _
  have hAwd : @LT.lt Nat _ wd L' := lA (wd, _) List.mem_cons_self
  have hAsh : @LT.lt Nat _ sh L' := lA (sh, _) (List.mem_cons_of_mem _ List.mem_cons_self)
  have hAbs : ∀ q ∈ bs, @LT.lt Nat _ q.1 L' := fun q hq => lA q (List.mem_cons_of_mem _ (List.mem_cons_of_mem _ hq))
  have dS' : oS.data = .cell (some (.ref sh)) := dS
  have dH' : oH.data = .cell none := dH
  clear dS dH lF1 lP
  have hws' : @Ne Nat wd sh := hws
  obtain ⟨fv, hfv, lN'⟩ : ∃ fv, IntsAre fv [1, 1, 2, 6] ∧ News g' L' _ ((pD, listOf (List.toArray []) 0) :: (fD, listOf (List.toArray fv) 0) :: (L' + 1 + 1, oH) :: (L' + 1, oS) :: (wd, listOf (List.toArray wv) n1) :: (sh, listOf (List.toArray shv) n2) :: bs) := ⟨[_, _, _, _], by repeat constructor, lN⟩
  clear lN
  refine for_str (RdJ ⟨W, S, [], 1⟩ pg.reverse sh wd fD (L' + 1) (L' + 1 + 1) ((fD, listOf (List.toArray fv) 0) :: (L' + 1, oS) :: bs)) rfl lF (news := (pD, listOf (List.toArray []) 0) :: (L' + 1 + 1, oH) :: (wd, listOf (List.toArray wv) n1) :: (sh, listOf (List.toArray shv) n2) :: (fD, listOf (List.toArray fv) 0) :: (L' + 1, oS) :: bs) ?_
    ⟨⟨W, S, [], 1⟩, pD, [], 0, oH, none, wv, n1, shv, n2, _, _, rfl, rfl, rfl, rfl, rfl, rfl, dH', ?_, ?_, ?_, ?_, ?_, hws', ?_, ?_, ?_, ?_, .nil, hW, hS.mono fun p hp => List.mem_cons_of_mem _ (List.mem_cons_of_mem _ hp), fun p hp => hp⟩ ?_ ?_
  · intro p hp
    simp only [List.mem_cons] at hp
    refine lN' p ?_
    simp only [List.mem_cons]
    rcases hp with h | h | h | h | h | h | h
    · exact .inl h
    · exact .inr (.inr (.inl h))
    · exact .inr (.inr (.inr (.inr (.inl h))))
    · exact .inr (.inr (.inr (.inr (.inr (.inl h)))))
    · exact .inr (.inl h)
    · exact .inr (.inr (.inr (.inl h)))
    · exact .inr (.inr (.inr (.inr (.inr (.inr h)))))
  · omega
  · omega
  · omega
  · omega
  · omega
  · exact List.forall_mem_cons.mpr ⟨by k_ne, List.forall_mem_cons.mpr ⟨by k_ne, fun q hq => by have := hAbs q hq; k_ne⟩⟩
  · exact List.forall_mem_cons.mpr ⟨by k_ne, List.forall_mem_cons.mpr ⟨by k_ne, fun q hq => by have := hAbs q hq; k_ne⟩⟩
  · exact List.forall_mem_cons.mpr ⟨by k_ne, List.forall_mem_cons.mpr ⟨by k_ne, hbw⟩⟩
  · exact List.forall_mem_cons.mpr ⟨by k_ne, List.forall_mem_cons.mpr ⟨by k_ne, hbs⟩⟩
  · clear lF lN'
    rintro i c t9 I oI m₁ nx h tk hi ⟨st, pD, pv, n3, oH, v0, wv, n1, shv, n2, bs2, k9, hrun, hfac, hpile, hways, hwords, rfl, hoH, d1, d2, d3, d4, d5, d6, b1, b2, b3, b4, hpv, hwv, hsv, hsub⟩ hoff F₁ N₁ Q9 hQ9
    rw [asIf hfac, asIf hpile, asIf hways, asIf hwords] at F₁
    have hc := hpg c (List.mem_reverse.mp (List.mem_of_getElem? hi))
    have hil := (List.getElem?_eq_some_iff.mp hi).1
    rw [List.length_reverse] at hil
    obtain ⟨st', hstep, hrun'⟩ := pgRun_at hr hi hrun
    have hwf : Wf 200 st := by
      have h0 : Wf (W.length + S.length) ⟨W, S, [], 1⟩ := ⟨Nat.le_add_left _ _, Nat.le_add_right _ _, (fun p hp => nomatch hp), Nat.zero_le _⟩
      have := wf_run h0 hrun
      rw [List.length_take, List.length_reverse] at this
      exact this.mono (by omega)
    have i1 : @Ne Nat I pD := (hoff (pD, _) List.mem_cons_self).symm
    have i2 : @Ne Nat I (L' + 1 + 1) := (hoff (L' + 1 + 1, _) (List.mem_cons_of_mem _ List.mem_cons_self)).symm
    have i3 : @Ne Nat I wd := (hoff (wd, _) (List.mem_cons_of_mem _ (List.mem_cons_of_mem _ List.mem_cons_self))).symm
    have i4 : @Ne Nat I sh := (hoff (sh, _) (List.mem_cons_of_mem _ (List.mem_cons_of_mem _ (List.mem_cons_of_mem _ List.mem_cons_self)))).symm
    have b5 : OffAll bs2 I := fun q hq => hoff q (List.mem_cons_of_mem _ (List.mem_cons_of_mem _ (List.mem_cons_of_mem _ (List.mem_cons_of_mem _ hq))))
    clear hoff
    have sgn : ∀ {P : Led → List Value → Led → Value → Prop} {f : Addr} {sz : Nat}, Ct w loose mean mg mb f sz (fun _ vs => ∃ t, vs = [.str ⟨#[c]⟩ t]) P → Ct w loose mean mg mb f sz (fun _ vs => ∃ t, vs = [.str ⟨#[c]⟩ t]) P := fun h => h
    by_cases hu1 : inB1 c = true
    · have C39 : Ct w loose mean mg mb 39 10 (fun _ vs => ∃ t, vs = [.str ⟨#[c]⟩ t]) (fun _ _ tl r => tl = [] ∧ r = .bool true) := (b1_ct c).conv (fun _ _ h => h) fun _ _ _ _ _ h => ⟨h.1, hu1 ▸ h.2⟩
      have e : st' = st := by unfold pgStep at hstep; rw [if_pos hu1] at hstep; exact (Option.some.inj hstep).symm
      subst e
      k_steps
      (with_reducible rename Fr _ _ _ _ => eF); (with_reducible rename News _ _ _ _ => eN)
      refine (hQ9 _ ?_).2
      exact TurnE.sub _ eF eN (fun p hp => hp) (List.forall_mem_cons.mpr ⟨i1.symm, List.forall_mem_cons.mpr ⟨i2.symm, List.forall_mem_cons.mpr ⟨i3.symm, List.forall_mem_cons.mpr ⟨i4.symm, b5⟩⟩⟩⟩)
        ⟨st', pD, pv, n3, oH, v0, wv, n1, shv, n2, bs2, k9, hrun', rfl, rfl, rfl, rfl, rfl, hoH, d1, d2, d3, d4, d5, d6, b1, b2, b3, b4, hpv, hwv, hsv, hsub⟩
    · rw [Bool.not_eq_true] at hu1
      have C39 : Ct w loose mean mg mb 39 10 (fun _ vs => ∃ t, vs = [.str ⟨#[c]⟩ t]) (fun _ _ tl r => tl = [] ∧ r = .bool false) := (b1_ct c).conv (fun _ _ h => h) fun _ _ _ _ _ h => ⟨h.1, hu1 ▸ h.2⟩
      refine exec_cut (pre := [_, _, _, _, _, _]) (post := [_, _, _, _]) (RdMid g' L' I oI sh wd fD (L' + 1 + 1) bs2 st st' { s with heap := h, toks := tk }) rfl ?_ ?_
      · intro Q8 hQ8
        by_cases hu2 : inC7 c = true
        · have C97 : Ct w loose mean mg mb 97 10 (fun _ vs => ∃ t, vs = [.str ⟨#[c]⟩ t]) (fun _ _ tl r => tl = [] ∧ r = .bool true) := (c7_ct c).conv (fun _ _ h => h) fun _ _ _ _ _ h => ⟨h.1, hu2 ▸ h.2⟩
          have h4 : c = 12272 ∨ c = 12283 ∨ c = 12274 ∨ c = 12275 := by
            rcases hc with hc | ⟨rc, hc⟩
            · rw [hu1] at hc; cases hc
            · exact enc_c7 _ hc hu2
          unfold pgStep at hstep
          rw [if_neg (by rw [hu1]; decide), if_pos hu2] at hstep
          have hSl := hwf.2.2.2
          have hSh := hwf.1
          have hpl := hpv.length
          rw [List.length_map] at hpl
          by_cases hm3 : c = 12274 ∨ c = 12275
          · have hmany : manyOf c = 3 := if_pos hm3
            rw [hmany] at hstep
            have hml : 3 ≤ st.pile.length := by
              by_cases h : 3 ≤ st.pile.length
              · exact h
              · rw [if_neg h] at hstep; cases hstep
            rw [if_pos hml] at hstep
            have hst' := Option.some.inj hstep
            have q1 : (!(Builtin.Str.occurrences (Str.ofString "⿲⿳") ⟨#[c]⟩ 0 (Str.ofString "⿲⿳").length 1).isEmpty) = true := by rcases hm3 with rfl | rfl <;> decide +kernel
            have C170 : Ct w loose mean mg mb 170 10 (fun _ vs => ∃ t, vs = [.int (256 + 3) t]) (fun _ _ tl r => tl = [] ∧ r = .bool false) := (term_ct _).conv (fun _ _ h => h) fun _ _ _ _ _ h => ⟨h.1, by rw [h.2]; rfl⟩
            have C177 : Ct w loose mean mg mb 177 10 (fun _ vs => ∃ t, vs = [.int (256 + 3) t]) (fun _ _ tl r => tl = [] ∧ r = .bool true) := (nont_ct _).conv (fun _ _ h => h) fun _ _ _ _ _ h => ⟨h.1, by rw [h.2]; rfl⟩
            k_steps
            (with_reducible rename Fr _ _ _ _ => lF); (with_reducible rename News _ _ _ _ => lN)
            rename IntsAre _ (List.drop _ _) => hI9
            rename_i D9 ws9 _ _ _ _ _
            rw [List.length_map, show ((256 : Int) + 3 - 256).toNat = 3 from rfl, ← List.map_drop] at hI9
            generalize hparts : st.pile.drop (st.pile.length - 3) = parts at hI9
            have hp200 : ∀ p ∈ parts, p ≤ 200 := fun p hp => by
              exact Nat.le_of_lt (Nat.lt_of_lt_of_le (hwf.2.2.1 p (List.mem_of_mem_drop (hparts ▸ hp))) hSh)
            have hplen : parts.length = 3 := by rw [← hparts, List.length_drop]; exact Nat.sub_sub_self hml
            have hwl : ws9.length = 3 := by rw [hI9.length, List.length_map, hplen]
            refine LCg.CompSrc.ledger rfl lF lN List.mem_cons_self (by rw [List.size_toArray, hwl]; decide) ?_
            intro gg
            generalize hN0 : (_ :: _ :: _ :: _ :: _ :: _ :: bs2 : Led) = N0 at lN ⊢
            have hD9 : (D9, listOf ws9.toArray 0) ∈ N0 := hN0 ▸ List.mem_cons_self
            refine comp_rest (fun i ys nx => nx = N0 ∧ Texts ys ((parts.take i).map fun p => List.replicate p 32 ++ [9])) ?_ ⟨rfl, Texts.nil⟩ ?_ ?_
            · rintro i ys nx ⟨rfl, -⟩
              exact .inr ⟨_, hD9, rfl, _, rfl⟩
            · clear lF lN
              rintro i v I2 oI2 C2 oC2 D2 m₂ ys nx h tk E' hi2 hv ⟨rfl, hys⟩ hC hx F₁ N₁ off Q9 hQ9
              have hv' : ws9[i]? = some v := by simpa using hv
              obtain ⟨p, hp, tp, rfl⟩ := ints_natAt hI9 hv'
              have hpb := hp200 p (List.mem_of_getElem? hp)
              k_steps
              (with_reducible rename Fr _ _ _ _ => eF); (with_reducible rename News _ _ _ _ => eN)
              refine hQ9 _ _ ?_
              refine EltE.mk [] eF eN (fun p hp => nomatch hp) off ⟨rfl, ?_⟩
              rw [List.take_add_one, hp, List.map_append, Int.toNat_natCast]
              exact hys.append (.cons .nil)
            · rintro ys nx ⟨rfl, hys⟩
              unfold LCg.FinE
              intro D2 h2 tk2 F2 N2 o2
              rw [List.take_of_length_le (Nat.le_of_eq (by rw [List.size_toArray, hplen, hwl]))] at hys
              have hp3 : parts.length ≤ 3 := by rw [hplen]; decide
              have hsum := leads_sum hp200 hp3
              have hfl := leads_flat hp200 hp3
              have hcr : 12272 ≤ c ∧ c < 12284 := ar_c7 h4
              have C159 := ws_ct (w := w) (loose := loose) (mean := mean) (mg := mg) (mb := mb) ((parts.map fun p => List.replicate p 32 ++ [9]).flatten ++ List.replicate ((c : Int) - 12272).toNat 32)
                (by have := lead_signs parts ((c : Int) - 12272).toNat; exact this) (leads_fit _ hp200 hp3 (ar_lead hcr))
              have o2' := off1_of o2
              subst hN0
              have hfD := hsub _ List.mem_cons_self
              obtain ⟨t6, ht6⟩ := hfv.get 3 6 rfl
              have ht6' : fv[((256 : Int) + 3 - 256).toNat]? = some (.int 6 t6) := ht6
              k_steps
              (with_reducible rename Fr _ _ _ _ => mF); (with_reducible rename News _ _ _ _ => mN)
              rename WsObj _ _ _ _ => hws9
              rename ∀ q ∈ _ :: (D2, _) :: _, ∀ p ∈ _, _ => hlt
              rename ∀ p ∈ (D2, _) :: _, _ => l1D
              rename IntsAre _ (List.take _ _) => hI8
              rename_i D8 ws8 _ _ _ _ _ _ tl9 _ _ x9
              rw [List.length_map, show ((256 : Int) + 3 - 256).toNat = 3 from rfl, ← List.map_take] at hI8
              rw [ar_sub hcr.1] at hws9
              replace mN := reshapeN mN
              have o1 := off_tl hlt (x := D8) List.mem_cons_self (bs := bs2) fun q hq => Nat.ne_of_lt (l1D q (by k_mem))
              have o2 := off_tl hlt (x := L' + 1 + 1) (by k_mem) b2
              have o3 := off_tl hlt (x := wd) (by k_mem) b3
              have o4 := off_tl hlt (x := sh) (by k_mem) b4
              have o5 := off_tl hlt (x := I) (by k_mem) b5
              have e1 : @Ne Nat D8 (L' + 1 + 1) := Nat.ne_of_gt (l1D (L' + 1 + 1, _) (by k_mem))
              have e2 : @Ne Nat D8 wd := Nat.ne_of_gt (l1D (wd, _) (by k_mem))
              have e3 : @Ne Nat D8 sh := Nat.ne_of_gt (l1D (sh, _) (by k_mem))
              have e4 : @Ne Nat I D8 := Nat.ne_of_lt (l1D (I, _) (by k_mem))
              clear hlt l1D
              k_steps
              (with_reducible rename Fr _ _ _ _ => eF); (with_reducible rename News _ _ _ _ => eN)
              rename _ = Data.cell (some (Value.ref _)) => hcell
              refine hQ8 _ ?_
              refine ⟨_, _, _, st.W, st.pile.take (st.pile.length - 3), st.ways * 6, leadOf parts (c - 12272), D8, ws8, 0, _, _, _, shv, n2, _, _, _, rfl, eF, eN, rfl, rfl, rfl, rfl, hcell, e1, e2, e3, e4, o1, o2, o3, o4, o5, hI8, hwv, hsv.mono fun p hp => List.mem_append_right _ hp, fun p hp => List.mem_append_right _ hp, WsObj.mono hws9 fun p hp => List.mem_append_left _ hp, ?_, ?_, by rw [List.length_take]; exact Nat.le_trans (Nat.min_le_right _ _) (Nat.le_trans hwf.2.2.2 (by decide))⟩
              · exact norm_small (by omega)
              · rw [← hst']; unfold nodeStep; rw [hmany, hparts]; rfl
          · have hmany : manyOf c = 2 := if_neg hm3
            rw [hmany] at hstep
            have hml : 2 ≤ st.pile.length := by
              by_cases h : 2 ≤ st.pile.length
              · exact h
              · rw [if_neg h] at hstep; cases hstep
            rw [if_pos hml] at hstep
            have hst' := Option.some.inj hstep
            have q1 : (!(Builtin.Str.occurrences (Str.ofString "⿲⿳") ⟨#[c]⟩ 0 (Str.ofString "⿲⿳").length 1).isEmpty) = false := by rcases h4 with rfl | rfl | rfl | rfl <;> first | decide +kernel | exact absurd (by decide) hm3
            have C170 : Ct w loose mean mg mb 170 10 (fun _ vs => ∃ t, vs = [.int (256 + 2) t]) (fun _ _ tl r => tl = [] ∧ r = .bool false) := (term_ct _).conv (fun _ _ h => h) fun _ _ _ _ _ h => ⟨h.1, by rw [h.2]; rfl⟩
            have C177 : Ct w loose mean mg mb 177 10 (fun _ vs => ∃ t, vs = [.int (256 + 2) t]) (fun _ _ tl r => tl = [] ∧ r = .bool true) := (nont_ct _).conv (fun _ _ h => h) fun _ _ _ _ _ h => ⟨h.1, by rw [h.2]; rfl⟩
            k_steps
            (with_reducible rename Fr _ _ _ _ => lF); (with_reducible rename News _ _ _ _ => lN)
            rename IntsAre _ (List.drop _ _) => hI9
            rename_i D9 ws9 _ _ _ _ _
            rw [List.length_map, show ((256 : Int) + 2 - 256).toNat = 2 from rfl, ← List.map_drop] at hI9
            generalize hparts : st.pile.drop (st.pile.length - 2) = parts at hI9
            have hp200 : ∀ p ∈ parts, p ≤ 200 := fun p hp => by
              exact Nat.le_of_lt (Nat.lt_of_lt_of_le (hwf.2.2.1 p (List.mem_of_mem_drop (hparts ▸ hp))) hSh)
            have hplen : parts.length = 2 := by rw [← hparts, List.length_drop]; exact Nat.sub_sub_self hml
            have hwl : ws9.length = 2 := by rw [hI9.length, List.length_map, hplen]
            refine LCg.CompSrc.ledger rfl lF lN List.mem_cons_self (by rw [List.size_toArray, hwl]; decide) ?_
            intro gg
            generalize hN0 : (_ :: _ :: _ :: _ :: _ :: _ :: bs2 : Led) = N0 at lN ⊢
            have hD9 : (D9, listOf ws9.toArray 0) ∈ N0 := hN0 ▸ List.mem_cons_self
            refine comp_rest (fun i ys nx => nx = N0 ∧ Texts ys ((parts.take i).map fun p => List.replicate p 32 ++ [9])) ?_ ⟨rfl, Texts.nil⟩ ?_ ?_
            · rintro i ys nx ⟨rfl, -⟩
              exact .inr ⟨_, hD9, rfl, _, rfl⟩
            · clear lF lN
              rintro i v I2 oI2 C2 oC2 D2 m₂ ys nx h tk E' hi2 hv ⟨rfl, hys⟩ hC hx F₁ N₁ off Q9 hQ9
              have hv' : ws9[i]? = some v := by simpa using hv
              obtain ⟨p, hp, tp, rfl⟩ := ints_natAt hI9 hv'
              have hpb := hp200 p (List.mem_of_getElem? hp)
              k_steps
              (with_reducible rename Fr _ _ _ _ => eF); (with_reducible rename News _ _ _ _ => eN)
              refine hQ9 _ _ ?_
              refine EltE.mk [] eF eN (fun p hp => nomatch hp) off ⟨rfl, ?_⟩
              rw [List.take_add_one, hp, List.map_append, Int.toNat_natCast]
              exact hys.append (.cons .nil)
            · rintro ys nx ⟨rfl, hys⟩
              unfold LCg.FinE
              intro D2 h2 tk2 F2 N2 o2
              rw [List.take_of_length_le (Nat.le_of_eq (by rw [List.size_toArray, hplen, hwl]))] at hys
              have hp3 : parts.length ≤ 3 := by rw [hplen]; decide
              have hsum := leads_sum hp200 hp3
              have hfl := leads_flat hp200 hp3
              have hcr : 12272 ≤ c ∧ c < 12284 := ar_c7 h4
              have C159 := ws_ct (w := w) (loose := loose) (mean := mean) (mg := mg) (mb := mb) ((parts.map fun p => List.replicate p 32 ++ [9]).flatten ++ List.replicate ((c : Int) - 12272).toNat 32)
                (by have := lead_signs parts ((c : Int) - 12272).toNat; exact this) (leads_fit _ hp200 hp3 (ar_lead hcr))
              have o2' := off1_of o2
              subst hN0
              have hfD := hsub _ List.mem_cons_self
              obtain ⟨t6, ht6⟩ := hfv.get 2 2 rfl
              have ht6' : fv[((256 : Int) + 2 - 256).toNat]? = some (.int 2 t6) := ht6
              k_steps
              (with_reducible rename Fr _ _ _ _ => mF); (with_reducible rename News _ _ _ _ => mN)
              rename WsObj _ _ _ _ => hws9
              rename ∀ q ∈ _ :: (D2, _) :: _, ∀ p ∈ _, _ => hlt
              rename ∀ p ∈ (D2, _) :: _, _ => l1D
              rename IntsAre _ (List.take _ _) => hI8
              rename_i D8 ws8 _ _ _ _ _ _ tl9 _ _ x9
              rw [List.length_map, show ((256 : Int) + 2 - 256).toNat = 2 from rfl, ← List.map_take] at hI8
              rw [ar_sub hcr.1] at hws9
              replace mN := reshapeN mN
              have o1 := off_tl hlt (x := D8) List.mem_cons_self (bs := bs2) fun q hq => Nat.ne_of_lt (l1D q (by k_mem))
              have o2 := off_tl hlt (x := L' + 1 + 1) (by k_mem) b2
              have o3 := off_tl hlt (x := wd) (by k_mem) b3
              have o4 := off_tl hlt (x := sh) (by k_mem) b4
              have o5 := off_tl hlt (x := I) (by k_mem) b5
              have e1 : @Ne Nat D8 (L' + 1 + 1) := Nat.ne_of_gt (l1D (L' + 1 + 1, _) (by k_mem))
              have e2 : @Ne Nat D8 wd := Nat.ne_of_gt (l1D (wd, _) (by k_mem))
              have e3 : @Ne Nat D8 sh := Nat.ne_of_gt (l1D (sh, _) (by k_mem))
              have e4 : @Ne Nat I D8 := Nat.ne_of_lt (l1D (I, _) (by k_mem))
              clear hlt l1D
              k_steps
              (with_reducible rename Fr _ _ _ _ => eF); (with_reducible rename News _ _ _ _ => eN)
              rename _ = Data.cell (some (Value.ref _)) => hcell
              refine hQ8 _ ?_
              refine ⟨_, _, _, st.W, st.pile.take (st.pile.length - 2), st.ways * 2, leadOf parts (c - 12272), D8, ws8, 0, _, _, _, shv, n2, _, _, _, rfl, eF, eN, rfl, rfl, rfl, rfl, hcell, e1, e2, e3, e4, o1, o2, o3, o4, o5, hI8, hwv, hsv.mono fun p hp => List.mem_append_right _ hp, fun p hp => List.mem_append_right _ hp, WsObj.mono hws9 fun p hp => List.mem_append_left _ hp, ?_, ?_, by rw [List.length_take]; exact Nat.le_trans (Nat.min_le_right _ _) (Nat.le_trans hwf.2.2.2 (by decide))⟩
              · exact norm_small (by omega)
              · rw [← hst']; unfold nodeStep; rw [hmany, hparts]; rfl
        · rw [Bool.not_eq_true] at hu2
          have C97 : Ct w loose mean mg mb 97 10 (fun _ vs => ∃ t, vs = [.str ⟨#[c]⟩ t]) (fun _ _ tl r => tl = [] ∧ r = .bool false) := (c7_ct c).conv (fun _ _ h => h) fun _ _ _ _ _ h => ⟨h.1, hu2 ▸ h.2⟩
          unfold pgStep at hstep
          rw [if_neg (by rw [hu1]; decide), if_neg (by rw [hu2]; decide)] at hstep
          obtain ⟨word, hword, hst'⟩ := Option.map_eq_some_iff.mp hstep
          have C85 := b3_ct (w := w) (loose := loose) (mean := mean) (mg := mg) (mb := mb) c word (lookup_mem hword)
          have hlenW := hwv.len
          have hWl : st.W.length ≤ 200 := hwf.2.1
          have hSl := hwf.2.2.2
          by_cases hin : word ∈ st.W
          · have hb : (!decide (word ∈ st.W)) = false := by simp [hin]
            have hidx : st.W.idxOf word < 200 := Nat.lt_of_lt_of_le (List.idxOf_lt_length_iff.mpr hin) hwf.2.1
            have C170 : Ct w loose mean mg mb 170 10 (fun _ vs => ∃ t, vs = [.int (1 + (st.W.idxOf word : Nat)) t]) (fun _ _ tl r => tl = [] ∧ r = .bool true) := (term_ct _).conv (fun _ _ h => h) fun _ _ _ _ _ h => ⟨h.1, by rw [h.2, decide_eq_true (by omega)]⟩
            have C177 : Ct w loose mean mg mb 177 10 (fun _ vs => ∃ t, vs = [.int (1 + (st.W.idxOf word : Nat)) t]) (fun _ _ tl r => tl = [] ∧ r = .bool false) := (nont_ct _).conv (fun _ _ h => h) fun _ _ _ _ _ h => ⟨h.1, by rw [h.2, decide_eq_false (by omega)]⟩
            have C159 := ws_ct (w := w) (loose := loose) (mean := mean) (mg := mg) (mb := mb) (List.replicate ((1 : Int) + (st.W.idxOf word : Nat)).toNat 32) (fun c hc => .inl (List.eq_of_mem_replicate hc)) (by rw [List.length_replicate]; exact ar_one_le (Nat.lt_of_lt_of_le hidx (by decide)))
            k_steps
            (with_reducible rename Fr _ _ _ _ => mF); (with_reducible rename News _ _ _ _ => mN)
            rename WsObj _ _ _ _ => hws9
            rename ∀ q ∈ (I, oI) :: _, ∀ p ∈ _, _ => hlt
            rw [ar_one] at hws9
            replace mN := reshape mN
            have o1 := off_tl hlt (x := pD) (List.mem_cons_of_mem _ List.mem_cons_self) b1
            have o2 := off_tl hlt (x := L' + 1 + 1) (List.mem_cons_of_mem _ (List.mem_cons_of_mem _ List.mem_cons_self)) b2
            have o3 := off_tl hlt (x := wd) (List.mem_cons_of_mem _ (List.mem_cons_of_mem _ (List.mem_cons_of_mem _ List.mem_cons_self))) b3
            have o4 := off_tl hlt (x := sh) (List.mem_cons_of_mem _ (List.mem_cons_of_mem _ (List.mem_cons_of_mem _ (List.mem_cons_of_mem _ List.mem_cons_self)))) b4
            have o5 := off_tl hlt (x := I) List.mem_cons_self b5
            clear hlt
            k_steps
            (with_reducible rename Fr _ _ _ _ => eF); (with_reducible rename News _ _ _ _ => eN)
            rename _ = Data.cell (some (Value.ref _)) => hcell
            refine hQ8 _ ?_
            refine ⟨_, _, _, st.W, st.pile, st.ways, List.replicate (1 + (st.W).idxOf word) 32, pD, pv, n3, _, _, _, shv, n2, _, _, _, rfl, eF, eN, rfl, rfl, rfl, rfl, hcell, d1, d2, d3, i1, o1, o2, o3, o4, o5, hpv, hwv, hsv.mono fun p hp => List.mem_append_right _ hp, fun p hp => List.mem_append_right _ hp, hws9.mono fun p hp => List.mem_append_left _ hp, ?_, ?_, by omega⟩
            · rw [norm_blanks]; exact fun c hc => nomatch hc
            · rw [← hst']; unfold leafStep putW; rw [if_pos hin]
          · have hb : (!decide (word ∈ st.W)) = true := by simp [hin]
            have hidx : (st.W ++ [word]).idxOf word < 201 := by
              have := List.idxOf_lt_length_iff.mpr (show word ∈ st.W ++ [word] from List.mem_append_right _ List.mem_cons_self)
              rw [List.length_append, List.length_singleton] at this
              exact Nat.lt_of_lt_of_le this (Nat.succ_le_succ hWl)
            have C170 : Ct w loose mean mg mb 170 10 (fun _ vs => ∃ t, vs = [.int (1 + ((st.W ++ [word]).idxOf word : Nat)) t]) (fun _ _ tl r => tl = [] ∧ r = .bool true) := (term_ct _).conv (fun _ _ h => h) fun _ _ _ _ _ h => ⟨h.1, by rw [h.2, decide_eq_true (by omega)]⟩
            have C177 : Ct w loose mean mg mb 177 10 (fun _ vs => ∃ t, vs = [.int (1 + ((st.W ++ [word]).idxOf word : Nat)) t]) (fun _ _ tl r => tl = [] ∧ r = .bool false) := (nont_ct _).conv (fun _ _ h => h) fun _ _ _ _ _ h => ⟨h.1, by rw [h.2, decide_eq_false (by omega)]⟩
            have C159 := ws_ct (w := w) (loose := loose) (mean := mean) (mg := mg) (mb := mb) (List.replicate ((1 : Int) + ((st.W ++ [word]).idxOf word : Nat)).toNat 32) (fun c hc => .inl (List.eq_of_mem_replicate hc)) (by rw [List.length_replicate]; exact ar_one_le (Nat.lt_of_lt_of_le hidx (by decide)))
            k_steps
            (with_reducible rename Fr _ _ _ _ => mF); (with_reducible rename News _ _ _ _ => mN)
            rename WsObj _ _ _ _ => hws9
            rename ∀ q ∈ (I, oI) :: _, ∀ p ∈ _, _ => hlt
            rw [ar_one] at hws9
            replace mN := reshape mN
            have o1 := off_tl hlt (x := pD) (List.mem_cons_of_mem _ List.mem_cons_self) b1
            have o2 := off_tl hlt (x := L' + 1 + 1) (List.mem_cons_of_mem _ (List.mem_cons_of_mem _ List.mem_cons_self)) b2
            have o3 := off_tl hlt (x := wd) (List.mem_cons_of_mem _ (List.mem_cons_of_mem _ (List.mem_cons_of_mem _ List.mem_cons_self))) b3
            have o4 := off_tl hlt (x := sh) (List.mem_cons_of_mem _ (List.mem_cons_of_mem _ (List.mem_cons_of_mem _ (List.mem_cons_of_mem _ List.mem_cons_self)))) b4
            have o5 := off_tl hlt (x := I) List.mem_cons_self b5
            clear hlt
            k_steps
            (with_reducible rename Fr _ _ _ _ => eF); (with_reducible rename News _ _ _ _ => eN)
            rename _ = Data.cell (some (Value.ref _)) => hcell
            refine hQ8 _ ?_
            refine ⟨_, _, _, st.W ++ [word], st.pile, st.ways, List.replicate (1 + (st.W ++ [word]).idxOf word) 32, pD, pv, n3, _, _, _, shv, n2, _, _, _, rfl, eF, eN, rfl, rfl, rfl, rfl, hcell, d1, d2, d3, i1, o1, o2, o3, o4, o5, hpv, Texts.append hwv (.cons .nil), hsv.mono fun p hp => List.mem_append_right _ hp, fun p hp => List.mem_append_right _ hp, hws9.mono fun p hp => List.mem_append_left _ hp, ?_, ?_, by omega⟩
            · rw [norm_blanks]; exact fun c hc => nomatch hc
            · rw [← hst']; unfold leafStep putW; rw [if_neg hin]
      · rintro _ ⟨h9, tk9, m9, W2, pile2, ways2, lead, pD2, pv2, n32, oH2, wv2, n12, shv2, n22, bs3, k2, x, rfl, F₂, N₂, hfac2, hpile2, hways2, hwords2, hcell2, d12, d22, d32, i12, o1, o2, o3, o4, o5, hpv2, hwv2, hsv2, hsub2, hwsx, hsmall, hst2, hpl2⟩
        rw [asIf hfac2, asIf hpile2, asIf hways2, asIf hwords2] at F₂
        have hwsx' := hwsx
        obtain ⟨dx, nm, ct, h1, t1, v1, h2, t2, v2, h3, t3, v3, h4, t4, h5, t5, v5, us, t6, g1, g2, g3, g4, g5⟩ := hwsx'
        clear F₁ N₁ b1 b2 b3 b4 b5
        have hfD := hsub2 _ (hsub _ List.mem_cons_self)
        k_steps
        (with_reducible rename Fr _ _ _ _ => lF2); (with_reducible rename News _ _ _ _ => lN2)
        generalize hN0 : (_ :: _ :: _ :: _ :: _ :: bs3 : Led) = N0 at lN2 ⊢
        have hbN : ∀ p ∈ bs3, p ∈ N0 := by subst hN0; intro p hp; k_mem
        have hfN := hbN _ hfD
        refine for_tuple (vs := us) (fun j m nx => (∃ k3, m (Str.ofString "ways") = some (.int ((divs ways2 ((wsNorm lead).1.take j) : Nat) : Int) k3)) ∧ m (Str.ofString "factorial") = some (.ref fD) ∧ m (Str.ofString "pile") = some (.ref pD2) ∧ m (Str.ofString "words") = some (.ref wd) ∧ nx = N0) rfl lF2 lN2 (hbN _ g4) ⟨⟨_, rfl⟩, rfl, rfl, rfl, rfl⟩ ?_ ?_
        · clear hN0 lN2 lF2
          rintro j v I2 oI2 m₁ nx h tk hv ⟨⟨k3, hw⟩, hf, hp, hwo, rfl⟩ hoff hct F₁ N₁ Q9 hQ9
          obtain ⟨p, hpp, tp, rfl⟩ := ints_natAt g5 hv
          have hp3 := hsmall p (List.mem_of_getElem? hpp)
          rw [asIf hw, asIf hf, asIf hp, asIf hwo] at F₁
          obtain ⟨tf, htf⟩ := fact_at hfv hp3
          have hpos : ((factL p : Nat) : Int) ≠ 0 := factL_ne p
          have hle6 := factL_le p
          k_steps
          (with_reducible rename Fr _ _ _ _ => eF); (with_reducible rename News _ _ _ _ => eN)
          refine (hQ9 _ ?_).1
          exact TurnE.mk [] eF eN (fun _ h => nomatch h) hoff ⟨⟨⟨_, by unfold divs; rw [List.take_add_one, hpp, List.foldl_append]; rfl⟩, rfl, rfl, rfl, rfl⟩, hct⟩
        · clear lF2 lN2
          rintro m₁ nx h tk ⟨⟨k3, hw⟩, hf, hp, hwo, rfl⟩ F₁ N₁
          rw [asIf hw, asIf hf, asIf hp, asIf hwo] at F₁
          have hlu : us.length = (wsNorm lead).1.length := by have := g5.length; rw [List.length_map] at this; exact this
          rw [List.take_of_length_le (by omega)] at F₁
          subst hN0
          clear hbN hfN
          have hcS := hsub2 _ (hsub _ (List.mem_cons_of_mem _ List.mem_cons_self))
          have hshl := hsv2.len
          have hSl := hwf.1
          k_steps
          (with_reducible rename Fr _ _ _ _ => lF3); (with_reducible rename News _ _ _ _ => lN3)
          refine LCt.CompSrcT.range rfl lF3 lN3 (lN3 _ List.mem_cons_self).1 (rangeSmall_nat _ (by omega)) (rangeSize_nat _) (Nat.le_trans (show shv2.length ≤ 1000 by omega) (by decide)) ?_
          intro gg
          generalize hN1 : (_ :: _ :: _ :: _ :: _ :: _ :: bs3 : Led) = N1 at lN3 ⊢
          have hbN1 : ∀ p ∈ bs3, p ∈ N1 := by subst hN1; intro p hp; k_mem
          have hcH1 : (L' + 1 + 1, oH2) ∈ N1 := by subst hN1; k_mem
          have hsh1 : (sh, listOf (List.toArray shv2) n22) ∈ N1 := by subst hN1; k_mem
          have hcS1 := hbN1 _ hcS
          have hsv3 := hsv2.mono hbN1
          have hwsx3 := hwsx.mono hbN1
          refine comp_restT (fun i ys nx => nx = N1 ∧ IntsAre ys (((List.range i).filter fun k => st.S[k]? = some (wsNorm lead)).map fun (k : Nat) => (k : Int))) (fun _ _ _ _ => trivial) ⟨rfl, .nil⟩ ?_ ?_
          · clear lF3 lN3 hN1
            rintro j v I2 oI2 C2 oC2 D2 m₂ ys nx h tk E' hj ⟨tv, rfl⟩ ⟨rfl, hys⟩ hC hx F₁ N₁ off Q9 R9 hQ9 hR9
            obtain ⟨y, cy, dy, hy1, hy2, hy3⟩ := hsv3.get (i := j) (by omega)
            have hy1' : shv2[((0 : Int) + (j : Nat)).toNat]? = some (.ref y) := by rw [Int.zero_add, Int.toNat_natCast]; exact hy1
            have C135' := eq_ct (w := w) (loose := loose) (mean := mean) (mg := mg) (mb := mb) y x cy (wsNorm lead).1 dy (wsNorm lead).2
            have hrange : (List.range (j + 1)).filter (fun k => st.S[k]? = some (wsNorm lead)) = (List.range j).filter (fun k => st.S[k]? = some (wsNorm lead)) ++ (if (cy, dy) = wsNorm lead then [j] else []) := by
              rw [List.range_succ, List.filter_append]
              congr 1
              by_cases e : (cy, dy) = wsNorm lead
              · rw [if_pos e, ← e]; simp [hy2]
              · rw [if_neg e]; simp [hy2, e]
            by_cases heq : (cy, dy) = wsNorm lead
            · have hb : decide (cy = (wsNorm lead).1 ∧ dy = (wsNorm lead).2) = true := decide_eq_true (by rw [← heq]; exact ⟨rfl, rfl⟩)
              rw [hb] at C135'
              have hy3' := hy3.mono (led' := (I2, oI2) :: (C2, oC2) :: (D2, LCg.lst ys) :: nx) fun p hp => List.mem_cons_of_mem _ (List.mem_cons_of_mem _ (List.mem_cons_of_mem _ hp))
              have hx3' := hwsx3.mono (led' := (I2, oI2) :: (C2, oC2) :: (D2, LCg.lst ys) :: nx) fun p hp => List.mem_cons_of_mem _ (List.mem_cons_of_mem _ (List.mem_cons_of_mem _ hp))
              have hyw := hy3
              obtain ⟨dx', nm', ct', h1', t1', v1', h2', t2', v2', h3', t3', v3', h4', t4', h5', t5', v5', us', t6', g1', g2', g3', g4', g5'⟩ := hyw
              k_steps
              (with_reducible rename Fr _ _ _ _ => eF); (with_reducible rename News _ _ _ _ => eN)
              refine hQ9 _ _ ?_
              refine EltE.mk [] eF eN (fun p hp => nomatch hp) off ⟨rfl, ?_⟩
              rw [hrange, if_pos heq, List.map_append, Int.zero_add]
              exact hys.append (.cons _ _ .nil)
            · have hb : decide (cy = (wsNorm lead).1 ∧ dy = (wsNorm lead).2) = false := decide_eq_false (fun q => heq (Prod.ext q.1 q.2))
              rw [hb] at C135'
              have hy3' := hy3.mono (led' := (I2, oI2) :: (C2, oC2) :: (D2, LCg.lst ys) :: nx) fun p hp => List.mem_cons_of_mem _ (List.mem_cons_of_mem _ (List.mem_cons_of_mem _ hp))
              have hx3' := hwsx3.mono (led' := (I2, oI2) :: (C2, oC2) :: (D2, LCg.lst ys) :: nx) fun p hp => List.mem_cons_of_mem _ (List.mem_cons_of_mem _ (List.mem_cons_of_mem _ hp))
              have hyw := hy3
              obtain ⟨dx', nm', ct', h1', t1', v1', h2', t2', v2', h3', t3', v3', h4', t4', h5', t5', v5', us', t6', g1', g2', g3', g4', g5'⟩ := hyw
              k_steps
              (with_reducible rename Fr _ _ _ _ => eF); (with_reducible rename News _ _ _ _ => eN)
              refine hR9 _ ?_
              refine EltE.mk [] eF eN (fun p hp => nomatch hp) off ⟨rfl, ?_⟩
              rw [hrange, if_neg heq, List.append_nil]
              exact hys
          · rintro ys nx ⟨rfl, hys⟩
            unfold LCg.FinA
            intro D3 h3' tk3 F3 N3 o3'
            have o3z := off1_of o3'
            rw [hshl] at hys
            subst hN1
            clear o3'
            have p1 : @Ne Nat pD2 D3 := o3z (pD2, _) (by k_mem)
            have p2 : @Ne Nat sh D3 := o3z (sh, _) (by k_mem)
            have p3 : @Ne Nat I D3 := o3z (I, _) (by k_mem)
            have p4 : OffAll bs3 D3 := fun q hq => o3z q (by k_mem)
            have o3b := o3
            by_cases hin : wsNorm lead ∈ st.S
            · obtain ⟨rr, hrr⟩ := alike_some hin
              rw [hrr, List.map_cons] at hys
              obtain ⟨ti, hti⟩ := hys.get 0 _ rfl
              have hti' : ys[(0 : Int).toNat]? = some (.int (st.S.idxOf (wsNorm lead) : Nat) ti) := hti
              have hcmp : decide (((st.S.idxOf (wsNorm lead) : Nat) : Int) :: rr.map (fun (k : Nat) => (k : Int)) = []) = false := by simp
              clear hrr
              k_steps
              (with_reducible rename Fr _ _ _ _ => eF); (with_reducible rename News _ _ _ _ => eN)
              refine (hQ9 _ ?_).1
              refine TurnE.sub _ eF eN (fun p hp => List.mem_cons_of_mem _ (List.mem_cons_of_mem _ (List.mem_cons_of_mem _ hp))) (List.forall_mem_cons.mpr ⟨i12.symm, List.forall_mem_cons.mpr ⟨i2.symm, List.forall_mem_cons.mpr ⟨i3.symm, List.forall_mem_cons.mpr ⟨i4.symm, o5⟩⟩⟩⟩)
                ⟨st', pD2, _, _, oH2, _, wv2, n12, _, _, bs3, k3, hrun', rfl, rfl, ?_, rfl, rfl, hcell2, d12, d22, d32, d4, d5, d6, o1, o2, o3b, o4, ?_, ?_, ?_, fun p hp => hsub2 p (hsub p hp)⟩
              · rw [← hst2]; rfl
              · rw [← hst2]; unfold endStep putS; rw [if_pos hin]; dsimp only; rw [List.map_append]; skip; (first | rw [List.concat_eq_append] | skip); exact hpv2.append (.cons _ _ .nil)
              · rw [← hst2]; exact hwv2
              · rw [← hst2]; unfold endStep putS; rw [if_pos hin]; exact hsv2
            · have hrr := alike_none hin
              rw [hrr, List.map_nil] at hys
              have hcmp : decide (([] : List Int) = []) = true := by simp
              clear hrr
              k_steps
              (with_reducible rename Fr _ _ _ _ => eF); (with_reducible rename News _ _ _ _ => eN)
              refine (hQ9 _ ?_).1
              refine TurnE.sub _ eF eN (fun p hp => List.mem_cons_of_mem _ (List.mem_cons_of_mem _ (List.mem_cons_of_mem _ (List.mem_cons_of_mem _ hp)))) (List.forall_mem_cons.mpr ⟨i12.symm, List.forall_mem_cons.mpr ⟨i2.symm, List.forall_mem_cons.mpr ⟨i3.symm, List.forall_mem_cons.mpr ⟨i4.symm, o5⟩⟩⟩⟩)
                ⟨st', pD2, _, _, oH2, _, wv2, n12, _, _, bs3, k3, hrun', rfl, rfl, ?_, rfl, rfl, hcell2, d12, d22, d32, d4, d5, d6, o1, o2, o3b, o4, ?_, ?_, ?_, fun p hp => hsub2 p (hsub p hp)⟩
              · rw [← hst2]; rfl
              · rw [← hst2]; unfold endStep putS; rw [if_neg hin]; dsimp only; rw [List.map_append]; rw [idx_new hin, ← hshl]; (first | rw [List.concat_eq_append] | skip); exact hpv2.append (.cons _ _ .nil)
              · rw [← hst2]; exact hwv2
              · rw [← hst2]; unfold endStep putS; rw [if_neg hin]; exact hsv2.append (.cons hwsx .nil)
  · clear lF lN'
    rintro m₁ nx h tk ⟨st, pD, pv, n3, oH, v0, wv, n1, shv, n2, bs2, k9, hrun, hfac, hpile, hways, hwords, rfl, hoH, d1, d2, d3, d4, d5, d6, b1, b2, b3, b4, hpv, hwv, hsv, hsub⟩ F₁ N₁
    rw [asIf hpile, asIf hways] at F₁
    have e : st = r := by
      rw [List.take_of_length_le (Nat.le_refl _), hr] at hrun
      exact (Option.some.inj hrun).symm
    subst e
    rw [hk1] at hpv
    have hlen : pv.length = 1 := hpv.length
    obtain ⟨ti, hti⟩ := hpv.get 0 _ rfl
    have hti' : pv[(0 : Int).toNat]? = some (.int (k : Nat) ti) := hti
    have C184 : Ct w loose mean mg mb 184 10 (fun _ vs => ∃ t, vs = [.int (((pv.length : Nat) : Int) - 1) t]) (fun _ _ tl r => tl = [] ∧ r = .bool true) := (eof_ct _).conv (fun _ _ h => h) fun _ _ _ _ _ h => ⟨h.1, by rw [h.2, hlen]; rfl⟩
    k_steps
    (with_reducible rename Fr _ _ _ _ => kF9); (with_reducible rename News _ _ _ _ => kN9)
    rename_i D9 _ _ _ _ hlt9 _ _
    obtain ⟨q1, q2, q3, q4, q5⟩ := hlt9
    refine hret _ ((wd, listOf (List.toArray wv) n1) :: (sh, listOf (List.toArray shv) n2) :: (D9, tupOf [.int (k : Nat) ti, .int (st.ways : Nat) k9]) :: bs2) _ _ kF9 (fun p hp => kN9 p ?_) ⟨⟨wv, n1, shv, n2, _, rfl, d6, List.forall_mem_cons.mpr ⟨(Nat.ne_of_lt q3).symm, b3⟩, List.forall_mem_cons.mpr ⟨(Nat.ne_of_lt q4).symm, b4⟩, hwv, hsv.mono fun p hp => List.mem_cons_of_mem _ hp⟩, ?_, ⟨_, _, _, rfl, List.mem_cons_of_mem _ (List.mem_cons_of_mem _ List.mem_cons_self)⟩⟩
    · simp only [List.mem_cons] at hp ⊢
      rcases hp with h | h | h | h
      · exact .inr (.inr (.inr (.inl h)))
      · exact .inr (.inr (.inr (.inr (.inl h))))
      · exact .inl h
      · exact .inr (.inr (.inr (.inr (.inr h))))
    · intro p hp h1 h2
      rcases List.mem_cons.mp hp with rfl | hp
      · exact absurd rfl h2
      · rcases List.mem_cons.mp hp with rfl | hp
        · exact absurd rfl h1
        · exact List.mem_cons_of_mem _ (List.mem_cons_of_mem _ (List.mem_cons_of_mem _ (hsub p (List.mem_cons_of_mem _ (List.mem_cons_of_mem _ hp)))))
end

/-! Comp2 -/
open PySem PySem.W PyProof.Rows PySem.Calls PySem.Spec PyProof.Rows.LCg
/-! a comprehension of two clauses over lists of the ledger; the second list and the element leave the heap as it is -/
section
variable {prog : Program} {w : World} {A : Around} {E : Value → Shared → Prop} {R : Result → Shared → Prop} {s : Shared}
theorem turn2a (elt t1 i1 t2 i2 : PySem.Expr) (scope : Scope) (pos : Pos) (it acc : Value) (env : Env) :
    compTurn (.ListComp elt [⟨t1, i1, [], 0⟩, ⟨t2, i2, [], 0⟩] scope pos) 0 it acc env = (standAt i1.pos >>= fun _ => pyNext it >>= fun r => match r with
      | none => pure (.done .next)
      | some v => letOwnedTupleGo t1 it v >>= fun _ => assign t1 env v >>= fun _ =>
        eval i2 env >>= fun x => standAt i2.pos >>= fun _ => foldedSetIterable i2 env x >>= fun x => holding [x] (pyIter x) >>= fun it2 => runOwn (.compStart (.ListComp elt [⟨t1, i1, [], 0⟩, ⟨t2, i2, [], 0⟩] scope pos) 1 it2 acc env) env >>= fun _ =>
          again (.compLoop (.ListComp elt [⟨t1, i1, [], 0⟩, ⟨t2, i2, [], 0⟩] scope pos) 0 it acc env)) := by rfl
theorem turn2b (elt t1 i1 t2 i2 : PySem.Expr) (scope : Scope) (pos : Pos) (it acc : Value) (env : Env) :
    compTurn (.ListComp elt [⟨t1, i1, [], 0⟩, ⟨t2, i2, [], 0⟩] scope pos) 1 it acc env = (standAt i2.pos >>= fun _ => pyNext it >>= fun r => match r with
      | none => pure (.done .next)
      | some v => letOwnedTupleGo t2 it v >>= fun _ => assign t2 env v >>= fun _ =>
        (eval elt env >>= fun x => call (.builtin "list.append") [acc, x] >>= fun _ => pure ()) >>= fun _ =>
          again (.compLoop (.ListComp elt [⟨t1, i1, [], 0⟩, ⟨t2, i2, [], 0⟩] scope pos) 1 it acc env)) := by rfl
theorem start1 {elt t1 i1 t2 i2 : PySem.Expr} {scope : Scope} {pos : Pos} {it acc : Value} {env : Env}
    (h0 : codeAny (model prog w) A (.compLoop (.ListComp elt [⟨t1, i1, [], 0⟩, ⟨t2, i2, [], 0⟩] scope pos) 1 it acc env) R s)
    (h : wpAny (model prog w) A (pyIter it) (fun it' s' => codeAny (model prog w) A (.compLoop (.ListComp elt [⟨t1, i1, [], 0⟩, ⟨t2, i2, [], 0⟩] scope pos) 1 it' acc env) R s')
      (notedBy (model prog w) A env fun x s' => R (.error x) s') s) :
    codeAny (model prog w) A (.compStart (.ListComp elt [⟨t1, i1, [], 0⟩, ⟨t2, i2, [], 0⟩] scope pos) 1 it acc env) R s := by
  refine codeAny_of_tree ?_
  show wpAny _ _ ((compStart (.ListComp elt [⟨t1, i1, [], 0⟩, ⟨t2, i2, [], 0⟩] scope pos) 1 it acc env).onRaise (fun x => do noteFrame x env; standAt theWindowsPlace)) _ _ s
  refine wpAny_notedAt ?_
  unfold compStart
  show wpAny _ _ (ask >>= _) _ _ s
  refine wpAny_bind (wpAny_askSetting (wpAny_ite ?_))
  split
  · first
      | exact wpAny_bind (wpAny_pure (wpAny_pure (And.intro rfl h0)))
      | exact wpAny_pure (And.intro rfl h0)
  · first
      | exact wpAny_bind (wpAny_rule (wpAny_bind (wpAny_standAt (wpAny_bind (wpAny_mono h (fun it' s' h' => wpAny_pure (And.intro rfl h')) fun _ _ x => x)))))
      | (refine wpAny_bind (wpAny_rule ?_); show wpAny _ _ (standAt i2.pos >>= _) _ _ s; exact wpAny_bind (wpAny_standAt (wpAny_bind (wpAny_mono h (fun it' s' h' => wpAny_pure (And.intro rfl h')) fun _ _ x => x))))
theorem loop2a {elt t1 i1 t2 i2 : PySem.Expr} {scope : Scope} {pos : Pos} {it acc : Value} {env : Env} (I : Nat → Shared → Prop)
    (turn : ∀ n s, I n s → wpAny (model prog w) A (pyNext it) (fun r s₁ => match r with
      | none => R (.ok .next) s₁
      | some v => wpAny (model prog w) A (assign t1 env v) (fun _ s₂ => ∀ E', wpAny (model prog w) A (eval i2 env) (fun x s₃ =>
          wpAny (model prog w) A (pyIter x) (fun it2 s₄ => codeAny (model prog w) A (.compStart (.ListComp elt [⟨t1, i1, [], 0⟩, ⟨t2, i2, [], 0⟩] scope pos) 1 it2 acc env) (fun r s₅ => match r with | .ok _ => ∃ m, m < n ∧ I m s₅ | .error _ => False) s₄) E' s₃) E' s₂)
          (notedBy (model prog w) A env fun e s' => R (.error e) s') s₁) (notedBy (model prog w) A env fun e s' => R (.error e) s') s)
    (n : Nat) (h : I n s) (ht : ∀ v, letOwnedTupleGo t1 it v = pure () := by intro _; rfl) (hs : ∀ x, foldedSetIterable i2 env x = pure x := by intro _; rfl) :
    codeAny (model prog w) A (.compLoop (.ListComp elt [⟨t1, i1, [], 0⟩, ⟨t2, i2, [], 0⟩] scope pos) 0 it acc env) R s := by
  refine codeAny_loop rfl I (fun n s hI => ?_) n h
  show wpAny _ _ ((compTurn (.ListComp elt [⟨t1, i1, [], 0⟩, ⟨t2, i2, [], 0⟩] scope pos) 0 it acc env).onRaise (fun x => do noteFrame x env; theTreesLotGoes x)) _ _ s
  refine wpAny_noted ?_
  rw [turn2a]
  refine wpAny_bind (wpAny_standAt (wpAny_bind (wpAny_mono (turn n s hI) (fun r s₁ h₁ => ?_) fun _ _ h' => h')))
  cases r with
  | none => exact wpAny_pure h₁
  | some v =>
    refine wpAny_bind (wpAny_of_eq (ht v) ?_)
    refine wpAny_bind (wpAny_mono h₁ (fun _ s₂ h₂ => wpAny_bind (wpAny_mono (h₂ _) (fun x s₃ h₃ => wpAny_bind (wpAny_standAt (wpAny_bind (wpAny_of_eq (hs x) (wpAny_bind (wpAny_holding (wpAny_mono h₃ (fun it2 s₄ h₄ => ?_) fun _ _ h' => h')))))))
      fun _ _ h' => h')) fun _ _ h' => h')
    refine wpAny_bind (wpAny_runOwn (codeAny_mono h₄ fun r s₅ h₅ => ?_))
    cases r with
    | ok f => exact wpAny_pure ⟨rfl, h₅⟩
    | error e => exact h₅.elim
theorem loop2b {elt t1 i1 t2 i2 : PySem.Expr} {scope : Scope} {pos : Pos} {it acc : Value} {env : Env} (I : Nat → Shared → Prop)
    (turn : ∀ n s, I n s → wpAny (model prog w) A (pyNext it) (fun r s₁ => match r with
      | none => R (.ok .next) s₁
      | some v => wpAny (model prog w) A (assign t2 env v) (fun _ s₂ => wpAny (model prog w) A (eval elt env) (fun x s₃ =>
          wpAny (model prog w) A (call (.builtin "list.append") [acc, x]) (fun _ s₄ => ∃ m, m < n ∧ I m s₄) (notedBy (model prog w) A env fun e s' => R (.error e) s') s₃)
          (notedBy (model prog w) A env fun e s' => R (.error e) s') s₂) (notedBy (model prog w) A env fun e s' => R (.error e) s') s₁) (notedBy (model prog w) A env fun e s' => R (.error e) s') s)
    (n : Nat) (h : I n s) (ht : ∀ v, letOwnedTupleGo t2 it v = pure () := by intro _; rfl) :
    codeAny (model prog w) A (.compLoop (.ListComp elt [⟨t1, i1, [], 0⟩, ⟨t2, i2, [], 0⟩] scope pos) 1 it acc env) R s := by
  refine codeAny_loop rfl I (fun n s hI => ?_) n h
  show wpAny _ _ ((compTurn (.ListComp elt [⟨t1, i1, [], 0⟩, ⟨t2, i2, [], 0⟩] scope pos) 1 it acc env).onRaise (fun x => do noteFrame x env; theTreesLotGoes x)) _ _ s
  refine wpAny_noted ?_
  rw [turn2b]
  refine wpAny_bind (wpAny_standAt (wpAny_bind (wpAny_mono (turn n s hI) (fun r s₁ h₁ => ?_) fun _ _ h' => h')))
  cases r with
  | none => exact wpAny_pure h₁
  | some v =>
    refine wpAny_bind (wpAny_of_eq (ht v) ?_)
    exact wpAny_bind (wpAny_mono h₁ (fun _ s₂ h₂ => wpAny_bind (wpAny_bind (wpAny_mono h₂ (fun x s₃ h₃ => wpAny_bind (wpAny_mono h₃
      (fun _ s₄ h₄ => wpAny_pure (wpAny_pure ⟨rfl, h₄⟩)) fun _ _ h' => h')) fun _ _ h' => h'))) fun _ _ h' => h')
end
/-- the heap as it was -/
noncomputable def Same (s₁ : Shared) (J : Value → Prop) (y : Value) (s' : Shared) : Prop := J y ∧ ∃ tk, s' = { s₁ with toks := tk }
section
variable {prog : Program} {w : World} {A : Around} {E : Value → Shared → Prop} {s : Shared} {h₀ : Heap} {L : Addr} {m : Str → Option Value} {env : Env}
theorem block2 {elt i1 i2 : PySem.Expr} {x x2 : Str} {px px2 : Pos} {scope : Scope} {cl : List (Str × Addr)} {pos : Pos} {s₂ : Shared} {I ax bx : Addr} {vs ws : List Value} {n1 n2 : Nat} {news : Led} {J : Nat → Nat → List Value → Prop} {RR : Value → Addr → Result → Shared → Prop}
    (hs2 : ∀ (env : Env) x, foldedSetIterable i2 env x = pure x) (hh : A.handled = none) (ha : (ax, listOf vs.toArray n1) ∈ news) (hb : (bx, listOf ws.toArray n2) ∈ news)
    (hcell : ∀ y ∈ scope.names, y.2 ≠ .cell) (hkind : scope.kind = .function) (hx : scope.names.lookup x = some .local) (hx2 : scope.names.lookup x2 = some .local) (hne : x ≠ x2)
    (F : Fr h₀ L s₂.heap m) (N : News h₀ L s₂.heap news) (hit : s₂.heap.IsListIter I ax 0) (hIL : L ≠ I) (hI₀ : h₀.get? I = none) (off : ∀ p ∈ news, p.1 ≠ I)
    (hJ0 : J 0 0 []) (hJn : ∀ i ys, J i ws.length ys → J (i + 1) 0 ys) (hJl : ∀ i j ys, i < vs.length → j ≤ ws.length → J i j ys → ys.length ≤ sizeLine)
    (e2 : ∀ (i : Nat) v I oI C oC D m₂ ys h tk (E' : Value → Shared → Prop), vs[i]? = some v → LCg.NsObj oC m₂ → m₂ x = some v → Fr h₀ L h m → News h₀ L h ((I, oI) :: (C, oC) :: (D, LCg.lst ys) :: news) →
      wpAny (model prog w) A (eval i2 (compEnvC scope cl C env)) (Same { s₂ with heap := h, toks := tk } fun r => r = .ref bx) E' { s₂ with heap := h, toks := tk })
    (el : ∀ (i j : Nat) v u I oI I2 oI2 C oC D m₂ ys h tk (E' : Value → Shared → Prop), vs[i]? = some v → ws[j]? = some u → J i j ys → LCg.NsObj oC m₂ → m₂ x = some v → m₂ x2 = some u → Fr h₀ L h m → News h₀ L h ((I, oI) :: (C, oC) :: (D, LCg.lst ys) :: (I2, oI2) :: news) →
      wpAny (model prog w) A (eval elt (compEnvC scope cl C env)) (Same { s₂ with heap := h, toks := tk } fun y => J i (j + 1) (ys ++ [y])) E' { s₂ with heap := h, toks := tk })
    (hRR : ∀ D C h tk m' ys, Fr h₀ L h m → News h₀ L h ((D, LCg.lst ys) :: news) → h.Ns C m' → h₀.get? C = none → h₀.get? D = none → C ≠ L → D ≠ L → C ≠ D → (∀ p ∈ news, p.1 ≠ C) → (∀ p ∈ news, p.1 ≠ D) → J vs.length 0 ys → RR (.ref D) C (.ok .next) { s₂ with heap := h, toks := tk }) :
    wpAny (model prog w) A (newList []) (fun acc s₃ => wpAny (model prog w) A (newFunctionEnv scope env.globals cl [] env.qual none .none (some env)) (fun cenv s₄ =>
      codeAny (model prog w) A (.compStart (.ListComp elt [⟨.Name x px, i1, [], 0⟩, ⟨.Name x2 px2, i2, [], 0⟩] scope pos) 0 (.ref I) acc { cenv with scope := relabel scope env }) (RR acc cenv.locals) s₄) E s₃) E s₂ := by
  refine wpAny_newObj_type (wpAny_newFunctionEnv hcell (by intro y hy; simp at hy) (fun h₁ hns₁ hsb₁ => ?_) hkind)
  dsimp only at hns₁ hsb₁ ⊢
  generalize hH2 : s₂.heap.push { cls := .type "list", dict := none, data := .seq ([] : List Value).toArray } = H2 at hns₁ hsb₁ ⊢
  have hC : H2.objs.size = s₂.heap.objs.size + 1 := by rw [← hH2, Heap.size_push]
  have hDC : s₂.heap.objs.size ≠ H2.objs.size := by rw [hC]; exact Nat.ne_of_lt (Nat.lt_succ_self _)
  have below : ∀ b, b < s₂.heap.objs.size → b ≠ H2.objs.size ∧ b ≠ s₂.heap.objs.size := fun b hb => ⟨by rw [hC]; exact Nat.ne_of_lt (Nat.lt_succ_of_lt hb), Nat.ne_of_lt hb⟩
  have hIlt : I < s₂.heap.objs.size := by obtain ⟨o, e, _⟩ := hit; exact Heap.lt_size e
  have hax : ∀ p ∈ news, p.1 < s₂.heap.objs.size := fun p hp => Heap.lt_size (N p hp).1
  have old : ∀ b o, s₂.heap.get? b = some o → h₁.get? b = some o := fun b o e => hsb₁.extBut b o (below b (Heap.lt_size e)).1 (Heap.get?_push_of_some _ (hH2 ▸ Heap.get?_push_of_some _ e))
  have hacc : h₁.get? s₂.heap.objs.size = some (LCg.lst []) := hsb₁.extBut _ _ hDC (Heap.get?_push_of_some _ (hH2 ▸ Heap.get?_push_size _ rfl))
  have fresh : ∀ a, s₂.heap.objs.size ≤ a → s₂.heap.get? a = none := fun a ha => by
    cases e : s₂.heap.get? a with
    | none => rfl
    | some o' => exact absurd (Heap.lt_size e) (Nat.not_lt.mpr ha)
  have fresh₀ : ∀ a, s₂.heap.objs.size ≤ a → h₀.get? a = none := fun a ha => by
    cases e : h₀.get? a with
    | none => rfl
    | some o' => have := F.keep a o' e; rw [fresh a ha] at this; cases this
  have hD₀ : h₀.get? s₂.heap.objs.size = none := fresh₀ _ (Nat.le_refl _)
  have hC₀ : h₀.get? H2.objs.size = none := fresh₀ _ (by rw [hC]; exact Nat.le_succ _)
  have hLlt : L < s₂.heap.objs.size := F.ns.lt
  have hDL : s₂.heap.objs.size ≠ L := Ne.symm (below L hLlt).2
  have hCL : H2.objs.size ≠ L := Ne.symm (below L hLlt).1
  have hCI : I ≠ H2.objs.size := (below I hIlt).1
  have hDI : I ≠ s₂.heap.objs.size := (below I hIlt).2
  have offC : ∀ p ∈ news, p.1 ≠ H2.objs.size := fun p hp => (below _ (hax p hp)).1
  have offD : ∀ p ∈ news, p.1 ≠ s₂.heap.objs.size := fun p hp => (below _ (hax p hp)).2
  have haxI : ax ≠ I := off _ ha
  have W := Walks.list (prog := prog) (w := w) hh I ax haxI vs.toArray
  have lists : ∀ {h : Heap} {l : Addr} {us : List Value} {n : Nat} {nw : Led}, News h₀ L h nw → (l, listOf us.toArray n) ∈ nw → h.IsList l us.toArray := fun N hm => ⟨_, (N _ hm).1, rfl, _, rfl⟩
  have loop : ∀ s₃ : Shared, s₃ = { s₂ with heap := h₁, toks := s₂.toks + ([] : List (Str × Value)).length } →
      codeAny (model prog w) A (.compLoop (.ListComp elt [⟨.Name x px, i1, [], 0⟩, ⟨.Name x2 px2, i2, [], 0⟩] scope pos) 0 (.ref I) (.ref s₂.heap.objs.size) (compEnvC scope cl H2.objs.size env))
        (RR (.ref s₂.heap.objs.size) H2.objs.size) s₃ := by
    rintro s₃ rfl
    refine loop2a (hs := hs2 _)
      (fun k s' => ∃ h' tk i ys m', s' = { s₂ with heap := h', toks := tk } ∧ i ≤ vs.length ∧ k = vs.length + 1 - i ∧ h'.IsListIter I ax i ∧ Fr h₀ L h' m ∧ h'.Ns H2.objs.size m' ∧ News h₀ L h' ((s₂.heap.objs.size, LCg.lst ys) :: news) ∧ J i 0 ys) ?_ (vs.length + 1)
      ⟨h₁, _, 0, [], _, rfl, Nat.zero_le _, rfl, hit.at fun o e => old _ _ e, F.keeps old, hns₁, fun p hp => ?_, hJ0⟩
    · rintro k s' ⟨h', tk, i, ys, m', rfl, hi, rfl, hst, F', hn', N', hJ⟩
      have hlist := lists (fun p hp => N' p (List.mem_cons_of_mem _ hp)) ha
      have hsz : vs.toArray.size = vs.length := by simp
      by_cases hlt : i < vs.length
      · refine W.item i _ _ _ (by rw [hsz]; exact hlt) ⟨hst, hlist⟩ fun v h₂ tk₂ hPv hst₂ hk₂ => ?_
        have hv : vs[i]? = some v := by simpa using hPv
        refine wpAny_assign_Name (wpAny_storeName_local (lookup_relabel_local hx) (hn'.at' fun o e => hk₂ _ o (by simpa using Ne.symm hCI) e) (fun h₃ hn₃ hs₃ => ?_) (by simp [compEnvC, relabel, hkind]))
        intro E'
        obtain ⟨oI, heI, hoI⟩ : ∃ oI, h₃.get? I = some oI ∧ h₃.IsListIter I ax (i + 1) := by
          obtain ⟨o, e, r⟩ := hst₂.1
          have := hs₃.extBut I o hCI e
          exact ⟨o, this, o, this, r⟩
        obtain ⟨oC, heC, hoC⟩ := LCg.ns_obj hn₃
        have F₃ : Fr h₀ L h₃ m := (LCg.fr_but F' hk₂ hIL hI₀).change hs₃ hCL hC₀
        have N₂ : News h₀ L h₂ ((s₂.heap.objs.size, LCg.lst ys) :: news) := LCg.news_but N' hk₂ fun p hp => by
          rcases List.mem_cons.mp hp with rfl | hp
          · exact Ne.symm hDI
          · exact off p hp
        have N₃ : News h₀ L h₃ ((I, oI) :: (H2.objs.size, oC) :: (s₂.heap.objs.size, LCg.lst ys) :: news) := fun p hp => by
          rcases List.mem_cons.mp hp with rfl | hp
          · exact ⟨heI, Ne.symm hIL, hI₀⟩
          · rcases List.mem_cons.mp hp with rfl | hp
            · exact ⟨heC, hCL, hC₀⟩
            · have z := N₂ p hp
              refine ⟨hs₃.extBut _ _ ?_ z.1, z.2⟩
              rcases List.mem_cons.mp hp with rfl | hp
              · exact hDC
              · exact offC p hp
        refine wpAny_mono (e2 i v I oI H2.objs.size oC s₂.heap.objs.size _ ys h₃ _ _ hv hoC (by simp) F₃ N₃) (fun r s₄ h₄ => ?_) fun _ _ e => e
        obtain ⟨rfl, tk₄, rfl⟩ := h₄
        have hlb := lists N₃ (List.mem_cons_of_mem _ (List.mem_cons_of_mem _ (List.mem_cons_of_mem _ hb)))
        refine wpAny_pyIter_list hlb ?_
        have up : ∀ b o, h₃.get? b = some o → (h₃.push { cls := .type "list_iterator", data := .fields #[.ref bx, .int 0 0] }).get? b = some o := fun b o e => Heap.get?_push_of_some _ e
        dsimp only
        generalize hI2 : h₃.objs.size = I2
        have hlt2 : ∀ b o, h₃.get? b = some o → b ≠ I2 := fun b o e => Nat.ne_of_lt (hI2 ▸ Heap.lt_size e)
        have hI2' : h₀.get? I2 = none := by
          cases e : h₀.get? I2 with
          | none => rfl
          | some o' => exact absurd rfl (hlt2 _ _ (F₃.keep _ _ e))
        have hI2L : L ≠ I2 := by obtain ⟨o, _, _, e, _⟩ := F₃.ns; exact hlt2 _ _ e
        have hI2I : I ≠ I2 := hlt2 _ _ heI
        have hI2C : H2.objs.size ≠ I2 := hlt2 _ _ heC
        have hI2D : s₂.heap.objs.size ≠ I2 := hlt2 _ _ (N₃ _ (List.mem_cons_of_mem _ (List.mem_cons_of_mem _ List.mem_cons_self))).1
        have offI2 : ∀ p ∈ news, p.1 ≠ I2 := fun p hp => hlt2 _ _ (N₃ _ (List.mem_cons_of_mem _ (List.mem_cons_of_mem _ (List.mem_cons_of_mem _ hp)))).1
        have W2 := Walks.list (prog := prog) (w := w) hh I2 bx (offI2 _ hb) ws.toArray
        have hsz2 : ws.toArray.size = ws.length := by simp
        generalize hH3 : h₃.push { cls := .type "list_iterator", data := .fields #[.ref bx, .int 0 0] } = H3
        have hit3 : H3.IsListIter I2 bx 0 := by subst hH3; subst hI2; exact ⟨_, Heap.get?_push_size _ rfl, rfl, rfl⟩
        rw [hH3] at up
        have inner : ∀ s₅ : Shared, s₅ = { s₂ with heap := H3, toks := tk₄ } →
            codeAny (model prog w) A (.compLoop (.ListComp elt [⟨.Name x px, i1, [], 0⟩, ⟨.Name x2 px2, i2, [], 0⟩] scope pos) 1 (.ref I2) (.ref s₂.heap.objs.size) (compEnvC scope cl H2.objs.size env))
              (fun r s₅ => match r with | .ok _ => ∃ m_1, m_1 < vs.length + 1 - i ∧ (∃ h' tk i ys m', s₅ = { s₂ with heap := h', toks := tk } ∧ i ≤ vs.length ∧ m_1 = vs.length + 1 - i ∧ h'.IsListIter I ax i ∧ Fr h₀ L h' m ∧ h'.Ns H2.objs.size m' ∧ News h₀ L h' ((s₂.heap.objs.size, LCg.lst ys) :: news) ∧ J i 0 ys) | .error _ => False) s₅ := by
          rintro s₅ rfl
          refine loop2b
            (fun k s' => ∃ h' tk j ys m', s' = { s₂ with heap := h', toks := tk } ∧ j ≤ ws.length ∧ k = ws.length + 1 - j ∧ h'.IsListIter I2 bx j ∧ h'.get? I = some oI ∧ Fr h₀ L h' m ∧ h'.Ns H2.objs.size m' ∧ m' x = some v ∧ News h₀ L h' ((s₂.heap.objs.size, LCg.lst ys) :: news) ∧ J i j ys) ?_ (ws.length + 1)
            ⟨H3, _, 0, ys, _, rfl, Nat.zero_le _, rfl, hit3, up _ _ heI, F₃.keeps up, hn₃.at' fun o e => up _ _ e, by simp, fun p hp => ?_, hJ⟩
          · rintro k s' ⟨h4, tk4, j, ys4, m4, rfl, hj, rfl, hst4, heI4, F4, hn4, hm4, N4, hJ4⟩
            have hlist4 := lists (fun p hp => N4 p (List.mem_cons_of_mem _ hp)) hb
            by_cases hlt4 : j < ws.length
            · refine W2.item j _ _ _ (by rw [hsz2]; exact hlt4) ⟨hst4, hlist4⟩ fun u h5 tk5 hPu hst5 hk5 => ?_
              have hu : ws[j]? = some u := by simpa using hPu
              refine wpAny_assign_Name (wpAny_storeName_local (lookup_relabel_local hx2) (hn4.at' fun o e => hk5 _ o (by simpa using hI2C) e) (fun h6 hn6 hs6 => ?_) (by simp [compEnvC, relabel, hkind]))
              obtain ⟨oI2, heI2, hoI2⟩ : ∃ o, h6.get? I2 = some o ∧ h6.IsListIter I2 bx (j + 1) := by
                obtain ⟨o, e, r⟩ := hst5.1
                have := hs6.extBut I2 o hI2C.symm e
                exact ⟨o, this, o, this, r⟩
              obtain ⟨oC6, heC6, hoC6⟩ := LCg.ns_obj hn6
              have F6 : Fr h₀ L h6 m := (LCg.fr_but F4 hk5 hI2L hI2').change hs6 hCL hC₀
              have N5 : News h₀ L h5 ((s₂.heap.objs.size, LCg.lst ys4) :: news) := LCg.news_but N4 hk5 fun p hp => by
                rcases List.mem_cons.mp hp with rfl | hp
                · exact hI2D
                · exact offI2 p hp
              have heI5 : h5.get? I = some oI := hk5 _ _ (by simpa using hI2I) heI4
              have heI6 : h6.get? I = some oI := hs6.extBut _ _ hCI heI5
              have N6 : News h₀ L h6 ((s₂.heap.objs.size, LCg.lst ys4) :: news) := fun p hp => by
                have z := N5 p hp
                refine ⟨hs6.extBut _ _ ?_ z.1, z.2⟩
                rcases List.mem_cons.mp hp with rfl | hp
                · exact hDC
                · exact offC p hp
              have N6' : News h₀ L h6 ((I, oI) :: (H2.objs.size, oC6) :: (s₂.heap.objs.size, LCg.lst ys4) :: (I2, oI2) :: news) := fun p hp => by
                rcases List.mem_cons.mp hp with rfl | hp
                · exact ⟨heI6, Ne.symm hIL, hI₀⟩
                · rcases List.mem_cons.mp hp with rfl | hp
                  · exact ⟨heC6, hCL, hC₀⟩
                  · rcases List.mem_cons.mp hp with rfl | hp
                    · exact N6 _ List.mem_cons_self
                    · rcases List.mem_cons.mp hp with rfl | hp
                      · exact ⟨heI2, hI2L.symm, hI2'⟩
                      · exact N6 _ (List.mem_cons_of_mem _ hp)
              refine wpAny_mono (el i j v u I oI I2 oI2 H2.objs.size oC6 s₂.heap.objs.size _ ys4 h6 _ _ hv hu hJ4 hoC6 (by rw [if_neg hne]; exact hm4) (by simp) F6 N6') (fun y s₄ h₄ => ?_) fun _ _ e => e
              obtain ⟨hJ5, tk6, rfl⟩ := h₄
              have zD := (N6 (s₂.heap.objs.size, LCg.lst ys4) List.mem_cons_self).1
              refine append_at (hsz := by show ys4.toArray.size ≤ sizeLine; rw [List.size_toArray]; exact hJl _ _ _ hlt hj hJ4) zD fun h7 hs7 hD7 => ?_
              refine ⟨ws.length + 1 - (j + 1), by omega, h7, tk6, j + 1, ys4 ++ [y], _, rfl, hlt4, rfl, hoI2.at fun o e => hs7.extBut _ _ hI2D.symm e, hs7.extBut _ _ hDI heI6, F6.change hs7 hDL hD₀, hn6.sameBut hs7 (Ne.symm hDC), by rw [if_neg hne]; exact hm4, fun p hp => ?_, hJ5⟩
              rcases List.mem_cons.mp hp with rfl | hp
              · exact ⟨hD7.trans (congrArg some (LCg.lst_snoc ys4 y)), hDL, hD₀⟩
              · exact ⟨hs7.extBut _ _ (offD p hp) (N6 _ (List.mem_cons_of_mem _ hp)).1, (N6 _ (List.mem_cons_of_mem _ hp)).2⟩
            · obtain rfl : j = ws.length := Nat.le_antisymm hj (Nat.not_lt.mp hlt4)
              refine W2.done _ _ _ ⟨by rw [hsz2]; exact hst4, hlist4⟩ fun h5 tk5 hk5 => ?_
              refine ⟨vs.length + 1 - (i + 1), by omega, h5, tk5, i + 1, ys4, m4, rfl, hlt, rfl, ?_, LCg.fr_but F4 hk5 hI2L hI2', hn4.at' fun o e => hk5 _ o (by simpa using hI2C) e, LCg.news_but N4 hk5 fun p hp => ?_, hJn _ _ hJ4⟩
              · obtain ⟨o, e, r⟩ := hoI
                rw [heI] at e
                cases e
                exact ⟨oI, hk5 _ _ (by simpa using hI2I) heI4, r⟩
              · rcases List.mem_cons.mp hp with rfl | hp
                · exact hI2D
                · exact offI2 p hp
          · have z := N₃ p (List.mem_cons_of_mem _ (List.mem_cons_of_mem _ hp))
            exact ⟨up _ _ z.1, z.2⟩
        exact start1 (inner _ rfl) (W2.self 0 _ _ _ ⟨hit3, lists (nw := (bx, listOf ws.toArray n2) :: []) (fun p hp => by
          rw [List.mem_singleton.mp hp]
          have z := N₃ _ (List.mem_cons_of_mem _ (List.mem_cons_of_mem _ (List.mem_cons_of_mem _ hb)))
          exact ⟨up _ _ z.1, z.2⟩) List.mem_cons_self⟩ (inner _ rfl))
      · obtain rfl : i = vs.length := Nat.le_antisymm hi (Nat.not_lt.mp hlt)
        refine W.done _ _ _ ⟨by rw [hsz]; exact hst, hlist⟩ fun h₂ tk₂ hk₂ => ?_
        exact hRR _ _ h₂ tk₂ _ ys (LCg.fr_but F' hk₂ hIL hI₀) (LCg.news_but N' hk₂ fun p hp => by
          rcases List.mem_cons.mp hp with rfl | hp
          · exact Ne.symm hDI
          · exact off p hp) (hn'.at' fun o e => hk₂ _ o (by simpa using Ne.symm hCI) e) hC₀ hD₀ hCL hDL (Ne.symm hDC) offC offD hJ
    · rcases List.mem_cons.mp hp with rfl | hp
      · exact ⟨hacc, hDL, hD₀⟩
      · exact ⟨old _ _ (N p hp).1, (N p hp).2⟩
  exact codeAny_compStart_list (loop _ rfl) (W.self 0 _ _ _ ⟨hit.at fun o e => old _ _ e, lists (fun p hp => ⟨old _ _ (N p hp).1, (N p hp).2⟩) ha⟩ (loop _ rfl))

noncomputable def Src2 (prog : Program) (w : World) (A : Around) (h₀ : Heap) (L : Addr) (m : Str → Option Value) (env : Env) (elt i2 : PySem.Expr) (x x2 y : Str) (scope : Scope) (cl : List (Str × Addr)) (Q : Flow → Shared → Prop) (xv : Value) (s₁ : Shared) : Prop :=
  ∃ (ax bx : Addr) (vs ws : List Value) (n1 n2 : Nat) (news : Led) (J : Nat → Nat → List Value → Prop), xv = .ref ax ∧ A.handled = none ∧ Fr h₀ L s₁.heap m ∧ News h₀ L s₁.heap news ∧ (ax, listOf (List.toArray vs) n1) ∈ news ∧ (bx, listOf (List.toArray ws) n2) ∈ news ∧
    J 0 0 [] ∧ (∀ i ys, J i (List.length ws) ys → J (i + 1) 0 ys) ∧ (∀ i j ys, i < List.length vs → j ≤ ws.length → J i j ys → ys.length ≤ sizeLine) ∧
    (∀ (i : Nat) v I oI C oC D m₂ ys h tk (E' : Value → Shared → Prop), vs[i]? = some v → LCg.NsObj oC m₂ → m₂ x = some v → Fr h₀ L h m → News h₀ L h ((I, oI) :: (C, oC) :: (D, LCg.lst ys) :: news) →
      wpAny (model prog w) A (eval i2 (compEnvC scope cl C env)) (Same { s₁ with heap := h, toks := tk } fun r => r = .ref bx) E' { s₁ with heap := h, toks := tk }) ∧
    (∀ (i j : Nat) v u I oI I2 oI2 C oC D m₂ ys h tk (E' : Value → Shared → Prop), vs[i]? = some v → ws[j]? = some u → J i j ys → LCg.NsObj oC m₂ → m₂ x = some v → m₂ x2 = some u → Fr h₀ L h m → News h₀ L h ((I, oI) :: (C, oC) :: (D, LCg.lst ys) :: (I2, oI2) :: news) →
      wpAny (model prog w) A (eval elt (compEnvC scope cl C env)) (Same { s₁ with heap := h, toks := tk } fun y => J i (j + 1) (ys ++ [y])) E' { s₁ with heap := h, toks := tk }) ∧
    (∀ ys D h tk, J vs.length 0 ys → Fr h₀ L h (fun z => if z = y then some (.ref D) else m z) → News h₀ L h ((D, LCg.lst ys) :: news) → (∀ p ∈ news, p.1 ≠ D) → Q .next { s₁ with heap := h, toks := tk })

theorem Assign2 {elt iter i2 : PySem.Expr} {x x2 y : Str} {px px2 py : Pos} {scope : Scope} {cl : List (Str × Addr)} {pos spos : Pos} {Q : Flow → Shared → Prop} (F₀ : Fr h₀ L s.heap m) (hLe : env.locals = L)
    (hsw : swapsWith (.ListComp elt [⟨.Name x px, iter, [], 0⟩, ⟨.Name x2 px2, i2, [], 0⟩] scope pos) (some (.Name y py)) spos.line env = pure true)
    (hclos : closureFor scope env = pure cl) (hcell : ∀ z ∈ scope.names, z.2 ≠ .cell) (hkind : scope.kind = .function)
    (hnames : ∀ z ∈ scope.names, z.2 = .local → scope.names.lookup z.1 = some .local) (hx : scope.names.lookup x = some .local) (hx2 : scope.names.lookup x2 = some .local) (hne : x ≠ x2)
    (hy : env.kindOf y = some .local) (hp : (env.scope.kind == .class || (env.scope.kind == .module && env.locals != env.globals)) = false)
    (h : wpAny (model prog w) A (eval iter env) (Src2 prog w A h₀ L m env elt i2 x x2 y scope cl Q) E s)
    (hs : ∀ x, foldedSetIterable iter env x = pure x := by intro _; rfl) (hs2 : ∀ (env : Env) x, foldedSetIterable i2 env x = pure x := by intro _ _; rfl) :
    wpAny (model prog w) A (exec (.Assign [.Name y py] (.ListComp elt [⟨.Name x px, iter, [], 0⟩, ⟨.Name x2 px2, i2, [], 0⟩] scope pos) spos) env) Q E s := by
  subst hLe
  rw [exec_Assign_Name_used _ _ _ _ hsw]
  refine wpAny_bind (wpAny_standAt (wpAny_bind ?_))
  show wpAny _ A (do let _ ← comprehension (.ListComp elt [⟨.Name x px, iter, [], 0⟩, ⟨.Name x2 px2, i2, [], 0⟩] scope pos) scope env _ (newList []) false (eval iter env) (some (assign (.Name y py) env))) _ _ s
  refine wpAny_bind (wpAny_mono (wpAny_comprehension_free (use := some (assign (.Name y py) env)) (Q := fun _ s' => Q .next s') rfl hs hclos hkind hnames
    (wpAny_mono h (fun xv s₁ h₁ => ?_) fun _ _ e => e)) (fun _ s' hq => wpAny_pure (wpAny_pure hq)) fun _ _ e => e)
  obtain ⟨ax, bx, vs, ws, n1, n2, news, J, rfl, hh, F, N, ha, hb, hJ0, hJn, hJl, e2, el, fin⟩ := h₁
  have hl : s₁.heap.IsList ax vs.toArray := ⟨_, (N _ ha).1, rfl, _, rfl⟩
  refine wpAny_pyIter_list hl ?_
  have up : ∀ b o, s₁.heap.get? b = some o → (s₁.heap.push { cls := .type "list_iterator", data := .fields #[.ref ax, .int 0 0] }).get? b = some o := fun b o e => Heap.get?_push_of_some _ e
  refine block2 hs2 hh ha hb hcell hkind hx hx2 hne (F.keeps up) (N.grown up) ⟨_, Heap.get?_push_size _ rfl, rfl, rfl⟩ (Nat.ne_of_lt F.ns.lt) (next_is_new F) (fun p hp => Nat.ne_of_lt (Heap.lt_size (N p hp).1)) hJ0 hJn hJl e2 el ?_
  intro D C h' tk m' ys F' N' hn hC₀ hD₀ hCL hDL hCD offC offD hJ
  show wpAny _ A (assign (.Name y py) env (.ref D)) _ _ _
  refine wpAny_assign_Name (wpAny_storeName_local hy F'.ns (fun h₂ hn₂ hs₂ => ?_) hp)
  have hL₀ : h₀.get? env.locals = none := Heap.get?_none_of_le F'.above
  have F₂ : Fr h₀ env.locals h₂ (fun z => if z = y then some (.ref D) else m z) := ⟨hn₂, fun b o e => hs₂.extBut b o (fun q => by rw [q, hL₀] at e; cases e) (F'.keep b o e), F'.above⟩
  refine ⟨m', hn.sameBut hs₂ hCL, fun h'' hs'' => fin ys D h'' _ hJ (F₂.change hs'' hCL hC₀) (fun p hp => ?_) offD⟩
  have z : h₂.get? p.1 = some p.2 := hs₂.extBut _ _ (N' p hp).2.1 (N' p hp).1
  refine ⟨hs''.extBut _ _ ?_ z, (N' p hp).2⟩
  rcases List.mem_cons.mp hp with rfl | hp
  · exact Ne.symm hCD
  · exact offC p hp
end

/-! TurnR -/
open PySem PySem.W PyProof.Rows PySem.Calls PySem.Spec
section
variable {prog : Program} {w : World} {A : Around} {E : Value → Shared → Prop} {s : Shared} {env : Env} {h₀ : Heap} {x : Str} {body : List Stmt} {Q : Flow → Shared → Prop}
/-- the end of a turn of a loop whose name is a cell -/
noncomputable def EndC (h₀ : Heap) (L : Addr) (I : Addr) (oI : Obj) (c : Addr) (J : (Str → Option Value) → Led → Prop) (s₁ : Shared) (f : Flow) (s₂ : Shared) : Prop :=
  f = .next ∧ Ex6 fun h' tk m' nx oC v => All6 (s₂ = { s₁ with heap := h', toks := tk }) (Fr h₀ L h' m') (News h₀ L h' ((I, oI) :: (c, oC) :: nx)) (∀ p ∈ nx, p.1 ≠ I ∧ p.1 ≠ c) (oC.data = .cell v) (J m' nx)
theorem EndC.mk {L I c : Addr} {oI oC : Obj} {J : (Str → Option Value) → Led → Prop} {s₁ : Shared} {h' : Heap} {tk : Nat} {m' : Str → Option Value} {v : Option Value} (nx : Led) (F : Fr h₀ L h' m') (N : News h₀ L h' ((I, oI) :: (c, oC) :: nx)) (hi : ∀ p ∈ nx, p.1 ≠ I ∧ p.1 ≠ c) (hc : oC.data = .cell v) (hj : J m' nx) :
    EndC h₀ L I oI c J s₁ .next { s₁ with heap := h', toks := tk } := ⟨rfl, h', tk, m', nx, oC, v, rfl, F, N, hi, hc, hj⟩
noncomputable def SrcC (prog : Program) (w : World) (A : Around) (h₀ : Heap) (env : Env) (c : Addr) (body : List Stmt) (Q : Flow → Shared → Prop) (xv : Value) (s : Shared) : Prop :=
  ∃ (l : Addr) (vs : List Value) (oC : Obj) (v₀ : Option Value) (m : Str → Option Value) (news : Led) (J : Nat → (Str → Option Value) → Led → Prop), xv = .ref l ∧ A.handled = none ∧ Fr h₀ env.locals s.heap m ∧ News h₀ env.locals s.heap ((c, oC) :: news) ∧ oC.data = .cell v₀ ∧ (∀ p ∈ news, p.1 ≠ c) ∧ (l, tupOf vs) ∈ news ∧ J 0 m news ∧
    (∀ (i : Nat) v I oI oC m₁ nx h tk (E' : Value → Shared → Prop), vs[i]? = some v → J i m₁ nx → oC.data = .cell (some v) → (∀ p ∈ nx, p.1 ≠ I ∧ p.1 ≠ c) → I ≠ c → (l, tupOf vs) ∈ nx → Fr h₀ env.locals h m₁ → News h₀ env.locals h ((I, oI) :: (c, oC) :: nx) →
      wpAny (model prog w) A (execs body env) (EndC h₀ env.locals I oI c (fun m' nx' => J (i + 1) m' nx' ∧ (l, tupOf vs) ∈ nx') { s with heap := h, toks := tk }) E' { s with heap := h, toks := tk }) ∧
    (∀ m₁ oC v nx h tk, J vs.length m₁ nx → oC.data = .cell v → (∀ p ∈ nx, p.1 ≠ c) → Fr h₀ env.locals h m₁ → News h₀ env.locals h ((c, oC) :: nx) → Q .next { s with heap := h, toks := tk })
theorem ForC {px pos : Pos} {iter : PySem.Expr} {c : Addr} {m : Str → Option Value} (_F : Fr h₀ env.locals s.heap m) (hk : env.scope.kind = .function) (hx : env.kindOf x = some .cell) (hc : env.cells.lookup x = some c)
    (h : wpAny (model prog w) A (eval iter env) (SrcC prog w A h₀ env c body Q) E s)
    (hs : ∀ x, foldedSetIterable iter env x = pure x := by intro _; rfl) :
    wpAny (model prog w) A (exec (.For (.Name x px) iter body [] pos) env) Q E s := by
  refine wpAny_For (wpAny_mono h (fun xv s₁ h₁ => ?_) fun _ _ e => e) hs
  obtain ⟨l, vs, oC, v₀, m, news, J, rfl, hh, F, N, hoC, offc, hl, hj, turn, done⟩ := h₁
  have hls : s₁.heap.IsTuple l vs.toArray := ⟨_, (N _ (List.mem_cons_of_mem _ hl)).1, rfl, _, rfl⟩
  have hlt : l < s₁.heap.objs.size := Heap.lt_size (N _ (List.mem_cons_of_mem _ hl)).1
  refine wpAny_pyIter_tuple hls ?_
  have W := Walks.tuple (prog := prog) (w := w) hh s₁.heap.objs.size l (Nat.ne_of_lt hlt) vs.toArray
  have hlen : vs.toArray.size = vs.length := by simp
  rw [hlen] at W
  generalize hI : s₁.heap.objs.size = I at W ⊢
  have hI₀ : h₀.get? I = none := hI ▸ next_is_new F
  have hLI : env.locals ≠ I := Nat.ne_of_lt (hI ▸ F.ns.lt)
  have hcI : c ≠ I := Nat.ne_of_lt (hI ▸ Heap.lt_size (N _ List.mem_cons_self).1)
  have hcL : c ≠ env.locals := (N _ List.mem_cons_self).2.1
  have hc₀ : h₀.get? c = none := (N _ List.mem_cons_self).2.2
  have tup : ∀ {h : Heap} {nw : Led}, News h₀ env.locals h nw → (l, tupOf vs) ∈ nw → h.IsTuple l vs.toArray := fun N hm => ⟨_, (N _ hm).1, rfl, _, rfl⟩
  have up : ∀ o b o', s₁.heap.get? b = some o' → (s₁.heap.push o).get? b = some o' := fun o b o' e => Heap.get?_push_of_some _ e
  refine codeAny_forLoop
    (fun k s' => ∃ h' tk m' nx oC v i, s' = { s₁ with heap := h', toks := tk } ∧ h'.IsTupleIter I l i ∧ Fr h₀ env.locals h' m' ∧ News h₀ env.locals h' ((c, oC) :: nx) ∧ oC.data = .cell v ∧ (∀ p ∈ nx, p.1 ≠ I ∧ p.1 ≠ c) ∧ (l, tupOf vs) ∈ nx ∧ J i m' nx ∧ i ≤ vs.length ∧ k = vs.length + 1 - i) ?_ (vs.length + 1)
    ⟨_, _, m, news, oC, v₀, 0, rfl, ?_, F.push _, (fun p hp => ⟨up _ _ _ (N p hp).1, (N p hp).2⟩), hoC, (fun p hp => ⟨Nat.ne_of_lt (hI ▸ Heap.lt_size (N p (List.mem_cons_of_mem _ hp)).1), offc p hp⟩), hl, hj, Nat.zero_le _, rfl⟩
  · rintro k s' ⟨h', tk, m', nx, oC', v', i, rfl, hst, F', N', hoC', off, hml, hJ, hi, rfl⟩
    by_cases hlt : i < vs.length
    · refine W.item i _ _ _ hlt ⟨hst, tup N' (List.mem_cons_of_mem _ hml)⟩ fun v h₁ tk₁ hP hst₁ hk₁ => ?_
      have hv : vs[i]? = some v := by simpa using hP
      have F₁ := LCg.fr_but F' hk₁ hLI hI₀
      have N₁ : News h₀ env.locals h₁ ((c, oC') :: nx) := LCg.news_but N' hk₁ fun p hp => by
        rcases List.mem_cons.mp hp with rfl | hp
        · exact hcI
        · exact (off p hp).1
      refine wpAny_assign_Name (wpAny_storeName_cell hk hx hc ⟨oC', (N₁ _ List.mem_cons_self).1, hoC'⟩ fun h₂ hc₂ hs₂ => ?_)
      obtain ⟨oC₂, he₂, hd₂⟩ := hc₂
      obtain ⟨oI, heI, hoI⟩ : ∃ o, h₂.get? I = some o ∧ h₂.IsTupleIter I l (i + 1) := by
        obtain ⟨o, e, r⟩ := hst₁.1
        have := (hs₂.2 I hcI.symm).trans e
        exact ⟨o, this, o, this, r⟩
      have F₂ : Fr h₀ env.locals h₂ m' := F₁.change hs₂ hcL hc₀
      have N₂ : News h₀ env.locals h₂ ((I, oI) :: (c, oC₂) :: nx) := fun p hp => by
        rcases List.mem_cons.mp hp with rfl | hp
        · exact ⟨heI, hLI.symm, hI₀⟩
        · rcases List.mem_cons.mp hp with rfl | hp
          · exact ⟨he₂, hcL, hc₀⟩
          · have z := N₁ p (List.mem_cons_of_mem _ hp)
            exact ⟨(hs₂.2 _ (off p hp).2).trans z.1, z.2⟩
      refine wpAny_mono (turn i v I oI oC₂ m' nx h₂ _ _ hv hJ hd₂ off hcI.symm hml F₂ N₂) (fun f s₃ h₃ => ?_) fun _ _ e => e
      obtain ⟨rfl, h₃', tk₃, m₃, nx₃, oC₃, v₃, rfl, F₃, N₃, off₃, hd₃, hJ₃, hml₃⟩ := h₃
      refine ⟨vs.length + 1 - (i + 1), by omega, h₃', tk₃, m₃, nx₃, oC₃, v₃, i + 1, rfl, ?_, F₃, fun p hp => N₃ p (List.mem_cons_of_mem _ hp), hd₃, off₃, hml₃, hJ₃, hlt, rfl⟩
      obtain ⟨o, e, r⟩ := hoI
      rw [heI] at e
      cases e
      exact ⟨oI, (N₃ _ List.mem_cons_self).1, r⟩
    · obtain rfl : i = vs.length := Nat.le_antisymm hi (Nat.not_lt.mp hlt)
      refine W.done _ _ _ ⟨hst, tup N' (List.mem_cons_of_mem _ hml)⟩ fun h₁ tk₁ hk₁ => wpAny_execs_nil ?_
      exact done m' oC' v' nx h₁ tk₁ hJ hoC' (fun p hp => (off p hp).2) (LCg.fr_but F' hk₁ hLI hI₀) (LCg.news_but N' hk₁ fun p hp => by
        rcases List.mem_cons.mp hp with rfl | hp
        · exact hcI
        · exact (off p hp).1)
  · subst hI; exact ⟨_, Heap.get?_push_size _ rfl, rfl, rfl⟩
end
section
variable {prog : Program} {w : World} {A : Around} {E : Value → Shared → Prop} {s : Shared} {h₀ : Heap} {L d : Addr} {m : Str → Option Value} {news : Led} {o : Obj}
/-- a dict whose keys are these texts, in this order -/
noncomputable def DKeys (prog : Program) (w : World) (o : Obj) (rows : List (List Nat)) : Prop := ∃ kvs, o.IsDictOf (PySem.strKind prog w) kvs ∧ kvs.map (·.1) = rows.map fun c => (⟨c.toArray⟩ : Str)
theorem stored_keys (kvs : List (Str × Value)) (k : Str) (v : Value) : (stored kvs k v).map (·.1) = if k ∈ kvs.map (·.1) then kvs.map (·.1) else kvs.map (·.1) ++ [k] := by
  unfold stored
  by_cases h : kvs.any (fun kv => decide (kv.1 = k)) = true
  · have h' : k ∈ kvs.map (·.1) := by
      obtain ⟨p, hp, e⟩ := List.any_eq_true.mp h
      exact List.mem_map.mpr ⟨p, hp, of_decide_eq_true e⟩
    rw [if_pos h, if_pos h', List.map_map]
    refine List.map_congr_left fun p _ => ?_
    simp only [Function.comp]
    split <;> rfl
  · have h' : k ∉ kvs.map (·.1) := fun hm => by
      obtain ⟨p, hp, e⟩ := List.mem_map.mp hm
      exact h (List.any_eq_true.mpr ⟨p, hp, decide_eq_true e⟩)
    rw [if_neg h, if_neg h', List.map_append]
    rfl
noncomputable def putR (ks : List (List Nat)) (r : List Nat) : List (List Nat) := if r ∈ ks then ks else ks ++ [r]
theorem str_inj {a b : List Nat} (h : (⟨a.toArray⟩ : Str) = ⟨b.toArray⟩) : a = b := by
  have := congrArg (fun z : Str => z.cps.toList) h
  simpa using this
theorem DKeys.put {kvs : List (Str × Value)} {rows : List (List Nat)} {r : List Nat} {v : Value} {o' : Obj} (e : kvs.map (·.1) = rows.map fun c => (⟨c.toArray⟩ : Str)) (h : o'.IsDictOf (PySem.strKind prog w) (stored kvs ⟨r.toArray⟩ v)) : DKeys prog w o' (putR rows r) := by
  refine ⟨_, h, ?_⟩
  rw [stored_keys, e]
  have hm : (⟨r.toArray⟩ : Str) ∈ (rows.map fun c => (⟨c.toArray⟩ : Str)) ↔ r ∈ rows := by
    refine ⟨fun h => ?_, fun h => List.mem_map.mpr ⟨r, h, rfl⟩⟩
    obtain ⟨c, hc, e⟩ := List.mem_map.mp h
    exact str_inj e ▸ hc
  unfold putR
  by_cases h : r ∈ rows
  · rw [if_pos h, if_pos (hm.mpr h)]
  · rw [if_neg h, if_neg (fun q => h (hm.mp q)), List.map_append]; rfl
theorem rl_dset {rows : List (List Nat)} {r : List Nat} {t : Tok} {v : Value} {Q : Unit → Shared → Prop} (F : Fr h₀ L s.heap m) (N : News h₀ L s.heap news) (hp : (d, o) ∈ news) (hd : DKeys prog w o rows) (hz : rows.length ≤ 1000000)
    (h : ∀ h' o', Fr h₀ L h' m → News h₀ L h' ((d, o') :: news.filter (fun p => p.1 != d)) → DKeys prog w o' (putR rows r) → Q () { s with heap := h', toks := s.toks + 1 }) : wpAny (model prog w) A (setItem (.ref d) (.str ⟨r.toArray⟩ t) v) Q E s := by
  obtain ⟨kvs, hk, he⟩ := hd
  have hm := N _ hp
  have hlen : kvs.length = rows.length := by have := congrArg List.length he; simpa using this
  refine wpAny_setItem_pairs (hsz := by rw [hlen]; exact Nat.le_trans hz (by decide)) (strKind_is _ _ _ _) (Heap.dictOf_iff.mpr ⟨o, hm.1, hk⟩) fun h' hmm hs => ?_
  obtain ⟨o', ho', hd'⟩ := Heap.dictOf_iff.mp hmm
  refine h h' o' (F.change hs hm.2.1 hm.2.2) (fun p hp' => ?_) (DKeys.put he hd')
  rcases List.mem_cons.mp hp' with rfl | hp'
  · exact ⟨ho', hm.2⟩
  · obtain ⟨h1, h2⟩ := List.mem_filter.mp hp'
    have hne : p.1 ≠ d := by simpa using h2
    exact ⟨(hs.2 p.1 hne).trans (N p h1).1, (N p h1).2⟩
theorem texts_of : ∀ {rows : List (List Nat)} {vs : List Value}, vs.length = rows.length → (∀ (j : Nat) (v : Value), vs[j]? = some v → ∃ c t, rows[j]? = some c ∧ v = .str ⟨List.toArray c⟩ t) → Texts vs rows
  | [], [], _, _ => .nil
  | [], _ :: _, h, _ => by simp at h
  | _ :: _, [], h, _ => by simp at h
  | r :: rows, v :: vs, h, hv => by
    obtain ⟨c, t, e1, e2⟩ := hv 0 v rfl
    simp at e1
    subst e1; subst e2
    exact .cons (texts_of (by simpa using h) fun j u hu => by simpa using hv (j + 1) u (by simpa using hu))
theorem rl_dlist {rows : List (List Nat)} {Q : Value → Shared → Prop} (hh : A.handled = none) (F : Fr h₀ L s.heap m) (N : News h₀ L s.heap news) (hp : (d, o) ∈ news) (hd : DKeys prog w o rows) (lo : (d == sysModules) = false) (hz : rows.length ≤ 1000000)
    (h : ∀ (B : Addr) c h' tk vs, Fr h₀ L h' m → News h₀ L h' ((B, listOf (List.toArray vs) c) :: news) → (∀ q ∈ news, q.1 < B) → Texts vs rows → Q (.ref B) { s with heap := h', toks := tk }) :
    wpAny (model prog w) A (call (.type "list") [.ref d]) Q E s := by
  obtain ⟨kvs, hk, he⟩ := hd
  have hlen : kvs.length = rows.length := by have := congrArg List.length he; simpa using this
  obtain ⟨ep, hat⟩ := (kda_dict N hp hk).dictAt
  refine kdl_N (kdl_dict (knd := PySem.strKind prog w) (kvs := kvs) (ep := ep) lo) hh F N hat (kdl_size (by rw [hlen]; exact Nat.le_trans hz (by decide))) fun B c h' tk vs F' N' l1 hl hv => ?_
  refine h B c h' tk vs F' N' l1 (texts_of (hl.trans hlen) fun j v hj => ?_)
  obtain ⟨k, x, hx, hk⟩ := hv j v hj
  obtain ⟨t, rfl⟩ := Value.isStrOf_shape hk
  have e2 : (kvs.map (·.1))[j]? = some k := by rw [List.getElem?_map, hx]; rfl
  rw [he, List.getElem?_map] at e2
  cases hr : rows[j]? with
  | none => rw [hr] at e2; cases e2
  | some c =>
    rw [hr] at e2
    exact ⟨c, t, rfl, by cases (Option.some.inj e2); rfl⟩
end

/-! TurnP -/
open PySem PySem.W PyProof.Rows PySem.Calls PySem.Spec
noncomputable def rowsStep (rows ts : List (List Nat)) : List (List Nat) := rows.flatMap fun r => ts.map fun t => r ++ t
noncomputable def orderRows (l : Nat) (tt : List (List (List Nat))) (order : List Nat) : List (List Nat) := order.foldl (fun rows k => rowsStep rows (tt.getD k [])) [[l]]
noncomputable def addAll (ks rows : List (List Nat)) : List (List Nat) := rows.foldl putR ks
noncomputable def orders2 : List (List Nat) := [[0, 1], [1, 0]]
noncomputable def orders3 : List (List Nat) := [[0, 1, 2], [0, 2, 1], [1, 0, 2], [1, 2, 0], [2, 0, 1], [2, 1, 0]]
noncomputable def ordersOf (n : Nat) : List (List Nat) := if n = 3 then orders3 else orders2
noncomputable def nodeTurns (l : Nat) (tt : List (List (List Nat))) : List (List Nat) := (ordersOf tt.length).foldl (fun ks o => addAll ks (orderRows l tt o)) []
noncomputable def turnsOf : Tr → List (List Nat)
  | .leaf c => [[c]]
  | .two l a b => nodeTurns l [turnsOf a, turnsOf b]
  | .three l a b c => nodeTurns l [turnsOf a, turnsOf b, turnsOf c]


/-! bounds -/
theorem length_flatMap_le {α β : Type} (f : α → List β) (b : Nat) : ∀ l : List α, (∀ x ∈ l, (f x).length ≤ b) → (l.flatMap f).length ≤ l.length * b
  | [], _ => by simp
  | x :: r, h => by
    rw [List.flatMap_cons, List.length_append, List.length_cons, Nat.add_mul, Nat.one_mul]
    have h1 := h x List.mem_cons_self
    have h2 := length_flatMap_le f b r fun y hy => h y (List.mem_cons_of_mem _ hy)
    omega
noncomputable def BR (j : Nat) (rows : List (List Nat)) : Prop := rows.length ≤ 40 ^ j ∧ ∀ r ∈ rows, r.length ≤ 1 + 100 * j
theorem BR.step {j : Nat} {rows ts : List (List Nat)} (h : BR j rows) (h1 : ts.length ≤ 40) (h2 : ∀ r ∈ ts, r.length ≤ 100) : BR (j + 1) (rowsStep rows ts) := by
  refine ⟨?_, fun r hr => ?_⟩
  · refine Nat.le_trans (length_flatMap_le _ 40 rows fun x _ => by rw [List.length_map]; exact h1) ?_
    rw [Nat.pow_succ]; exact Nat.mul_le_mul_right _ h.1
  · obtain ⟨x, hx, hr⟩ := List.mem_flatMap.mp hr
    obtain ⟨t, ht, rfl⟩ := List.mem_map.mp hr
    rw [List.length_append]
    have := h.2 x hx
    have := h2 t ht
    omega
theorem putR_len (ks : List (List Nat)) (r : List Nat) : (putR ks r).length ≤ ks.length + 1 := by
  unfold putR; split
  · omega
  · rw [List.length_append, List.length_singleton]; exact Nat.le_refl _
theorem addAll_len (rows : List (List Nat)) : ∀ ks, (addAll ks rows).length ≤ ks.length + rows.length := by
  induction rows with
  | nil => intro ks; exact Nat.le_refl _
  | cons r rest ih =>
    intro ks
    have h1 := ih (putR ks r)
    have h2 := putR_len ks r
    show (addAll (putR ks r) rest).length ≤ _
    rw [List.length_cons]; omega
theorem order_bounds (n : Nat) (hn : n = 2 ∨ n = 3) : (ordersOf n).length ≤ 6 ∧ ∀ o ∈ ordersOf n, o.length ≤ 3 ∧ ∀ k ∈ o, k < n := by
  rcases hn with rfl | rfl
  · exact ⟨by decide, by decide⟩
  · exact ⟨by decide, by decide⟩
theorem fold_BR {l : Nat} {tt : List (List (List Nat))} (hb : ∀ ts ∈ tt, ts.length ≤ 40 ∧ ∀ r ∈ ts, r.length ≤ 100) (o : List Nat) (hk : ∀ k ∈ o, k < tt.length) : ∀ j, BR (o.take j).length ((o.take j).foldl (fun rows k => rowsStep rows (tt.getD k [])) [[l]]) := by
  have key : ∀ (o : List Nat) (i : Nat) (rows : List (List Nat)), (∀ k ∈ o, k < tt.length) → BR i rows → BR (i + o.length) (o.foldl (fun rows k => rowsStep rows (tt.getD k [])) rows) := by
    intro o
    induction o with
    | nil => intro i rows _ h; exact h
    | cons k r ih =>
      intro i rows hk h
      have hk' := hk k List.mem_cons_self
      have hm : tt.getD k [] ∈ tt := by
        rw [List.getD_eq_getElem?_getD, List.getElem?_eq_getElem hk']; exact List.getElem_mem hk'
      have := ih (i + 1) _ (fun k hk9 => hk k (List.mem_cons_of_mem _ hk9)) (h.step (hb _ hm).1 (hb _ hm).2)
      rw [List.foldl_cons, List.length_cons]
      have e : i + (r.length + 1) = i + 1 + r.length := by omega
      rw [e]; exact this
  intro j
  have := key (o.take j) 0 [[l]] (fun k hk9 => hk k (List.mem_of_mem_take hk9)) ⟨Nat.le_refl _, fun r hr => by rw [List.mem_singleton.mp hr]; exact Nat.le_refl _⟩
  rw [Nat.zero_add] at this; exact this
/-! the comprehension of two clauses -/
noncomputable def CJ (rows ts : List (List Nat)) (i j : Nat) : List (List Nat) := (rows.take i).flatMap (fun r => ts.map fun t => r ++ t) ++ ((rows.drop i).take 1).flatMap fun r => (ts.take j).map fun t => r ++ t
theorem CJ_zero (rows ts : List (List Nat)) (i : Nat) : CJ rows ts i 0 = (rows.take i).flatMap fun r => ts.map fun t => r ++ t := by
  unfold CJ
  have : ∀ l : List (List Nat), (l.flatMap fun r => (ts.take 0).map fun t => r ++ t) = [] := by
    intro l
    induction l with
    | nil => rfl
    | cons a r ih => rw [List.flatMap_cons, ih]; rfl
  rw [this, List.append_nil]
theorem CJ_next (rows ts : List (List Nat)) (i : Nat) : CJ rows ts i ts.length = CJ rows ts (i + 1) 0 := by
  rw [CJ_zero]
  unfold CJ
  rw [List.take_length, List.take_add, List.flatMap_append]
theorem CJ_step {rows ts : List (List Nat)} {i j : Nat} {r t : List Nat} (hr : rows[i]? = some r) (ht : ts[j]? = some t) : CJ rows ts i (j + 1) = CJ rows ts i j ++ [r ++ t] := by
  unfold CJ
  have hi := (List.getElem?_eq_some_iff.mp hr).1
  have e : (rows.drop i).take 1 = [r] := by
    rw [List.drop_eq_getElem_cons hi]
    have : rows[i] = r := (List.getElem?_eq_some_iff.mp hr).2
    simp [this]
  rw [e, List.take_add_one, ht]
  simp
theorem CJ_len {rows ts : List (List Nat)} {i j : Nat} (hi : i < rows.length) : (CJ rows ts i j).length ≤ (i + 1) * ts.length := by
  unfold CJ
  rw [List.length_append]
  have h1 := length_flatMap_le (fun r => ts.map fun t => r ++ t) ts.length (rows.take i) fun x _ => by rw [List.length_map]; exact Nat.le_refl _
  have h2 := length_flatMap_le (fun r => (ts.take j).map fun t => r ++ t) ts.length ((rows.drop i).take 1) fun x _ => by rw [List.length_map, List.length_take]; exact Nat.min_le_right _ _
  have e1 : (rows.take i).length = i := by rw [List.length_take]; omega
  have e2 : ((rows.drop i).take 1).length ≤ 1 := by rw [List.length_take]; omega
  rw [e1] at h1
  have h3 : ((rows.drop i).take 1).length * ts.length ≤ 1 * ts.length := Nat.mul_le_mul_right _ e2
  rw [Nat.add_mul]
  omega
theorem CJ_all (rows ts : List (List Nat)) : CJ rows ts rows.length 0 = rowsStep rows ts := by
  rw [CJ_zero, List.take_length]; rfl

/-! Turns -/
open PySem PySem.W PyProof.Rows PySem.Calls PySem.Spec
theorem kfill8 : (fun (_ : OpenLaw) (_ : Params → Frag) => True) PySem.Challenge.rw_re0162_01 devHeap := by k_fill; trivial

noncomputable def TRel (t : Tr) (news : Led) (vs : List Value) : Prop := ∃ v, vs = [v] ∧ Rep news v t
noncomputable def TOut (rows : List (List Nat)) (tl : Led) (r : Value) : Prop := ∃ q n us, r = .ref q ∧ (q, listOf (List.toArray us) n) ∈ tl ∧ Texts us rows
noncomputable def NRel (l : Nat) (cs : List Tr) (news : Led) (vs : List Value) : Prop :=
  ∃ a q lt n cv, vs = [.ref a] ∧ (a, tupOf [.str ⟨#[l]⟩ lt, .ref q]) ∈ news ∧ (q, listOf (List.toArray cv) n) ∈ news ∧ RepL news cv cs
/-- lists of rows, one for each part -/
inductive RowsL (news : Led) : List Value → List (List (List Nat)) → Prop where
  | nil : RowsL news [] []
  | cons {q : Addr} {n : Nat} {us vs : List Value} {ts : List (List Nat)} {tt : List (List (List Nat))} : (q, listOf us.toArray n) ∈ news → Texts us ts → RowsL news vs tt → RowsL news (.ref q :: vs) (ts :: tt)
theorem RowsL.mono {news news' : Led} {vs : List Value} {tt : List (List (List Nat))} (h : RowsL news vs tt) (k : ∀ p ∈ news, p ∈ news') : RowsL news' vs tt := by
  induction h with
  | nil => exact .nil
  | cons h1 h2 _ ih => exact .cons (k _ h1) h2 ih
theorem RowsL.append {news : Led} {vs vs' : List Value} {tt tt' : List (List (List Nat))} (h : RowsL news vs tt) (h' : RowsL news vs' tt') : RowsL news (vs ++ vs') (tt ++ tt') := by
  induction h with
  | nil => exact h'
  | cons h1 h2 _ ih => exact .cons h1 h2 ih
theorem RowsL.len {news : Led} {vs : List Value} {tt : List (List (List Nat))} (h : RowsL news vs tt) : vs.length = tt.length := by
  induction h with
  | nil => rfl
  | cons _ _ _ ih => simp [ih]
theorem RowsL.get {news : Led} {vs : List Value} {tt : List (List (List Nat))} (h : RowsL news vs tt) {i : Nat} (hi : i < tt.length) : ∃ q n us, vs[i]? = some (.ref q) ∧ (q, listOf (List.toArray us) n) ∈ news ∧ Texts us (tt.getD i []) := by
  induction h generalizing i with
  | nil => simp at hi
  | cons h1 h2 _ ih => cases i with
    | zero => exact ⟨_, _, _, rfl, h1, h2⟩
    | succ i => simpa using ih (by simpa using hi)
inductive OrdIn (news : Led) : List Value → List (List Nat) → Prop where
  | nil : OrdIn news [] []
  | cons {q : Addr} {us vs : List Value} {o : List Nat} {os : List (List Nat)} : (q, tupOf us) ∈ news → IntsAre us (o.map fun (c : Nat) => (c : Int)) → OrdIn news vs os → OrdIn news (.ref q :: vs) (o :: os)
theorem OrdIn.len {news : Led} {vs : List Value} {os : List (List Nat)} (h : OrdIn news vs os) : vs.length = os.length := by
  induction h with
  | nil => rfl
  | cons _ _ _ ih => simp [ih]
theorem OrdIn.get {news : Led} {vs : List Value} {os : List (List Nat)} (h : OrdIn news vs os) {i : Nat} {v : Value} (e : vs[i]? = some v) : ∃ q us o, v = .ref q ∧ os[i]? = some o ∧ (q, tupOf us) ∈ news ∧ IntsAre us (o.map fun (c : Nat) => (c : Int)) := by
  induction h generalizing i with
  | nil => simp at e
  | cons h1 h2 _ ih => cases i with
    | zero => simp at e; subst e; exact ⟨_, _, _, rfl, rfl, h1, h2⟩
    | succ i => simp at e; obtain ⟨q, us, o, a, b, c, d⟩ := ih e; exact ⟨q, us, o, a, by simpa using b, c, d⟩
noncomputable def firstI (l : Nat) (tt : List (List (List Nat))) (os : List (List Nat)) : List (List Nat) := os.foldl (fun ks o => addAll ks (orderRows l tt o)) []
/-- behind the orders -/
noncomputable def TMid (prog : Program) (w : World) (g' : Heap) (L' a' : Addr) (tt : List (List (List Nat))) (news : Led) (s₁ s' : Shared) : Prop :=
  Ex15 fun h tk m D2 n2 dF oL ords n o R0 ys oK oT v0 => All20 (s' = { s₁ with heap := h, toks := tk }) (Fr g' L' h m) (News g' L' h ((L' + 1 + 1, oK) :: (dF, o) :: (L' + 1, oT) :: R0)) (oT.data = .cell (some (.ref D2))) (oK.data = .cell v0) (m (Str.ofString "found") = some (.ref dF)) (m (Str.ofString "orders") = some (.ref oL)) (m (Str.ofString "tree") = some (.ref a')) ((oL, listOf (List.toArray ords) n) ∈ R0) (OrdIn R0 ords (ordersOf tt.length)) ((D2, listOf (List.toArray ys) n2) ∈ R0) (RowsL R0 ys tt) (DKeys prog w o []) ((dF == sysModules) = false) (∀ q ∈ R0, q.1 ≠ L' + 1) (∀ q ∈ R0, q.1 ≠ L' + 1 + 1) (∀ q ∈ R0, q.1 ≠ dF) (@Ne Nat dF (L' + 1)) (@Ne Nat dF (L' + 1 + 1)) (∀ p ∈ news, p ∈ R0)
theorem reord2 {h₀ h : Heap} {L : Addr} {R0 : Led} {a b c1 c2 d e f : Addr × Obj} (N : News h₀ L h (a :: b :: c1 :: c2 :: d :: e :: f :: R0)) : News h₀ L h (e :: a :: f :: b :: c1 :: c2 :: d :: R0) := fun p hp => N p (by
  repeat (rcases List.mem_cons.mp hp with h | hp; focus (rw [h]; repeat' (first | with_reducible exact List.mem_cons_self | refine List.mem_cons_of_mem _ ?_)))
  repeat' (first | exact hp | refine List.mem_cons_of_mem _ ?_))
theorem reord6 {h₀ h : Heap} {L : Addr} {R0 : Led} {a b c1 c2 c3 c4 c5 c6 x1 x2 x3 d e f : Addr × Obj} (N : News h₀ L h (a :: b :: c1 :: c2 :: c3 :: c4 :: c5 :: c6 :: x1 :: x2 :: x3 :: d :: e :: f :: R0)) : News h₀ L h (e :: a :: f :: b :: c1 :: c2 :: c3 :: c4 :: c5 :: c6 :: x1 :: x2 :: x3 :: d :: R0) := fun p hp => N p (by
  repeat (rcases List.mem_cons.mp hp with h | hp; focus (rw [h]; repeat' (first | with_reducible exact List.mem_cons_self | refine List.mem_cons_of_mem _ ?_)))
  repeat' (first | exact hp | refine List.mem_cons_of_mem _ ?_))
section
variable {w : World} {loose : List Str} {mean : ExcName → Option Value} {mg mb : Str → Option Value}
local macro_rules | `(tactic| walk_at "exec For Name Name cons nil") => `(tactic| (k_extra "own exec For Name Name cons nil"; ((rename Fr _ _ _ _ => lF'); first | (with_unfolding_all refine' For_invVF lF' ?k1 ?k2 ?_; (case k1 => exact rfl); (case k2 => exact rfl); k_whole) | (with_unfolding_all refine' ForC lF' ?k1 ?k2 ?k3 ?_; (case k1 => exact rfl); (case k2 => exact rfl); (case k3 => exact rfl); k_whole))))
set_option maxHeartbeats 2000000 in
theorem turns_leaf (c : Nat) : Ct w loose mean mg mb 201 4 (TRel (.leaf c)) (fun _ _ tl r => TOut (turnsOf (.leaf c)) tl r) := by
  k_with_none
  k_with "ne" => ((try dsimp only); with_reducible first | assumption | exact Ne.symm (by assumption) | exact Nat.ne_of_lt (by assumption) | exact Nat.ne_of_gt (by assumption) | fail "ne")
  k_with "lt1" => skip
  k_with "all" => first | exact off_lt (by assumption) | assumption | exact List.forall_mem_nil _ | exact List.forall_mem_cons.mpr ⟨by k_ne, by k_all⟩
  k_with "mem" => first | with_reducible assumption | exact List.mem_cons_self | (refine List.mem_cons_of_mem _ ?_; k_mem) | (refine List.mem_append_right _ ?_; k_mem) | (refine List.mem_append_left _ ?_; k_mem)
  k_with "enter" => (refine' code_defC ?zqk1 ?zqk2 ?zqk3 ?zqk4 ?zqk5 ?zqkA ?zqkF ?zqkK ?zqk6 ?zqk7 ?zqk8 ?zqk9 ?zqkB ?zqkD ?_ ?zqc2 ?zqc3 ?zqc4; (case zqkA => exact rfl); (case zqkF => exact rfl); (case zqkK => assumption); (case zqk1 => k_asm); (case zqk2 => k_asm); (case zqk3 => k_asm); (case zqk4 => k_asm); (case zqk5 => k_asm); (case zqk6 => k_is); (case zqk7 => k_is); (case zqk8 => ktr_room); (case zqk9 => exact BindsTo.of_eq rfl); (case zqkB => exact rfl); (case zqkD => decide +kernel); (case zqc2 => exact rfl); (case zqc3 => exact rfl); (case zqc4 => exact rfl); k_whole)
  k_with "own exec For Name Name cons nil" => skip
  k_with "exec Assign cons ListComp" => (k_here; (with_reducible show wpAny _ _ (exec (Stmt.Assign _ (PySem.Expr.ListComp _ [_, _] _ _) _) _) _ _ _); k_dflt (refine Assign2 (F₀ := by k_asm) (by rfl) (by with_unfolding_all rfl) (by with_unfolding_all rfl) (by decide) (by rfl) (by decide) (by rfl) (by rfl) (by decide +kernel) (by rfl) (by rfl) ?_))
  k_with "subscriptTail Name Name ref int" => (k_here; (with_reducible show wpAny _ _ (subscriptTail _ _ (Value.ref _) (Value.int _ _)) _ _ _); k_dflt (refine' rl_item ?zqk1 ?zqk2 ?zqa ?zqb ?zqd ?_ ?zqs ?zqt; (case zqk1 => k_asm); (case zqk2 => k_mem); (case zqa => first | omega | assumption); (case zqb => first | assumption | omega); (case zqd => assumption); (case zqs => with_unfolding_all rfl); (case zqt => (intro _; with_unfolding_all rfl))))
  k_with "binaryOp Add str str" => (k_here; (with_reducible show wpAny _ _ (binaryOp _ (Value.str _ _) (Value.str _ _)) _ _ _); (refine' rl_adds ?zqk1 ?_; (case zqk1 => omega)); intro _ _)
  k_with "setItem ref str" => (k_here; k_dflt (refine' rl_dset ?zqk1 ?zqk2 ?zqk3 ?zqk4 ?zqk5 ?_; (case zqk1 => k_asm); (case zqk2 => k_asm); (case zqk3 => k_mem); (case zqk4 => assumption); (case zqk5 => omega)); intro _ _ _ _ _)
  k_with "call type:list" => (k_here; (with_reducible show wpAny _ _ (call (Value.type "list") [Value.ref _]) _ _ _); k_dflt (refine' rl_dlist rfl ?zqk1 ?zqk2 ?zqk3 ?zqk4 ?zqk5 ?zqk6 ?_; (case zqk1 => k_asm); (case zqk2 => k_asm); (case zqk3 => k_mem); (case zqk4 => assumption); (case zqk5 => assumption); (case zqk6 => omega)); intro _ _ _ _ _ _ _ _ _)
  k_with "eval ListComp" => (k_here; k_dflt (refine LCg.ListComp_U (F₀ := by k_asm) (by with_unfolding_all rfl) (by decide) (by rfl) (by decide) (by rfl) ?_))
  k_with "call builtin:len" => (k_here; (with_reducible show wpAny _ _ (call (Value.builtin "len") [Value.ref _]) _ _ _); refine' rl_len ?zqk1 ?zqk2 ?zqk3 ?_; (case zqk1 => k_asm); (case zqk2 => k_mem); (case zqk3 => assumption))
  k_with "call ref" => (k_here; k_dflt (refine' ct_use ?zqC ?zqk1 ?zqk2 ?zqk3 ?zqk4 ?zqk5 ?zqkK ?zqkR ?zqkd ?zqku ?_; (case zqC => assumption); (case zqk1 => k_asm); (case zqk2 => k_asm); (case zqk3 => k_asm); (case zqk4 => k_asm); (case zqk5 => k_asm); (case zqkK => first | exact rfl | assumption); (case zqkR => exact ⟨_, rfl, Rep.mono (by assumption) (fun p hp => by k_mem)⟩); (case zqkd => ktr_room); (case zqku => ktr_units); intro _ _ _ _ _ _ _ _; (try dsimp only)))
  unfold Ct
  intro dp un gd cn cs a ccd cl outer A₀ base h₀ L m news s vs Q E B F X N T hk hR hd hu hret
  obtain ⟨v, rfl, hr⟩ := hR
  cases hr
  rename_i t9
  refine wpAny_call ?_
  k_dflt ktr_enter
  k_steps
  (with_reducible rename Fr _ _ _ _ => kF9); (with_reducible rename News _ _ _ _ => kN9)
  rename_i D9 _ _ _ l19 _ _ _
  refine hret _ [(D9, listOf (List.toArray [.str ⟨#[c]⟩ t9]) 0)] _ _ kF9 (fun p hp => kN9 p ?_) (fun q hq p hp => ?_) ⟨D9, 0, _, rfl, List.mem_cons_self, .cons .nil⟩
  · rcases List.mem_cons.mp hp with rfl | hp
    · exact List.mem_cons_self
    · exact List.mem_cons_of_mem _ (List.mem_cons_of_mem _ (List.mem_cons_of_mem _ hp))
  · rw [List.mem_singleton.mp hp]; exact l19 q (by k_mem)
set_option maxHeartbeats 16000000 in
theorem turns_node (l : Nat) (cs : List Tr) (sz : Nat) (hc : cs.length = 2 ∨ cs.length = 3) (hb : ∀ c ∈ cs, (turnsOf c).length ≤ 40 ∧ ∀ r ∈ turnsOf c, r.length ≤ 100) (ih : ∀ c ∈ cs, Ct w loose mean mg mb 201 sz (TRel c) (fun _ _ tl r => TOut (turnsOf c) tl r)) :
    Ct w loose mean mg mb 201 (sz + 4) (NRel l cs) (fun _ _ tl r => TOut (nodeTurns l (cs.map turnsOf)) tl r) := by
  unfold Ct
  intro dp un gd cn cs' a ccd cl outer A₀ base h₀ L m news s vs Q E B F X N T hk hR hd hu hret
  obtain ⟨a', q, lt, n, cv, rfl, ha, hq, hr⟩ := hR
  have hlen := hr.len
  have hsm : Sm cv := by unfold Sm; omega
  refine wpAny_call ?_
  k_dflt ktr_enter
  (with_reducible rename Fr _ _ _ _ => lF); (with_reducible rename News _ _ _ _ => lN)
  rename_i g' L' _ _ FG9 B9 X9 T9 lA oK oT dK dT
  have dT' : oT.data = .cell none := dT
  have dK' : oK.data = .cell none := dK
  clear dT dK
  have hAn : ∀ p ∈ news, @LT.lt Nat _ p.1 L' := fun p hp => lA p hp
  generalize htt : cs.map turnsOf = tt
  have httl : tt.length = cs.length := by rw [← htt, List.length_map]
  have hbt : ∀ ts ∈ tt, ts.length ≤ 40 ∧ ∀ r ∈ ts, r.length ≤ 100 := by
    rw [← htt]; intro ts hts; obtain ⟨c, hc, rfl⟩ := List.mem_map.mp hts; exact hb c hc
  refine exec_cut (pre := [_, _, _, _, _]) (post := [_, _]) (TMid PySem.Challenge.rw_re0162_01.row.prog w g' L' a' tt news s) rfl ?_ ?_
  · intro Q8 hQ8
    k_steps
    (with_reducible rename Fr _ _ _ _ => lF); (with_reducible rename News _ _ _ _ => lN)
    refine LCg.CompSrc.ledger rfl lF lN (List.mem_cons_of_mem _ (List.mem_cons_of_mem _ hq)) (Sm.sz hsm) ?_
    intro gg
    generalize hN0 : (_ :: _ :: news : Led) = N0 at lN ⊢
    have hsub : ∀ p ∈ news, p ∈ N0 := by subst hN0; intro p hp; k_mem
    have hqN := hsub _ hq
    refine comp_rest (fun i ys nx => ∃ extra, nx = extra ++ N0 ∧ (∀ p' ∈ extra, ∀ p ∈ N0, p.1 < p'.1) ∧ RowsL extra ys ((cs.take i).map turnsOf)) ?_ ⟨[], rfl, (fun _ h => nomatch h), RowsL.nil⟩ ?_ ?_
    · rintro i ys nx ⟨extra, rfl, -, -⟩
      exact .inr ⟨_, List.mem_append_right _ hqN, rfl, _, rfl⟩
    · clear lF lN
      rintro i v I oI C oC D m₂ ys nx h tk E' hi hv ⟨extra, rfl, hord, hys⟩ hC hx F₁ N₁ off Q9 hQ9
      obtain ⟨c, hc', hrep⟩ := hr.get (by simpa using hv)
      have hct := ih c (List.mem_of_getElem? hc')
      have hrep' := hrep.mono hsub
      k_steps
      (with_reducible rename Fr _ _ _ _ => eF); (with_reducible rename News _ _ _ _ => eN)
      rename TOut _ _ _ => ho
      obtain ⟨q9, n9, us9, rfl, hq9, ht9⟩ := ho
      rename ∀ q ∈ _ :: _ :: _ :: (extra ++ N0), _ => hab
      refine hQ9 _ _ ?_
      refine EltE.mk _ eF eN (fun p hp q hq => hab q hq p hp) off ⟨_ ++ extra, (List.append_assoc _ _ _).symm, fun p' hp' p hp => ?_, ?_⟩
      · rcases List.mem_append.mp hp' with h' | h'
        · exact hab p (by k_mem) p' h'
        · exact hord p' h' p hp
      · rw [List.take_add_one, hc', Option.toList_some, List.map_append]
        exact (hys.mono fun p hp => List.mem_append_right _ hp).append (.cons (List.mem_append_left _ hq9) ht9 .nil)
    · rintro ys nx ⟨extra, rfl, hord, hys⟩
      unfold LCg.FinE
      intro D2 h2 tk2 F2 N2 o2
      have o2' := off1_of o2
      clear lF lN
      rw [List.take_of_length_le (by rw [List.size_toArray]; omega), htt] at hys
      have hyl := hys.len
      have hysm : Sm ys := by unfold Sm; omega
      subst hN0
      have hoT : @Ne Nat (L' + 1) D2 := o2' (L' + 1, oT) (by k_mem)
      have hoK : @Ne Nat (L' + 1 + 1) D2 := o2' (L' + 1 + 1, oK) (by k_mem)
      have N3 : News g' L' h2 ((D2, listOf (List.toArray ys) ys.length) :: (L' + 1 + 1, oK) :: (L' + 1, oT) :: (extra ++ news)) := fun p hp => N2 p (by
        simp only [List.mem_cons, List.mem_append] at hp ⊢
        rcases hp with h | h | h | h | h
        · exact .inl h
        · exact .inr (.inr (.inl h))
        · exact .inr (.inr (.inr (.inl h)))
        · exact .inr (.inl h)
        · exact .inr (.inr (.inr (.inr h))))
      have offT : ∀ q ∈ extra ++ news, q.1 ≠ L' + 1 := fun q hq => by
        rcases List.mem_append.mp hq with h | h
        · exact Nat.ne_of_gt (hord q h (L' + 1, oT) (by k_mem))
        · have := hAn q h; exact Nat.ne_of_lt (Nat.lt_succ_of_lt this)
      have offK : ∀ q ∈ extra ++ news, q.1 ≠ L' + 1 + 1 := fun q hq => by
        rcases List.mem_append.mp hq with h | h
        · exact Nat.ne_of_gt (hord q h (L' + 1 + 1, oK) (by k_mem))
        · have := hAn q h; exact Nat.ne_of_lt (Nat.lt_succ_of_lt (Nat.lt_succ_of_lt this))
      have offD : ∀ q ∈ extra ++ news, q.1 ≠ D2 := fun q hq => o2' q (by
        rcases List.mem_append.mp hq with h | h
        · exact List.mem_append_left _ h
        · exact List.mem_append_right _ (by k_mem))
      have hysR := hys.mono (news' := extra ++ news) fun p hp => List.mem_append_left _ hp
      have hnR : ∀ p ∈ news, p ∈ extra ++ news := fun p hp => List.mem_append_right _ hp
      clear N2 o2 o2' hqN hsub hord hys
      generalize extra ++ news = R0 at N3 offT offK offD hysR hnR
      have haR := hnR _ ha
      rcases hc with hc | hc
      · obtain ⟨y0, y1, rfl⟩ : ∃ y0 y1, ys = [y0, y1] := by
          exact len2 (hyl.trans (httl.trans hc))
        k_steps
        · rename ((_ : Nat) : Int) = 3 => hbad
          simp at hbad
        (with_reducible rename Fr _ _ _ _ => eF); (with_reducible rename News _ _ _ _ => eN)
        rename (_ == sysModules) = false => hlo
        rename Obj.IsDictOf (PySem.strKind _ _) _ [] => hdk
        rename _ = Data.cell (some (Value.ref D2)) => hcT
        rename ∀ p ∈ (_, listOf _ 0) :: _, _ => hl9
        have hords : ordersOf tt.length = orders2 := by rw [httl, hc]; rfl
        refine hQ8 _ ?_
        refine ⟨_, _, _, D2, _, _, _, [_, _], 0, _, _, _, oK, _, none, rfl, eF, reord2 eN, hcT, dK', rfl, rfl, rfl, List.mem_cons_self, ?_, by k_mem, hysR.mono fun p hp => by k_mem, ⟨[], hdk, rfl⟩, hlo, ?_, ?_, fun q hq => Nat.ne_of_lt (hl9 q ?_), by k_ne, by k_ne, fun p hp => by have := hnR p hp; k_mem⟩
        · rw [hords]
          exact .cons (by k_mem) (by repeat constructor) (.cons (by k_mem) (by repeat constructor) (.nil))
        · exact List.forall_mem_cons.mpr ⟨by k_ne, List.forall_mem_cons.mpr ⟨by k_ne, List.forall_mem_cons.mpr ⟨by k_ne, List.forall_mem_cons.mpr ⟨by k_ne, offT⟩⟩⟩⟩
        · exact List.forall_mem_cons.mpr ⟨by k_ne, List.forall_mem_cons.mpr ⟨by k_ne, List.forall_mem_cons.mpr ⟨by k_ne, List.forall_mem_cons.mpr ⟨by k_ne, offK⟩⟩⟩⟩
        · repeat (rcases List.mem_cons.mp hq with h | hq; focus (rw [h]; repeat' (first | with_reducible exact List.mem_cons_self | refine List.mem_cons_of_mem _ ?_)))
          repeat' (first | exact hq | refine List.mem_cons_of_mem _ ?_)
      · obtain ⟨y0, y1, y2, rfl⟩ : ∃ y0 y1 y2, ys = [y0, y1, y2] := by
          exact len3 (hyl.trans (httl.trans hc))
        k_steps
        rotate_left
        · rename ((_ : Nat) : Int) ≠ 3 => hbad
          simp at hbad
        (with_reducible rename Fr _ _ _ _ => eF); (with_reducible rename News _ _ _ _ => eN)
        rename (_ == sysModules) = false => hlo
        rename Obj.IsDictOf (PySem.strKind _ _) _ [] => hdk
        rename _ = Data.cell (some (Value.ref D2)) => hcT
        rename ∀ p ∈ (_, listOf _ 0) :: _, _ => hl9
        have hords : ordersOf tt.length = orders3 := by rw [httl, hc]; rfl
        refine hQ8 _ ?_
        refine ⟨_, _, _, D2, _, _, _, [_, _, _, _, _, _], 0, _, _, _, oK, _, none, rfl, eF, reord6 eN, hcT, dK', rfl, rfl, rfl, List.mem_cons_self, ?_, by k_mem, hysR.mono fun p hp => by k_mem, ⟨[], hdk, rfl⟩, hlo, ?_, ?_, fun q hq => Nat.ne_of_lt (hl9 q ?_), by k_ne, by k_ne, fun p hp => ?_⟩
        · rw [hords]
          exact .cons (by k_mem) (by repeat constructor) (.cons (by k_mem) (by repeat constructor) (.cons (by k_mem) (by repeat constructor) (.cons (by k_mem) (by repeat constructor) (.cons (by k_mem) (by repeat constructor) (.cons (by k_mem) (by repeat constructor) (.nil))))))
        · exact List.forall_mem_cons.mpr ⟨by k_ne, List.forall_mem_cons.mpr ⟨by k_ne, List.forall_mem_cons.mpr ⟨by k_ne, List.forall_mem_cons.mpr ⟨by k_ne, List.forall_mem_cons.mpr ⟨by k_ne, List.forall_mem_cons.mpr ⟨by k_ne, List.forall_mem_cons.mpr ⟨by k_ne, List.forall_mem_cons.mpr ⟨by k_ne, List.forall_mem_cons.mpr ⟨by k_ne, List.forall_mem_cons.mpr ⟨by k_ne, List.forall_mem_cons.mpr ⟨by k_ne, offT⟩⟩⟩⟩⟩⟩⟩⟩⟩⟩⟩
        · exact List.forall_mem_cons.mpr ⟨by k_ne, List.forall_mem_cons.mpr ⟨by k_ne, List.forall_mem_cons.mpr ⟨by k_ne, List.forall_mem_cons.mpr ⟨by k_ne, List.forall_mem_cons.mpr ⟨by k_ne, List.forall_mem_cons.mpr ⟨by k_ne, List.forall_mem_cons.mpr ⟨by k_ne, List.forall_mem_cons.mpr ⟨by k_ne, List.forall_mem_cons.mpr ⟨by k_ne, List.forall_mem_cons.mpr ⟨by k_ne, List.forall_mem_cons.mpr ⟨by k_ne, offK⟩⟩⟩⟩⟩⟩⟩⟩⟩⟩⟩
        · repeat (rcases List.mem_cons.mp hq with h | hq; focus (rw [h]; repeat' (first | with_reducible exact List.mem_cons_self | refine List.mem_cons_of_mem _ ?_)))
          repeat' (first | exact hq | refine List.mem_cons_of_mem _ ?_)
        · have := hnR p hp; k_mem
  · rintro _ ⟨h9, tk9, m9, D2, n2, dF, oL, ords, nL, oF, R0, ys, oK2, oT2, v0, rfl, F₂, N₂, hT2, hK2, mf, mo, mt, hoL, hords, hD2, hys, hdk, hlo, offT, offK, offF, neT, neK, hnR⟩
    rw [asIf mf, asIf mo, asIf mt] at F₂
    have haR := hnR _ ha
    have hn23 : tt.length = 2 ∨ tt.length = 3 := by rw [httl]; exact hc
    obtain ⟨hob1, hob2⟩ := order_bounds tt.length hn23
    have hol := hords.len
    have hyl := hys.len
    clear lF lN
    k_steps
    (with_reducible rename Fr _ _ _ _ => lF2); (with_reducible rename News _ _ _ _ => lN2)
    refine for_list (fun i m nx => ∃ oK o v, m (Str.ofString "found") = some (.ref dF) ∧ m (Str.ofString "tree") = some (.ref a') ∧ nx = (L' + 1 + 1, oK) :: (dF, o) :: (L' + 1, oT2) :: R0 ∧ oK.data = .cell v ∧ DKeys PySem.Challenge.rw_re0162_01.row.prog w o (firstI l tt ((ordersOf tt.length).take i)) ∧ (firstI l tt ((ordersOf tt.length).take i)).length ≤ i * 64000) rfl lF2 lN2 (by k_mem) ⟨oK2, oF, v0, rfl, rfl, rfl, hK2, hdk, Nat.zero_le _⟩ ?_ ?_
    · clear lF2 lN2
      rintro i v I oI m₁ nx h tk hv ⟨oK, o, vK, hmf, hmt, rfl, hoK, hdo, hdl⟩ hoff hml F₁ N₁ Q9 hQ9
      obtain ⟨qo, us, ord, rfl, hord, hqo, hus⟩ := hords.get hv
      rw [asIf hmf, asIf hmt] at F₁
      obtain ⟨hol3, hok⟩ := hob2 ord (List.mem_of_getElem? hord)
      have hi6 : i < 6 := by
        have := (List.getElem?_eq_some_iff.mp hord).1
        omega
      have hfb := fold_BR (l := l) hbt ord hok
      have i1 : @Ne Nat I (L' + 1 + 1) := (hoff (L' + 1 + 1, oK) (by k_mem)).symm
      have i2 : @Ne Nat I dF := (hoff (dF, o) (by k_mem)).symm
      have i3 : @Ne Nat I (L' + 1) := (hoff (L' + 1, oT2) (by k_mem)).symm
      have offI : ∀ q ∈ R0, q.1 ≠ I := fun q hq => hoff q (by k_mem)
      k_steps
      (with_reducible rename Fr _ _ _ _ => lF3); (with_reducible rename News _ _ _ _ => lN3)
      rename_i rD _ _ _ l1D hltD _
      have huslen : us.length = ord.length := by have := hus.length; rw [List.length_map] at this; exact this
      refine ⟨qo, us, oK, vK, _, (rD, listOf (List.toArray [.str ⟨#[l]⟩ lt]) 0) :: (I, oI) :: (dF, o) :: (L' + 1, oT2) :: R0, (fun j m nx => ∃ rD rv n, m (Str.ofString "rows") = some (.ref rD) ∧ m (Str.ofString "found") = some (.ref dF) ∧ m (Str.ofString "tree") = some (.ref a') ∧ nx = (rD, listOf (List.toArray rv) n) :: (I, oI) :: (dF, o) :: (L' + 1, oT2) :: R0 ∧ (∀ q ∈ (I, oI) :: (dF, o) :: (L' + 1, oT2) :: R0, q.1 ≠ rD) ∧ @Ne Nat rD (L' + 1 + 1) ∧ Texts rv ((ord.take j).foldl (fun rows k => rowsStep rows (tt.getD k [])) [[l]])), rfl, rfl, lF3, ?_, hoK, ?_, by k_mem, ?_, ?_, ?_⟩
      · intro p hp
        refine lN3 p ?_
        repeat (rcases List.mem_cons.mp hp with h | hp; focus (rw [h]; repeat' (first | with_reducible exact List.mem_cons_self | refine List.mem_cons_of_mem _ ?_)))
        repeat' (first | exact hp | refine List.mem_cons_of_mem _ ?_)
      · exact List.forall_mem_cons.mpr ⟨by k_ne, List.forall_mem_cons.mpr ⟨i1, List.forall_mem_cons.mpr ⟨neK, List.forall_mem_cons.mpr ⟨by k_ne, offK⟩⟩⟩⟩
      · exact ⟨rD, [.str ⟨#[l]⟩ lt], 0, rfl, rfl, rfl, rfl, fun q hq => Nat.ne_of_lt (l1D q (by (repeat (rcases List.mem_cons.mp hq with h | hq; focus (rw [h]; repeat' (first | with_reducible exact List.mem_cons_self | refine List.mem_cons_of_mem _ ?_)))); (repeat' (first | exact hq | refine List.mem_cons_of_mem _ ?_)))), by k_ne, .cons .nil⟩
      · clear lF3 lN3 l1D hltD
        rintro j v I2 oI2 oK' m₂ nx h tk E' hv ⟨rD, rv, n, hmr, hmf, hmt, rfl, hrD, hrK, hrv⟩ hoK' off2 hIc hml2 F₂ N₂
        obtain ⟨k, hk9, tk9, rfl⟩ := ints_natAt hus hv
        rw [asIf hmr, asIf hmf, asIf hmt] at F₂
        have hkl := hok k (List.mem_of_getElem? hk9)
        obtain ⟨bx, nb, ws, hbx, hbm, hws⟩ := hys.get hkl
        have hyk : ys[((k : Nat) : Int).toNat]? = some (.ref bx) := by rw [Int.toNat_natCast]; exact hbx
        generalize hts : tt.getD k [] = ts at hws
        have htm : ts ∈ tt := by rw [← hts, List.getD_eq_getElem?_getD, List.getElem?_eq_getElem hkl]; exact List.getElem_mem hkl
        obtain ⟨htl, htr⟩ := hbt ts htm
        have hbr := hfb j
        have htake : (ord.take (j + 1)).foldl (fun rows k => rowsStep rows (tt.getD k [])) [[l]] = rowsStep ((ord.take j).foldl (fun rows k => rowsStep rows (tt.getD k [])) [[l]]) ts := by rw [List.take_add_one, hk9, List.foldl_append, ← hts]; rfl
        generalize hrows : (ord.take j).foldl (fun rows k => rowsStep rows (tt.getD k [])) [[l]] = rows at hrv hbr htake
        have hjl : (ord.take j).length ≤ 2 := by
          have := (List.getElem?_eq_some_iff.mp hk9).1
          exact Nat.le_trans (List.length_take_le _ _) (Nat.le_of_lt_succ (Nat.lt_of_lt_of_le this (Nat.le_trans hol3 (Nat.le_refl _))))
        have hrl : rows.length ≤ 1600 := Nat.le_trans hbr.1 (Nat.le_trans (Nat.pow_le_pow_right (by decide) hjl) (by decide))
        have hrr : ∀ r ∈ rows, r.length ≤ 1000 := fun r hr => by have := hbr.2 r hr; omega
        have hrvl := hrv.len
        have hwsl := hws.len
        have hk63 := ar_63 hkl hn23
        k_steps
        (with_reducible rename Fr _ _ _ _ => lF4); (with_reducible rename News _ _ _ _ => lN4)
        refine ⟨rD, bx, rv, ws, n, nb, _, (fun i j ys => Texts ys (CJ rows ts i j)), rfl, rfl, lF4, lN4, by k_mem, by k_mem, ?_, ?_, ?_, ?_, ?_, ?_⟩
        · show Texts [] (CJ rows ts 0 0)
          rw [CJ_zero]; exact .nil
        · intro i ys h9
          have h9' : Texts ys (CJ rows ts i ws.length) := h9
          rw [hwsl, CJ_next] at h9'; exact h9'
        · intro i j ys hi hj h9
          have h9' : Texts ys (CJ rows ts i j) := h9
          rw [h9'.len]
          have h1 := CJ_len (rows := rows) (ts := ts) (i := i) (j := j) (by omega)
          have h2 : (i + 1) * ts.length ≤ 1600 * 40 := Nat.mul_le_mul (by omega) htl
          exact Nat.le_trans (Nat.le_trans h1 h2) (by decide)
        · clear lF4 lN4
          intro i v I3 oI3 C oC D m₃ ys h tk E' hv hC hx F₃ N₃
          k_steps
          exact ⟨rfl, _, rfl⟩
        · clear lF4 lN4
          intro i j v u I3 oI3 I4 oI4 C oC D m₃ ys h tk E' hv hu hJ hC hx hx2 F₃ N₃
          obtain ⟨r, t9, rfl, hr9⟩ := hrv.get hv
          obtain ⟨t, t8, rfl, ht9⟩ := hws.get hu
          have hr1 := hrr r (List.mem_of_getElem? hr9)
          have ht1 := htr t (List.mem_of_getElem? ht9)
          k_steps
          refine ⟨?_, _, rfl⟩
          show Texts _ (CJ rows ts i (j + 1))
          rw [CJ_step hr9 ht9]; exact Texts.append hJ (.cons .nil)
        · clear lF4 lN4
          intro ys D h tk hJ F₃ N₃ off3
          have hJ' : Texts ys (CJ rows ts rv.length 0) := hJ
          rw [hrvl, CJ_all, ← htake] at hJ'
          k_steps
          (with_reducible rename Fr _ _ _ _ => eF); (with_reducible rename News _ _ _ _ => eN)
          refine ⟨rfl, _, _, _, (D, listOf (List.toArray ys) ys.length) :: (I, oI) :: (dF, o) :: (L' + 1, oT2) :: R0, oK', _, rfl, eF, fun p hp => eN p ?_, ?_, hoK', ?_⟩
          · repeat (rcases List.mem_cons.mp hp with h | hp; focus (rw [h]; repeat' (first | with_reducible exact List.mem_cons_self | refine List.mem_cons_of_mem _ ?_)))
            repeat' (first | exact hp | refine List.mem_cons_of_mem _ ?_)
          · refine List.forall_mem_cons.mpr ⟨⟨(off3 (I2, oI2) (by k_mem)).symm, (off3 (L' + 1 + 1, oK') (by k_mem)).symm⟩, fun q hq => off2 q (by k_mem)⟩
          · exact ⟨⟨D, ys, _, rfl, rfl, rfl, rfl, fun q hq => off3 q (by k_mem), (off3 (L' + 1 + 1, oK') (by k_mem)).symm, hJ'⟩, by k_mem⟩
      · clear lF3 lN3 l1D hltD
        rintro m₂ oK' vK' nx h tk ⟨rD, rv, n, hmr, hmf, hmt, rfl, hrD, hrK, hrv⟩ hoK' off2 F₂ N₂
        rw [asIf hmr, asIf hmf, asIf hmt] at F₂
        have hrow : (ord.take us.length).foldl (fun rows k => rowsStep rows (tt.getD k [])) [[l]] = orderRows l tt ord := by rw [huslen, List.take_length]; rfl
        have hbr := hfb us.length
        rw [hrow] at hrv hbr
        have hrl : (orderRows l tt ord).length ≤ 64000 := Nat.le_trans hbr.1 (Nat.le_trans (Nat.pow_le_pow_right (by decide) (show (ord.take us.length).length ≤ 3 from Nat.le_trans (List.length_take_le' _ _) hol3)) (by decide))
        have hrvl := hrv.len
        have hfI : firstI l tt ((ordersOf tt.length).take (i + 1)) = addAll (firstI l tt ((ordersOf tt.length).take i)) (orderRows l tt ord) := by
          unfold firstI; rw [List.take_add_one, hord, List.foldl_append]; rfl
        generalize hpv : firstI l tt ((ordersOf tt.length).take i) = prev at hdo hdl hfI
        k_steps
        (with_reducible rename Fr _ _ _ _ => lF5); (with_reducible rename News _ _ _ _ => lN5)
        have offrD : ∀ q ∈ R0, q.1 ≠ rD := fun q hq => hrD q (by k_mem)
        have hrI : @Ne Nat I rD := hrD (I, oI) (by k_mem)
        have hrF : @Ne Nat dF rD := hrD (dF, o) (by k_mem)
        have hrT : @Ne Nat (L' + 1) rD := hrD (L' + 1, oT2) (by k_mem)
        refine for_list (fun r m nx => ∃ o, m (Str.ofString "found") = some (.ref dF) ∧ m (Str.ofString "tree") = some (.ref a') ∧ nx = (dF, o) :: (L' + 1 + 1, oK') :: (rD, listOf (List.toArray rv) n) :: (I, oI) :: (L' + 1, oT2) :: R0 ∧ DKeys PySem.Challenge.rw_re0162_01.row.prog w o (addAll prev ((orderRows l tt ord).take r))) rfl lF5 (news := (dF, o) :: (L' + 1 + 1, oK') :: (rD, listOf (List.toArray rv) n) :: (I, oI) :: (L' + 1, oT2) :: R0) (fun p hp => lN5 p ?_) (by k_mem) ⟨o, rfl, rfl, rfl, hdo⟩ ?_ ?_
        · repeat (rcases List.mem_cons.mp hp with h | hp; focus (rw [h]; repeat' (first | with_reducible exact List.mem_cons_self | refine List.mem_cons_of_mem _ ?_)))
          repeat' (first | exact hp | refine List.mem_cons_of_mem _ ?_)
        · clear lF5 lN5
          rintro j v I2 oI2 m₃ nx h tk hv ⟨o, hmf, hmt, rfl, hdo⟩ hoff2 hml2 F₃ N₃ Q9 hQ9
          rw [asIf hmf, asIf hmt] at F₃
          obtain ⟨r, t9, rfl, hr9⟩ := hrv.get hv
          have hlen9 := addAll_len ((orderRows l tt ord).take j) prev
          have hlen8 : ((orderRows l tt ord).take j).length ≤ 64000 := by rw [List.length_take]; omega
          have hput : addAll prev ((orderRows l tt ord).take (j + 1)) = putR (addAll prev ((orderRows l tt ord).take j)) r := by
            unfold addAll; rw [List.take_add_one, hr9, List.foldl_append]; rfl
          generalize addAll prev ((orderRows l tt ord).take j) = cur at hdo hlen9 hput
          k_steps
          (with_reducible rename Fr _ _ _ _ => eF); (with_reducible rename News _ _ _ _ => eN)
          rename DKeys _ _ _ (putR cur r) => hdk9
          refine (hQ9 _ ?_).1
          refine TurnE.sub ((dF, _) :: (L' + 1 + 1, oK') :: (rD, listOf (List.toArray rv) n) :: (I, oI) :: (L' + 1, oT2) :: R0) eF eN (fun p hp => ?_) ?_ ⟨⟨_, rfl, rfl, rfl, by rw [hput]; exact hdk9⟩, by k_mem⟩
          · rcases List.mem_cons.mp hp with rfl | hp
            · refine List.mem_cons_of_mem _ (List.mem_filter.mpr ⟨by k_mem, ?_⟩)
              have := hoff2 (dF, o) (by k_mem)
              simp [Ne.symm this]
            · rcases List.mem_cons.mp hp with rfl | hp
              · exact List.mem_cons_self
              · refine List.mem_cons_of_mem _ (List.mem_filter.mpr ⟨by k_mem, ?_⟩)
                have hne : p.1 ≠ dF := by
                  rcases List.mem_cons.mp hp with rfl | hp
                  · exact neK.symm
                  · rcases List.mem_cons.mp hp with rfl | hp
                    · exact hrF.symm
                    · rcases List.mem_cons.mp hp with rfl | hp
                      · exact i2
                      · rcases List.mem_cons.mp hp with rfl | hp
                        · exact neT.symm
                        · exact offF p hp
                simpa using hne
          · exact List.forall_mem_cons.mpr ⟨hoff2 (dF, o) (by k_mem), fun q hq => hoff2 q (by k_mem)⟩
        · clear lF5 lN5
          rintro m₃ nx h tk ⟨o, hmf, hmt, rfl, hdo⟩ F₃ N₃
          rw [hrvl, List.take_length, ← hfI] at hdo
          have hlen7 : (firstI l tt ((ordersOf tt.length).take (i + 1))).length ≤ (i + 1) * 64000 := by
            rw [hfI]
            have := addAll_len (orderRows l tt ord) prev
            omega
          k_steps
          (with_reducible rename Fr _ _ _ _ => eF); (with_reducible rename News _ _ _ _ => eN)
          refine (hQ9 _ ?_).1
          refine TurnE.sub ((L' + 1 + 1, oK') :: (dF, o) :: (L' + 1, oT2) :: R0) eF eN (fun p hp => ?_) ?_ ⟨⟨oK', o, vK', hmf, hmt, rfl, hoK', hdo, hlen7⟩, by k_mem⟩
          · repeat (rcases List.mem_cons.mp hp with h | hp; focus (rw [h]; repeat' (first | with_reducible exact List.mem_cons_self | refine List.mem_cons_of_mem _ ?_)))
            repeat' (first | exact hp | refine List.mem_cons_of_mem _ ?_)
          · exact List.forall_mem_cons.mpr ⟨i1.symm, List.forall_mem_cons.mpr ⟨i2.symm, List.forall_mem_cons.mpr ⟨i3.symm, offI⟩⟩⟩
    · clear lF2 lN2
      rintro m₁ nx h tk ⟨oK, o, vK, hmf, hmt, rfl, hoK, hdo, hdl⟩ F₁ N₁
      rw [asIf hmf] at F₁
      have hfin : firstI l tt ((ordersOf tt.length).take ords.length) = nodeTurns l tt := by rw [hol, List.take_length]; rfl
      rw [hfin] at hdo hdl
      k_steps
      (with_reducible rename Fr _ _ _ _ => kF9); (with_reducible rename News _ _ _ _ => kN9)
      rename Texts _ (nodeTurns l tt) => ht9
      rename ∀ q ∈ (L' + 1 + 1, oK) :: _, _ => hl9
      rename_i B9' c9' _ _ vs9' _ _ _ _
      refine hret _ [(B9', listOf (List.toArray vs9') c9')] _ _ kF9 (fun p hp => kN9 p ?_) ?_ ⟨_, _, _, rfl, List.mem_cons_self, by rw [htt]; exact ht9⟩
      · rcases List.mem_cons.mp hp with rfl | hp
        · exact List.mem_cons_self
        · have := hnR p hp; k_mem
      · intro q hq p hp
        rw [List.mem_singleton.mp hp]
        exact hl9 q (by have := hnR q hq; k_mem)
end
noncomputable def SmallT (t : Tr) : Prop := (turnsOf t).length ≤ 40 ∧ ∀ r ∈ turnsOf t, r.length ≤ 100
noncomputable def GoodT : Tr → Prop
  | .leaf _ => True
  | .two _ a b => SmallT a ∧ SmallT b ∧ GoodT a ∧ GoodT b
  | .three _ a b c => SmallT a ∧ SmallT b ∧ SmallT c ∧ GoodT a ∧ GoodT b ∧ GoodT c
section
variable {w : World} {loose : List Str} {mean : ExcName → Option Value} {mg mb : Str → Option Value}
theorem turns_ct : ∀ (t : Tr) (_ : GoodT t), Ct w loose mean mg mb 201 (4 * t.ht + 4) (TRel t) (fun _ _ tl r => TOut (turnsOf t) tl r) := by
  intro t
  induction t with
  | leaf c => exact fun _ => turns_leaf c
  | two l a b iha ihb =>
    intro ⟨sa, sb, ga, gb⟩
    have h := turns_node l [a, b] (4 * max a.ht b.ht + 4) (.inl rfl) (w := w) (loose := loose) (mean := mean) (mg := mg) (mb := mb) (fun c hc => by
      simp only [List.mem_cons, List.not_mem_nil, or_false] at hc
      rcases hc with rfl | rfl
      · exact sa
      · exact sb) (fun c hc => by
      simp only [List.mem_cons, List.not_mem_nil, or_false] at hc
      rcases hc with rfl | rfl
      · exact (iha ga).wider (by omega)
      · exact (ihb gb).wider (by omega))
    refine (h.conv (fun news vs hR => ?_) fun _ _ _ _ _ ho => ho).wider (by simp only [Tr.ht]; omega)
    obtain ⟨v, rfl, hr⟩ := hR
    cases hr with
    | two h1 h2 h3 h4 => exact ⟨_, _, _, _, [_, _], rfl, h1, h2, .cons h3 (.cons h4 .nil)⟩
  | three l a b c iha ihb ihc =>
    intro ⟨sa, sb, sc, ga, gb, gc⟩
    have h := turns_node l [a, b, c] (4 * max a.ht (max b.ht c.ht) + 4) (.inr rfl) (w := w) (loose := loose) (mean := mean) (mg := mg) (mb := mb) (fun c hc => by
      simp only [List.mem_cons, List.not_mem_nil, or_false] at hc
      rcases hc with rfl | rfl | rfl
      · exact sa
      · exact sb
      · exact sc) (fun c hc => by
      simp only [List.mem_cons, List.not_mem_nil, or_false] at hc
      rcases hc with rfl | rfl | rfl
      · exact (iha ga).wider (by omega)
      · exact (ihb gb).wider (by omega)
      · exact (ihc gc).wider (by omega))
    refine (h.conv (fun news vs hR => ?_) fun _ _ _ _ _ ho => ho).wider (by simp only [Tr.ht]; omega)
    obtain ⟨v, rfl, hr⟩ := hR
    cases hr with
    | three h1 h2 h3 h4 h5 => exact ⟨_, _, _, _, [_, _, _], rfl, h1, h2, .cons h3 (.cons h4 (.cons h5 .nil))⟩
end

/-! Math1 -/
/-! descriptions and their trees -/
inductive WfT : Tr → Prop where
  | leaf {c : Nat} : (c = 48 ∨ c = 49 ∨ c = 50) → WfT (.leaf c)
  | two {l : Nat} {a b : Tr} : (l = 12272 ∨ l = 12283) → WfT a → WfT b → WfT (.two l a b)
  | three {l : Nat} {a b c : Tr} : (l = 12274 ∨ l = 12275) → WfT a → WfT b → WfT c → WfT (.three l a b c)
theorem flat_pre : ∀ {u v : Tr}, WfT u → WfT v → ∀ {s s' : List Nat}, flat u ++ s = flat v ++ s' → u = v ∧ s = s' := by
  intro u v hu
  induction hu generalizing v with
  | leaf hc =>
    intro hv s s' e
    cases hv with
    | leaf hc' => simp only [flat, List.cons_append, List.nil_append, List.cons.injEq] at e; exact ⟨by rw [e.1], e.2⟩
    | two hl _ _ => simp only [flat, List.cons_append, List.nil_append, List.cons.injEq] at e; omega
    | three hl _ _ _ => simp only [flat, List.cons_append, List.nil_append, List.cons.injEq] at e; omega
  | two hl _ _ ia ib =>
    intro hv s s' e
    cases hv with
    | leaf hc' => simp only [flat, List.cons_append, List.nil_append, List.cons.injEq] at e; omega
    | two hl' ha' hb' =>
      simp only [flat, List.cons_append, List.cons.injEq, List.append_assoc] at e
      obtain ⟨e1, e2⟩ := ia ha' e.2
      obtain ⟨e3, e4⟩ := ib hb' e2
      exact ⟨by rw [e.1, e1, e3], e4⟩
    | three hl' _ _ _ => simp only [flat, List.cons_append, List.cons.injEq] at e; omega
  | three hl _ _ _ ia ib ic =>
    intro hv s s' e
    cases hv with
    | leaf hc' => simp only [flat, List.cons_append, List.nil_append, List.cons.injEq] at e; omega
    | two hl' _ _ => simp only [flat, List.cons_append, List.cons.injEq] at e; omega
    | three hl' ha' hb' hc' =>
      simp only [flat, List.cons_append, List.cons.injEq, List.append_assoc] at e
      obtain ⟨e1, e2⟩ := ia ha' e.2
      obtain ⟨e3, e4⟩ := ib hb' e2
      obtain ⟨e5, e6⟩ := ic hc' e4
      exact ⟨by rw [e.1, e1, e3, e5], e6⟩
theorem flat_inj {u v : Tr} (hu : WfT u) (hv : WfT v) (e : flat u = flat v) : u = v := (flat_pre hu hv (s := []) (s' := []) (by rw [e])).1
/-! counts -/
noncomputable def addC (cl : List Nat) (p : Nat) : List Nat := (if cl.length ≤ p then cl ++ List.replicate (p - cl.length + 1) 0 else cl).set p ((if cl.length ≤ p then cl ++ List.replicate (p - cl.length + 1) 0 else cl).getD p 0 + 1)
noncomputable def cf (parts : List Nat) : List Nat := parts.foldl addC []
theorem fold_blanks (n : Nat) (c : List Nat) : ∀ b, (List.replicate n 32).foldl wsStep (c, b) = (c, b + n) := by
  induction n with
  | zero => intro b; rfl
  | succ n ih =>
    intro b
    rw [List.replicate_succ, List.foldl_cons]
    have e : wsStep (c, b) 32 = (c, b + 1) := rfl
    rw [e, ih]; congr 1; omega
theorem wsStep_tab (c : List Nat) (b : Nat) : wsStep (c, b) 9 = (addC c b, 0) := rfl
theorem norm_lead (parts : List Nat) (e : Nat) : wsNorm (leadOf parts e) = (cf parts, e) := by
  unfold wsNorm leadOf cf
  rw [List.foldl_append]
  have : ∀ (parts : List Nat) (c : List Nat), ((parts.map fun p => List.replicate p 32 ++ [9]).flatten).foldl wsStep (c, 0) = (parts.foldl addC c, 0) := by
    intro parts
    induction parts with
    | nil => intro c; rfl
    | cons p r ih =>
      intro c
      rw [List.map_cons, List.flatten_cons, List.foldl_append, List.foldl_append, fold_blanks]
      show (_ : List Nat).foldl wsStep (wsStep (c, 0 + p) 9) = _
      rw [Nat.zero_add, wsStep_tab, ih]; rfl
  rw [this, fold_blanks, Nat.zero_add]
theorem addC_len (cl : List Nat) (p : Nat) : (addC cl p).length = max cl.length (p + 1) := by
  unfold addC
  rw [List.length_set]
  split
  · rw [List.length_append, List.length_replicate]; omega
  · omega
theorem getD_pad (cl : List Nat) (k i : Nat) : (cl ++ List.replicate k 0).getD i 0 = cl.getD i 0 := by
  simp only [List.getD_eq_getElem?_getD]
  by_cases h : i < cl.length
  · rw [List.getElem?_append_left h]
  · rw [List.getElem?_append_right (by omega), List.getElem?_eq_none (by omega : cl.length ≤ i)]
    rw [List.getElem?_replicate]; split <;> rfl
theorem addC_get (cl : List Nat) (p i : Nat) : (addC cl p).getD i 0 = cl.getD i 0 + if i = p then 1 else 0 := by
  unfold addC
  have hp : ∀ l : List Nat, p < l.length → (l.set p (l.getD p 0 + 1)).getD i 0 = l.getD i 0 + if i = p then 1 else 0 := by
    intro l hl
    simp only [List.getD_eq_getElem?_getD, List.getElem?_set]
    by_cases e : p = i
    · subst e; simp [hl]
    · have e' : ¬ i = p := fun q => e q.symm
      simp [e, e']
  split
  · rw [hp _ (by rw [List.length_append, List.length_replicate]; omega), getD_pad]
  · rw [hp _ (by omega)]
theorem list_eq {a b : List Nat} (hl : a.length = b.length) (h : ∀ i, a.getD i 0 = b.getD i 0) : a = b := by
  apply List.ext_getElem hl
  intro i h1 h2
  have := h i
  simp only [List.getD_eq_getElem?_getD, List.getElem?_eq_getElem h1, List.getElem?_eq_getElem h2, Option.getD_some] at this
  exact this
theorem addC_comm (c : List Nat) (p q : Nat) : addC (addC c p) q = addC (addC c q) p := by
  refine list_eq ?_ fun i => ?_
  · simp only [addC_len, Nat.max_assoc, Nat.max_comm (p + 1)]
  · simp only [addC_get, Nat.add_assoc, Nat.add_comm (if i = p then 1 else 0)]
theorem cf2 (p q : Nat) : cf [p, q] = cf [q, p] := addC_comm [] p q
theorem cf3a (p q r : Nat) : cf [p, q, r] = cf [q, p, r] := congrArg (fun x => addC x r) (addC_comm [] p q)
theorem cf3b (p q r : Nat) : cf [p, q, r] = cf [p, r, q] := addC_comm (addC [] p) q r
theorem cf_get (parts : List Nat) (i : Nat) : ∀ c, (parts.foldl addC c).getD i 0 = c.getD i 0 + parts.count i := by
  induction parts with
  | nil => intro c; rfl
  | cons p r ih =>
    intro c
    rw [List.foldl_cons, ih, addC_get, List.count_cons]
    by_cases e : i = p
    · subst e; simp; omega
    · have : ¬ p = i := fun q => e q.symm
      simp [e, this]
theorem cf_count {a b : List Nat} (h : cf a = cf b) : a.Perm b := by
  rw [List.perm_iff_count]
  intro i
  have := congrArg (fun l => l.getD i 0) h
  unfold cf at this
  rw [cf_get, cf_get] at this
  omega
theorem perm2 {p q p' q' : Nat} (h : [p, q].Perm [p', q']) : (p = p' ∧ q = q') ∨ (p = q' ∧ q = p') := by
  have hm := h.mem_iff (a := p)
  have hc := fun i => List.perm_iff_count.mp h i
  by_cases e : p = p'
  · subst e
    have := h.cons_inv
    have := this.mem_iff (a := q)
    simp at this
    exact .inl ⟨rfl, this⟩
  · have e2 : p = q' := by simpa [e] using hm
    subst e2
    have h2 : [p, q].Perm [p, p'] := h.trans (List.Perm.swap _ _ _)
    have := h2.cons_inv.mem_iff (a := q)
    simp at this
    exact .inr ⟨rfl, this⟩
theorem perm3 {p q r p' q' r' : Nat} (h : [p, q, r].Perm [p', q', r']) : (p = p' ∧ ((q = q' ∧ r = r') ∨ (q = r' ∧ r = q'))) ∨ (p = q' ∧ ((q = p' ∧ r = r') ∨ (q = r' ∧ r = p'))) ∨ (p = r' ∧ ((q = p' ∧ r = q') ∨ (q = q' ∧ r = p'))) := by
  have hm := h.mem_iff (a := p)
  by_cases e : p = p'
  · subst e; exact .inl ⟨rfl, perm2 h.cons_inv⟩
  · by_cases e2 : p = q'
    · subst e2
      have h2 : [p, q, r].Perm [p, p', r'] := h.trans (List.Perm.swap _ _ _)
      exact .inr (.inl ⟨rfl, perm2 h2.cons_inv⟩)
    · have e3 : p = r' := by simpa [e, e2] using hm
      subst e3
      have h2 : [p, q, r].Perm [p, p', q'] := h.trans ((List.Perm.cons _ (List.Perm.swap _ _ _)).trans (List.Perm.swap _ _ _))
      exact .inr (.inr ⟨rfl, perm2 h2.cons_inv⟩)
/-! what the counts' factorials make -/
noncomputable def prodF : List Nat → Nat
  | [] => 1
  | c :: r => factL c * prodF r
theorem factL_pos (c : Nat) : 0 < factL c := by unfold factL; split <;> decide
theorem divs_eq : ∀ (cl : List Nat) (w : Nat), divs w cl = w / prodF cl := by
  intro cl
  induction cl with
  | nil => intro w; exact (Nat.div_one w).symm
  | cons c r ih =>
    intro w
    show divs (w / factL c) r = _
    rw [ih, Nat.div_div_eq_div_mul]; rfl
theorem prodF_append (a b : List Nat) : prodF (a ++ b) = prodF a * prodF b := by
  induction a with
  | nil => simp [prodF]
  | cons c r ih => simp only [List.cons_append, prodF, ih, Nat.mul_assoc]
theorem prodF_zeros (k : Nat) : prodF (List.replicate k 0) = 1 := by
  induction k with
  | zero => rfl
  | succ k ih => rw [List.replicate_succ]; simp [prodF, ih, factL]
theorem prodF_set : ∀ (l : List Nat) (i v : Nat), i < l.length → prodF (l.set i v) * factL (l.getD i 0) = prodF l * factL v := by
  intro l
  induction l with
  | nil => intro i v h; simp at h
  | cons a r ih =>
    intro i v h
    cases i with
    | zero => simp only [List.set_cons_zero, prodF, List.getD_cons_zero]; rw [Nat.mul_right_comm, Nat.mul_comm (factL v), Nat.mul_assoc, Nat.mul_assoc]; simp only [Nat.mul_comm, Nat.mul_left_comm]
    | succ i =>
      simp only [List.set_cons_succ, prodF, List.getD_cons_succ]
      rw [Nat.mul_assoc, ih i v (by simpa using h), Nat.mul_assoc]
theorem prodF_add (cl : List Nat) (p : Nat) : prodF (addC cl p) * factL (cl.getD p 0) = prodF cl * factL (cl.getD p 0 + 1) := by
  unfold addC
  split
  · rename_i h
    have := prodF_set (cl ++ List.replicate (p - cl.length + 1) 0) p ((cl ++ List.replicate (p - cl.length + 1) 0).getD p 0 + 1) (by rw [List.length_append, List.length_replicate]; omega)
    rw [getD_pad, prodF_append, prodF_zeros, Nat.mul_one] at this
    rw [getD_pad]; exact this
  · exact prodF_set cl p _ (by omega)
theorem prodF1 (p : Nat) : prodF (addC [] p) = 1 := by
  have := prodF_add [] p
  simpa [factL, prodF] using this
theorem prodF2 (p q : Nat) : prodF (cf [p, q]) = if p = q then 2 else 1 := by
  have := prodF_add (addC [] p) q
  rw [addC_get, prodF1] at this
  show prodF (addC (addC [] p) q) = _
  by_cases e : p = q
  · subst e; simpa [factL] using this
  · have e' : ¬ q = p := fun h => e h.symm
    simpa [factL, e, e'] using this
theorem prodF3 (p q r : Nat) : prodF (cf [p, q, r]) = if p = q ∧ q = r then 6 else if p = q ∨ q = r ∨ p = r then 2 else 1 := by
  have h := prodF_add (addC (addC [] p) q) r
  have h2 : prodF (addC (addC [] p) q) = if p = q then 2 else 1 := prodF2 p q
  rw [addC_get, addC_get, h2] at h
  show prodF (addC (addC (addC [] p) q) r) = _
  by_cases e1 : p = q
  · subst e1
    by_cases e2 : p = r
    · subst e2; simp [factL] at h ⊢; omega
    · have e2' : ¬ r = p := fun h => e2 h.symm
      simp [factL, e2, e2'] at h ⊢; omega
  · by_cases e2 : q = r
    · subst e2
      have e1' : ¬ q = p := fun h => e1 h.symm
      simp [factL, e1, e1'] at h ⊢; omega
    · have e2' : ¬ r = q := fun h => e2 h.symm
      by_cases e3 : p = r
      · subst e3
        simp [factL, e1, e2, e2'] at h ⊢; omega
      · have e3' : ¬ r = p := fun h => e3 h.symm
        simp [factL, e1, e2, e3, e2', e3'] at h ⊢; omega

/-! Math2 -/
/-! the shapes -/
noncomputable def word (c : Nat) : List Nat := if c = 48 then [104] else if c = 49 then [115, 116] else [12284]
theorem word_inj {c d : Nat} (hc : c = 48 ∨ c = 49 ∨ c = 50) (hd : d = 48 ∨ d = 49 ∨ d = 50) (e : word c = word d) : c = d := by
  rcases hc with rfl | rfl | rfl <;> rcases hd with rfl | rfl | rfl <;> first | rfl | (exfalso; revert e; decide)
noncomputable def ent (W : List (List Nat)) (S : List (List Nat × Nat)) : Tr → List Nat × Nat
  | .leaf c => ([], 1 + W.idxOf (word c))
  | .two l a b => (cf [S.idxOf (ent W S a), S.idxOf (ent W S b)], l - 12272)
  | .three l a b c => (cf [S.idxOf (ent W S a), S.idxOf (ent W S b), S.idxOf (ent W S c)], l - 12272)
noncomputable def sid (W : List (List Nat)) (S : List (List Nat × Nat)) (t : Tr) : Nat := S.idxOf (ent W S t)
noncomputable def Rd (W : List (List Nat)) (S : List (List Nat × Nat)) : Tr → Prop
  | .leaf c => ent W S (.leaf c) ∈ S ∧ word c ∈ W
  | .two l a b => ent W S (.two l a b) ∈ S ∧ Rd W S a ∧ Rd W S b
  | .three l a b c => ent W S (.three l a b c) ∈ S ∧ Rd W S a ∧ Rd W S b ∧ Rd W S c
theorem Rd.mem {W : List (List Nat)} {S : List (List Nat × Nat)} {t : Tr} (h : Rd W S t) : ent W S t ∈ S := by
  cases t <;> exact h.1
theorem idx_inj {α : Type} [BEq α] [LawfulBEq α] {S : List α} {x y : α} (hy : y ∈ S) (h : S.idxOf x = S.idxOf y) : x = y := by
  have h1 := List.idxOf_lt_length_iff.mpr hy
  have h2 : S.idxOf x < S.length := by rw [h]; exact h1
  have e1 : S[S.idxOf x] = x := List.getElem_idxOf h2
  have e2 : S[S.idxOf y] = y := List.getElem_idxOf h1
  have e3 : S[S.idxOf x] = S[S.idxOf y] := by congr 1
  rw [← e1, e3, e2]
theorem cf_ne {p : Nat} {r : List Nat} : cf (p :: r) ≠ [] := by
  intro h
  have h1 := cf_get (p :: r) p []
  have h2 : (p :: r).foldl addC [] = [] := h
  rw [h2] at h1
  simp at h1
section
variable {W : List (List Nat)} {S : List (List Nat × Nat)}
theorem sid_ent {u t : Tr} (h : Rd W S t) (e : sid W S u = sid W S t) : ent W S u = ent W S t := idx_inj h.mem e
theorem sid_leaf {u : Tr} {c : Nat} (hu : WfT u) (hc : c = 48 ∨ c = 49 ∨ c = 50) (h : Rd W S (.leaf c)) (e : sid W S u = sid W S (.leaf c)) : u = .leaf c := by
  have e2 := sid_ent h e
  cases hu with
  | leaf hd =>
    rename_i d
    simp only [ent, Prod.mk.injEq, true_and] at e2
    have : W.idxOf (word d) = W.idxOf (word c) := by omega
    rw [word_inj hd hc (idx_inj h.2 this)]
  | two _ _ _ => simp only [ent, Prod.mk.injEq] at e2; exact absurd e2.1 cf_ne
  | three _ _ _ _ => simp only [ent, Prod.mk.injEq] at e2; exact absurd e2.1 cf_ne
theorem sid_two {u a b : Tr} {l : Nat} (hu : WfT u) (hl : l = 12272 ∨ l = 12283) (h : Rd W S (.two l a b)) (e : sid W S u = sid W S (.two l a b)) :
    ∃ u1 u2, u = .two l u1 u2 ∧ WfT u1 ∧ WfT u2 ∧ ((sid W S u1 = sid W S a ∧ sid W S u2 = sid W S b) ∨ (sid W S u1 = sid W S b ∧ sid W S u2 = sid W S a)) := by
  have e2 := sid_ent h e
  cases hu with
  | leaf hd => simp only [ent, Prod.mk.injEq] at e2; exact absurd e2.1.symm cf_ne
  | two hl' h1 h2 =>
    rename_i l0 _ _
    simp only [ent, Prod.mk.injEq] at e2
    have el : l0 = l := ar_two hl hl' e2.2
    subst el
    exact ⟨_, _, rfl, h1, h2, perm2 (cf_count e2.1)⟩
  | three hl' _ _ _ => simp only [ent, Prod.mk.injEq] at e2; exact (ar_mix hl hl' e2.2).elim
theorem sid_three {u a b c : Tr} {l : Nat} (hu : WfT u) (hl : l = 12274 ∨ l = 12275) (h : Rd W S (.three l a b c)) (e : sid W S u = sid W S (.three l a b c)) :
    ∃ u1 u2 u3, u = .three l u1 u2 u3 ∧ WfT u1 ∧ WfT u2 ∧ WfT u3 ∧ ((sid W S u1 = sid W S a ∧ ((sid W S u2 = sid W S b ∧ sid W S u3 = sid W S c) ∨ (sid W S u2 = sid W S c ∧ sid W S u3 = sid W S b))) ∨
      (sid W S u1 = sid W S b ∧ ((sid W S u2 = sid W S a ∧ sid W S u3 = sid W S c) ∨ (sid W S u2 = sid W S c ∧ sid W S u3 = sid W S a))) ∨ (sid W S u1 = sid W S c ∧ ((sid W S u2 = sid W S a ∧ sid W S u3 = sid W S b) ∨ (sid W S u2 = sid W S b ∧ sid W S u3 = sid W S a)))) := by
  have e2 := sid_ent h e
  cases hu with
  | leaf hd => simp only [ent, Prod.mk.injEq] at e2; exact absurd e2.1.symm cf_ne
  | two hl' _ _ => simp only [ent, Prod.mk.injEq] at e2; exact (ar_mix hl' hl e2.2.symm).elim
  | three hl' h1 h2 h3 =>
    rename_i l0 _ _ _
    simp only [ent, Prod.mk.injEq] at e2
    have el : l0 = l := ar_three hl hl' e2.2
    subst el
    exact ⟨_, _, _, rfl, h1, h2, h3, perm3 (cf_count e2.1)⟩
theorem ent_two {l : Nat} {a b : Tr} : ent W S (.two l a b) = (cf [sid W S a, sid W S b], l - 12272) := rfl
theorem ent_three {l : Nat} {a b c : Tr} : ent W S (.three l a b c) = (cf [sid W S a, sid W S b, sid W S c], l - 12272) := rfl
theorem sid_eq {t u : Tr} (h : ent W S t = ent W S u) : sid W S t = sid W S u := by unfold sid; rw [h]
end
/-! lists without doubles -/
theorem nodup_len_le {α : Type} [BEq α] [LawfulBEq α] : ∀ {a b : List α}, a.Nodup → (∀ x ∈ a, x ∈ b) → a.length ≤ b.length
  | [], _, _, _ => Nat.zero_le _
  | x :: r, b, h, hs => by
    have hx := hs x List.mem_cons_self
    rw [List.nodup_cons] at h
    have := nodup_len_le (a := r) (b := b.erase x) h.2 fun y hy => by
      have hne : y ≠ x := fun e => h.1 (e ▸ hy)
      exact (List.mem_erase_of_ne hne).mpr (hs y (List.mem_cons_of_mem _ hy))
    rw [List.length_erase_of_mem hx] at this
    have : 0 < b.length := List.length_pos_of_mem hx
    rw [List.length_cons]; omega
theorem nodup_len_eq {α : Type} [BEq α] [LawfulBEq α] {a b : List α} (ha : a.Nodup) (hb : b.Nodup) (h : ∀ x, x ∈ a ↔ x ∈ b) : a.length = b.length :=
  Nat.le_antisymm (nodup_len_le ha fun x hx => (h x).mp hx) (nodup_len_le hb fun x hx => (h x).mpr hx)
noncomputable def Dj (A B : List (List Nat)) : Prop := ∀ x ∈ A, x ∉ B
theorem Dj.symm {A B : List (List Nat)} (h : Dj A B) : Dj B A := fun x hx hy => h x hy hx
theorem Dj.app {A B C : List (List Nat)} (h : Dj A B) (h' : Dj A C) : Dj A (B ++ C) := fun x hx hy => by
  rcases List.mem_append.mp hy with hy | hy
  · exact h x hx hy
  · exact h' x hx hy
theorem nodup_app {A B : List (List Nat)} (ha : A.Nodup) (hb : B.Nodup) (h : Dj A B) : (A ++ B).Nodup := List.nodup_append.mpr ⟨ha, hb, fun x hx y hy e => h x hx (e ▸ hy)⟩
theorem mem_putR {ks : List (List Nat)} {r x : List Nat} : x ∈ putR ks r ↔ x ∈ ks ∨ x = r := by
  unfold putR
  split
  · rename_i h
    exact ⟨.inl, fun q => q.elim id fun e => e ▸ h⟩
  · simp
theorem nodup_putR {ks : List (List Nat)} {r : List Nat} (h : ks.Nodup) : (putR ks r).Nodup := by
  unfold putR
  split
  · exact h
  · rename_i hn
    exact nodup_app h (by simp) fun x hx hy => by rw [List.mem_singleton.mp hy] at hx; exact hn hx
theorem mem_addAll {x : List Nat} : ∀ {rows ks : List (List Nat)}, x ∈ addAll ks rows ↔ x ∈ ks ∨ x ∈ rows
  | [], ks => by show x ∈ ks ↔ _; simp
  | r :: rows, ks => by
    show x ∈ addAll (putR ks r) rows ↔ _
    rw [mem_addAll, mem_putR, List.mem_cons, or_assoc]
theorem nodup_addAll : ∀ {rows ks : List (List Nat)}, ks.Nodup → (addAll ks rows).Nodup
  | [], _, h => h
  | r :: rows, ks, h => by
    show (addAll (putR ks r) rows).Nodup
    exact nodup_addAll (nodup_putR h)
theorem nodup_first (l : Nat) (tt : List (List (List Nat))) : ∀ (os : List (List Nat)) (ks : List (List Nat)), ks.Nodup → (os.foldl (fun ks o => addAll ks (orderRows l tt o)) ks).Nodup
  | [], _, h => h
  | _ :: os, _, h => nodup_first l tt os _ (nodup_addAll h)
theorem mem_rowsStep {rows ts : List (List Nat)} {x : List Nat} : x ∈ rowsStep rows ts ↔ ∃ r ∈ rows, ∃ t ∈ ts, x = r ++ t := by
  unfold rowsStep
  rw [List.mem_flatMap]
  constructor
  · rintro ⟨r, hr, h⟩
    obtain ⟨t, ht, rfl⟩ := List.mem_map.mp h
    exact ⟨r, hr, t, ht, rfl⟩
  · rintro ⟨r, hr, t, ht, rfl⟩
    exact ⟨r, hr, List.mem_map.mpr ⟨t, ht, rfl⟩⟩
theorem len_rowsStep (rows ts : List (List Nat)) : (rowsStep rows ts).length = rows.length * ts.length := by
  unfold rowsStep
  induction rows with
  | nil => simp
  | cons r rest ih => rw [List.flatMap_cons, List.length_append, ih, List.length_map, List.length_cons, Nat.add_mul, Nat.one_mul, Nat.add_comm]
/-- all are descriptions -/
noncomputable def Fl (A : List (List Nat)) : Prop := ∀ x ∈ A, ∃ u, WfT u ∧ flat u = x
theorem Fl.pre {A B : List (List Nat)} (ha : Fl A) (hb : Fl B) {x y s s' : List Nat} (hx : x ∈ A) (hy : y ∈ B) (e : x ++ s = y ++ s') : x = y ∧ s = s' := by
  obtain ⟨u, hu, rfl⟩ := ha x hx
  obtain ⟨v, hv, rfl⟩ := hb y hy
  obtain ⟨e1, e2⟩ := flat_pre hu hv e
  exact ⟨by rw [e1], e2⟩
noncomputable def PF (rows : List (List Nat)) : Prop := ∀ r ∈ rows, ∀ r' ∈ rows, ∀ s s' : List Nat, r ++ s = r' ++ s' → r = r' ∧ s = s'
theorem PF.one (l : Nat) : PF [[l]] := fun r hr r' hr' s s' e => by
  rw [List.mem_singleton.mp hr, List.mem_singleton.mp hr'] at e ⊢
  exact ⟨rfl, List.append_cancel_left e⟩
theorem PF.step {rows ts : List (List Nat)} (h : PF rows) (ht : Fl ts) : PF (rowsStep rows ts) := fun x hx y hy s s' e => by
  obtain ⟨r, hr, t, ht1, rfl⟩ := mem_rowsStep.mp hx
  obtain ⟨r', hr', t', ht2, rfl⟩ := mem_rowsStep.mp hy
  rw [List.append_assoc, List.append_assoc] at e
  obtain ⟨e1, e2⟩ := h r hr r' hr' _ _ e
  obtain ⟨e3, e4⟩ := ht.pre ht ht1 ht2 e2
  exact ⟨by rw [e1, e3], e4⟩
theorem nodup_step {rows ts : List (List Nat)} (h : PF rows) (hr : rows.Nodup) (ht : ts.Nodup) : (rowsStep rows ts).Nodup := by
  unfold rowsStep
  induction rows with
  | nil => simp
  | cons r rest ih =>
    rw [List.flatMap_cons]
    rw [List.nodup_cons] at hr
    refine nodup_app ?_ (ih (fun x hx y hy => h x (List.mem_cons_of_mem _ hx) y (List.mem_cons_of_mem _ hy)) hr.2) ?_
    · unfold List.Nodup at *
      rw [List.pairwise_map]
      exact ht.imp fun hne e => hne (List.append_cancel_left e)
    · intro x hx hy
      obtain ⟨t, ht1, rfl⟩ := List.mem_map.mp hx
      obtain ⟨r', hr', hy⟩ := List.mem_flatMap.mp hy
      obtain ⟨t', ht2, e⟩ := List.mem_map.mp hy
      have := (h r' (List.mem_cons_of_mem _ hr') r List.mem_cons_self _ _ e).1
      exact hr.1 (this ▸ hr')
noncomputable def P2 (l : Nat) (A B : List (List Nat)) : List (List Nat) := rowsStep (rowsStep [[l]] A) B
noncomputable def P3 (l : Nat) (A B C : List (List Nat)) : List (List Nat) := rowsStep (P2 l A B) C
theorem mem_P2 {l : Nat} {A B : List (List Nat)} {x : List Nat} : x ∈ P2 l A B ↔ ∃ a ∈ A, ∃ b ∈ B, x = l :: (a ++ b) := by
  unfold P2
  rw [mem_rowsStep]
  constructor
  · rintro ⟨r, hr, t, ht, rfl⟩
    obtain ⟨r', hr', a, ha, rfl⟩ := mem_rowsStep.mp hr
    rw [List.mem_singleton.mp hr']
    exact ⟨a, ha, t, ht, by simp⟩
  · rintro ⟨a, ha, b, hb, rfl⟩
    exact ⟨[l] ++ a, mem_rowsStep.mpr ⟨[l], List.mem_singleton.mpr rfl, a, ha, rfl⟩, b, hb, by simp⟩
theorem mem_P3 {l : Nat} {A B C : List (List Nat)} {x : List Nat} : x ∈ P3 l A B C ↔ ∃ a ∈ A, ∃ b ∈ B, ∃ c ∈ C, x = l :: (a ++ (b ++ c)) := by
  unfold P3
  rw [mem_rowsStep]
  constructor
  · rintro ⟨r, hr, t, ht, rfl⟩
    obtain ⟨a, ha, b, hb, rfl⟩ := mem_P2.mp hr
    exact ⟨a, ha, b, hb, t, ht, by simp⟩
  · rintro ⟨a, ha, b, hb, c, hc, rfl⟩
    exact ⟨_, mem_P2.mpr ⟨a, ha, b, hb, rfl⟩, c, hc, by simp⟩
theorem len_P2 (l : Nat) (A B : List (List Nat)) : (P2 l A B).length = A.length * B.length := by
  unfold P2; rw [len_rowsStep, len_rowsStep]; simp
theorem len_P3 (l : Nat) (A B C : List (List Nat)) : (P3 l A B C).length = A.length * B.length * C.length := by
  unfold P3; rw [len_rowsStep, len_P2]
theorem PF2 {l : Nat} {A B : List (List Nat)} (ha : Fl A) (hb : Fl B) : PF (P2 l A B) := ((PF.one l).step ha).step hb
theorem nodup_P2 {l : Nat} {A B : List (List Nat)} (ha : Fl A) (na : A.Nodup) (nb : B.Nodup) : (P2 l A B).Nodup :=
  nodup_step ((PF.one l).step ha) (nodup_step (PF.one l) (by simp) na) nb
theorem nodup_P3 {l : Nat} {A B C : List (List Nat)} (ha : Fl A) (hb : Fl B) (na : A.Nodup) (nb : B.Nodup) (nc : C.Nodup) : (P3 l A B C).Nodup :=
  nodup_step (PF2 ha hb) (nodup_P2 ha na nb) nc
theorem mem_node2 {l : Nat} {A B : List (List Nat)} {x : List Nat} : x ∈ nodeTurns l [A, B] ↔ x ∈ P2 l A B ∨ x ∈ P2 l B A := by
  have e : nodeTurns l [A, B] = addAll (addAll [] (P2 l A B)) (P2 l B A) := rfl
  rw [e, mem_addAll, mem_addAll]; simp
theorem mem_node3 {l : Nat} {A B C : List (List Nat)} {x : List Nat} : x ∈ nodeTurns l [A, B, C] ↔ x ∈ P3 l A B C ∨ x ∈ P3 l A C B ∨ x ∈ P3 l B A C ∨ x ∈ P3 l B C A ∨ x ∈ P3 l C A B ∨ x ∈ P3 l C B A := by
  have e : nodeTurns l [A, B, C] = addAll (addAll (addAll (addAll (addAll (addAll [] (P3 l A B C)) (P3 l A C B)) (P3 l B A C)) (P3 l B C A)) (P3 l C A B)) (P3 l C B A) := rfl
  rw [e, mem_addAll, mem_addAll, mem_addAll, mem_addAll, mem_addAll, mem_addAll]; simp only [List.not_mem_nil, false_or, or_assoc]
theorem nodup_node (l : Nat) (tt : List (List (List Nat))) : (nodeTurns l tt).Nodup := nodup_first l tt _ _ List.nodup_nil

/-! Math3 -/
noncomputable def Sm2 (A B : List (List Nat)) : Prop := ∀ x, x ∈ A ↔ x ∈ B
theorem Sm2.symm {A B : List (List Nat)} (h : Sm2 A B) : Sm2 B A := fun x => (h x).symm
theorem P2_congr {l : Nat} {A A' B B' : List (List Nat)} (ha : Sm2 A A') (hb : Sm2 B B') : Sm2 (P2 l A B) (P2 l A' B') := fun x => by
  rw [mem_P2, mem_P2]
  constructor
  · rintro ⟨a, h1, b, h2, e⟩; exact ⟨a, (ha a).mp h1, b, (hb b).mp h2, e⟩
  · rintro ⟨a, h1, b, h2, e⟩; exact ⟨a, (ha a).mpr h1, b, (hb b).mpr h2, e⟩
theorem P3_congr {l : Nat} {A A' B B' C C' : List (List Nat)} (ha : Sm2 A A') (hb : Sm2 B B') (hc : Sm2 C C') : Sm2 (P3 l A B C) (P3 l A' B' C') := fun x => by
  rw [mem_P3, mem_P3]
  constructor
  · rintro ⟨a, h1, b, h2, c, h3, e⟩; exact ⟨a, (ha a).mp h1, b, (hb b).mp h2, c, (hc c).mp h3, e⟩
  · rintro ⟨a, h1, b, h2, c, h3, e⟩; exact ⟨a, (ha a).mpr h1, b, (hb b).mpr h2, c, (hc c).mpr h3, e⟩
theorem P2_dj {l : Nat} {A A' B B' : List (List Nat)} (fa : Fl A) (fa' : Fl A') (h : Dj A A') : Dj (P2 l A B) (P2 l A' B') := fun x hx hy => by
  obtain ⟨a, h1, b, h2, rfl⟩ := mem_P2.mp hx
  obtain ⟨a', h1', b', h2', e⟩ := mem_P2.mp hy
  have := (fa.pre fa' h1 h1' (List.cons.inj e).2).1
  exact h a h1 (this ▸ h1')
theorem P3_dj {l : Nat} {A A' B B' C C' : List (List Nat)} (fa : Fl A) (fa' : Fl A') (fb : Fl B) (fb' : Fl B') (h : Dj A A' ∨ Dj B B') : Dj (P3 l A B C) (P3 l A' B' C') := fun x hx hy => by
  obtain ⟨a, h1, b, h2, c, h3, rfl⟩ := mem_P3.mp hx
  obtain ⟨a', h1', b', h2', c', h3', e⟩ := mem_P3.mp hy
  obtain ⟨e1, e2⟩ := fa.pre fa' h1 h1' (List.cons.inj e).2
  obtain ⟨e3, e4⟩ := fb.pre fb' h2 h2' e2
  rcases h with h | h
  · exact h a h1 (e1 ▸ h1')
  · exact h b h2 (e3 ▸ h2')
theorem len2_same {l : Nat} {A B : List (List Nat)} (fa : Fl A) (na : A.Nodup) (nb : B.Nodup) (h : Sm2 A B) : (nodeTurns l [A, B]).length = A.length * B.length := by
  rw [← len_P2 l]
  refine nodup_len_eq (nodup_node _ _) (nodup_P2 fa na nb) fun x => ?_
  rw [mem_node2, P2_congr h.symm h x, or_self]
theorem len2_diff {l : Nat} {A B : List (List Nat)} (fa : Fl A) (fb : Fl B) (na : A.Nodup) (nb : B.Nodup) (h : Dj A B) : (nodeTurns l [A, B]).length = A.length * B.length * 2 := by
  have : (P2 l A B ++ P2 l B A).length = A.length * B.length * 2 := by rw [List.length_append, len_P2, len_P2, Nat.mul_comm B.length]; omega
  rw [← this]
  refine nodup_len_eq (nodup_node _ _) (nodup_app (nodup_P2 fa na nb) (nodup_P2 fb nb na) (P2_dj fa fb h)) fun x => ?_
  rw [mem_node2, List.mem_append]
theorem node3_swap1 (l : Nat) (A B C : List (List Nat)) : (nodeTurns l [A, B, C]).length = (nodeTurns l [B, A, C]).length := by
  refine nodup_len_eq (nodup_node _ _) (nodup_node _ _) fun x => ?_
  rw [mem_node3, mem_node3]
  constructor
  · rintro (h | h | h | h | h | h)
    · exact .inr (.inr (.inl h))
    · exact .inr (.inr (.inr (.inl h)))
    · exact .inl h
    · exact .inr (.inl h)
    · exact .inr (.inr (.inr (.inr (.inr h))))
    · exact .inr (.inr (.inr (.inr (.inl h))))
  · rintro (h | h | h | h | h | h)
    · exact .inr (.inr (.inl h))
    · exact .inr (.inr (.inr (.inl h)))
    · exact .inl h
    · exact .inr (.inl h)
    · exact .inr (.inr (.inr (.inr (.inr h))))
    · exact .inr (.inr (.inr (.inr (.inl h))))
theorem node3_swap2 (l : Nat) (A B C : List (List Nat)) : (nodeTurns l [A, B, C]).length = (nodeTurns l [A, C, B]).length := by
  refine nodup_len_eq (nodup_node _ _) (nodup_node _ _) fun x => ?_
  rw [mem_node3, mem_node3]
  constructor
  · rintro (h | h | h | h | h | h)
    · exact .inr (.inl h)
    · exact .inl h
    · exact .inr (.inr (.inr (.inr (.inl h))))
    · exact .inr (.inr (.inr (.inr (.inr h))))
    · exact .inr (.inr (.inl h))
    · exact .inr (.inr (.inr (.inl h)))
  · rintro (h | h | h | h | h | h)
    · exact .inr (.inl h)
    · exact .inl h
    · exact .inr (.inr (.inr (.inr (.inl h))))
    · exact .inr (.inr (.inr (.inr (.inr h))))
    · exact .inr (.inr (.inl h))
    · exact .inr (.inr (.inr (.inl h)))
theorem Sm2.refl (A : List (List Nat)) : Sm2 A A := fun _ => Iff.rfl
theorem Sm2.trans {A B C : List (List Nat)} (h : Sm2 A B) (h' : Sm2 B C) : Sm2 A C := fun x => (h x).trans (h' x)
theorem len3_same {l : Nat} {A B C : List (List Nat)} (fa : Fl A) (fb : Fl B) (na : A.Nodup) (nb : B.Nodup) (nc : C.Nodup) (h : Sm2 A B) (h' : Sm2 B C) : (nodeTurns l [A, B, C]).length = A.length * B.length * C.length := by
  rw [← len_P3 l]
  refine nodup_len_eq (nodup_node _ _) (nodup_P3 fa fb na nb nc) fun x => ?_
  have ac := h.trans h'
  rw [mem_node3, P3_congr (.refl A) h'.symm h' x, P3_congr h.symm h (.refl C) x, P3_congr h.symm h'.symm ac x, P3_congr ac.symm h h' x, P3_congr ac.symm (.refl B) ac x]
  simp only [or_self]
theorem Dj.sm {A B C : List (List Nat)} (h : Dj A C) (e : Sm2 A B) : Dj B C := fun x hx => h x ((e x).mpr hx)
theorem len3_two {l : Nat} {A B C : List (List Nat)} (fa : Fl A) (fb : Fl B) (fc : Fl C) (na : A.Nodup) (nb : B.Nodup) (nc : C.Nodup) (h : Sm2 A B) (d : Dj A C) : (nodeTurns l [A, B, C]).length = A.length * B.length * C.length * 3 := by
  have d' := d.sm h
  have : (P3 l A B C ++ (P3 l A C B ++ P3 l C A B)).length = A.length * B.length * C.length * 3 := by
    rw [List.length_append, List.length_append, len_P3, len_P3, len_P3, Nat.mul_right_comm A.length C.length, Nat.mul_comm C.length A.length, Nat.mul_right_comm A.length C.length]; omega
  rw [← this]
  refine nodup_len_eq (nodup_node _ _) (nodup_app (nodup_P3 fa fb na nb nc) (nodup_app (nodup_P3 fa fc na nc nb) (nodup_P3 fc fa nc na nb) (P3_dj fa fc fc fa (.inl d))) (Dj.app (P3_dj fa fa fb fc (.inr d')) (P3_dj fa fc fb fa (.inl d)))) fun x => ?_
  rw [mem_node3, List.mem_append, List.mem_append, P3_congr h.symm h (.refl C) x, P3_congr h.symm (.refl C) h x, P3_congr (.refl C) h.symm h x]
  constructor
  · rintro (h | h | h | h | h | h)
    · exact .inl h
    · exact .inr (.inl h)
    · exact .inl h
    · exact .inr (.inl h)
    · exact .inr (.inr h)
    · exact .inr (.inr h)
  · rintro (h | h | h)
    · exact .inl h
    · exact .inr (.inl h)
    · exact .inr (.inr (.inr (.inr (.inl h))))
theorem len3_diff {l : Nat} {A B C : List (List Nat)} (fa : Fl A) (fb : Fl B) (fc : Fl C) (na : A.Nodup) (nb : B.Nodup) (nc : C.Nodup) (ab : Dj A B) (bc : Dj B C) (ac : Dj A C) : (nodeTurns l [A, B, C]).length = A.length * B.length * C.length * 6 := by
  have e1 : A.length * C.length * B.length = A.length * B.length * C.length := Nat.mul_right_comm _ _ _
  have e2 : B.length * A.length * C.length = A.length * B.length * C.length := by rw [Nat.mul_comm B.length]
  have e3 : B.length * C.length * A.length = A.length * B.length * C.length := by rw [Nat.mul_comm, Nat.mul_assoc]
  have e4 : C.length * A.length * B.length = A.length * B.length * C.length := by rw [Nat.mul_assoc, Nat.mul_comm]
  have e5 : C.length * B.length * A.length = A.length * B.length * C.length := by rw [Nat.mul_comm C.length, e3]
  have : (P3 l A B C ++ (P3 l A C B ++ (P3 l B A C ++ (P3 l B C A ++ (P3 l C A B ++ P3 l C B A))))).length = A.length * B.length * C.length * 6 := by
    simp only [List.length_append, len_P3, e1, e2, e3, e4, e5]; omega
  rw [← this]
  have ba := ab.symm
  have cb := bc.symm
  have ca := ac.symm
  refine nodup_len_eq (nodup_node _ _) (nodup_app (nodup_P3 fa fb na nb nc) (nodup_app (nodup_P3 fa fc na nc nb) (nodup_app (nodup_P3 fb fa nb na nc) (nodup_app (nodup_P3 fb fc nb nc na) (nodup_app (nodup_P3 fc fa nc na nb) (nodup_P3 fc fb nc nb na)
    (P3_dj fc fc fa fb (.inr ab))) (Dj.app (P3_dj fb fc fc fa (.inl bc)) (P3_dj fb fc fc fb (.inl bc)))) (Dj.app (P3_dj fb fb fa fc (.inr ac)) (Dj.app (P3_dj fb fc fa fa (.inl bc)) (P3_dj fb fc fa fb (.inl bc)))))
    (Dj.app (P3_dj fa fb fc fa (.inl ab)) (Dj.app (P3_dj fa fb fc fc (.inl ab)) (Dj.app (P3_dj fa fc fc fa (.inl ac)) (P3_dj fa fc fc fb (.inl ac))))))
    (Dj.app (P3_dj fa fa fb fc (.inr bc)) (Dj.app (P3_dj fa fb fb fa (.inl ab)) (Dj.app (P3_dj fa fb fb fc (.inl ab)) (Dj.app (P3_dj fa fc fb fa (.inl ac)) (P3_dj fa fc fb fb (.inl ac))))))) fun x => ?_
  rw [mem_node3]; simp only [List.mem_append]
section
variable {W : List (List Nat)} {S : List (List Nat × Nat)}
theorem mem_turns : ∀ {t : Tr}, WfT t → Rd W S t → ∀ r, r ∈ turnsOf t ↔ ∃ u, WfT u ∧ sid W S u = sid W S t ∧ flat u = r := by
  intro t
  induction t with
  | leaf c =>
    intro ht hr r
    cases ht with
    | leaf hc =>
      constructor
      · intro h
        rw [List.mem_singleton.mp h]
        exact ⟨.leaf c, .leaf hc, rfl, rfl⟩
      · rintro ⟨u, hu, e, rfl⟩
        rw [sid_leaf hu hc hr e]
        exact List.mem_singleton.mpr rfl
  | two l a b iha ihb =>
    intro ht hr r
    cases ht with
    | two hl ha hb =>
      have ia := iha ha hr.2.1
      have ib := ihb hb hr.2.2
      show r ∈ nodeTurns l [turnsOf a, turnsOf b] ↔ _
      rw [mem_node2, mem_P2, mem_P2]
      constructor
      · rintro (⟨x, hx, y, hy, rfl⟩ | ⟨x, hx, y, hy, rfl⟩)
        · obtain ⟨u1, w1, e1, rfl⟩ := (ia x).mp hx
          obtain ⟨u2, w2, e2, rfl⟩ := (ib y).mp hy
          exact ⟨.two l u1 u2, .two hl w1 w2, sid_eq (by rw [ent_two, ent_two, e1, e2]), rfl⟩
        · obtain ⟨u1, w1, e1, rfl⟩ := (ib x).mp hx
          obtain ⟨u2, w2, e2, rfl⟩ := (ia y).mp hy
          exact ⟨.two l u1 u2, .two hl w1 w2, sid_eq (by rw [ent_two, ent_two, e1, e2, cf2]), rfl⟩
      · rintro ⟨u, hu, e, rfl⟩
        obtain ⟨u1, u2, rfl, w1, w2, h⟩ := sid_two hu hl hr e
        rcases h with ⟨e1, e2⟩ | ⟨e1, e2⟩
        · exact .inl ⟨flat u1, (ia _).mpr ⟨u1, w1, e1, rfl⟩, flat u2, (ib _).mpr ⟨u2, w2, e2, rfl⟩, rfl⟩
        · exact .inr ⟨flat u1, (ib _).mpr ⟨u1, w1, e1, rfl⟩, flat u2, (ia _).mpr ⟨u2, w2, e2, rfl⟩, rfl⟩
  | three l a b c iha ihb ihc =>
    intro ht hr r
    cases ht with
    | three hl ha hb hc =>
      have ia := iha ha hr.2.1
      have ib := ihb hb hr.2.2.1
      have ic := ihc hc hr.2.2.2
      show r ∈ nodeTurns l [turnsOf a, turnsOf b, turnsOf c] ↔ _
      rw [mem_node3, mem_P3, mem_P3, mem_P3, mem_P3, mem_P3, mem_P3]
      have mk : ∀ {p q s : Tr}, (∀ r, r ∈ turnsOf p ↔ ∃ u, WfT u ∧ sid W S u = sid W S p ∧ flat u = r) → (∀ r, r ∈ turnsOf q ↔ ∃ u, WfT u ∧ sid W S u = sid W S q ∧ flat u = r) → (∀ r, r ∈ turnsOf s ↔ ∃ u, WfT u ∧ sid W S u = sid W S s ∧ flat u = r) →
          cf [sid W S p, sid W S q, sid W S s] = cf [sid W S a, sid W S b, sid W S c] → (∃ x ∈ turnsOf p, ∃ y ∈ turnsOf q, ∃ z ∈ turnsOf s, r = l :: (x ++ (y ++ z))) → ∃ u, WfT u ∧ sid W S u = sid W S (.three l a b c) ∧ flat u = r := by
        rintro p q s ip iq is ecf ⟨x, hx, y, hy, z, hz, rfl⟩
        obtain ⟨u1, w1, e1, rfl⟩ := (ip x).mp hx
        obtain ⟨u2, w2, e2, rfl⟩ := (iq y).mp hy
        obtain ⟨u3, w3, e3, rfl⟩ := (is z).mp hz
        exact ⟨.three l u1 u2 u3, .three hl w1 w2 w3, sid_eq (by rw [ent_three, ent_three, e1, e2, e3, ecf]), rfl⟩
      constructor
      · rintro (h | h | h | h | h | h)
        · exact mk ia ib ic rfl h
        · exact mk ia ic ib (cf3b _ _ _) h
        · exact mk ib ia ic (cf3a _ _ _) h
        · exact mk ib ic ia ((cf3b _ _ _).trans (cf3a _ _ _)) h
        · exact mk ic ia ib ((cf3a _ _ _).trans (cf3b _ _ _)) h
        · exact mk ic ib ia ((cf3a _ _ _).trans ((cf3b _ _ _).trans (cf3a _ _ _))) h
      · rintro ⟨u, hu, e, rfl⟩
        obtain ⟨u1, u2, u3, rfl, w1, w2, w3, h⟩ := sid_three hu hl hr e
        rcases h with ⟨e1, ⟨e2, e3⟩ | ⟨e2, e3⟩⟩ | ⟨e1, ⟨e2, e3⟩ | ⟨e2, e3⟩⟩ | ⟨e1, ⟨e2, e3⟩ | ⟨e2, e3⟩⟩
        · exact .inl ⟨_, (ia _).mpr ⟨u1, w1, e1, rfl⟩, _, (ib _).mpr ⟨u2, w2, e2, rfl⟩, _, (ic _).mpr ⟨u3, w3, e3, rfl⟩, rfl⟩
        · exact .inr (.inl ⟨_, (ia _).mpr ⟨u1, w1, e1, rfl⟩, _, (ic _).mpr ⟨u2, w2, e2, rfl⟩, _, (ib _).mpr ⟨u3, w3, e3, rfl⟩, rfl⟩)
        · exact .inr (.inr (.inl ⟨_, (ib _).mpr ⟨u1, w1, e1, rfl⟩, _, (ia _).mpr ⟨u2, w2, e2, rfl⟩, _, (ic _).mpr ⟨u3, w3, e3, rfl⟩, rfl⟩))
        · exact .inr (.inr (.inr (.inl ⟨_, (ib _).mpr ⟨u1, w1, e1, rfl⟩, _, (ic _).mpr ⟨u2, w2, e2, rfl⟩, _, (ia _).mpr ⟨u3, w3, e3, rfl⟩, rfl⟩)))
        · exact .inr (.inr (.inr (.inr (.inl ⟨_, (ic _).mpr ⟨u1, w1, e1, rfl⟩, _, (ia _).mpr ⟨u2, w2, e2, rfl⟩, _, (ib _).mpr ⟨u3, w3, e3, rfl⟩, rfl⟩))))
        · exact .inr (.inr (.inr (.inr (.inr ⟨_, (ic _).mpr ⟨u1, w1, e1, rfl⟩, _, (ib _).mpr ⟨u2, w2, e2, rfl⟩, _, (ia _).mpr ⟨u3, w3, e3, rfl⟩, rfl⟩))))
theorem nodup_turns (t : Tr) : (turnsOf t).Nodup := by
  cases t with
  | leaf c => show [[c]].Nodup; simp
  | two l a b => exact nodup_node _ _
  | three l a b c => exact nodup_node _ _
theorem fl_turns {t : Tr} (ht : WfT t) (hr : Rd W S t) : Fl (turnsOf t) := fun x hx => by
  obtain ⟨u, hu, _, e⟩ := (mem_turns ht hr x).mp hx
  exact ⟨u, hu, e⟩
theorem sm_turns {a b : Tr} (ha : WfT a) (hb : WfT b) (ra : Rd W S a) (rb : Rd W S b) (e : sid W S a = sid W S b) : Sm2 (turnsOf a) (turnsOf b) := fun x => by
  rw [mem_turns ha ra, mem_turns hb rb, e]
theorem dj_turns {a b : Tr} (ha : WfT a) (hb : WfT b) (ra : Rd W S a) (rb : Rd W S b) (e : sid W S a ≠ sid W S b) : Dj (turnsOf a) (turnsOf b) := fun x hx hy => by
  obtain ⟨u, hu, e1, rfl⟩ := (mem_turns ha ra x).mp hx
  obtain ⟨v, hv, e2, e3⟩ := (mem_turns hb rb _).mp hy
  have := flat_inj hv hu e3
  subst this
  exact e (e1.symm.trans e2)
theorem len_two {l : Nat} {a b : Tr} (ha : WfT a) (hb : WfT b) (ra : Rd W S a) (rb : Rd W S b) : (turnsOf (.two l a b)).length * prodF (cf [sid W S b, sid W S a]) = (turnsOf a).length * (turnsOf b).length * 2 := by
  show (nodeTurns l [turnsOf a, turnsOf b]).length * _ = _
  rw [prodF2]
  by_cases e : sid W S b = sid W S a
  · rw [if_pos e, len2_same (fl_turns ha ra) (nodup_turns a) (nodup_turns b) (sm_turns ha hb ra rb e.symm)]
  · rw [if_neg e, len2_diff (fl_turns ha ra) (fl_turns hb rb) (nodup_turns a) (nodup_turns b) (dj_turns ha hb ra rb fun q => e q.symm), Nat.mul_one]
theorem len_three {l : Nat} {a b c : Tr} (ha : WfT a) (hb : WfT b) (hc : WfT c) (ra : Rd W S a) (rb : Rd W S b) (rc : Rd W S c) : (turnsOf (.three l a b c)).length * prodF (cf [sid W S c, sid W S b, sid W S a]) = (turnsOf a).length * (turnsOf b).length * (turnsOf c).length * 6 := by
  show (nodeTurns l [turnsOf a, turnsOf b, turnsOf c]).length * _ = _
  have fa := fl_turns ha ra
  have fb := fl_turns hb rb
  have fc := fl_turns hc rc
  have na := nodup_turns a
  have nb := nodup_turns b
  have nc := nodup_turns c
  rw [prodF3]
  by_cases e1 : sid W S a = sid W S b
  · by_cases e2 : sid W S b = sid W S c
    · rw [if_pos ⟨e2.symm, e1.symm⟩, len3_same fa fb na nb nc (sm_turns ha hb ra rb e1) (sm_turns hb hc rb rc e2)]
    · rw [if_neg (fun q => e2 q.1.symm), if_pos (.inr (.inl e1.symm)), len3_two fa fb fc na nb nc (sm_turns ha hb ra rb e1) (dj_turns ha hc ra rc fun q => e2 (e1.symm.trans q))]
      omega
  · by_cases e2 : sid W S b = sid W S c
    · rw [if_neg (fun q => e1 q.2.symm), if_pos (.inl e2.symm), node3_swap1, node3_swap2, len3_two fb fc fa nb nc na (sm_turns hb hc rb rc e2) (dj_turns hb ha rb ra fun q => e1 q.symm)]
      rw [show (turnsOf b).length * (turnsOf c).length * (turnsOf a).length = (turnsOf a).length * (turnsOf b).length * (turnsOf c).length by rw [Nat.mul_comm, Nat.mul_assoc]]
      omega
    · by_cases e3 : sid W S a = sid W S c
      · rw [if_neg (fun q => e1 q.2.symm), if_pos (.inr (.inr e3.symm)), node3_swap2, len3_two fa fc fb na nc nb (sm_turns ha hc ra rc e3) (dj_turns ha hb ra rb e1)]
        rw [Nat.mul_right_comm (turnsOf a).length]
        omega
      · rw [if_neg (fun q => e1 q.2.symm), if_neg (by rintro (q | q | q); exact e2 q.symm; exact e1 q.symm; exact e3 q.symm), len3_diff fa fb fc na nb nc (dj_turns ha hb ra rb e1) (dj_turns hb hc rb rc e2) (dj_turns ha hc ra rc e3), Nat.mul_one]
end

/-! Math4 -/
/-! reading a description -/
theorem page_split {row pg : List Nat} (h : PageOf row pg) : ∀ {r1 r2 : List Nat}, row = r1 ++ r2 → ∃ p1 p2, pg = p1 ++ p2 ∧ PageOf r1 p1 ∧ PageOf r2 p2 := by
  induction h with
  | nil =>
    intro r1 r2 e
    obtain ⟨rfl, rfl⟩ := List.append_eq_nil_iff.mp e.symm
    exact ⟨[], [], rfl, .nil, .nil⟩
  | plain h0 hm ih =>
    intro r1 r2 e
    rcases List.eq_nil_or_concat r2 with rfl | ⟨r2', c', rfl⟩
    · rw [List.append_nil] at e
      exact ⟨_, [], (List.append_nil _).symm, e ▸ .plain h0 hm, .nil⟩
    · rw [List.concat_eq_append, ← List.append_assoc] at e
      rw [List.concat_eq_append]
      obtain ⟨e1, e2⟩ := List.append_inj' e rfl
      obtain ⟨p1, p2, rfl, h1, h2⟩ := ih e1
      simp only [List.cons.injEq, and_true] at e2
      exact ⟨p1, p2 ++ [_], List.append_assoc _ _ _, h1, e2 ▸ .plain h2 hm⟩
  | unseen h0 hm hu ih =>
    rename_i s9 u9
    intro r1 r2 e
    rcases List.eq_nil_or_concat r2 with rfl | ⟨r2', c', rfl⟩
    · rw [List.append_nil] at e
      exact ⟨_, [], (List.append_nil _).symm, e ▸ .unseen h0 hm hu, .nil⟩
    · rw [List.concat_eq_append, ← List.append_assoc] at e
      rw [List.concat_eq_append]
      obtain ⟨e1, e2⟩ := List.append_inj' e rfl
      obtain ⟨p1, p2, rfl, h1, h2⟩ := ih e1
      simp only [List.cons.injEq, and_true] at e2
      subst e2
      exact ⟨p1, p2 ++ [s9] ++ [u9], by simp, h1, .unseen h2 hm hu⟩
theorem page_nil {pg : List Nat} (h : PageOf [] pg) : pg = [] := by
  generalize e : ([] : List Nat) = row at h
  cases h with
  | nil => rfl
  | plain => simp at e
  | unseen => simp at e
theorem page_one {c : Nat} {pg : List Nat} (h : PageOf [c] pg) : ∃ s, (c, s) ∈ encs ∧ ∀ st, pgRun st pg.reverse = pgStep st s := by
  have fin : ∀ st s, ((pgStep st s).bind fun st' => pgRun st' []) = pgStep st s := fun st s => by cases pgStep st s <;> rfl
  generalize e : [c] = row at h
  cases h with
  | nil => cases e
  | plain h0 hm =>
    rename_i row0 pg0 c0 s
    have : row0 = [] ∧ c = c0 := by
      cases row0 with
      | nil => simp at e; exact ⟨rfl, e⟩
      | cons a r => simp at e
    obtain ⟨rfl, rfl⟩ := this
    rw [page_nil h0]
    exact ⟨s, hm, fun st => fin st s⟩
  | unseen h0 hm hu =>
    rename_i row0 pg0 c0 s u
    have : row0 = [] ∧ c = c0 := by
      cases row0 with
      | nil => simp at e; exact ⟨rfl, e⟩
      | cons a r => simp at e
    obtain ⟨rfl, rfl⟩ := this
    rw [page_nil h0]
    refine ⟨s, hm, fun st => ?_⟩
    show ((pgStep st u).bind fun st' => pgRun st' [s]) = _
    have : pgStep st u = some st := by unfold pgStep; rw [if_pos hu]
    rw [this]
    exact fin st s
theorem enc_leaf {c s : Nat} (h : (c, s) ∈ encs) (hc : c = 48 ∨ c = 49 ∨ c = 50) : inB1 s = false ∧ inC7 s = false ∧ b3All.lookup s = some (word c) := by
  have : ∀ p ∈ encs, (p.1 = 48 ∨ p.1 = 49 ∨ p.1 = 50) → (inB1 (p.2 : Nat) = false ∧ inC7 (p.2 : Nat) = false ∧ b3All.lookup p.2 = some (word p.1)) := by decide
  exact this _ h hc
theorem enc_node {c s : Nat} (h : (c, s) ∈ encs) (hc : c = 12272 ∨ c = 12283 ∨ c = 12274 ∨ c = 12275) : s = c ∧ inB1 s = false ∧ inC7 s = true := by
  have : ∀ p ∈ encs, (p.1 = 12272 ∨ p.1 = 12283 ∨ p.1 = 12274 ∨ p.1 = 12275) → (p.2 = p.1 ∧ inB1 (p.2 : Nat) = false ∧ inC7 (p.2 : Nat) = true) := by decide
  exact this _ h hc
noncomputable def Ext (a b : St) : Prop := (∃ x, b.S = a.S ++ x) ∧ ∃ y, b.W = a.W ++ y
theorem Ext.trans {a b c : St} (h : Ext a b) (h' : Ext b c) : Ext a c := by
  obtain ⟨⟨x, hx⟩, y, hy⟩ := h
  obtain ⟨⟨x', hx'⟩, y', hy'⟩ := h'
  exact ⟨⟨x ++ x', by rw [hx', hx, List.append_assoc]⟩, y ++ y', by rw [hy', hy, List.append_assoc]⟩
theorem putS_ext (S : List (List Nat × Nat)) (h : List Nat × Nat) : ∃ x, putS S h = S ++ x := by
  unfold putS; split
  · exact ⟨[], (List.append_nil _).symm⟩
  · exact ⟨_, rfl⟩
theorem putW_ext (W : List (List Nat)) (h : List Nat) : ∃ x, putW W h = W ++ x := by
  unfold putW; split
  · exact ⟨[], (List.append_nil _).symm⟩
  · exact ⟨_, rfl⟩
theorem idx_app {α : Type} [BEq α] [LawfulBEq α] {a b : List α} {x : α} (h : x ∈ a) : (a ++ b).idxOf x = a.idxOf x := by
  rw [List.idxOf_append, if_pos h]
theorem ent_ext {W : List (List Nat)} {S : List (List Nat × Nat)} (y : List (List Nat)) (x : List (List Nat × Nat)) : ∀ {t : Tr}, Rd W S t → ent (W ++ y) (S ++ x) t = ent W S t := by
  intro t
  induction t with
  | leaf c => intro h; simp only [ent]; rw [idx_app h.2]
  | two l a b ia ib => intro h; simp only [ent]; rw [ia h.2.1, ib h.2.2, idx_app h.2.1.mem, idx_app h.2.2.mem]
  | three l a b c ia ib ic => intro h; simp only [ent]; rw [ia h.2.1, ib h.2.2.1, ic h.2.2.2, idx_app h.2.1.mem, idx_app h.2.2.1.mem, idx_app h.2.2.2.mem]
theorem Rd.ext {W : List (List Nat)} {S : List (List Nat × Nat)} (y : List (List Nat)) (x : List (List Nat × Nat)) : ∀ {t : Tr}, Rd W S t → Rd (W ++ y) (S ++ x) t := by
  intro t
  induction t with
  | leaf c => intro h; exact ⟨by rw [ent_ext y x h]; exact List.mem_append_left _ h.1, List.mem_append_left _ h.2⟩
  | two l a b ia ib => intro h; exact ⟨by rw [ent_ext y x h]; exact List.mem_append_left _ h.1, ia h.2.1, ib h.2.2⟩
  | three l a b c ia ib ic => intro h; exact ⟨by rw [ent_ext y x h]; exact List.mem_append_left _ h.1, ia h.2.1, ib h.2.2.1, ic h.2.2.2⟩
theorem Ext.rd {a b : St} (h : Ext a b) {t : Tr} (r : Rd a.W a.S t) : Rd b.W b.S t ∧ sid b.W b.S t = sid a.W a.S t := by
  obtain ⟨⟨x, hx⟩, y, hy⟩ := h
  rw [hx, hy]
  refine ⟨r.ext y x, ?_⟩
  unfold sid
  rw [ent_ext y x r, idx_app r.mem]
noncomputable def Reads (t : Tr) (pg : List Nat) : Prop := ∀ st : St, ∃ st', pgRun st pg.reverse = some st' ∧ st'.pile = st.pile ++ [sid st'.W st'.S t] ∧ Ext st st' ∧ Rd st'.W st'.S t ∧ st'.ways = st.ways * (turnsOf t).length
theorem take_two (P : List Nat) (p q : Nat) : (P ++ [p] ++ [q]).take ((P ++ [p] ++ [q]).length - 2) = P ∧ (P ++ [p] ++ [q]).drop ((P ++ [p] ++ [q]).length - 2) = [p, q] ∧ 2 ≤ (P ++ [p] ++ [q]).length := by
  have e : (P ++ [p] ++ [q]).length - 2 = P.length := by simp
  rw [e]
  refine ⟨?_, ?_, by simp⟩
  · rw [List.append_assoc, List.take_append_of_le_length (Nat.le_refl _), List.take_length]
  · rw [List.append_assoc, List.drop_append_of_le_length (Nat.le_refl _), List.drop_length]; rfl
theorem take_three (P : List Nat) (p q r : Nat) : (P ++ [p] ++ [q] ++ [r]).take ((P ++ [p] ++ [q] ++ [r]).length - 3) = P ∧ (P ++ [p] ++ [q] ++ [r]).drop ((P ++ [p] ++ [q] ++ [r]).length - 3) = [p, q, r] ∧ 3 ≤ (P ++ [p] ++ [q] ++ [r]).length := by
  have e : (P ++ [p] ++ [q] ++ [r]).length - 3 = P.length := by simp
  rw [e]
  refine ⟨?_, ?_, by simp⟩
  · rw [List.append_assoc, List.append_assoc, List.take_append_of_le_length (Nat.le_refl _), List.take_length]
  · rw [List.append_assoc, List.append_assoc, List.drop_append_of_le_length (Nat.le_refl _), List.drop_length]; rfl
theorem div_of {a b c d : Nat} (h : a * b = c) (hb : 0 < b) : d * c / b = d * a := by
  rw [← h, ← Nat.mul_assoc]; exact Nat.mul_div_cancel _ hb
theorem prodF_pos : ∀ cl : List Nat, 0 < prodF cl
  | [] => by decide
  | c :: r => Nat.mul_pos (factL_pos c) (prodF_pos r)
theorem read_tree : ∀ {t : Tr}, WfT t → ∀ {pg : List Nat}, PageOf (flat t) pg → Reads t pg := by
  intro t
  induction t with
  | leaf c =>
    intro ht pg hp st
    cases ht with
    | leaf hc =>
      obtain ⟨s, hs, hrun⟩ := page_one hp
      obtain ⟨h1, h2, h3⟩ := enc_leaf hs hc
      have hstep : pgStep st s = some (leafStep st (word c)) := by
        unfold pgStep
        rw [if_neg (by rw [h1]; decide), if_neg (by rw [h2]; decide), h3]; rfl
      refine ⟨_, (hrun st).trans hstep, ?_⟩
      have hn : wsNorm (List.replicate (1 + (putW st.W (word c)).idxOf (word c)) 32) = ([], 1 + (putW st.W (word c)).idxOf (word c)) := norm_blanks _
      unfold leafStep endStep
      dsimp only
      rw [hn]
      refine ⟨rfl, ⟨putS_ext _ _, putW_ext _ _⟩, ⟨putS_mem _ _, putW_mem _ _⟩, ?_⟩
      show st.ways = st.ways * 1
      rw [Nat.mul_one]
  | two l a b iha ihb =>
    intro ht pg hp st
    cases ht with
    | two hl ha hb =>
      obtain ⟨p1, p23, rfl, h1, h23⟩ := page_split hp (r1 := [l]) (r2 := flat a ++ flat b) rfl
      obtain ⟨p2, p3, rfl, h2, h3⟩ := page_split h23 rfl
      obtain ⟨s, hs, hrun⟩ := page_one h1
      obtain ⟨rfl, e1, e2⟩ := enc_node hs (by omega)
      obtain ⟨st1, r1, q1, x1, d1, w1⟩ := ihb hb h3 st
      obtain ⟨st2, r2, q2, x2, d2, w2⟩ := iha ha h2 st1
      obtain ⟨d1', s1'⟩ := x2.rd d1
      have hm : manyOf s = 2 := by unfold manyOf; rw [if_neg (by omega)]
      have hpile : st2.pile = st.pile ++ [sid st2.W st2.S b] ++ [sid st2.W st2.S a] := by rw [q2, q1, s1']
      obtain ⟨t1, t2, t3⟩ := take_two st.pile (sid st2.W st2.S b) (sid st2.W st2.S a)
      have hstep : pgStep st2 s = some (nodeStep st2 s) := by
        unfold pgStep
        rw [if_neg (by rw [e1]; decide), if_pos e2, hm, if_pos (by rw [hpile]; exact t3)]
      have hall : pgRun st (p1 ++ (p2 ++ p3)).reverse = some (nodeStep st2 s) := by
        rw [List.reverse_append, List.reverse_append, pgRun_append, pgRun_append, r1]
        show (pgRun st1 p2.reverse).bind _ = _
        rw [r2]
        exact (hrun st2).trans hstep
      refine ⟨_, hall, ?_⟩
      unfold nodeStep endStep
      rw [hm, hpile, t1, t2, norm_lead]
      dsimp only
      generalize hc : cf [sid st2.W st2.S b, sid st2.W st2.S a] = cc
      obtain ⟨x, hx⟩ := putS_ext st2.S (cc, s - 12272)
      have xe : Ext st2 ⟨st2.W, putS st2.S (cc, s - 12272), [], 0⟩ := ⟨⟨x, hx⟩, [], (List.append_nil _).symm⟩
      obtain ⟨da, sa⟩ := xe.rd d2
      obtain ⟨db, sb⟩ := xe.rd d1'
      dsimp only at da sa db sb
      have he : ent st2.W (putS st2.S (cc, s - 12272)) (.two s a b) = (cc, s - 12272) := by rw [ent_two, sa, sb, cf2, hc]
      refine ⟨?_, (x1.trans x2).trans ⟨⟨x, hx⟩, [], (List.append_nil _).symm⟩, ⟨by rw [he]; exact putS_mem _ _, da, db⟩, ?_⟩
      · unfold sid; rw [he]
      · rw [divs_eq, w2, w1]
        have hlen := len_two (l := s) ha hb d2 d1'
        rw [hc] at hlen
        have := div_of (d := st.ways) hlen (prodF_pos cc)
        rw [← this]
        congr 1
        show st.ways * (turnsOf b).length * (turnsOf a).length * 2 = _
        simp only [Nat.mul_assoc, Nat.mul_left_comm, Nat.mul_comm]
  | three l a b c iha ihb ihc =>
    intro ht pg hp st
    cases ht with
    | three hl ha hb hc =>
      obtain ⟨p1, p24, rfl, h1, h24⟩ := page_split hp (r1 := [l]) (r2 := flat a ++ (flat b ++ flat c)) rfl
      obtain ⟨p2, p34, rfl, h2, h34⟩ := page_split h24 rfl
      obtain ⟨p3, p4, rfl, h3, h4⟩ := page_split h34 rfl
      obtain ⟨s, hs, hrun⟩ := page_one h1
      obtain ⟨rfl, e1, e2⟩ := enc_node hs (by omega)
      obtain ⟨st1, r1, q1, x1, d1, w1⟩ := ihc hc h4 st
      obtain ⟨st2, r2, q2, x2, d2, w2⟩ := ihb hb h3 st1
      obtain ⟨st3, r3, q3, x3, d3, w3⟩ := iha ha h2 st2
      obtain ⟨d2', s2'⟩ := x3.rd d2
      obtain ⟨d1', s1'⟩ := (x2.trans x3).rd d1
      have hm : manyOf s = 3 := by unfold manyOf; rw [if_pos hl]
      have hpile : st3.pile = st.pile ++ [sid st3.W st3.S c] ++ [sid st3.W st3.S b] ++ [sid st3.W st3.S a] := by rw [q3, q2, q1, s1', s2']
      obtain ⟨t1, t2, t3⟩ := take_three st.pile (sid st3.W st3.S c) (sid st3.W st3.S b) (sid st3.W st3.S a)
      have hstep : pgStep st3 s = some (nodeStep st3 s) := by
        unfold pgStep
        rw [if_neg (by rw [e1]; decide), if_pos e2, hm, if_pos (by rw [hpile]; exact t3)]
      have hall : pgRun st (p1 ++ (p2 ++ (p3 ++ p4))).reverse = some (nodeStep st3 s) := by
        rw [List.reverse_append, List.reverse_append, List.reverse_append, pgRun_append, pgRun_append, pgRun_append, r1]
        show ((pgRun st1 p3.reverse).bind _).bind _ = _
        rw [r2]
        show (pgRun st2 p2.reverse).bind _ = _
        rw [r3]
        exact (hrun st3).trans hstep
      refine ⟨_, hall, ?_⟩
      unfold nodeStep endStep
      rw [hm, hpile, t1, t2, norm_lead]
      dsimp only
      generalize hcc : cf [sid st3.W st3.S c, sid st3.W st3.S b, sid st3.W st3.S a] = cc
      obtain ⟨x, hx⟩ := putS_ext st3.S (cc, s - 12272)
      have xe : Ext st3 ⟨st3.W, putS st3.S (cc, s - 12272), [], 0⟩ := ⟨⟨x, hx⟩, [], (List.append_nil _).symm⟩
      obtain ⟨da, sa⟩ := xe.rd d3
      obtain ⟨db, sb⟩ := xe.rd d2'
      obtain ⟨dc, sc⟩ := xe.rd d1'
      dsimp only at da sa db sb dc sc
      have he : ent st3.W (putS st3.S (cc, s - 12272)) (.three s a b c) = (cc, s - 12272) := by rw [ent_three, sa, sb, sc, cf3a, cf3b, cf3a, hcc]
      refine ⟨?_, ((x1.trans x2).trans x3).trans ⟨⟨x, hx⟩, [], (List.append_nil _).symm⟩, ⟨by rw [he]; exact putS_mem _ _, da, db, dc⟩, ?_⟩
      · unfold sid; rw [he]
      · rw [divs_eq, w3, w2, w1]
        have hlen := len_three (l := s) ha hb hc d3 d2' d1'
        rw [hcc] at hlen
        have := div_of (d := st.ways) hlen (prodF_pos cc)
        rw [← this]
        congr 1
        show st.ways * (turnsOf c).length * (turnsOf b).length * (turnsOf a).length * 6 = _
        simp only [Nat.mul_assoc, Nat.mul_left_comm, Nat.mul_comm]
/-! turning -/
theorem rot_ent {W : List (List Nat)} {S : List (List Nat × Nat)} : ∀ (t : Tr) (x : Int), ent W S (rot t x) = ent W S t := by
  intro t
  induction t with
  | leaf c => intro x; rfl
  | two l a b ia ib =>
    intro x
    rw [rot_two]
    split
    · rw [ent_two, ent_two, sid_eq (ia _), sid_eq (ib _)]
    · rw [ent_two, ent_two, sid_eq (ia _), sid_eq (ib _), cf2]
  | three l a b c ia ib ic =>
    intro x
    rw [rot_three]
    split
    · rw [ent_three, ent_three, sid_eq (ia _), sid_eq (ib _), sid_eq (ic _)]
    · split
      · rw [ent_three, ent_three, sid_eq (ia _), sid_eq (ib _), sid_eq (ic _), cf3b, cf3a]
      · rw [ent_three, ent_three, sid_eq (ia _), sid_eq (ib _), sid_eq (ic _), cf3a, cf3b]
theorem rot_rd {W : List (List Nat)} {S : List (List Nat × Nat)} : ∀ (t : Tr) (x : Int), Rd W S (rot t x) → Rd W S t := by
  intro t
  induction t with
  | leaf c => intro x h; exact h
  | two l a b ia ib =>
    intro x h
    have hm := h.mem
    rw [rot_ent] at hm
    rw [rot_two] at h
    split at h
    · exact ⟨hm, ia _ h.2.1, ib _ h.2.2⟩
    · exact ⟨hm, ia _ h.2.2, ib _ h.2.1⟩
  | three l a b c ia ib ic =>
    intro x h
    have hm := h.mem
    rw [rot_ent] at hm
    rw [rot_three] at h
    split at h
    · exact ⟨hm, ia _ h.2.1, ib _ h.2.2.1, ic _ h.2.2.2⟩
    · split at h
      · exact ⟨hm, ia _ h.2.2.2, ib _ h.2.1, ic _ h.2.2.1⟩
      · exact ⟨hm, ia _ h.2.2.1, ib _ h.2.2.2, ic _ h.2.1⟩
theorem rot_wf : ∀ {t : Tr} (x : Int), WfT t → WfT (rot t x) := by
  intro t
  induction t with
  | leaf c => intro x h; exact h
  | two l a b ia ib =>
    intro x h
    cases h with
    | two hl ha hb =>
      rw [rot_two]; split
      · exact .two hl (ia _ ha) (ib _ hb)
      · exact .two hl (ib _ hb) (ia _ ha)
  | three l a b c ia ib ic =>
    intro x h
    cases h with
    | three hl ha hb hc =>
      rw [rot_three]; split
      · exact .three hl (ia _ ha) (ib _ hb) (ic _ hc)
      · split
        · exact .three hl (ib _ hb) (ic _ hc) (ia _ ha)
        · exact .three hl (ic _ hc) (ia _ ha) (ib _ hb)
theorem rot_len {W : List (List Nat)} {S : List (List Nat × Nat)} {t : Tr} (x : Int) (ht : WfT t) (h : Rd W S (rot t x)) : (turnsOf (rot t x)).length = (turnsOf t).length := by
  refine nodup_len_eq (nodup_turns _) (nodup_turns _) fun r => ?_
  rw [mem_turns (rot_wf x ht) h, mem_turns ht (rot_rd t x h), sid_eq (rot_ent t x)]
/-- THE PLAIN LAW -/
theorem plain_law {first second : Tr} {x y : Int} {pg1 pg2 : List Nat} (h1 : WfT first) (h2 : WfT second) (p1 : PageOf (flat (rot first x)) pg1) (p2 : PageOf (flat (rot second y)) pg2) :
    ∃ r1 r2 k1 k2, pgRun ⟨[], [], [], 1⟩ pg1.reverse = some r1 ∧ r1.pile = [k1] ∧ pgRun ⟨r1.W, r1.S, [], 1⟩ pg2.reverse = some r2 ∧ r2.pile = [k2] ∧ r1.ways = (turnsOf first).length ∧ r2.ways = (turnsOf second).length ∧ (k1 = k2 ↔ flat (rot second y) ∈ turnsOf first) := by
  obtain ⟨r1, a1, a2, a3, a4, a5⟩ := read_tree (rot_wf x h1) p1 ⟨[], [], [], 1⟩
  obtain ⟨r2, b1, b2, b3, b4, b5⟩ := read_tree (rot_wf y h2) p2 ⟨r1.W, r1.S, [], 1⟩
  have xe : Ext r1 r2 := b3
  obtain ⟨c1, c2⟩ := xe.rd a4
  refine ⟨r1, r2, _, _, a1, a2, b1, b2, ?_, ?_, ?_⟩
  · rw [a5, rot_len x h1 a4]; exact Nat.one_mul _
  · rw [b5, rot_len y h2 b4]; exact Nat.one_mul _
  · rw [mem_turns h1 (rot_rd _ _ c1)]
    constructor
    · intro e
      exact ⟨rot second y, rot_wf y h2, by rw [← e, ← c2, sid_eq (rot_ent first x)], rfl⟩
    · rintro ⟨u, hu, e, ef⟩
      have := flat_inj hu (rot_wf y h2) ef
      subst this
      rw [← c2, sid_eq (rot_ent first x)]
      exact e.symm

/-! ReadT -/
open PySem PySem.W PyProof.Rows PySem.Calls PySem.Spec
theorem page_encs {row pg : List Nat} (h : PageOf row pg) : ∀ s ∈ pg, inB1 s = true ∨ ∃ c, (c, s) ∈ encs := by
  induction h with
  | nil => intro s hs; cases hs
  | plain _ hm ih =>
    intro s hs
    rcases List.mem_append.mp hs with hs | hs
    · exact ih s hs
    · rw [List.mem_singleton.mp hs]; exact .inr ⟨_, hm⟩
  | unseen _ hm hu ih =>
    intro s hs
    rcases List.mem_append.mp hs with hs | hs
    · rcases List.mem_append.mp hs with hs | hs
      · exact ih s hs
      · rw [List.mem_singleton.mp hs]; exact .inr ⟨_, hm⟩
    · rw [List.mem_singleton.mp hs]; exact .inl hu
/-- what the reading of a description comes to -/
noncomputable def RdOut (T : Tr) (W : List (List Nat)) (S : List (List Nat × Nat)) (sh wd : Addr) (nw fin : Led) (v : Value) : Prop :=
  ∃ pg r k q t u, PageOf (flat T) pg ∧ pgRun ⟨W, S, [], 1⟩ pg.reverse = some r ∧ r.pile = [k] ∧ RdIn r.W r.S sh wd fin ∧ (∀ p ∈ nw, p.1 ≠ sh → p.1 ≠ wd → p ∈ fin) ∧ v = .ref q ∧ (q, tupOf [.int k t, .int (r.ways : Nat) u]) ∈ fin
section
variable {w : World} {loose : List Str} {mean : ExcName → Option Value} {mg mb : Str → Option Value}
theorem readT_ct (T : Tr) (hT : WfT T) (W : List (List Nat)) (S : List (List Nat × Nat)) (sh wd : Addr) (nw : Led) (hl : W.length + S.length + 2 * (flat T).length ≤ 200) :
    CtM w loose mean mg mb 213 30 (fun news vs => (∀ p ∈ nw, p ∈ news) ∧ RdIn W S sh wd nw ∧ ∃ pg t, PageOf (flat T) pg ∧ vs = [.str ⟨List.toArray pg⟩ t, .ref sh, .ref wd]) (fun _ _ fin v => RdOut T W S sh wd nw fin v) := by
  unfold CtM
  rintro dp un gd cn cs a ccd cl outer A₀ base h₀ L m news s vs Q E B F X N Tp hk ⟨hsub, hRd, pg, t, hpg, rfl⟩ hd hu hret
  obtain ⟨r, h1, h2, _, _, _⟩ := read_tree hT hpg ⟨W, S, [], 1⟩
  have hpl := hpg.len
  have C := read_ct (w := w) (loose := loose) (mean := mean) (mg := mg) (mb := mb) W S pg r _ sh wd (page_encs hpg) (by omega) h1 h2
  unfold CtM at C
  refine C dp un gd cn cs a ccd cl outer A₀ base h₀ L m nw s _ Q E B F X (fun p hp => N p (hsub p hp)) Tp hk ⟨hRd, t, rfl⟩ hd hu ?_
  rintro v fin h' tk' F' N' ⟨g1, g2, q, t', u, rfl, g3⟩
  exact hret _ fin h' tk' F' N' ⟨pg, r, _, q, t', u, hpg, h1, h2, g1, g2, rfl, g3⟩
theorem ctm_use {f : Addr} {sz : Nat} {Rel : Led → List Value → Prop} {Out : Led → List Value → Led → Value → Prop} (C : CtM w loose mean mg mb f sz Rel Out)
    {dp un : Nat} {gd : Option (List Code)} {cn : Str} {cs : Scope} {a : Addr} {ccd : Value} {cl : List (Str × Addr)} {outer : List Env} {A₀ : Around} {base h₀ : Heap} {L : Addr} {m : Str → Option Value} {news : Led} {s : Shared} {vs : List Value} {Q E : Value → Shared → Prop}
    (B : Below A₀ base outer h₀) (F : Fr h₀ L s.heap m) (X : (devHeap w.params).In h₀) (N : News h₀ L s.heap news) (T : Top devView loose mean mg mb h₀) (hk : cs.kind = .function) (R : Rel news vs) (hd : dp + sz < recursionLimit) (hu : un + 8 * sz < cLine)
    (ret : ∀ r fin h' tk', Fr h₀ L h' m → News h₀ L h' fin → Out news vs fin r → Q r { s with heap := h', toks := tk' }) :
    wpAny (model PySem.Challenge.rw_re0162_01.row.prog w) (ktrTop dp un gd cn cs L a ccd cl outer) (call (.ref f) vs) Q E s := by
  unfold CtM at C
  exact C _ _ _ _ _ _ _ _ _ _ _ _ _ _ _ _ _ _ _ B F X N T hk R hd hu ret
end
/-! the bounds of a tree over six leaves -/
noncomputable def leaves : Tr → Nat
  | .leaf _ => 1
  | .two _ a b => leaves a + leaves b
  | .three _ a b c => leaves a + leaves b + leaves c
theorem leaves_pos : ∀ t : Tr, 0 < leaves t
  | .leaf _ => Nat.one_pos
  | .two _ a b => Nat.add_pos_left (leaves_pos a) _
  | .three _ a b c => Nat.add_pos_left (Nat.add_pos_left (leaves_pos a) _) _
theorem flat_leaves : ∀ t : Tr, (flat t).length + 1 ≤ 2 * leaves t
  | .leaf _ => by show 1 + 1 ≤ 2 * 1; decide
  | .two _ a b => by
    have h1 := flat_leaves a
    have h2 := flat_leaves b
    simp only [flat, leaves, List.length_cons, List.length_append]; omega
  | .three _ a b c => by
    have h1 := flat_leaves a
    have h2 := flat_leaves b
    have h3 := flat_leaves c
    simp only [flat, leaves, List.length_cons, List.length_append]; omega
theorem ht_leaves : ∀ t : Tr, t.ht + 1 ≤ leaves t
  | .leaf _ => Nat.le_refl _
  | .two _ a b => by
    have h1 := ht_leaves a
    have h2 := ht_leaves b
    simp only [Tr.ht, leaves]; omega
  | .three _ a b c => by
    have h1 := ht_leaves a
    have h2 := ht_leaves b
    have h3 := ht_leaves c
    simp only [Tr.ht, leaves]; omega
noncomputable def sumL (q : List Tr) : Nat := (q.map leaves).sum
theorem step1_leaves (q : List Tr) (l : Nat) : sumL (step1 q l) = sumL q := by
  unfold step1
  split
  · rename_i a b rest
    split
    · split
      · simp [sumL, leaves]; omega
      · simp [sumL, leaves]
    · simp [sumL, leaves]; omega
  · rfl
theorem steps_leaves (ls : List Nat) : ∀ q : List Tr, sumL (ls.foldl step1 q) = sumL q := by
  induction ls with
  | nil => intro q; rfl
  | cons l r ih => intro q; rw [List.foldl_cons, ih, step1_leaves]
theorem step1_wf {q : List Tr} {l : Nat} (hl : l ∈ [12272, 12283, 12274, 12275]) (h : ∀ t ∈ q, WfT t) : ∀ t ∈ step1 q l, WfT t := by
  have h4 : l = 12272 ∨ l = 12283 ∨ l = 12274 ∨ l = 12275 := by simpa using hl
  unfold step1
  split
  · rename_i a b rest
    have ha := h a (by simp)
    have hb := h b (by simp)
    split
    · rename_i hT
      have h5 : l = 12274 ∨ l = 12275 := by simpa [isT] using hT
      split
      · rename_i c rest'
        have hc := h c (by simp)
        intro t ht
        rcases List.mem_append.mp ht with ht | ht
        · exact h t (by simp [ht])
        · rw [List.mem_singleton.mp ht]; exact .three h5 ha hb hc
      · intro t ht
        rw [List.mem_singleton.mp ht]; exact .two (.inl rfl) ha hb
    · rename_i hT
      have h5 : ¬ (l = 12274 ∨ l = 12275) := by simpa [isT] using hT
      intro t ht
      rcases List.mem_append.mp ht with ht | ht
      · exact h t (by simp [ht])
      · rw [List.mem_singleton.mp ht]; exact .two (h4.elim .inl fun h => h.elim .inr fun h => absurd h h5) ha hb
  · exact h
theorem steps_wf (ls : List Nat) : ∀ {q : List Tr}, (∀ l ∈ ls, l ∈ [12272, 12283, 12274, 12275]) → (∀ t ∈ q, WfT t) → ∀ t ∈ ls.foldl step1 q, WfT t := by
  induction ls with
  | nil => intro q _ h; exact h
  | cons l r ih => intro q hl h; exact ih (fun x hx => hl x (List.mem_cons_of_mem _ hx)) (step1_wf (hl l List.mem_cons_self) h)
theorem tree_ok {kc : List Nat} {ls : List Nat} (hk : ∀ c ∈ kc, c = 48 ∨ c = 49 ∨ c = 50) (h6 : kc.length = 6) (hl : ∀ l ∈ ls, l ∈ [12272, 12283, 12274, 12275]) : WfT (treeOf (kc.map Tr.leaf) ls) ∧ leaves (treeOf (kc.map Tr.leaf) ls) ≤ 6 := by
  have hwf := steps_wf ls hl (q := kc.map Tr.leaf) fun t ht => by obtain ⟨c, hc, rfl⟩ := List.mem_map.mp ht; exact .leaf (hk c hc)
  have hlv := steps_leaves ls (kc.map Tr.leaf)
  have hs : ∀ kc : List Nat, sumL (kc.map Tr.leaf) = kc.length := by
    intro kc
    induction kc with
    | nil => rfl
    | cons c r ih => simp only [sumL, List.map_cons, List.sum_cons, List.length_cons] at ih ⊢; rw [ih]; show 1 + _ = _; omega
  rw [hs, h6] at hlv
  unfold treeOf
  cases hq : ls.foldl step1 (kc.map Tr.leaf) with
  | nil => exact ⟨.leaf (.inl rfl), by decide⟩
  | cons t r =>
    rw [hq] at hwf hlv
    refine ⟨hwf t List.mem_cons_self, ?_⟩
    simp only [sumL, List.map_cons, List.sum_cons] at hlv
    show leaves t ≤ 6
    omega
/-- how many turnings at most -/
noncomputable def cnt : Tr → Nat
  | .leaf _ => 1
  | .two _ a b => cnt a * cnt b * 2
  | .three _ a b c => cnt a * cnt b * cnt c * 6
theorem first_len (l : Nat) (tt : List (List (List Nat))) (M : Nat) : ∀ (os : List (List Nat)) (ks : List (List Nat)), (∀ o ∈ os, (orderRows l tt o).length ≤ M) → (os.foldl (fun ks o => addAll ks (orderRows l tt o)) ks).length ≤ ks.length + os.length * M
  | [], ks, _ => by simp
  | o :: os, ks, h => by
    have h1 := first_len l tt M os (addAll ks (orderRows l tt o)) fun o ho => h o (List.mem_cons_of_mem _ ho)
    have h2 := addAll_len (orderRows l tt o) ks
    have h3 := h o List.mem_cons_self
    rw [List.foldl_cons, List.length_cons, Nat.add_mul]
    omega
theorem turns_cnt : ∀ t : Tr, (turnsOf t).length ≤ cnt t ∧ ∀ r ∈ turnsOf t, r.length = (flat t).length
  | .leaf c => ⟨Nat.le_refl _, fun r hr => by rw [List.mem_singleton.mp hr]; rfl⟩
  | .two l a b => by
    obtain ⟨a1, a2⟩ := turns_cnt a
    obtain ⟨b1, b2⟩ := turns_cnt b
    constructor
    · refine Nat.le_trans (first_len l [turnsOf a, turnsOf b] (cnt a * cnt b) orders2 [] ?_) (by simp [orders2, cnt]; omega)
      intro o ho
      simp only [orders2, List.mem_cons, List.not_mem_nil, or_false] at ho
      rcases ho with rfl | rfl
      · show (P2 l (turnsOf a) (turnsOf b)).length ≤ _
        rw [len_P2]; exact Nat.mul_le_mul a1 b1
      · show (P2 l (turnsOf b) (turnsOf a)).length ≤ _
        rw [len_P2, Nat.mul_comm]; exact Nat.mul_le_mul a1 b1
    · intro r hr
      rcases mem_node2.mp hr with hr | hr
      · obtain ⟨x, hx, y, hy, rfl⟩ := mem_P2.mp hr
        simp only [flat, List.length_cons, List.length_append, a2 x hx, b2 y hy]
      · obtain ⟨x, hx, y, hy, rfl⟩ := mem_P2.mp hr
        simp only [flat, List.length_cons, List.length_append, b2 x hx, a2 y hy]; omega
  | .three l a b c => by
    obtain ⟨a1, a2⟩ := turns_cnt a
    obtain ⟨b1, b2⟩ := turns_cnt b
    obtain ⟨c1, c2⟩ := turns_cnt c
    have m3 : ∀ {x y z : Nat}, x ≤ cnt a → y ≤ cnt b → z ≤ cnt c → x * y * z ≤ cnt a * cnt b * cnt c := fun h1 h2 h3 => Nat.mul_le_mul (Nat.mul_le_mul h1 h2) h3
    constructor
    · refine Nat.le_trans (first_len l [turnsOf a, turnsOf b, turnsOf c] (cnt a * cnt b * cnt c) orders3 [] ?_) (by simp [orders3, cnt]; omega)
      intro o ho
      have h9 := m3 a1 b1 c1
      simp only [orders3, List.mem_cons, List.not_mem_nil, or_false] at ho
      rcases ho with rfl | rfl | rfl | rfl | rfl | rfl
      · show (P3 l (turnsOf a) (turnsOf b) (turnsOf c)).length ≤ _
        rw [len_P3]; exact h9
      · show (P3 l (turnsOf a) (turnsOf c) (turnsOf b)).length ≤ _
        rw [len_P3, Nat.mul_right_comm]; exact h9
      · show (P3 l (turnsOf b) (turnsOf a) (turnsOf c)).length ≤ _
        rw [len_P3, Nat.mul_comm (turnsOf b).length]; exact h9
      · show (P3 l (turnsOf b) (turnsOf c) (turnsOf a)).length ≤ _
        rw [len_P3, Nat.mul_comm, ← Nat.mul_assoc]; exact h9
      · show (P3 l (turnsOf c) (turnsOf a) (turnsOf b)).length ≤ _
        rw [len_P3, Nat.mul_assoc, Nat.mul_comm]; exact h9
      · show (P3 l (turnsOf c) (turnsOf b) (turnsOf a)).length ≤ _
        rw [len_P3, Nat.mul_comm (turnsOf c).length, Nat.mul_comm, ← Nat.mul_assoc]; exact h9
    · intro r hr
      rcases mem_node3.mp hr with hr | hr | hr | hr | hr | hr <;> (obtain ⟨x, hx, y, hy, z, hz, rfl⟩ := mem_P3.mp hr) <;> simp only [flat, List.length_cons, List.length_append]
      · rw [a2 x hx, b2 y hy, c2 z hz]
      · rw [a2 x hx, c2 y hy, b2 z hz]; omega
      · rw [b2 x hx, a2 y hy, c2 z hz]; omega
      · rw [b2 x hx, c2 y hy, a2 z hz]; omega
      · rw [c2 x hx, a2 y hy, b2 z hz]; omega
      · rw [c2 x hx, b2 y hy, a2 z hz]; omega
theorem cnt_sq : ∀ t : Tr, cnt t * cnt t * 6 ≤ 6 ^ leaves t
  | .leaf _ => by show 1 * 1 * 6 ≤ 6 ^ 1; decide
  | .two _ a b => by
    have h1 := cnt_sq a
    have h2 := cnt_sq b
    simp only [cnt, leaves, Nat.pow_add]
    have h3 := Nat.mul_le_mul h1 h2
    have e : cnt a * cnt a * 6 * (cnt b * cnt b * 6) = (cnt a * cnt b) * (cnt a * cnt b) * 36 := by
      simp only [Nat.mul_assoc, Nat.mul_left_comm, Nat.mul_comm]
      try omega
    have e2 : cnt a * cnt b * 2 * (cnt a * cnt b * 2) * 6 = (cnt a * cnt b) * (cnt a * cnt b) * 24 := by
      simp only [Nat.mul_assoc, Nat.mul_left_comm, Nat.mul_comm]
      try omega
    rw [e] at h3
    rw [e2]
    omega
  | .three _ a b c => by
    have h1 := cnt_sq a
    have h2 := cnt_sq b
    have h3 := cnt_sq c
    simp only [cnt, leaves, Nat.pow_add]
    have h4 := Nat.mul_le_mul (Nat.mul_le_mul h1 h2) h3
    have e : cnt a * cnt a * 6 * (cnt b * cnt b * 6) * (cnt c * cnt c * 6) = (cnt a * cnt b * cnt c) * (cnt a * cnt b * cnt c) * 216 := by
      simp only [Nat.mul_assoc, Nat.mul_left_comm, Nat.mul_comm]
      try omega
    have e2 : cnt a * cnt b * cnt c * 6 * (cnt a * cnt b * cnt c * 6) * 6 = (cnt a * cnt b * cnt c) * (cnt a * cnt b * cnt c) * 216 := by
      simp only [Nat.mul_assoc, Nat.mul_left_comm, Nat.mul_comm]
      try omega
    rw [e] at h4
    rw [e2]
    exact h4
theorem small_of {t : Tr} (h : leaves t ≤ 5) : SmallT t := by
  obtain ⟨h1, h2⟩ := turns_cnt t
  have h3 := cnt_sq t
  have h4 : 6 ^ leaves t ≤ 6 ^ 5 := Nat.pow_le_pow_right (by decide) h
  have h5 : cnt t ≤ 36 := by
    by_cases hc : cnt t ≤ 36
    · exact hc
    · have : 37 * 37 ≤ cnt t * cnt t := Nat.mul_le_mul (by omega) (by omega)
      have e : (6 : Nat) ^ 5 = 7776 := by decide
      omega
  refine ⟨by omega, fun r hr => ?_⟩
  have := flat_leaves t
  rw [h2 r hr]; omega
theorem good_of : ∀ {t : Tr}, leaves t ≤ 6 → GoodT t
  | .leaf _, _ => trivial
  | .two _ a b, h => by
    have h1 := leaves_pos a
    have h2 := leaves_pos b
    simp only [leaves] at h
    exact ⟨small_of (by omega), small_of (by omega), good_of (by omega), good_of (by omega)⟩
  | .three _ a b c, h => by
    have h1 := leaves_pos a
    have h2 := leaves_pos b
    have h3 := leaves_pos c
    simp only [leaves] at h
    exact ⟨small_of (by omega), small_of (by omega), small_of (by omega), good_of (by omega), good_of (by omega), good_of (by omega)⟩
theorem turns_small {t : Tr} (h : leaves t ≤ 6) : (turnsOf t).length ≤ 100000 := by
  obtain ⟨h1, _⟩ := turns_cnt t
  have h3 := cnt_sq t
  have h4 : 6 ^ leaves t ≤ 6 ^ 6 := Nat.pow_le_pow_right (by decide) h
  by_cases hc : cnt t ≤ 1000
  · omega
  · have : 1001 * 1001 ≤ cnt t * cnt t := Nat.mul_le_mul (by omega) (by omega)
    have e : (6 : Nat) ^ 6 = 46656 := by decide
    omega

/-! Law -/
open PySem PySem.W PyProof.Rows PySem.Calls PySem.Spec
theorem kfill9 : (fun (_ : OpenLaw) (_ : Params → Frag) => True) PySem.Challenge.rw_re0162_01 devHeap := by k_fill; trivial
section
variable {prog : Program} {w : World} {A : Around} {E : Value → Shared → Prop} {s : Shared} {h₀ : Heap} {L l : Addr} {m : Str → Option Value} {news : Led} {n : Nat} {vs : List Value} {Q : Value → Shared → Prop} {value slice : PySem.Expr}
theorem rl_uptoB {k : Int} {t : Tok} (h0 : 0 ≤ k) (F : Fr h₀ L s.heap m) (N : News h₀ L s.heap news) (hl : h₀.IsList l vs.toArray) (hz : Sm vs)
    (h : ∀ D h', Fr h₀ L h' m → News h₀ L h' ((D, listOf (vs.take k.toNat).toArray 0) :: news) → (∀ p ∈ news, p.1 < D) → Q (.ref D) { s with heap := h' })
    (hs : subscripted slice false (.ref l) (.ref s.heap.objs.size) = operate [.ref s.heap.objs.size, .ref l] (getItem (.ref l) (.ref s.heap.objs.size))) (ht : ∀ r, letTemporaryGo value (.ref l) r = pure ()) :
    wpAny (model prog w) A (subscriptTail value slice (.ref l) (.ref s.heap.objs.size)) Q E { s with heap := s.heap.push { cls := .type "slice", data := .fields #[.none, .int k t, .none] } } := by
  refine kmk_slice F N (hl.at fun o e => F.keep l o e) IsPart.none (IsPart.int _ _) (fun D h' F' N' hl => h D h' F' ?_ hl) hs ht hz.sz
  have e : sliceBounds none (some k) none vs.toArray.size = (((0 : Nat) : Int), ((min k.toNat vs.toArray.size : Nat) : Int), 1) := by
    simp only [sliceBounds, Option.getD_none, show (1 : Int) > 0 by decide, if_true, if_neg (show ¬ (k < 0) by omega)]
    congr 1
    congr 1
    omega
  rw [kmk_pick_nat _ e] at N'
  have e2 : (List.take (min k.toNat vs.toArray.size - 0) (List.drop 0 vs.toArray.toList)) = vs.take k.toNat := by
    show List.take _ (List.drop 0 vs) = _
    rw [List.drop_zero, Nat.sub_zero, List.size_toArray, kmk_take_min]
  rw [e2] at N'
  exact N'
theorem rl_lenB (F : Fr h₀ L s.heap m) (hl : h₀.IsList l vs.toArray) (hz : Sm vs) (h : Q (.int vs.length (s.toks + 1)) { s with toks := s.toks + 1 + 1 }) : wpAny (model prog w) A (call (.builtin "len") [.ref l]) Q E s := by
  refine len_list (hl.at fun o e => F.keep l o e) ?_ ?_
  · rw [List.size_toArray]; unfold Sm at hz; omega
  · rw [List.size_toArray]; exact h
end
section
variable {prog : Program} {w : World} {A : Around} {E : Value → Shared → Prop} {s : Shared} {Q : Value → Shared → Prop}
theorem rl_pow {t u : Tok} (h : Q (.int 1000000 s.toks) { s with toks := s.toks + 1 }) : wpAny (model prog w) A (binaryOp .Pow (.int 10 t) (.int 6 u)) Q E s := by
  have e : (10 : Int) ^ (6 : Int).toNat = 1000000 := by decide
  refine pow_int_small (by decide) (by decide) (by decide) ?_
  first | exact h | (rw [e]; exact h) | (simp only [e]; exact h)
theorem s012 : Str.ofString "012" = ⟨[48, 49, 50].toArray⟩ := by decide +kernel
theorem sSig : Str.ofString "⿰⿻⿲⿳" = ⟨[12272, 12283, 12274, 12275].toArray⟩ := by decide +kernel
theorem rl_012 {value slice : PySem.Expr} {i : Int} {t u : Tok} (h0 : 0 ≤ i) (h1 : i < 3) (h : ∀ t', Q (.str ⟨#[48 + i.toNat]⟩ t') { s with toks := s.toks + 1 })
    (hs : subscripted slice false (.str (Str.ofString "012") t) (.int i u) = operate [.str (Str.ofString "012") t, .int i u] (getItem (.str (Str.ofString "012") t) (.int i u))) (ht : ∀ r, letTemporaryGo value (.str (Str.ofString "012") t) r = pure ()) :
    wpAny (model prog w) A (subscriptTail value slice (.str (Str.ofString "012") t) (.int i u)) Q E s := by
  rw [s012] at hs ht ⊢
  refine rl_schr h0 (by decide) ?_ h hs ht
  have h9 : i = 0 ∨ i = 1 ∨ i = 2 := by omega
  rcases h9 with rfl | rfl | rfl <;> rfl
noncomputable def sigOf (i : Nat) : Nat := [12272, 12283, 12274, 12275].getD i 0
theorem rl_sig {value slice : PySem.Expr} {i : Int} {t u : Tok} (h0 : 0 ≤ i) (h1 : i < 4) (h : ∀ t', Q (.str ⟨#[sigOf i.toNat]⟩ t') { s with toks := s.toks + 1 })
    (hs : subscripted slice false (.str (Str.ofString "⿰⿻⿲⿳") t) (.int i u) = operate [.str (Str.ofString "⿰⿻⿲⿳") t, .int i u] (getItem (.str (Str.ofString "⿰⿻⿲⿳") t) (.int i u))) (ht : ∀ r, letTemporaryGo value (.str (Str.ofString "⿰⿻⿲⿳") t) r = pure ()) :
    wpAny (model prog w) A (subscriptTail value slice (.str (Str.ofString "⿰⿻⿲⿳") t) (.int i u)) Q E s := by
  rw [sSig] at hs ht ⊢
  refine rl_schr h0 (by decide) ?_ h hs ht
  obtain ⟨m, hm, rfl⟩ := ar_int (n := 4) h0 h1
  rw [Int.toNat_natCast]
  exact ar_upto (P := fun m => [12272, 12283, 12274, 12275][m]? = some (sigOf m)) (by decide) hm
theorem rl_fdiv {a b : Int} {t u : Tok} (hb : b = 60 ∨ b = 240) (h : Q (.int (a.fdiv b) s.toks) { s with toks := s.toks + 1 }) : wpAny (model prog w) A (binaryOp .FloorDiv (.int a t) (.int b u)) Q E s := by
  refine floordiv_int (by omega) h (Or.inl (PyProof.noPylong_small ?_))
  omega
theorem fm6 (a : Int) : a.fmod 6 - 2 ≤ 3 := by
  have := Int.fmod_lt_of_pos a (show (0 : Int) < 6 by decide)
  omega
theorem rl_max0 {b : Int} {t u : Tok} {h₀ : Heap} {L : Addr} {m : Str → Option Value} {news : Led} (hh : A.handled = none) (F : Fr h₀ L s.heap m) (N : News h₀ L s.heap news) (hb : b ≤ 3)
    (h : ∀ h' tk T t', 0 ≤ T → T ≤ 3 → Fr h₀ L h' m → News h₀ L h' news → Q (.int T t') { s with heap := h', toks := tk }) : wpAny (model prog w) A (call (.builtin "max") [.int 0 t, .int b u]) Q E s := by
  refine max_two_N hh F N fun h' tk F' N' => h h' tk _ _ ?_ ?_ F' N'
  · split <;> omega
  · split <;> omega
theorem rl_mod {a : Int} {t u : Tok} (h : Q (.int (a.fmod 1000000) s.toks) { s with toks := s.toks + 1 }) : wpAny (model prog w) A (binaryOp .Mod (.int a t) (.int 1000000 u)) Q E s := mod_int (by decide) h
end
theorem chars_rep {news : Led} {vs : List Value} {cs : List Nat} (h : Chars vs cs) : RepL news vs (cs.map Tr.leaf) := by
  induction h with
  | nil => exact .nil
  | cons _ ih => exact .cons .leaf ih
theorem at_top {w : World} {loose : List Str} {mean : ExcName → Option Value} {mg mb : Str → Option Value} {h h' : Heap} {f : Addr} {sz : Nat} {Rel : Led → List Value → Prop} {Out : Led → List Value → Led → Value → Prop} (_ : Top devView loose mean mg mb h) (_ : (devHeap w.params).In h') (C : Ct w loose mean mg mb f sz Rel Out) : Ct w loose mean mg mb f sz Rel Out := C
theorem at_topM {w : World} {loose : List Str} {mean : ExcName → Option Value} {mg mb : Str → Option Value} {h h' : Heap} {f : Addr} {sz : Nat} {Rel : Led → List Value → Prop} {Out : Led → List Value → Led → Value → Prop} (_ : Top devView loose mean mg mb h) (_ : (devHeap w.params).In h') (C : CtM w loose mean mg mb f sz Rel Out) : CtM w loose mean mg mb f sz Rel Out := C
theorem treeRel_mk {news : Led} {ka la : Addr} {kv lv : List Value} {kn ln : Nat} {ts : List Tr} {ls : List Nat} (h1 : (ka, listOf kv.toArray kn) ∈ news) (h2 : (la, listOf lv.toArray ln) ∈ news) (h3 : RepL [] kv ts) (h4 : Chars lv ls) : TreeRel ts ls news [.ref ka, .ref la] :=
  ⟨ka, la, kv, lv, kn, ln, rfl, h1, h2, h3.mono (fun _ h => nomatch h), h4⟩
theorem flat_signs {t : Tr} (h : WfT t) : ∀ c ∈ flat t, c ∈ [48, 49, 50, 12272, 12283, 12274, 12275] := by
  induction h with
  | leaf hc => intro c hm; rw [List.mem_singleton.mp hm]; rcases hc with rfl | rfl | rfl <;> decide
  | two hl _ _ ia ib =>
    intro c hm
    rcases List.mem_cons.mp hm with rfl | hm
    · rcases hl with rfl | rfl <;> decide
    · rcases List.mem_append.mp hm with hm | hm
      · exact ia c hm
      · exact ib c hm
  | three hl _ _ _ ia ib ic =>
    intro c hm
    rcases List.mem_cons.mp hm with rfl | hm
    · rcases hl with rfl | rfl <;> decide
    · rcases List.mem_append.mp hm with hm | hm
      · exact ia c hm
      · rcases List.mem_append.mp hm with hm | hm
        · exact ib c hm
        · exact ic c hm
theorem wf_nil : Wf 0 ⟨[], [], [], 1⟩ := ⟨Nat.le_refl _, Nat.le_refl _, (fun p hp => nomatch hp), Nat.le_refl _⟩
theorem sm_texts {vs : List Value} {rows : List (List Nat)} (h : Texts vs rows) (hz : rows.length ≤ 100000) : Sm vs := by unfold Sm; rw [h.len]; exact hz
theorem rl_in {prog : Program} {w : World} {A : Around} {E : Value → Shared → Prop} {s : Shared} {h₀ : Heap} {L l : Addr} {news : Led} {n : Nat} {vs : List Value} {W : List (List Nat)} {word : List Nat} {t : Tok} {Q : Value → Shared → Prop} (N : News h₀ L s.heap news) (hm : (l, listOf vs.toArray n) ∈ news) (ht : Texts vs W) (h : Q (.bool (decide (word ∈ W))) s) :
    wpAny (model prog w) A (compareOp .In (.str ⟨word.toArray⟩ t) (.ref l)) Q E s := by
  refine in_list_strs (rl_isList N hm) ht.strs ?_
  rw [texts_any ht]; exact h
noncomputable def Opq (P : Prop) : Prop := P
theorem Opq.mk {P : Prop} (h : P) : Opq P := h
theorem int_at {vs : List Value} {ns : List Int} (h : IntsAre vs ns) {i : Nat} (hi : i < vs.length) : ∃ x t, vs[i]? = some (.int x t) := by
  obtain ⟨t, ht⟩ := h.get i (ns[i]'(by rw [← h.length]; exact hi)) (List.getElem?_eq_getElem _)
  exact ⟨_, t, ht⟩
theorem head_mem {a : Addr × Obj} {r N1 : Led} (h : a :: r = N1) : a ∈ N1 := h ▸ List.mem_cons_self
theorem chars_app {vs vs' : List Value} {cs cs' : List Nat} (h : Chars vs cs) (h' : Chars vs' cs') : Chars (vs ++ vs') (cs ++ cs') := by
  induction h with
  | nil => exact h'
  | cons _ ih => exact .cons ih
noncomputable def xsOf (ns : List Int) : List Int := (ns.take 6).map (fun x => x.fmod 1000000) ++ [1680, 1201, 841, 300, 45, 27].drop ns.length
theorem xs_len (ns : List Int) : (xsOf ns).length = 6 := by
  unfold xsOf
  simp only [List.length_append, List.length_map, List.length_take, List.length_drop, List.length_cons, List.length_nil]; omega
theorem xs_nonneg (ns : List Int) : ∀ x ∈ xsOf ns, 0 ≤ x := by
  intro x hx
  rcases List.mem_append.mp hx with hx | hx
  · obtain ⟨y, _, rfl⟩ := List.mem_map.mp hx
    exact Int.fmod_nonneg_of_pos _ (by decide)
  · have := List.mem_of_mem_drop hx
    clear hx
    have h9 : ∀ x ∈ ([1680, 1201, 841, 300, 45, 27] : List Int), 0 ≤ x := by decide
    exact h9 x this
theorem kinds_ok (ns : List Int) : ∀ c ∈ (xsOf ns).map (fun x => 48 + (x.fmod 3).toNat), c = 48 ∨ c = 49 ∨ c = 50 := by
  intro c hc
  obtain ⟨x, _, rfl⟩ := List.mem_map.mp hc
  obtain ⟨m, hm, e⟩ := ar_int (n := 3) (Int.fmod_nonneg_of_pos x (show (0 : Int) < 3 by decide)) (Int.fmod_lt_of_pos x (show (0 : Int) < 3 by decide))
  rw [e, Int.toNat_natCast]
  exact ar_upto (P := fun m => 48 + m = 48 ∨ 48 + m = 49 ∨ 48 + m = 50) (by decide) hm
theorem sigs_ok (l : List Int) : ∀ c ∈ l.map (fun x => sigOf ((x.fdiv 60).fmod 4).toNat), c ∈ [12272, 12283, 12274, 12275] := by
  intro c hc
  obtain ⟨x, _, rfl⟩ := List.mem_map.mp hc
  have h1 := Int.fmod_nonneg_of_pos (x.fdiv 60) (show (0 : Int) < 4 by decide)
  have h2 := Int.fmod_lt_of_pos (x.fdiv 60) (show (0 : Int) < 4 by decide)
  generalize (x.fdiv 60).fmod 4 = j at h1 h2
  have h9 : j = 0 ∨ j = 1 ∨ j = 2 ∨ j = 3 := by omega
  rcases h9 with rfl | rfl | rfl | rfl <;> decide
/-- behind the first four lines -/
noncomputable def MidA (ns : List Int) (g : Heap) (L : Addr) (s₁ s' : Shared) : Prop :=
  Ex17 fun (h : Heap) (tk : Nat) (m : Str → Option Value) (xa ka la : Addr) (xn kn ln : Nat) (xv kv lv : List Value) (kc lc : List Nat) (turn : Int) (t : Tok) (news : Led) => All19 (s' = { s₁ with heap := h, toks := tk }) (Fr g L h m) (News g L h news) (m (Str.ofString "xs") = some (.ref xa)) (m (Str.ofString "kinds") = some (.ref ka)) (m (Str.ofString "labels") = some (.ref la)) (m (Str.ofString "turn") = some (.int turn t)) ((xa, listOf xv.toArray xn) ∈ news) ((ka, listOf kv.toArray kn) ∈ news) ((la, listOf lv.toArray ln) ∈ news) (IntsAre xv (xsOf ns)) (Chars kv kc) (Chars lv lc) (0 ≤ turn) (turn ≤ 3) (kc.length = 6) (∀ c ∈ kc, c = 48 ∨ c = 49 ∨ c = 50) (lc.length = 5) (∀ l ∈ lc, l ∈ [12272, 12283, 12274, 12275])
/-- a list of ints, anywhere -/
noncomputable def IntL (led : Led) (l : Addr) (ns : List Int) : Prop := ∃ vs n, (l, listOf (List.toArray vs) n) ∈ led ∧ IntsAre vs ns
local macro_rules | `(tactic| k_qdec) => `(tactic| decide +kernel)
local macro_rules | `(tactic| walk_at "tail Law5") => `(tactic| (intro r9 tl9 h9 tk9 F9 N9 hl9 ho9; obtain ⟨pg9, kp9, hq9, hp9⟩ := ho9; subst hq9; (try dsimp only)))
local macro_rules | `(tactic| walk_at "tail Law6") => `(tactic| (intro r9 fin9 h9 tk9 F9 N9 ho9; obtain ⟨pg8, r8, k8, q8, t8, u8, hw1, hw2, hw3, hw4, hw5, hw6, hw7⟩ := ho9; subst hw6; (try dsimp only)))
local macro_rules | `(tactic| walk_at "tail Law7") => `(tactic| (intro r9 tl9 h9 tk9 F9 N9 hl9 ho9; obtain ⟨q9, n9, us9, hq9, hm9, ht9⟩ := ho9; subst hq9; (have hz9 := sm_texts ht9 (by assumption)); (have hz8 := Texts.len ht9); (try dsimp only)))
theorem and_t {a b : Bool} (h : a = true) (k : b = true) : (a && b) = true := by rw [h, k]; rfl
set_option maxHeartbeats 0 in
theorem well_R : OpenLaw.wellSaid PySem.Challenge.rw_re0162_01 = true := by
  delta OpenLaw.wellSaid
  with_reducible repeat' refine and_t ?_ ?_
  all_goals try (delta OpenRow.wellSaid; with_reducible repeat' refine and_t ?_ ?_)
  all_goals try (delta OpenRow.partSaid; with_reducible repeat' refine and_t ?_ ?_)
  all_goals try (delta looksOpen; with_reducible repeat' refine and_t ?_ ?_)
  all_goals decide +kernel
set_option maxHeartbeats 16000000 in
theorem law_dev : PySem.Challenge.rw_re0162_01.Holds := by
  k_with_none
  k_with "ne" => ((try dsimp only); with_reducible first | assumption | exact Ne.symm (by assumption) | exact Nat.ne_of_lt (by assumption) | exact Nat.ne_of_gt (by assumption) | fail "ne")
  k_with "lt0" => skip
  k_with "mem" => first | with_reducible assumption | exact List.mem_cons_self | (refine List.mem_cons_of_mem _ ?_; k_mem) | (refine List.mem_append_right _ ?_; k_mem) | (refine List.mem_append_left _ ?_; k_mem)
  k_with "binaryOp Pow int int" => (k_here; (with_reducible refine rl_pow ?_))
  k_with "binaryOp Mod int int" => (k_here; first | (with_reducible refine rl_mod ?_) | (with_reducible refine mod_int (by decide) ?_))
  k_with "subscriptTail Constant" => (k_here; k_dflt (first | ((with_reducible show wpAny _ _ (subscriptTail _ _ (Value.str (Str.ofString "012") _) _) _ _ _); refine' rl_012 ?zqa ?zqb ?_ ?zqs ?zqt; (case zqa => exact Int.fmod_nonneg_of_pos _ (by decide)); (case zqb => exact Int.fmod_lt_of_pos _ (by decide)); (case zqs => with_unfolding_all rfl); (case zqt => (intro _; rfl))) | ((with_reducible show wpAny _ _ (subscriptTail _ _ (Value.str (Str.ofString "⿰⿻⿲⿳") _) _) _ _ _); refine' rl_sig ?zqa ?zqb ?_ ?zqs ?zqt; (case zqa => exact Int.fmod_nonneg_of_pos _ (by decide)); (case zqb => exact Int.fmod_lt_of_pos _ (by decide)); (case zqs => with_unfolding_all rfl); (case zqt => (intro _; rfl)))); intro _)
  k_with "binaryOp FloorDiv int int" => (k_here; (with_reducible refine rl_fdiv (by decide) ?_))
  k_with "call builtin:max" => (k_here; k_dflt (refine' rl_max0 ?zqk0 ?zqk1 ?zqk2 ?zqk3 ?_; (case zqk0 => exact rfl); (case zqk1 => k_asm); (case zqk2 => k_asm); (case zqk3 => exact fm6 _)); intro _ _ _ _ _ _ _ _)
  k_with "call builtin:sum" => (k_here; (with_reducible show wpAny _ _ (call (Value.builtin "sum") [Value.ref _]) _ _ _); k_dflt (refine' sumK ?zqk0 ?zqk1 ?zqk2 ?zqk3 ?zqk4 ?_; (case zqk0 => exact rfl); (case zqk1 => k_asm); (case zqk2 => k_asm); (case zqk3 => exact rl_isList (by k_asm) (by k_mem)); (case zqk4 => assumption)); intro _ _ _ _ _)
  k_with "exec Assign cons ListComp" => (k_here; (with_reducible show wpAny _ _ (exec (Stmt.Assign _ (PySem.Expr.ListComp _ [_] _ _) _) _) _ _ _); k_dflt (refine LCg.Assign_ListComp_U (F₀ := by k_asm) (by rfl) (by with_unfolding_all rfl) (by with_unfolding_all rfl) (by decide) (by rfl) (by decide) (by rfl) (by rfl) (by rfl) ?_))
  k_with "call ref" => (k_here; k_dflt (refine' ct_use ?zqC ?zqk1 ?zqk2 ?zqk3 ?zqk4 ?zqk5 ?zqkK ?zqkR ?zqkd ?zqku ?_; (case zqC => assumption); (case zqk1 => k_asm); (case zqk2 => k_asm); (case zqk3 => k_asm); (case zqk4 => k_asm); (case zqk5 => k_asm); (case zqkK => first | exact rfl | assumption); (case zqkR => first | assumption | exact treeRel_mk List.mem_cons_self (by k_mem) (by assumption) (by assumption) | exact ⟨_, _, rfl, by assumption⟩ | exact ⟨_, _, rfl⟩); (case zqkd => ktr_room); (case zqku => ktr_units); intro _ _ _ _ _ _ _ _; (try dsimp only)))
  k_with "call ref" => (k_here; (with_reducible show wpAny _ _ (call (Value.ref 208) _) _ _ _); k_dflt (refine' ct_use ?zqC ?zqk1 ?zqk2 ?zqk3 ?zqk4 ?zqk5 ?zqkK ?zqkR ?zqkd ?zqku ?_; (case zqC => assumption); (case zqk1 => k_asm); (case zqk2 => k_asm); (case zqk3 => k_asm); (case zqk4 => k_asm); (case zqk5 => k_asm); (case zqkK => first | exact rfl | assumption); (case zqkR => exact ⟨_, _, rfl⟩); (case zqkd => ktr_room); (case zqku => ktr_units); walk_at "tail Law5"))
  k_with "call ref" => (k_here; (with_reducible show wpAny _ _ (call (Value.ref 213) _) _ _ _); k_dflt (refine' ctm_use ?zqC ?zqk1 ?zqk2 ?zqk3 ?zqk4 ?zqk5 ?zqkK ?zqkR ?zqkd ?zqku ?_; (case zqC => assumption); (case zqk1 => k_asm); (case zqk2 => k_asm); (case zqk3 => k_asm); (case zqk4 => k_asm); (case zqk5 => k_asm); (case zqkK => first | exact rfl | assumption); (case zqkR => exact ⟨fun p hp => List.mem_append_right _ hp, by assumption, _, _, by assumption, rfl⟩); (case zqkd => ktr_room); (case zqku => ktr_units); walk_at "tail Law6"))
  k_with "assign Tuple" => (k_here; (with_reducible show wpAny _ _ (assign (PySem.Expr.Tuple _ _ _) _ (Value.ref _)) _ _ _); k_dflt (refine' unpackN_ ?zqk1 ?zqk2 ?zqk3 ?zqk4 ?zqk5 ?zqk6 ?_; (case zqk1 => k_asm); (case zqk2 => k_asm); (case zqk3 => first | assumption | k_mem); (case zqk4 => exact rfl); (case zqk5 => exact rfl); (case zqk6 => exact rfl); k_whole); intro _ _ _; (try k_sweep))
  k_with "call ref" => (k_here; (with_reducible show wpAny _ _ (call (Value.ref 201) _) _ _ _); k_dflt (refine' ct_use ?zqC ?zqk1 ?zqk2 ?zqk3 ?zqk4 ?zqk5 ?zqkK ?zqkR ?zqkd ?zqku ?_; (case zqC => assumption); (case zqk1 => k_asm); (case zqk2 => k_asm); (case zqk3 => k_asm); (case zqk4 => k_asm); (case zqk5 => k_asm); (case zqkK => first | exact rfl | assumption); (case zqkR => exact ⟨_, rfl, by assumption⟩); (case zqkd => ktr_room); (case zqku => ktr_units); walk_at "tail Law7"))
  k_with "compareOp In str ref" => (k_here; (with_reducible show wpAny _ _ (compareOp CmpOp.In (Value.str _ _) (Value.ref _)) _ _ _); k_dflt (refine' rl_in ?zqk1 ?zqk2 ?zqk3 ?_; (case zqk1 => k_asm); (case zqk2 => k_mem); (case zqk3 => assumption)))
  k_with "eval ListComp" => (k_here; k_dflt (refine LCg.ListComp_U (F₀ := by k_asm) (by with_unfolding_all rfl) (by decide) (by rfl) (by decide) (by rfl) ?_))
  k_with "subscriptTail Name Slice ref ref" => (k_here; (with_reducible show wpAny _ _ (subscriptTail _ _ (Value.ref _) (Value.ref _)) _ _ _); k_dflt (first | (refine' rl_uptoB ?zqk0 ?zqk1 ?zqk2 ?zqk3 ?zqk4 ?_ ?zqs ?zqt; (case zqk0 => first | decide | assumption); (case zqk1 => k_asm); (case zqk2 => k_asm); (case zqk3 => assumption); (case zqk4 => assumption); (case zqs => with_unfolding_all rfl); (case zqt => (intro _; rfl))) | (refine' rl_upto ?zqk0 ?zqk1 ?zqk2 ?zqk3 ?zqk4 ?_ ?zqs ?zqt; (case zqk0 => first | decide | assumption); (case zqk1 => k_asm); (case zqk2 => k_asm); (case zqk3 => k_mem); (case zqk4 => assumption); (case zqs => with_unfolding_all rfl); (case zqt => (intro _; rfl))) | (refine' rl_from ?zqk0 ?zqk1 ?zqk2 ?zqk3 ?zqk4 ?_ ?zqs ?zqt; (case zqk0 => first | decide | assumption); (case zqk1 => k_asm); (case zqk2 => k_asm); (case zqk3 => k_mem); (case zqk4 => assumption); (case zqs => with_unfolding_all rfl); (case zqt => (intro _; rfl)))); intro _ _ _ _ _; (try k_sweep))
  k_with "subscriptTail Name Constant ref int" => (k_here; (with_reducible show wpAny _ _ (subscriptTail _ _ (Value.ref _) (Value.int _ _)) _ _ _); k_dflt (refine' rl_item ?zqk1 ?zqk2 ?zqa ?zqb ?zqd ?_ ?zqs ?zqt; (case zqk1 => k_asm); (case zqk2 => k_mem); (case zqa => decide); (case zqb => decide); (case zqd => assumption); (case zqs => with_unfolding_all rfl); (case zqt => (intro _; rfl))))
  k_with "subscriptTail List" => (k_here; (with_reducible show wpAny _ _ (subscriptTail _ _ (Value.ref _) (Value.ref _)) _ _ _); k_dflt (refine kba_turn (value' := PySem.Expr.Name (PySem.Str.ofString "_") ⟨0, 0, 0, 0⟩) (fun _ => rfl) ?_); k_dflt (refine' rl_from ?zqk0 ?zqk1 ?zqk2 ?zqk3 ?zqk4 ?_ ?zqs ?zqt; (case zqk0 => omega); (case zqk1 => k_asm); (case zqk2 => k_asm); (case zqk3 => k_mem); (case zqk4 => (unfold Sm; simp only [List.length_cons, List.length_nil]; omega)); (case zqs => with_unfolding_all rfl); (case zqt => (intro _; rfl))); intro _ _ _ _ _; (try k_sweep))
  k_with "call builtin:len" => (k_here; (with_reducible show wpAny _ _ (call (Value.builtin "len") [Value.ref _]) _ _ _); first | (refine' rl_lenB ?zqk1 ?zqk2 ?zqk3 ?_; (case zqk1 => k_asm); (case zqk2 => assumption); (case zqk3 => assumption)) | (refine' rl_len ?zqk1 ?zqk2 ?zqk3 ?_; (case zqk1 => k_asm); (case zqk2 => k_mem); (case zqk3 => assumption)))
  k_with "binaryOp Add ref ref" => (k_here; (with_reducible show wpAny _ _ (binaryOp _ (Value.ref _) (Value.ref _)) _ _ _); k_dflt (refine' rl_cat ?zqk1 ?zqk2 ?zqk3 ?zqk4 ?zqz1 ?zqz2 ?_; (case zqk1 => k_asm); (case zqk2 => k_asm); (case zqk3 => k_mem); (case zqk4 => k_mem); (case zqz1 => first | assumption | exact Sm.drop (by assumption) _); (case zqz2 => first | assumption | exact Sm.take (by assumption) _ | (unfold Sm; simp only [List.length_drop, List.length_cons, List.length_nil]; omega))); intro _ _ _ _ _; (try k_sweep))
  w_on
  refine holds_law well_R fun _ => ?_
  refine holds_open (q := devView) (loose := [Str.ofString "b1_set", Str.ofString "b3_exceptions", Str.ofString "c7_set", Str.ofString "Whitespace"]) (Xt := fun s => xlAt devView [] s && recOk rR.records s) (XP := XL devView []) (Yf := Hook.obs (kHook devHeap [nat_lit 2, nat_lit 3, nat_lit 15, nat_lit 17, nat_lit 18, nat_lit 20, nat_lit 21, nat_lit 29, nat_lit 33, nat_lit 35, nat_lit 36, nat_lit 38, nat_lit 39, nat_lit 40, nat_lit 79, nat_lit 81, nat_lit 82, nat_lit 84, nat_lit 85, nat_lit 87, nat_lit 91, nat_lit 93, nat_lit 94, nat_lit 96, nat_lit 97, nat_lit 108, nat_lit 110, nat_lit 111, nat_lit 113, nat_lit 114, nat_lit 115, nat_lit 117, nat_lit 118, nat_lit 120, nat_lit 121, nat_lit 122, nat_lit 124, nat_lit 125, nat_lit 127, nat_lit 128, nat_lit 129, nat_lit 131, nat_lit 132, nat_lit 134, nat_lit 135, nat_lit 136, nat_lit 138, nat_lit 139, nat_lit 141, nat_lit 142, nat_lit 143, nat_lit 145, nat_lit 146, nat_lit 148, nat_lit 149, nat_lit 150, nat_lit 152, nat_lit 153, nat_lit 155, nat_lit 156, nat_lit 157, nat_lit 158, nat_lit 159, nat_lit 160, nat_lit 161, nat_lit 164, nat_lit 166, nat_lit 167, nat_lit 169, nat_lit 170, nat_lit 171, nat_lit 173, nat_lit 174, nat_lit 176, nat_lit 177, nat_lit 178, nat_lit 180, nat_lit 181, nat_lit 183, nat_lit 184, nat_lit 185, nat_lit 187, nat_lit 188, nat_lit 190, nat_lit 191, nat_lit 192, nat_lit 195, nat_lit 196, nat_lit 197, nat_lit 200, nat_lit 201, nat_lit 202, nat_lit 204, nat_lit 205, nat_lit 207, nat_lit 208, nat_lit 209, nat_lit 212, nat_lit 213, nat_lit 214, nat_lit 217, nat_lit 218] (fun _ => by kernel_rfl))) (Ya := Hook.val (kHook devHeap [nat_lit 2, nat_lit 3, nat_lit 15, nat_lit 17, nat_lit 18, nat_lit 20, nat_lit 21, nat_lit 29, nat_lit 33, nat_lit 35, nat_lit 36, nat_lit 38, nat_lit 39, nat_lit 40, nat_lit 79, nat_lit 81, nat_lit 82, nat_lit 84, nat_lit 85, nat_lit 87, nat_lit 91, nat_lit 93, nat_lit 94, nat_lit 96, nat_lit 97, nat_lit 108, nat_lit 110, nat_lit 111, nat_lit 113, nat_lit 114, nat_lit 115, nat_lit 117, nat_lit 118, nat_lit 120, nat_lit 121, nat_lit 122, nat_lit 124, nat_lit 125, nat_lit 127, nat_lit 128, nat_lit 129, nat_lit 131, nat_lit 132, nat_lit 134, nat_lit 135, nat_lit 136, nat_lit 138, nat_lit 139, nat_lit 141, nat_lit 142, nat_lit 143, nat_lit 145, nat_lit 146, nat_lit 148, nat_lit 149, nat_lit 150, nat_lit 152, nat_lit 153, nat_lit 155, nat_lit 156, nat_lit 157, nat_lit 158, nat_lit 159, nat_lit 160, nat_lit 161, nat_lit 164, nat_lit 166, nat_lit 167, nat_lit 169, nat_lit 170, nat_lit 171, nat_lit 173, nat_lit 174, nat_lit 176, nat_lit 177, nat_lit 178, nat_lit 180, nat_lit 181, nat_lit 183, nat_lit 184, nat_lit 185, nat_lit 187, nat_lit 188, nat_lit 190, nat_lit 191, nat_lit 192, nat_lit 195, nat_lit 196, nat_lit 197, nat_lit 200, nat_lit 201, nat_lit 202, nat_lit 204, nat_lit 205, nat_lit 207, nat_lit 208, nat_lit 209, nat_lit 212, nat_lit 213, nat_lit 214, nat_lit 217, nat_lit 218] (fun _ => by kernel_rfl))) (YP := Hook.says (kHook devHeap [nat_lit 2, nat_lit 3, nat_lit 15, nat_lit 17, nat_lit 18, nat_lit 20, nat_lit 21, nat_lit 29, nat_lit 33, nat_lit 35, nat_lit 36, nat_lit 38, nat_lit 39, nat_lit 40, nat_lit 79, nat_lit 81, nat_lit 82, nat_lit 84, nat_lit 85, nat_lit 87, nat_lit 91, nat_lit 93, nat_lit 94, nat_lit 96, nat_lit 97, nat_lit 108, nat_lit 110, nat_lit 111, nat_lit 113, nat_lit 114, nat_lit 115, nat_lit 117, nat_lit 118, nat_lit 120, nat_lit 121, nat_lit 122, nat_lit 124, nat_lit 125, nat_lit 127, nat_lit 128, nat_lit 129, nat_lit 131, nat_lit 132, nat_lit 134, nat_lit 135, nat_lit 136, nat_lit 138, nat_lit 139, nat_lit 141, nat_lit 142, nat_lit 143, nat_lit 145, nat_lit 146, nat_lit 148, nat_lit 149, nat_lit 150, nat_lit 152, nat_lit 153, nat_lit 155, nat_lit 156, nat_lit 157, nat_lit 158, nat_lit 159, nat_lit 160, nat_lit 161, nat_lit 164, nat_lit 166, nat_lit 167, nat_lit 169, nat_lit 170, nat_lit 171, nat_lit 173, nat_lit 174, nat_lit 176, nat_lit 177, nat_lit 178, nat_lit 180, nat_lit 181, nat_lit 183, nat_lit 184, nat_lit 185, nat_lit 187, nat_lit 188, nat_lit 190, nat_lit 191, nat_lit 192, nat_lit 195, nat_lit 196, nat_lit 197, nat_lit 200, nat_lit 201, nat_lit 202, nat_lit 204, nat_lit 205, nat_lit 207, nat_lit 208, nat_lit 209, nat_lit 212, nat_lit 213, nat_lit 214, nat_lit 217, nat_lit 218] (fun _ => by kernel_rfl))) (N := 29716) leftR (Hook.of (kHook devHeap [nat_lit 2, nat_lit 3, nat_lit 15, nat_lit 17, nat_lit 18, nat_lit 20, nat_lit 21, nat_lit 29, nat_lit 33, nat_lit 35, nat_lit 36, nat_lit 38, nat_lit 39, nat_lit 40, nat_lit 79, nat_lit 81, nat_lit 82, nat_lit 84, nat_lit 85, nat_lit 87, nat_lit 91, nat_lit 93, nat_lit 94, nat_lit 96, nat_lit 97, nat_lit 108, nat_lit 110, nat_lit 111, nat_lit 113, nat_lit 114, nat_lit 115, nat_lit 117, nat_lit 118, nat_lit 120, nat_lit 121, nat_lit 122, nat_lit 124, nat_lit 125, nat_lit 127, nat_lit 128, nat_lit 129, nat_lit 131, nat_lit 132, nat_lit 134, nat_lit 135, nat_lit 136, nat_lit 138, nat_lit 139, nat_lit 141, nat_lit 142, nat_lit 143, nat_lit 145, nat_lit 146, nat_lit 148, nat_lit 149, nat_lit 150, nat_lit 152, nat_lit 153, nat_lit 155, nat_lit 156, nat_lit 157, nat_lit 158, nat_lit 159, nat_lit 160, nat_lit 161, nat_lit 164, nat_lit 166, nat_lit 167, nat_lit 169, nat_lit 170, nat_lit 171, nat_lit 173, nat_lit 174, nat_lit 176, nat_lit 177, nat_lit 178, nat_lit 180, nat_lit 181, nat_lit 183, nat_lit 184, nat_lit 185, nat_lit 187, nat_lit 188, nat_lit 190, nat_lit 191, nat_lit 192, nat_lit 195, nat_lit 196, nat_lit 197, nat_lit 200, nat_lit 201, nat_lit 202, nat_lit 204, nat_lit 205, nat_lit 207, nat_lit 208, nat_lit 209, nat_lit 212, nat_lit 213, nat_lit 214, nat_lit 217, nat_lit 218] (fun _ => by kernel_rfl))) (Hook.keeps (kHook devHeap [nat_lit 2, nat_lit 3, nat_lit 15, nat_lit 17, nat_lit 18, nat_lit 20, nat_lit 21, nat_lit 29, nat_lit 33, nat_lit 35, nat_lit 36, nat_lit 38, nat_lit 39, nat_lit 40, nat_lit 79, nat_lit 81, nat_lit 82, nat_lit 84, nat_lit 85, nat_lit 87, nat_lit 91, nat_lit 93, nat_lit 94, nat_lit 96, nat_lit 97, nat_lit 108, nat_lit 110, nat_lit 111, nat_lit 113, nat_lit 114, nat_lit 115, nat_lit 117, nat_lit 118, nat_lit 120, nat_lit 121, nat_lit 122, nat_lit 124, nat_lit 125, nat_lit 127, nat_lit 128, nat_lit 129, nat_lit 131, nat_lit 132, nat_lit 134, nat_lit 135, nat_lit 136, nat_lit 138, nat_lit 139, nat_lit 141, nat_lit 142, nat_lit 143, nat_lit 145, nat_lit 146, nat_lit 148, nat_lit 149, nat_lit 150, nat_lit 152, nat_lit 153, nat_lit 155, nat_lit 156, nat_lit 157, nat_lit 158, nat_lit 159, nat_lit 160, nat_lit 161, nat_lit 164, nat_lit 166, nat_lit 167, nat_lit 169, nat_lit 170, nat_lit 171, nat_lit 173, nat_lit 174, nat_lit 176, nat_lit 177, nat_lit 178, nat_lit 180, nat_lit 181, nat_lit 183, nat_lit 184, nat_lit 185, nat_lit 187, nat_lit 188, nat_lit 190, nat_lit 191, nat_lit 192, nat_lit 195, nat_lit 196, nat_lit 197, nat_lit 200, nat_lit 201, nat_lit 202, nat_lit 204, nat_lit 205, nat_lit 207, nat_lit 208, nat_lit 209, nat_lit 212, nat_lit 213, nat_lit 214, nat_lit 217, nat_lit 218] (fun _ => by kernel_rfl))) (fun s e => xl_of s (Bool.and_eq_true_iff.mp e).1) XL.keeps (by rfl) (by rfl) (by rfl) (fun s e => recFacts_of (Bool.and_eq_true_iff.mp e).2) (by rfl) (by first | assumption | decide +kernel) (by decide +kernel) ⟨rfl, rfl, rfl, rfl, rfl, by decide +kernel⟩ ?hw ?hc
  case hw => w_witness2
  (rename (_ = true) => said9)
  clear said9
  w_strict (
    k_go0
    (all_goals try k_fold)
    (with_reducible rename Fr _ _ _ _ => lF); (with_reducible rename News _ _ _ _ => lN)
    (rename Heap.IsList _ _ _ => hL); (rename IntsAre _ _ => hI); (rename ¬ (_ : Int) < _ => hlen63); (rename Top _ _ _ _ _ _ => T0); (rename (devHeap _).In _ => KX0); (rename Below _ _ _ _ => K0)
    (rename List Int => ns); (rename List Value => sv); (rename Shared => s1)
    have hsvl := hI.length
    have hsm : Sm sv := by unfold Sm; omega
    refine exec_cut (pre := [_, _, _, _]) (post := [_, _, _, _, _, _, _, _, _, _, _]) (MidA ns s1.heap s1.heap.objs.size s1) rfl ?_ ?_
    · intro Q8 hQ8
      k_steps
      (with_reducible rename Fr _ _ _ _ => lF1); (with_reducible rename News _ _ _ _ => lN1)
      refine LCg.CompSrc.ledger rfl lF1 lN1 List.mem_cons_self (Sm.sz (hsm.take _)) ?_
      intro gg
      generalize hN0 : (_ :: _ : Led) = N0 at lN1 ⊢
      have hD0 : ∃ D0, (D0, listOf (List.toArray (sv.take (Int.toNat 6))) 0) ∈ N0 := ⟨_, hN0 ▸ List.mem_cons_self⟩
      have hI6 : IntsAre (sv.take (Int.toNat 6)) (ns.take 6) := hI.take 6
      refine comp_rest (fun i ys nx => nx = N0 ∧ IntsAre ys (((ns.take 6).take i).map fun x => x.fmod 1000000)) ?_ ⟨rfl, .nil⟩ ?_ ?_
      · rintro i ys nx ⟨rfl, -⟩
        exact .inr ⟨_, hN0 ▸ List.mem_cons_self, rfl, _, rfl⟩
      · clear lF1 lN1 hN0 hD0
        rintro i v I oI C oC D m₂ ys nx h tk E' hi hv ⟨rfl, hys⟩ hC hx F₁ N₁ off Q9 hQ9
        have hv' : (sv.take (Int.toNat 6))[i]? = some v := by simpa using hv
        obtain ⟨x, tx, rfl, hx9⟩ : ∃ x tx, v = .int x tx ∧ (ns.take 6)[i]? = some x := by
          have hi9 : i < (ns.take 6).length := by have := hI6.length; have := (List.getElem?_eq_some_iff.mp hv').1; omega
          obtain ⟨t, ht⟩ := hI6.get i _ (List.getElem?_eq_getElem hi9)
          rw [hv'] at ht
          exact ⟨_, t, Option.some.inj ht, List.getElem?_eq_getElem hi9⟩
        k_steps
        (with_reducible rename Fr _ _ _ _ => eF); (with_reducible rename News _ _ _ _ => eN)
        refine hQ9 _ _ ?_
        refine EltE.mk [] eF eN (fun p hp => nomatch hp) off ⟨rfl, ?_⟩
        rw [List.take_add_one, hx9, List.map_append]
        exact hys.append (.cons _ _ .nil)
      · rintro ys nx ⟨rfl, hys⟩
        unfold LCg.FinE
        intro D2 h2 tk2 F2 N2 o2
        clear lF1 lN1
        rw [List.take_of_length_le (by rw [List.size_toArray, hI6.length]; exact Nat.le_refl _)] at hys
        have hysl := hys.length
        have hysm : Sm ys := by unfold Sm; rw [hysl, List.length_map, List.length_take]; omega
        obtain ⟨tl9, htl9, htlm, htlI⟩ : ∃ v6 : List Value, IntsAre v6 [1680, 1201, 841, 300, 45, 27] ∧ Sm v6 ∧ True := ⟨[.int 1680 0, .int 1201 0, .int 841 0, .int 300 0, .int 45 0, .int 27 0], by repeat constructor, by unfold Sm; decide, trivial⟩
        k_steps
        (with_reducible rename Fr _ _ _ _ => lF2); (with_reducible rename News _ _ _ _ => lN2)
        have e9 : ((sv.length : Nat) : Int).toNat = ns.length := by omega
        rw [e9] at lN2
        generalize hxs : ys ++ List.drop ns.length _ = xv at lN2
        have hxI : IntsAre xv (xsOf ns) := by rw [← hxs]; exact hys.append (IntsAre.drop (by repeat constructor) _)
        have hxl := hxI.length
        rw [xs_len] at hxl
        have hxm : Sm xv := by unfold Sm; omega
        clear hxs
        refine LCg.CompSrc.ledger rfl lF2 lN2 List.mem_cons_self (Sm.sz hxm) ?_
        intro gg2
        generalize hN1 : (_ :: _ : Led) = N1 at lN2 ⊢
        have hxa := head_mem hN1
        refine comp_rest (fun i ys nx => nx = N1 ∧ Chars ys (((xsOf ns).take i).map fun x => 48 + (x.fmod 3).toNat)) ?_ ⟨rfl, .nil⟩ ?_ ?_
        · rintro i ys nx ⟨rfl, -⟩
          exact .inr ⟨_, hN1 ▸ List.mem_cons_self, rfl, _, rfl⟩
        · clear lF2 lN2 hN1
          rintro i v I oI C oC D m₂ ys nx h tk E' hi hv ⟨rfl, hys⟩ hC hx F₁ N₁ off Q9 hQ9
          have hv' : xv[i]? = some v := by simpa using hv
          obtain ⟨x, tx, rfl, hx9⟩ : ∃ x tx, v = .int x tx ∧ (xsOf ns)[i]? = some x := by
            have hi9 : i < (xsOf ns).length := by have := xs_len ns; have := (List.getElem?_eq_some_iff.mp hv').1; omega
            obtain ⟨t, ht⟩ := hxI.get i _ (List.getElem?_eq_getElem hi9)
            rw [hv'] at ht
            exact ⟨_, t, Option.some.inj ht, List.getElem?_eq_getElem hi9⟩
          k_steps
          (with_reducible rename Fr _ _ _ _ => eF); (with_reducible rename News _ _ _ _ => eN)
          refine hQ9 _ _ ?_
          refine EltE.mk [] eF eN (fun p hp => nomatch hp) off ⟨rfl, ?_⟩
          rw [List.take_add_one, hx9, List.map_append]
          exact chars_app hys (.cons .nil)
        · rintro kv nx ⟨rfl, hkc⟩
          unfold LCg.FinA
          intro D3 h3 tk3 F3 N3 o3
          clear lF2 lN2
          rw [List.take_of_length_le (by rw [List.size_toArray, xs_len]; omega)] at hkc
          k_steps
          (with_reducible rename Fr _ _ _ _ => lF3); (with_reducible rename News _ _ _ _ => lN3)
          refine LCg.CompSrc.ledger rfl lF3 lN3 List.mem_cons_self (Sm.sz (hxm.take _)) ?_
          intro gg3
          have hx5 : IntsAre (xv.take (Int.toNat 5)) ((xsOf ns).take 5) := hxI.take 5
          generalize hN2 : (_ :: _ :: nx : Led) = N2 at lN3 ⊢
          have hxa2 : ∀ p ∈ nx, p ∈ N2 := by subst hN2; intro p hp; k_mem
          have hka2 : (D3, listOf (List.toArray kv) kv.length) ∈ N2 := by subst hN2; k_mem
          refine comp_rest (fun i ys nx => nx = N2 ∧ Chars ys ((((xsOf ns).take 5).take i).map fun x => sigOf ((x.fdiv 60).fmod 4).toNat)) ?_ ⟨rfl, .nil⟩ ?_ ?_
          · rintro i ys nx ⟨rfl, -⟩
            exact .inr ⟨_, hN2 ▸ List.mem_cons_self, rfl, _, rfl⟩
          · clear lF3 lN3 hN2 hxa2 hka2
            rintro i v I oI C oC D m₂ ys nx h tk E' hi hv ⟨rfl, hys⟩ hC hx F₁ N₁ off Q9 hQ9
            have hv' : (xv.take (Int.toNat 5))[i]? = some v := by simpa using hv
            obtain ⟨x, tx, rfl, hx9⟩ : ∃ x tx, v = .int x tx ∧ ((xsOf ns).take 5)[i]? = some x := by
              have hi9 : i < ((xsOf ns).take 5).length := by have := hx5.length; have := (List.getElem?_eq_some_iff.mp hv').1; omega
              obtain ⟨t, ht⟩ := hx5.get i _ (List.getElem?_eq_getElem hi9)
              rw [hv'] at ht
              exact ⟨_, t, Option.some.inj ht, List.getElem?_eq_getElem hi9⟩
            k_steps
            (with_reducible rename Fr _ _ _ _ => eF); (with_reducible rename News _ _ _ _ => eN)
            refine hQ9 _ _ ?_
            refine EltE.mk [] eF eN (fun p hp => nomatch hp) off ⟨rfl, ?_⟩
            rw [List.take_add_one, hx9, List.map_append]
            exact chars_app hys (.cons .nil)
          · rintro ys nx2 ⟨rfl, hys⟩
            unfold LCg.FinA
            intro D4 h4 tk4 F4 N4 o4
            clear lF3 lN3
            rw [List.take_of_length_le (by rw [List.size_toArray, hx5.length]; exact Nat.le_refl _)] at hys
            have hxaN := hxa2 _ hxa
            k_steps
            (with_reducible rename Fr _ _ _ _ => eF); (with_reducible rename News _ _ _ _ => eN)
            rename _ ≤ (3 : Int) => hT3
            rename (0 : Int) ≤ _ => hT0
            have hka4 : (D3, listOf (List.toArray kv) kv.length) ∈ (D4, LCg.lst ys) :: nx2 := by k_mem
            have hla4 : (D4, listOf (List.toArray ys) ys.length) ∈ (D4, LCg.lst ys) :: nx2 := by k_mem
            refine hQ8 _ ?_
            exact ⟨_, _, _, _, _, _, _, _, _, xv, kv, ys, _, _, _, _, (D4, LCg.lst ys) :: nx2, rfl, eF, eN, rfl, rfl, rfl, rfl, List.mem_cons_of_mem _ hxaN, hka4, hla4, hxI, hkc, hys, hT0, hT3, by rw [List.length_map, xs_len], kinds_ok ns, by rw [List.length_map, List.length_take, xs_len]; rfl, sigs_ok _⟩
    · rintro _ ⟨h9, tk9, m9, xa, ka, la, xn, kn, ln, xv, kv, lv, kc, lc, turn, t9, nw, rfl, F9, N9, mx, mk, ml, mt, hxa, hka, hla, hxI, hkc, hlc, hT0, hT3, hk6, hk3, hl5, hlm⟩
      clear lF lN
      rw [asIf mx, asIf mk, asIf ml, asIf mt] at F9
      have hkl := hkc.len
      have hll := hlc.len
      have hkm : Sm kv := by unfold Sm; omega
      have C191 := at_top T0 KX0 (tree_ct (kc.map Tr.leaf) lc (by intro e; rw [List.map_eq_nil_iff] at e; rw [e] at hk6; cases hk6) (by rw [List.length_map]; omega) (by omega) hlm)
      have hR1 : TreeRel (kc.map Tr.leaf) lc nw [.ref ka, .ref la] := ⟨ka, la, kv, lv, kn, ln, rfl, hka, hla, chars_rep hkc, hlc⟩
      refine exec_cut (pre := [_]) (post := [_, _, _, _, _, _, _, _, _, _]) (fun s' => Opq (Ex5 fun h tk m v1 nw2 => All10 (s' = { s1 with heap := h, toks := tk }) (Fr s1.heap s1.heap.objs.size h m) (News s1.heap s1.heap.objs.size h nw2) (m (Str.ofString "xs") = some (.ref xa)) (m (Str.ofString "kinds") = some (.ref ka)) (m (Str.ofString "labels") = some (.ref la)) (m (Str.ofString "turn") = some (.int turn t9)) (m (Str.ofString "first") = some v1) (∀ p ∈ nw, p ∈ nw2) (Rep nw2 v1 (treeOf (kc.map Tr.leaf) lc)))) rfl ?_ ?_
      · intro Q8 hQ8
        k_steps
        (with_reducible rename Fr _ _ _ _ => eF); (with_reducible rename News _ _ _ _ => eN)
        rename Rep _ _ _ => hrep
        refine hQ8 _ ?_
        exact Opq.mk ⟨_, _, _, _, _, rfl, eF, eN, rfl, rfl, rfl, rfl, rfl, fun p hp => List.mem_append_right _ hp, hrep⟩
      · clear C191 hR1
        rintro _ ⟨h8, tk8, m8, v1, nw2, rfl, F8, N8, mx, mk, ml, mt, mf, hs2, hrep1⟩
        rw [asIf mx, asIf mk, asIf ml, asIf mt, asIf mf] at F8
        have hk0 : RepL [] (kv.drop turn.toNat ++ kv.take turn.toNat) ((kc.drop turn.toNat ++ kc.take turn.toNat).map Tr.leaf) := by
          rw [List.map_append, List.map_drop, List.map_take]
          exact ((chars_rep hkc).drop _).append ((chars_rep hkc).take _)
        generalize hkc2 : kc.drop turn.toNat ++ kc.take turn.toNat = kc2 at hk0
        have hk62 : kc2.length = 6 := by rw [← hkc2, List.length_append, List.length_drop, List.length_take]; exact (cut_eq _ _).trans hk6
        have hk32 : ∀ c ∈ kc2, c = 48 ∨ c = 49 ∨ c = 50 := by
          intro c hc
          rw [← hkc2] at hc
          rcases List.mem_append.mp hc with hc | hc
          · exact hk3 c (List.mem_of_mem_drop hc)
          · exact hk3 c (List.mem_of_mem_take hc)
        have C191 := at_top T0 KX0 (tree_ct (kc2.map Tr.leaf) lc (by intro e; rw [List.map_eq_nil_iff] at e; rw [e] at hk62; cases hk62) (by rw [List.length_map]; omega) (by omega) hlm)
        obtain ⟨wf1, lv1⟩ := tree_ok hk3 hk6 hlm
        obtain ⟨wf2, lv2⟩ := tree_ok hk32 hk62 hlm
        generalize treeOf (kc.map Tr.leaf) lc = T1 at hrep1 wf1 lv1
        have hka2 := hs2 _ hka
        have hla2 := hs2 _ hla
        refine exec_cut (pre := [_]) (post := [_, _, _, _, _, _, _, _, _]) (fun s' => Opq (Ex6 fun h tk m v1 v2 nw3 => All9 (s' = { s1 with heap := h, toks := tk }) (Fr s1.heap s1.heap.objs.size h m) (News s1.heap s1.heap.objs.size h nw3) (m (Str.ofString "xs") = some (.ref xa)) (m (Str.ofString "first") = some v1) (m (Str.ofString "second") = some v2) (∀ p ∈ nw2, p ∈ nw3) (Rep nw3 v1 T1) (Rep nw3 v2 (treeOf (kc2.map Tr.leaf) lc)))) rfl ?_ ?_
        · intro Q8 hQ8
          k_steps
          (with_reducible rename Fr _ _ _ _ => eF); (with_reducible rename News _ _ _ _ => eN)
          rename Rep (_ ++ _) _ _ => hrep
          refine hQ8 _ ?_
          exact Opq.mk ⟨_, _, _, _, _, _, rfl, eF, eN, rfl, rfl, rfl, fun p hp => by k_mem, hrep1.mono fun p hp => by k_mem, hrep⟩
        · clear C191
          rintro _ ⟨h7, tk7, m7, v1', v2, nw3, rfl, F7, N7, mx, mf, ms, hs3, hrep1', hrep2⟩
          rw [asIf mx, asIf mf, asIf ms] at F7
          generalize treeOf (kc2.map Tr.leaf) lc = T2 at hrep2 wf2 lv2
          have hxa3 := hs3 _ (hs2 _ hxa)
          have hxl := hxI.length
          rw [xs_len] at hxl
          obtain ⟨x0, t0, hx0⟩ : ∃ x t, xv[(0 : Int).toNat]? = some (.int x t) := int_at hxI (by omega)
          obtain ⟨x1, t1, hx1⟩ : ∃ x t, xv[(1 : Int).toNat]? = some (.int x t) := int_at hxI (by omega)
          obtain ⟨x2, t2, hx2⟩ : ∃ x t, xv[(2 : Int).toNat]? = some (.int x t) := int_at hxI (by omega)
          have hf1 := flat_leaves T1
          have hf2 := flat_leaves T2
          have hh1 := ht_leaves T1
          have hh2 := ht_leaves T2
          have C196 := (at_top T0 KX0 (row_ct T1 (by omega) (x0.fdiv 240))).wider (sz' := 40) (by omega)
          refine exec_cut (pre := [_]) (post := [_, _, _, _, _, _, _, _]) (fun s' => Opq (Ex5 fun h tk m k1 nw4 => All8 (s' = { s1 with heap := h, toks := tk }) (Fr s1.heap s1.heap.objs.size h m) (News s1.heap s1.heap.objs.size h nw4) (m (Str.ofString "xs") = some (.ref xa)) (m (Str.ofString "first") = some v1') (m (Str.ofString "second") = some v2) (m (Str.ofString "one") = some (.str ⟨(flat (rot T1 (x0.fdiv 240))).toArray⟩ k1)) (∀ p ∈ nw3, p ∈ nw4))) rfl ?_ ?_
          · intro Q8 hQ8
            k_steps
            (with_reducible rename Fr _ _ _ _ => eF); (with_reducible rename News _ _ _ _ => eN)
            rename RowOut _ _ _ _ _ _ => hro
            obtain ⟨kk, rfl⟩ := hro
            refine hQ8 _ ?_
            exact Opq.mk ⟨_, _, _, _, _, rfl, eF, eN, rfl, rfl, rfl, rfl, fun p hp => by k_mem⟩
          · clear C196
            rintro _ ⟨h6, tk6, m6, k1, nw4, rfl, F6, N6, mx, mf, ms, mo, hs4⟩
            rw [asIf mx, asIf mf, asIf ms, asIf mo] at F6
            have hxa4 := hs4 _ hxa3
            have hrep2' := hrep2.mono hs4
            have C196 := (at_top T0 KX0 (row_ct T2 (by omega) (x1.fdiv 240))).wider (sz' := 40) (by omega)
            refine exec_cut (pre := [_, _, _]) (post := [_, _, _, _, _]) (fun s' => Opq (Ex8 fun h tk m k1 k2 nw5 sh wd => All13 (s' = { s1 with heap := h, toks := tk }) (Fr s1.heap s1.heap.objs.size h m) (News s1.heap s1.heap.objs.size h ((wd, listOf (List.toArray []) 0) :: (sh, listOf (List.toArray []) 0) :: nw5)) (∀ q ∈ nw5, q.1 < sh) (@LT.lt Nat _ sh wd) (m (Str.ofString "xs") = some (.ref xa)) (m (Str.ofString "first") = some v1') (m (Str.ofString "second") = some v2) (m (Str.ofString "one") = some (.str ⟨(flat (rot T1 (x0.fdiv 240))).toArray⟩ k1)) (m (Str.ofString "other") = some (.str ⟨(flat (rot T2 (x1.fdiv 240))).toArray⟩ k2)) (m (Str.ofString "shelf") = some (.ref sh)) (m (Str.ofString "words") = some (.ref wd)) (∀ p ∈ nw4, p ∈ nw5))) rfl ?_ ?_
            · intro Q8 hQ8
              k_steps
              (with_reducible rename Fr _ _ _ _ => eF); (with_reducible rename News _ _ _ _ => eN)
              rename RowOut _ _ _ _ _ _ => hro
              obtain ⟨kk, rfl⟩ := hro
              rename ∀ p ∈ (_, listOf _ 0) :: (_ ++ nw4), _ => l2
              rename ∀ p ∈ _ ++ nw4, _ => l1
              refine hQ8 _ ?_
              exact Opq.mk ⟨_, _, _, _, _, _, _, _, rfl, eF, eN, l1, l2 _ List.mem_cons_self, rfl, rfl, rfl, rfl, rfl, rfl, rfl, fun p hp => List.mem_append_right _ hp⟩
            · clear C196
              rintro _ ⟨h5, tk5, m5, k1', k2, nw5, sh, wd, rfl, F5, N5, hlsh, hlwd, mx, mf, ms, mo, mo2, msh, mwd, hs5⟩
              rw [asIf mx, asIf mf, asIf ms, asIf mo, asIf mo2, asIf msh, asIf mwd] at F5
              have hxa5 := hs5 _ hxa4
              have hrep15 := hrep1'.mono fun p hp => hs5 p (hs4 p hp)
              have hrep25 := hrep2'.mono hs5
              have hR0 : RdIn [] [] sh wd ((wd, listOf (List.toArray []) 0) :: (sh, listOf (List.toArray []) 0) :: nw5) := ⟨[], 0, [], 0, nw5, rfl, Ne.symm (Nat.ne_of_lt hlwd), fun q hq => Nat.ne_of_lt (Nat.lt_trans (hlsh q hq) hlwd), fun q hq => Nat.ne_of_lt (hlsh q hq), .nil, .nil⟩
              have hrl1 := flat_rot_len T1 (x0.fdiv 240)
              have hrl2 := flat_rot_len T2 (x1.fdiv 240)
              have C208 := at_top T0 KX0 (page_ct (flat (rot T1 (x0.fdiv 240))) x0 (by omega) (flat_signs (rot_wf _ wf1)))
              have C213 := at_topM T0 KX0 (readT_ct (rot T1 (x0.fdiv 240)) (rot_wf _ wf1) [] [] sh wd ((wd, listOf (List.toArray []) 0) :: (sh, listOf (List.toArray []) 0) :: nw5) (by simp only [List.length_nil]; omega))
              refine exec_cut (pre := [_]) (post := [_, _, _, _]) (fun s' => Opq (Ex9 fun h tk m pg1 r1 k u t nwr => All16 (s' = { s1 with heap := h, toks := tk }) (Fr s1.heap s1.heap.objs.size h m) (News s1.heap s1.heap.objs.size h nwr) (PageOf (flat (rot T1 (x0.fdiv 240))) pg1) (pgRun ⟨[], [], [], 1⟩ pg1.reverse = some r1) (r1.pile = [k]) (RdIn r1.W r1.S sh wd nwr) (∀ p ∈ nw5, p ∈ nwr) (m (Str.ofString "xs") = some (.ref xa)) (m (Str.ofString "first") = some v1') (m (Str.ofString "second") = some v2) (m (Str.ofString "other") = some (.str ⟨(flat (rot T2 (x1.fdiv 240))).toArray⟩ k2)) (m (Str.ofString "shelf") = some (.ref sh)) (m (Str.ofString "words") = some (.ref wd)) (m (Str.ofString "shape") = some (.int k t)) (m (Str.ofString "ways") = some (.int (r1.ways : Nat) u)))) rfl ?_ ?_
              · intro Q8 hQ8
                k_steps
                (with_reducible rename Fr _ _ _ _ => eF); (with_reducible rename News _ _ _ _ => eN)
                rename pgRun _ _ = some _ => e1
                rename _ = [_] => e2
                rename ∀ p ∈ (wd, _) :: _, _ → _ → p ∈ _ => e4
                rename PageOf (flat _) _ => e0
                rename RdIn (St.W _) _ _ _ _ => e3
                refine hQ8 _ ?_
                exact Opq.mk ⟨_, _, _, _, _, _, _, _, _, rfl, eF, eN, e0, e1, e2, e3, fun p hp => e4 p (List.mem_cons_of_mem _ (List.mem_cons_of_mem _ hp)) (Nat.ne_of_lt (hlsh p hp)) (Nat.ne_of_lt (Nat.lt_trans (hlsh p hp) hlwd)), rfl, rfl, rfl, rfl, rfl, rfl, rfl, rfl⟩
              · clear C208 C213 hR0
                rintro _ ⟨h4, tk4, m4, pg1, r1, kk1, u1, tt1, nwr, rfl, F4, N4, hpg1, hrun1, hpile1, hRd1, hsr, mx, mf, ms, mo2, msh, mwd, msp, mwy⟩
                rw [asIf mx, asIf mf, asIf ms, asIf mo2, asIf msh, asIf mwd, asIf msp, asIf mwy] at F4
                have hxar := hsr _ hxa5
                have hrep1r := hrep15.mono hsr
                have hrep2r := hrep25.mono hsr
                have hpl1 := hpg1.len
                have hwf1 : Wf (0 + pg1.reverse.length) r1 := wf_run (B := 0) wf_nil hrun1
                rw [List.length_reverse] at hwf1
                have hb1 := hwf1.1
                have hb2 := hwf1.2.1
                have C208 := at_top T0 KX0 (page_ct (flat (rot T2 (x1.fdiv 240))) x2 (by omega) (flat_signs (rot_wf _ wf2)))
                have C213 := at_topM T0 KX0 (readT_ct (rot T2 (x1.fdiv 240)) (rot_wf _ wf2) r1.W r1.S sh wd nwr (by omega))
                refine exec_cut (pre := [_]) (post := [_, _, _]) (fun s' => Opq (Ex9 fun h tk m pg2 r2 k u t nwq => All14 (s' = { s1 with heap := h, toks := tk }) (Fr s1.heap s1.heap.objs.size h m) (News s1.heap s1.heap.objs.size h nwq) (PageOf (flat (rot T2 (x1.fdiv 240))) pg2) (pgRun ⟨r1.W, r1.S, [], 1⟩ pg2.reverse = some r2) (r2.pile = [k]) (∀ p ∈ nw5, p ∈ nwq) (m (Str.ofString "first") = some v1') (m (Str.ofString "second") = some v2) (m (Str.ofString "other") = some (.str ⟨(flat (rot T2 (x1.fdiv 240))).toArray⟩ k2)) (m (Str.ofString "shape") = some (.int kk1 tt1)) (m (Str.ofString "ways") = some (.int (r1.ways : Nat) u1)) (m (Str.ofString "twin") = some (.int k t)) (m (Str.ofString "more") = some (.int (r2.ways : Nat) u)))) rfl ?_ ?_
                · intro Q8 hQ8
                  k_steps
                  (with_reducible rename Fr _ _ _ _ => eF); (with_reducible rename News _ _ _ _ => eN)
                  rename pgRun _ _ = some _ => e1
                  rename _ = [_] => e2
                  rename ∀ p ∈ nwr, _ → _ → p ∈ _ => e4
                  rename PageOf (flat _) _ => e0
                  refine hQ8 _ ?_
                  exact Opq.mk ⟨_, _, _, _, _, _, _, _, _, rfl, eF, eN, e0, e1, e2, fun p hp => e4 p (hsr p hp) (Nat.ne_of_lt (hlsh p hp)) (Nat.ne_of_lt (Nat.lt_trans (hlsh p hp) hlwd)), rfl, rfl, rfl, rfl, rfl, rfl, rfl⟩
                · clear C208 C213
                  rintro _ ⟨h3, tk3, m3, pg2, r2, kk2, u2, tt2, nwq, rfl, F3, N3, hpg2, hrun2, hpile2, hsq, mf, ms, mo2, msp, mwy, mtw, mmo⟩
                  rw [asIf mf, asIf ms, asIf mo2, asIf msp, asIf mwy, asIf mtw, asIf mmo] at F3
                  have hrep1q := hrep15.mono hsq
                  have hrep2q := hrep25.mono hsq
                  obtain ⟨q1, q2, j1, j2, p1, p2, p3, p4, p5, p6, p7⟩ := plain_law (x := x0.fdiv 240) (y := x1.fdiv 240) wf1 wf2 hpg1 hpg2
                  rw [hrun1] at p1
                  obtain rfl := Option.some.inj p1
                  rw [hrun2] at p3
                  obtain rfl := Option.some.inj p3
                  rw [hpile1] at p2
                  rw [hpile2] at p4
                  simp only [List.cons.injEq, and_true] at p2 p4
                  subst p2
                  subst p4
                  have hts1 := turns_small lv1
                  have hts2 := turns_small lv2
                  have C201 := (at_top T0 KX0 (turns_ct T1 (good_of lv1))).wider (sz' := 40) (by omega)
                  refine exec_cut (pre := [_]) (post := [_, _]) (fun s' => Opq (Ex7 fun h tk m q n us nwp => All13 (s' = { s1 with heap := h, toks := tk }) (Fr s1.heap s1.heap.objs.size h m) (News s1.heap s1.heap.objs.size h nwp) (∀ p ∈ nwq, p ∈ nwp) ((q, listOf (List.toArray us) n) ∈ nwp) (Texts us (turnsOf T1)) (m (Str.ofString "second") = some v2) (m (Str.ofString "other") = some (.str ⟨(flat (rot T2 (x1.fdiv 240))).toArray⟩ k2)) (m (Str.ofString "shape") = some (.int kk1 tt1)) (m (Str.ofString "ways") = some (.int (r1.ways : Nat) u1)) (m (Str.ofString "twin") = some (.int kk2 tt2)) (m (Str.ofString "more") = some (.int (r2.ways : Nat) u2)) (m (Str.ofString "turns") = some (.ref q)))) rfl ?_ ?_
                  · intro Q8 hQ8
                    k_steps
                    (with_reducible rename Fr _ _ _ _ => eF); (with_reducible rename News _ _ _ _ => eN)
                    rename Texts _ (turnsOf T1) => hqt
                    rename (_, listOf _ _) ∈ _ => hqm
                    refine hQ8 _ ?_
                    exact Opq.mk ⟨_, _, _, _, _, _, _, rfl, eF, eN, fun p hp => List.mem_append_right _ hp, List.mem_append_left _ hqm, hqt, rfl, rfl, rfl, rfl, rfl, rfl, rfl⟩
                  · clear C201
                    rintro _ ⟨h2, tk2, m2, q, nq, us, nwp, rfl, F2, N2, hsp, hqm, hqt, ms, mo2, msp, mwy, mtw, mmo, mtu⟩
                    rw [asIf ms, asIf mo2, asIf msp, asIf mwy, asIf mtw, asIf mmo, asIf mtu] at F2
                    have hrep2p := hrep2q.mono hsp
                    have husl := hqt.len
                    have husm : Sm us := by unfold Sm; omega
                    have C201 := (at_top T0 KX0 (turns_ct T2 (good_of lv2))).wider (sz' := 40) (by omega)
                    k_steps
                    all_goals (exfalso; omega))
end Mine

theorem PySem.Challenge.cw_re0162_01_holds : PySem.Challenge.rw_re0162_01.Holds :=
  Mine.law_dev
