import PyProof.Rows.All
import Wide.All
import OpenK.AllK
import Wide.FinOn
import Lean
import PySem.Challenge.RW_rw0085_01

section
open PySem PySem.W PyProof.Rows PySem.Calls
set_option Elab.async false
set_option maxRecDepth 100000
namespace Mine
section
variable {p : Program} {w : World} {n₀ : Nat} {ann : Option Value} {b : List Stmt} {env : Env} {q : Pos}

/-- m takes n steps of the top's run, hands back a -/
noncomputable def Go (p : Program) (w : World) (n₀ : Nat) (ann : Option Value) (b : List Stmt) (env : Env) (q : Pos) {α : Type} (m : Sem α) (pos : Pos) (s : Shared) (n : Nat) (a : α) (pos' : Pos) (s' : Shared) : Prop :=
  ∀ (K : α → Sem Fin) (H : Value → Sem Fin) (gd : Bool → Bool) (lv : List Value → List Value) (N : Nat) (r : Shared),
    topRun treeTable p w n₀ ann N s' ⟨K a, .body b env, pos', [topFrame q]⟩ = some r →
    topRun treeTable p w n₀ ann (N + n) s ⟨m.wrap K H gd lv, .body b env, pos, [topFrame q]⟩ = some r

local macro_rules | `(tactic| ktr_unf) => `(tactic| skip)

theorem go_pure {α : Type} {a : α} {pos : Pos} {s : Shared} : Go p w n₀ ann b env q (pure a : Sem α) pos s 0 a pos s := fun _ _ _ _ _ _ h => h
theorem go_bind {α β : Type} {m : Sem α} {f : α → Sem β} {pos pos1 pos2 : Pos} {s s1 s2 : Shared} {n n' : Nat} {a : α} {c : β}
    (h : Go p w n₀ ann b env q m pos s n a pos1 s1) (h' : Go p w n₀ ann b env q (f a) pos1 s1 n' c pos2 s2) : Go p w n₀ ann b env q (m >>= f) pos s (n' + n) c pos2 s2 := fun K H gd lv N r k => by
  rw [Sem.bind_eq_wrap', Sem.wrap_wrap, ← Nat.add_assoc]
  exact h _ _ _ _ _ _ (h' K H gd lv N r k)
theorem go_keep {α : Type} {m : Sem α} {vs : List Value} {pos pos1 : Pos} {s s1 : Shared} {n : Nat} {a : α} (h : Go p w n₀ ann b env q m pos s n a pos1 s1) : Go p w n₀ ann b env q (m.keep vs) pos s n a pos1 s1 := fun K H gd lv N r k => by
  rw [Sem.keep_eq_wrap, Sem.wrap_wrap]
  exact h _ _ _ _ _ _ k
theorem go_holding {α : Type} {m : Sem α} {vs : List Value} {pos pos1 : Pos} {s s1 : Shared} {n : Nat} {a : α} (h : Go p w n₀ ann b env q m pos s n a pos1 s1) : Go p w n₀ ann b env q (holding vs m) pos s n a pos1 s1 := by
  unfold PySem.holding
  split
  · exact h
  · exact go_keep h
theorem go_tryCatch {α : Type} {m : Sem α} {f : Value → Sem α} {pos pos1 : Pos} {s s1 : Shared} {n : Nat} {a : α} (h : Go p w n₀ ann b env q m pos s n a pos1 s1) : Go p w n₀ ann b env q (m.tryCatch f) pos s n a pos1 s1 := fun K H gd lv N r k => by
  rw [Sem.tryCatch_eq_wrap, Sem.wrap_wrap]
  exact h _ _ _ _ _ _ k
theorem go_onRaise {α : Type} {m : Sem α} {f : Value → Sem Unit} {pos pos1 : Pos} {s s1 : Shared} {n : Nat} {a : α} (h : Go p w n₀ ann b env q m pos s n a pos1 s1) : Go p w n₀ ann b env q (m.onRaise f) pos s n a pos1 s1 := fun K H gd lv N r k => by
  rw [Sem.onRaise_eq_wrap, Sem.wrap_wrap]
  exact h _ _ _ _ _ _ k
theorem go_eq {α : Type} {m m' : Sem α} {pos pos1 : Pos} {s s1 : Shared} {n : Nat} {a : α} (e : m = m') (h : Go p w n₀ ann b env q m' pos s n a pos1 s1) : Go p w n₀ ann b env q m pos s n a pos1 s1 := e ▸ h
theorem go_rule {tag : String} {pos : Pos} {s : Shared} : Go p w n₀ ann b env q (PySem.rule tag) pos s 1 () pos s := fun _ _ _ _ _ _ h => h
theorem go_at {pos' : Pos} {pos : Pos} {s : Shared} : Go p w n₀ ann b env q (PySem.standAt pos') pos s 1 () pos' s := fun _ _ _ _ _ _ h => h
theorem go_point {pos : Pos} {s : Shared} : Go p w n₀ ann b env q PySem.point pos s 1 () pos s := fun _ _ _ _ _ _ h => h
theorem go_ask {pos : Pos} {s : Shared} : Go p w n₀ ann b env q PySem.ask pos s 1 ⟨p, w.params⟩ pos s := fun _ _ _ _ _ _ h => h
theorem go_fresh {pos : Pos} {s : Shared} : Go p w n₀ ann b env q PySem.fresh pos s 1 s.toks pos { s with toks := s.toks + 1 } := fun _ _ _ _ _ _ h => h
theorem go_alloc {o : Obj} {pos : Pos} {s : Shared} : Go p w n₀ ann b env q (PySem.alloc o) pos s 1 s.heap.objs.size pos { s with heap := s.heap.push o } := fun _ _ _ _ _ _ h => h
theorem go_loadPart {a : Addr} {pt : Option Value} {o : Obj} {pos : Pos} {s : Shared} (ho : s.heap.get? a = some o) : Go p w n₀ ann b env q (PySem.loadPart a pt) pos s 1 o pos s := fun K H gd lv N r h => by
  obtain ⟨heap, gens, drawn, toks, os⟩ := s
  show topRun treeTable p w n₀ ann (N + 1) ⟨heap, gens, drawn, toks, os⟩ ⟨.load a pt (fun o => K o), .body b env, pos, [topFrame q]⟩ = some r
  have e : step (denote treeTable) p w ⟨heap, gens, drawn, toks, os⟩ ⟨.load a pt (fun o => K o), .body b env, pos, [topFrame q]⟩ = .go ⟨heap, gens, drawn, toks, os⟩ ⟨K o, .body b env, pos, [topFrame q]⟩ := by
    simp only [step]
    rw [show heap.get? a = some o from ho]
  show (match step (denote treeTable) p w ⟨heap, gens, drawn, toks, os⟩ ⟨.load a pt (fun o => K o), .body b env, pos, [topFrame q]⟩ with
    | .go s' t' => topRun treeTable p w n₀ ann N s' t'
    | .halt _ _ => none) = some r
  rw [e]
  exact h
theorem go_load {a : Addr} {o : Obj} {pos : Pos} {s : Shared} (ho : s.heap.get? a = some o) : Go p w n₀ ann b env q (PySem.load a) pos s 1 o pos s := go_loadPart (pt := none) ho
theorem go_updatePart {a : Addr} {pt : Option Value} {f : Obj → Obj} {o : Obj} {pos : Pos} {s : Shared} (ho : s.heap.get? a = some o) (hn : Nat.ble n₀ a = true) :
    Go p w n₀ ann b env q (PySem.updatePart a pt f) pos s 1 () pos { s with heap := s.heap.update a f } := fun K H gd lv N r h => by
  obtain ⟨heap, gens, drawn, toks, os⟩ := s
  show topRun treeTable p w n₀ ann (N + 1) ⟨heap, gens, drawn, toks, os⟩ ⟨.update a pt f (fun u => K u), .body b env, pos, [topFrame q]⟩ = some r
  have e : step (denote treeTable) p w ⟨heap, gens, drawn, toks, os⟩ ⟨.update a pt f (fun u => K u), .body b env, pos, [topFrame q]⟩ = .go ⟨heap.update a f, gens, drawn, toks, os⟩ ⟨K (), .body b env, pos, [topFrame q]⟩ := by
    simp only [step]
    rw [show heap.get? a = some o from ho]
    rfl
  have k : stepOk n₀ ann ⟨.update a pt f (fun u => K u), .body b env, pos, [topFrame q]⟩ = true := by
    show (_ && (Nat.ble n₀ a || _ || _ || _)) = true
    rw [hn]; rfl
  unfold topRun
  rw [k, e]
  exact h
theorem go_forIn {α β : Type} {f : α → β → Sem (ForInStep β)} {C : Nat} {pos : Pos} (P : List α → β → Shared → Prop)
    (step : ∀ x l acc s, P (x :: l) acc s → ∃ acc' s', Go p w n₀ ann b env q (f x acc) pos s C (.yield acc') pos s' ∧ P l acc' s') :
    ∀ (l : List α) (acc : β) (s : Shared), P l acc s → ∃ acc' s', Go p w n₀ ann b env q (forIn l acc f) pos s (C * l.length) acc' pos s' ∧ P [] acc' s'
  | [], acc, s, h => ⟨acc, s, by rw [List.forIn_nil]; exact go_pure, h⟩
  | x :: l, acc, s, h => by
    obtain ⟨acc', s', g, h'⟩ := step x l acc s h
    obtain ⟨acc2, s2, g2, h2⟩ := go_forIn P step l acc' s' h'
    refine ⟨acc2, s2, ?_, h2⟩
    rw [List.forIn_cons, List.length_cons, Nat.mul_succ]
    exact go_bind g g2
end
end Mine
end

section
open PySem PySem.W PyProof.Rows PySem.Calls
set_option Elab.async false
set_option maxRecDepth 100000
namespace Mine
section
variable {p : Program} {n₀ : Nat} {ann : Option Value} {b : List Stmt} {env : Env} {q : Pos}
theorem hash_runs0 (bb : Bool) (w : World) (k : Int) (t : Tok) (K : Int → Sem Fin) (H : Value → Sem Fin) (gd : Bool → Bool) (lv : List Value → List Value) (N : Nat) (s : Shared) (pos : Pos) :
    topRun treeTable p (w.withFollow "special-get-raises" bb) n₀ ann (N + 5) s ⟨(pyHash (.int k t)).wrap K H gd lv, .body b env, pos, [topFrame q]⟩ =
    topRun treeTable p (w.withFollow "special-get-raises" bb) n₀ ann N { s with toks := s.toks + 1 } ⟨(pyHashByItsType.reduced (rawHash k)).wrap K H gd lv, .body b env, pos, [topFrame q]⟩ := by
  cases bb <;> kernel_rfl

variable {w : World}
theorem go_hash {k : Int} {t : Tok} {pos : Pos} {s : Shared} : Go p w n₀ ann b env q (pyHash (.int k t)) pos s 5 (hashInt k) pos { s with toks := s.toks + 1 } := fun K H gd lv N r h => by
  have e := hash_runs0 (p := p) (n₀ := n₀) (ann := ann) (b := b) (env := env) (q := q) (w.params.followText "special-get-raises") w k t K H gd lv N s pos
  rw [World.withFollow_self] at e
  rw [e]
  have hr := rawHash_range k
  have e2 : pyHashByItsType.reduced (rawHash k) = (pure (hashInt k) : Sem Int) := by
    unfold pyHashByItsType.reduced
    rw [if_pos (by rw [decide_eq_true hr.1, decide_eq_true hr.2]; rfl)]
    rfl
  rw [e2]
  exact h

noncomputable def dObj (es : Array DictEntry) (n : Nat) : Obj := ⟨.type "dict", none, .dict es n, #[]⟩

/-- no entry bears this hash -/
noncomputable def NoHash (es : Array DictEntry) (h : Int) : Prop := placesWithHash es.size (fun i => es[i]?.map (·.hash)) h = []
theorem noHash_of {es : Array DictEntry} {h : Int} (k : ∀ e ∈ es, e.hash ≠ h) : NoHash es h := by
  unfold NoHash placesWithHash
  rw [List.filter_eq_nil_iff]
  intro i hi
  have hlt : i < es.size := List.mem_range.mp hi
  have := k es[i] (Array.getElem_mem hlt)
  simp [hlt, this]

theorem go_entries {d : Addr} {pt : Option Value} {es : Array DictEntry} {n : Nat} {pos : Pos} {s : Shared} (ho : s.heap.get? d = some (dObj es n)) :
    Go p w n₀ ann b env q (dictEntries d pt) pos s 1 es pos s := go_bind (n' := 0) (go_loadPart ho) go_pure
theorem go_find {d : Addr} {k h : Int} {t : Tok} {es : Array DictEntry} {n : Nat} {pos : Pos} {s : Shared} (ho : s.heap.get? d = some (dObj es n)) (hn : NoHash es h) :
    Go p w n₀ ann b env q (dictFind d (.int k t) h) pos s 1 none pos s := by
  unfold dictFind
  refine go_holding (go_bind (n' := 0) (go_entries ho) ?_)
  dsimp only
  rw [show placesWithHash es.size (fun i => es[i]?.map (·.hash)) h = [] from hn]
  exact go_pure
theorem get_upd {H : Heap} {d : Addr} {es : Array DictEntry} {n : Nat} (ho : H.get? d = some (dObj es n)) (f : Array DictEntry → Array DictEntry) :
    (H.update d (Obj.mapDictKeys f)).get? d = some (dObj (f es) (n + 1)) := Heap.get?_update_self _ ho rfl
theorem go_push {d : Addr} {pt : Option Value} {e : DictEntry} {es : Array DictEntry} {n : Nat} {pos : Pos} {s : Shared} (ho : s.heap.get? d = some (dObj es n)) (hd : Nat.ble n₀ d = true) (hs : es.size < sizeLine) :
    Go p w n₀ ann b env q (updateDictKeys d (·.push e) pt) pos s 3 () pos { s with heap := s.heap.update d (Obj.mapDictKeys (·.push e)) } := by
  unfold updateDictKeys
  refine go_bind (n' := 2) (go_loadPart ho) ?_
  show Go p w n₀ ann b env q (do updatePart d pt (Obj.mapDictKeys (·.push e)); lookBehind d pt) pos s 2 () pos _
  refine go_bind (n' := 1) (go_updatePart ho hd) ?_
  unfold lookBehind
  refine go_bind (n' := 0) (go_loadPart (get_upd ho _)) ?_
  have e1 : (dObj (es.push e) (n + 1)).data.pastItsLine = none := by
    show (if (es.push e).size > sizeLine + 1 then _ else _) = none
    rw [if_neg (by rw [Array.size_push]; omega)]
  rw [e1]
  exact go_pure
/-- what one new entry makes of the heap -/
noncomputable def put (d : Addr) (e : DictEntry) (s : Shared) : Shared := { s with heap := s.heap.update d (Obj.mapDictKeys (·.push e)) }
theorem go_set {d : Addr} {k : Int} {t : Tok} {v : Value} {es : Array DictEntry} {n : Nat} {pos : Pos} {s : Shared} (ho : s.heap.get? d = some (dObj es n)) (hd : Nat.ble n₀ d = true) (hs : es.size < sizeLine) (hn : NoHash es (hashInt k)) :
    Go p w n₀ ann b env q (dictSet d (.int k t) v) pos s 10 () pos (put d ⟨hashInt k, .int k t, v⟩ { s with toks := s.toks + 1 }) := by
  unfold dictSet
  refine go_holding (go_bind (n' := 5) go_hash ?_)
  unfold dictSetHashed
  refine go_holding (go_bind (n' := 4) (go_find (s := { s with toks := s.toks + 1 }) ho hn) ?_)
  exact go_bind (n' := 3) go_rule (go_push (s := { s with toks := s.toks + 1 }) ho hd hs)
theorem go_dput {d : Addr} {k h : Int} {t : Tok} {v : Value} {es : Array DictEntry} {n : Nat} {pos : Pos} {s : Shared} (ho : s.heap.get? d = some (dObj es n)) (hd : Nat.ble n₀ d = true) (hs : es.size < sizeLine) (hn : NoHash es h) :
    Go p w n₀ ann b env q (dictPut d h (.int k t) v) pos s 4 () pos (put d ⟨h, .int k t, v⟩ s) := by
  unfold dictPut
  refine go_bind (n' := 3) (go_find ho hn) ?_
  exact go_push ho hd hs
end
end Mine
end

section
open PySem PySem.W PyProof.Rows PySem.Calls
set_option Elab.async false
set_option maxRecDepth 100000
namespace Mine
section
variable {p : Program} {n₀ : Nat} {ann : Option Value} {b : List Stmt} {env : Env} {q : Pos} {w : World}

/-- the entries that items make, three tokens an item -/
noncomputable def ents : Nat → List (Int × Str) → List DictEntry
  | _, [] => []
  | t, (k, v) :: r => ⟨hashInt k, .int k t, .str v (t + 1)⟩ :: ents (t + 3) r
/-- two tokens an item -/
noncomputable def ents2 : Nat → List (Int × Str) → List DictEntry
  | _, [] => []
  | t, (k, v) :: r => ⟨hashInt k, .int k t, .str v (t + 1)⟩ :: ents2 (t + 2) r
theorem ents_length : ∀ (t : Nat) (l : List (Int × Str)), (ents t l).length = l.length
  | _, [] => rfl
  | t, _ :: r => congrArg Nat.succ (ents_length (t + 3) r)
theorem ents2_length : ∀ (t : Nat) (l : List (Int × Str)), (ents2 t l).length = l.length
  | _, [] => rfl
  | t, _ :: r => congrArg Nat.succ (ents2_length (t + 2) r)
theorem ents_hash : ∀ (t : Nat) (l : List (Int × Str)), (ents t l).map (·.hash) = l.map (fun x => hashInt x.1)
  | _, [] => rfl
  | t, (k, v) :: r => by rw [ents, List.map_cons, List.map_cons, ents_hash (t + 3) r]
theorem ents2_hash : ∀ (t : Nat) (l : List (Int × Str)), (ents2 t l).map (·.hash) = l.map (fun x => hashInt x.1)
  | _, [] => rfl
  | t, (k, v) :: r => by rw [ents2, List.map_cons, List.map_cons, ents2_hash (t + 2) r]

/-- the place holds this object from now on -/
noncomputable def lay (d : Addr) (o : Obj) (s : Shared) : Shared := { s with heap := s.heap.update d (fun _ => o) }
noncomputable def tick (n : Nat) (s : Shared) : Shared := { s with toks := s.toks + n }
theorem lay_lay (d : Addr) (o o' : Obj) (s : Shared) : lay d o' (lay d o s) = lay d o' s := by
  unfold lay
  obtain ⟨⟨objs, life⟩, gens, drawn, toks, os⟩ := s
  simp only [Heap.update]
  congr 2
  apply Array.ext_getElem?
  intro i
  rw [Array.getElem?_modify, Array.getElem?_modify, Array.getElem?_modify]
  split
  · rename_i h; subst h; cases objs[d]? <;> simp
  · rfl
theorem lay_get {d : Addr} {o o' : Obj} {s : Shared} (h : s.heap.get? d = some o) (hf : o'.isFreed = false) : (lay d o' s).heap.get? d = some o' := Heap.get?_update_self _ h hf
theorem lay_ne {d a : Addr} {o' : Obj} {s : Shared} (h : a ≠ d) : (lay d o' s).heap.get? a = s.heap.get? a := Heap.get?_update_ne _ _ _ _ h
theorem put_lay {d : Addr} {e : DictEntry} {es : Array DictEntry} {n : Nat} {s : Shared} (ho : s.heap.get? d = some (dObj es n)) : put d e s = lay d (dObj (es.push e) (n + 1)) s := by
  unfold put lay
  obtain ⟨⟨objs, life⟩, gens, drawn, toks, os⟩ := s
  simp only [Heap.update]
  congr 2
  apply Array.ext_getElem?
  intro i
  rw [Array.getElem?_modify, Array.getElem?_modify]
  split
  · rename_i h; subst h
    have : objs[d]? = some (dObj es n) := by
      have ho' : Heap.get? ⟨objs, life⟩ d = some (dObj es n) := ho
      unfold Heap.get? at ho'
      cases hq : objs[d]? with
      | none => simp [hq] at ho'
      | some o =>
        simp only [hq] at ho'
        split at ho'
        · cases ho'
        · exact ho'
    rw [this]; rfl
  · rfl

/-- an item of the display: an int and a text, the place pinned by the display's own -/
structure IsItem (p : Program) (w : World) (n₀ : Nat) (ann : Option Value) (b : List Stmt) (env : Env) (q dp : Pos) (it : Sem Value × Sem Value) (kv : Int × Str) : Prop where
  key : ∀ s, Go p w n₀ ann b env q it.1 dp s 1 (.int kv.1 s.toks) dp (tick 1 s)
  val : ∀ s, Go p w n₀ ann b env q it.2 dp s 2 (.str kv.2 s.toks) dp (tick 1 s)

noncomputable def Items (p : Program) (w : World) (n₀ : Nat) (ann : Option Value) (b : List Stmt) (env : Env) (q dp : Pos) : List (Sem Value × Sem Value) → List (Int × Str) → Prop
  | [], [] => True
  | it :: r, kv :: r' => IsItem p w n₀ ann b env q dp it kv ∧ Items p w n₀ ann b env q dp r r'
  | _, _ => False

/-- fresh keys: none is there, none comes twice -/
noncomputable def Fresh (hs : List Int) (l : List (Int × Str)) : Prop := (hs ++ l.map (fun x => hashInt x.1)).Nodup

theorem fresh_no {es : Array DictEntry} {k : Int} {v : Str} {r : List (Int × Str)} (h : Fresh (es.toList.map (·.hash)) ((k, v) :: r)) : NoHash es (hashInt k) := noHash_of fun e he q => by
  unfold Fresh at h
  rw [List.nodup_append] at h
  exact h.2.2 _ (List.mem_map_of_mem (Array.mem_toList_iff.mpr he)) (hashInt k) (by simp) q
theorem fresh_step {es : Array DictEntry} {k : Int} {v : Str} {r : List (Int × Str)} {e : DictEntry} (he : e.hash = hashInt k) (h : Fresh (es.toList.map (·.hash)) ((k, v) :: r)) : Fresh ((es.push e).toList.map (·.hash)) r := by
  unfold Fresh at h ⊢
  rw [Array.toList_push, List.map_append, List.append_assoc]
  simpa [he] using h

theorem go_sets {dp : Pos} {d : Addr} (hd : Nat.ble n₀ d = true) {g : (Sem Value × Sem Value) → PUnit → Sem (ForInStep PUnit)}
    (hg : ∀ x, g x ⟨⟩ = (do let kv ← x.1; let vv ← holding [kv] x.2; holding [kv, vv] (dictSet d kv vv); pure (.yield ⟨⟩))) :
    ∀ (l : List (Sem Value × Sem Value)) (kvs : List (Int × Str)) (es : Array DictEntry) (n : Nat) (s : Shared), Items p w n₀ ann b env q dp l kvs → s.heap.get? d = some (dObj es n) →
      Fresh (es.toList.map (·.hash)) kvs → es.size + kvs.length ≤ sizeLine →
      Go p w n₀ ann b env q (forIn l PUnit.unit g) dp s (13 * l.length) ⟨⟩ dp (tick (3 * kvs.length) (lay d (dObj (es ++ (ents s.toks kvs).toArray) (n + kvs.length)) s)) ∧ l.length = kvs.length := by
  intro l
  induction l with
  | nil =>
    intro kvs es n s h ho hf hs
    cases kvs with
    | cons a b => exact False.elim h
    | nil =>
      refine ⟨?_, rfl⟩
      rw [List.forIn_nil]
      have e : tick (3 * ([] : List (Int × Str)).length) (lay d (dObj (es ++ (ents s.toks []).toArray) (n + ([] : List (Int × Str)).length)) s) = s := by
        unfold lay tick ents
        obtain ⟨⟨objs, life⟩, gens, drawn, toks, os⟩ := s
        simp only [Heap.update, List.length_nil, Nat.add_zero, Nat.mul_zero, Array.append_empty]
        congr 2
        apply Array.ext_getElem?
        intro i
        rw [Array.getElem?_modify]
        split
        · rename_i h; subst h
          have : objs[d]? = some (dObj es n) := by
            have ho' : Heap.get? ⟨objs, life⟩ d = some (dObj es n) := ho
            unfold Heap.get? at ho'
            cases hq : objs[d]? with
            | none => simp [hq] at ho'
            | some o =>
              simp only [hq] at ho'
              split at ho'
              · cases ho'
              · exact ho'
          rw [this]; rfl
        · rfl
      rw [e]
      exact go_pure
  | cons it r ih =>
    intro kvs es n s h ho hf hs
    cases kvs with
    | nil => exact False.elim h
    | cons kv r' =>
      obtain ⟨k, v⟩ := kv
      obtain ⟨hi, hr⟩ := h
      have hn := fresh_no hf
      simp only [List.length_cons] at hs
      have g1 := hi.key s
      have g2 := hi.val (tick 1 s)
      have g3 : Go p w n₀ ann b env q (dictSet d (.int k s.toks) (.str v (s.toks + 1))) dp (tick 2 s) 10 () dp _ := go_set (s := tick 2 s) ho hd (by omega) hn
      have ho' : (tick 3 s).heap.get? d = some (dObj es n) := ho
      rw [show ({ tick 2 s with toks := (tick 2 s).toks + 1 } : Shared) = tick 3 s from rfl, put_lay ho'] at g3
      have rec_ := ih r' (es.push ⟨hashInt k, .int k s.toks, .str v (s.toks + 1)⟩) (n + 1) _ hr (lay_get ho' rfl) (fresh_step rfl hf) (by rw [Array.size_push]; omega)
      refine ⟨?_, by rw [List.length_cons, List.length_cons, rec_.2]⟩
      rw [List.forIn_cons, hg, List.length_cons, Nat.mul_succ]
      have e : tick (3 * ((k, v) :: r').length) (lay d (dObj (es ++ (ents s.toks ((k, v) :: r')).toArray) (n + ((k, v) :: r').length)) s) =
          tick (3 * r'.length) (lay d (dObj (es.push ⟨hashInt k, .int k s.toks, .str v (s.toks + 1)⟩ ++ (ents (lay d (dObj (es.push ⟨hashInt k, .int k s.toks, .str v (s.toks + 1)⟩) (n + 1)) (tick 3 s)).toks r').toArray) (n + 1 + r'.length)) (lay d (dObj (es.push ⟨hashInt k, .int k s.toks, .str v (s.toks + 1)⟩) (n + 1)) (tick 3 s))) := by
        rw [lay_lay]
        have e1 : es ++ (ents s.toks ((k, v) :: r')).toArray = es.push ⟨hashInt k, .int k s.toks, .str v (s.toks + 1)⟩ ++ (ents (s.toks + 3) r').toArray := by
          rw [ents]
          apply Array.toList_inj.mp
          simp
        show tick _ (lay d (dObj (es ++ (ents s.toks ((k, v) :: r')).toArray) (n + (r'.length + 1))) s) = tick _ (lay d (dObj (_ ++ (ents (s.toks + 3) r').toArray) _) (tick 3 s))
        rw [e1, show n + (r'.length + 1) = n + 1 + r'.length by omega]
        unfold tick lay
        congr 1
        simp only [List.length_cons]
        omega
      rw [e]
      have gg : Go p w n₀ ann b env q (do let kv ← it.1; let vv ← holding [kv] it.2; holding [kv, vv] (dictSet d kv vv); pure (ForInStep.yield PUnit.unit)) dp s 13 (ForInStep.yield PUnit.unit) dp (lay d (dObj (es.push ⟨hashInt k, .int k s.toks, .str v (s.toks + 1)⟩) (n + 1)) (tick 3 s)) :=
        go_bind (n' := 12) g1 (go_bind (n' := 10) (go_holding g2) (go_bind (n' := 0) (go_holding g3) go_pure))
      exact go_bind gg rec_.1
end
end Mine
end

section
open PySem PySem.W PyProof.Rows PySem.Calls
set_option Elab.async false
set_option maxRecDepth 100000
namespace Mine
section
variable {p : Program} {n₀ : Nat} {ann : Option Value} {b : List Stmt} {env : Env} {q : Pos} {w : World}

theorem lay_self {d : Addr} {o : Obj} {s : Shared} (ho : s.heap.get? d = some o) : lay d o s = s := by
  unfold lay
  obtain ⟨⟨objs, life⟩, gens, drawn, toks, os⟩ := s
  simp only [Heap.update]
  congr 2
  apply Array.ext_getElem?
  intro i
  rw [Array.getElem?_modify]
  split
  · rename_i h; subst h
    have : objs[d]? = some o := by
      have ho' : Heap.get? ⟨objs, life⟩ d = some o := ho
      unfold Heap.get? at ho'
      cases hq : objs[d]? with
      | none => simp [hq] at ho'
      | some o =>
        simp only [hq] at ho'
        split at ho'
        · cases ho'
        · exact ho'
    rw [this]; rfl
  · rfl
noncomputable def pushO (o : Obj) (s : Shared) : Shared := { s with heap := s.heap.push o }
theorem pushO_get {o : Obj} {s : Shared} (h : o.isFreed = false) : (pushO o s).heap.get? s.heap.objs.size = some o := Heap.get?_push_size _ h
theorem pushO_old {o o' : Obj} {s : Shared} {a : Addr} (h : s.heap.get? a = some o') : (pushO o s).heap.get? a = some o' := Heap.get?_push_of_some _ h
theorem lay_pushO (o o' : Obj) (s : Shared) : lay s.heap.objs.size o' (pushO o s) = pushO o' s := by
  obtain ⟨⟨objs, life⟩, gens, drawn, toks, os⟩ := s
  unfold lay pushO
  simp only [Heap.update, Heap.push]
  congr 2
  apply Array.ext_getElem?
  intro i
  rw [Array.getElem?_modify, Array.getElem?_push, Array.getElem?_push]
  split
  · rename_i h; subst h; simp
  · rename_i h
    rw [if_neg (Ne.symm h), if_neg (Ne.symm h)]

theorem go_subLong {dp : Pos} {l : List (Sem Value × Sem Value)} {kvs : List (Int × Str)} {s : Shared} (hi : Items p w n₀ ann b env q dp l kvs) (hl : l.length = 17) (hd : Nat.ble n₀ s.heap.objs.size = true)
    (hf : Fresh [] kvs) (hk : kvs.length = 17) :
    Go p w n₀ ann b env q (subDict l) dp s 223 s.heap.objs.size dp (tick 51 (pushO (dObj (ents s.toks kvs).toArray 17) s)) := by
  unfold subDict
  refine go_bind (n' := 222) go_alloc ?_
  have g := go_sets (p := p) (w := w) (n₀ := n₀) (ann := ann) (b := b) (env := env) (q := q) (dp := dp) (d := s.heap.objs.size) hd
    (g := fun x _ => match x with | (k, v) => (do let kv ← k; let vv ← holding [kv] v; holding [kv, vv] (dictSet s.heap.objs.size kv vv); pure (.yield ⟨⟩))) (fun _ => rfl) l kvs #[] 0 (pushO (dObj #[] 0) s) hi (pushO_get rfl) hf (by rw [hk, sizeLine_eq]; decide)
  have g := g.1
  rw [hl, hk, lay_pushO] at g
  have e : (#[] : Array DictEntry) ++ (ents (pushO (dObj #[] 0) s).toks kvs).toArray = (ents s.toks kvs).toArray := by
    show #[] ++ (ents s.toks kvs).toArray = _
    simp
  rw [e] at g
  refine go_bind (m := holding _ _) (n' := 0) (n := 222) (a := ()) (pos1 := dp) (s1 := tick 51 (pushO (dObj (ents s.toks kvs).toArray 17) s)) ?_ go_pure
  refine go_holding ?_
  rw [if_neg (by omega)]
  refine go_bind (n' := 221) go_rule ?_
  refine go_bind (m := forIn l PUnit.unit _) (n' := 0) (n := 221) (a := PUnit.unit) (pos1 := dp) (s1 := tick 51 (pushO (dObj (ents s.toks kvs).toArray 17) s)) ?_ go_pure
  exact g

theorem go_evalPairs {dp : Pos} : ∀ (l : List (Sem Value × Sem Value)) (kvs : List (Int × Str)) (s : Shared), Items p w n₀ ann b env q dp l kvs →
    Go p w n₀ ann b env q (evalPairs l) dp s (3 * l.length) ((ents2 s.toks kvs).map fun e => (e.key, e.val)) dp (tick (2 * kvs.length) s) := by
  intro l
  induction l with
  | nil =>
    intro kvs s h
    cases kvs with
    | nil => rw [evalPairs]; exact go_pure
    | cons _ _ => exact h.elim
  | cons it r ih =>
    intro kvs s h
    cases kvs with
    | nil => exact h.elim
    | cons kv r' =>
      obtain ⟨hi, hr⟩ := h
      obtain ⟨m1, m2⟩ := it
      obtain ⟨k, v⟩ := kv
      rw [evalPairs]
      have g1 := hi.key s
      have g2 := hi.val (tick 1 s)
      have g3 := ih r' (tick 2 s) hr
      rw [List.length_cons, show 3 * (r.length + 1) = ((0 + 3 * r.length) + 2) + 1 by omega]
      refine go_bind g1 (go_bind (go_holding g2) (go_bind (go_holding g3) ?_))
      rw [show tick (2 * ((k, v) :: r').length) s = tick (2 * r'.length) (tick 2 s) by
        unfold tick; simp only [List.length_cons]; congr 1; omega]
      exact go_pure

theorem go_stores {dp : Pos} {d : Addr} (hd : Nat.ble n₀ d = true) {g : (Value × Value) → PUnit → Sem (ForInStep PUnit)}
    (hg : ∀ x, g x ⟨⟩ = (do dictSet d x.1 x.2; pure (.yield ⟨⟩))) :
    ∀ (kvs : List (Int × Str)) (t : Nat) (es : Array DictEntry) (n : Nat) (s : Shared), s.heap.get? d = some (dObj es n) →
      Fresh (es.toList.map (·.hash)) kvs → es.size + kvs.length ≤ sizeLine →
      Go p w n₀ ann b env q (forIn ((ents2 t kvs).map fun e => (e.key, e.val)) PUnit.unit g) dp s (10 * kvs.length) ⟨⟩ dp (tick kvs.length (lay d (dObj (es ++ (ents2 t kvs).toArray) (n + kvs.length)) s))
  | [], t, es, n, s, ho, _, _ => by
    rw [ents2, List.map_nil, List.forIn_nil]
    have e : tick ([] : List (Int × Str)).length (lay d (dObj (es ++ (([] : List DictEntry)).toArray) (n + ([] : List (Int × Str)).length)) s) = s := by
      have e1 : es ++ (([] : List DictEntry)).toArray = es := by simp
      rw [e1]
      show tick 0 (lay d (dObj es n) s) = s
      rw [lay_self ho]; rfl
    rw [e]
    exact go_pure
  | (k, v) :: r', t, es, n, s, ho, hf, hs => by
    simp only [List.length_cons] at hs
    have hn := fresh_no hf
    have g3 : Go p w n₀ ann b env q (dictSet d (.int k t) (.str v (t + 1))) dp s 10 () dp _ := go_set ho hd (by omega) hn
    have ho' : (tick 1 s).heap.get? d = some (dObj es n) := ho
    rw [show ({ s with toks := s.toks + 1 } : Shared) = tick 1 s from rfl, put_lay ho'] at g3
    have rec_ := go_stores (dp := dp) hd hg r' (t + 2) (es.push ⟨hashInt k, .int k t, .str v (t + 1)⟩) (n + 1) _ (lay_get ho' rfl) (fresh_step rfl hf) (by rw [Array.size_push]; omega)
    rw [ents2, List.map_cons, List.forIn_cons, hg, List.length_cons, Nat.mul_succ]
    have e : tick (r'.length + 1) (lay d (dObj (es ++ (⟨hashInt k, .int k t, .str v (t + 1)⟩ :: ents2 (t + 2) r').toArray) (n + (r'.length + 1))) s) =
        tick r'.length (lay d (dObj (es.push ⟨hashInt k, .int k t, .str v (t + 1)⟩ ++ (ents2 (t + 2) r').toArray) (n + 1 + r'.length)) (lay d (dObj (es.push ⟨hashInt k, .int k t, .str v (t + 1)⟩) (n + 1)) (tick 1 s))) := by
      rw [lay_lay]
      have e1 : es ++ (⟨hashInt k, .int k t, .str v (t + 1)⟩ :: ents2 (t + 2) r').toArray = es.push ⟨hashInt k, .int k t, .str v (t + 1)⟩ ++ (ents2 (t + 2) r').toArray := by
        apply Array.toList_inj.mp
        simp
      rw [e1, show n + (r'.length + 1) = n + 1 + r'.length by omega]
      unfold tick lay
      congr 1
      show s.toks + (r'.length + 1) = s.toks + 1 + r'.length
      omega
    rw [e]
    have gg : Go p w n₀ ann b env q (do dictSet d (.int k t) (.str v (t + 1)); pure (ForInStep.yield PUnit.unit)) dp s 10 (ForInStep.yield PUnit.unit) dp (lay d (dObj (es.push ⟨hashInt k, .int k t, .str v (t + 1)⟩) (n + 1)) (tick 1 s)) :=
      go_bind (n' := 0) g3 go_pure
    exact go_bind gg rec_

theorem go_subShort {dp : Pos} {l : List (Sem Value × Sem Value)} {kvs : List (Int × Str)} {s : Shared} (hi : Items p w n₀ ann b env q dp l kvs) (hl : l.length = kvs.length) (hl' : l.length ≤ 15) (hd : Nat.ble n₀ s.heap.objs.size = true)
    (hf : Fresh [] kvs) :
    Go p w n₀ ann b env q (subDict l) dp s (10 * kvs.length + 3 * kvs.length + 1) s.heap.objs.size dp (tick (3 * kvs.length) (pushO (dObj (ents2 s.toks kvs).toArray kvs.length) s)) := by
  unfold subDict
  refine go_bind (n' := 10 * kvs.length + 3 * kvs.length) go_alloc ?_
  have g1 := go_evalPairs (p := p) (w := w) (n₀ := n₀) (ann := ann) (b := b) (env := env) (q := q) l kvs (pushO (dObj #[] 0) s) hi
  have g2 := go_stores (p := p) (w := w) (n₀ := n₀) (ann := ann) (b := b) (env := env) (q := q) (dp := dp) (d := s.heap.objs.size) hd
    (g := fun x _ => match x with | (k, v) => (do dictSet s.heap.objs.size k v; pure (.yield ⟨⟩))) (fun _ => rfl) kvs s.toks #[] 0 (tick (2 * kvs.length) (pushO (dObj #[] 0) s)) (pushO_get rfl) hf (by rw [sizeLine_eq]; show 0 + kvs.length ≤ _; omega)
  have e : tick kvs.length (lay s.heap.objs.size (dObj (#[] ++ (ents2 s.toks kvs).toArray) (0 + kvs.length)) (tick (2 * kvs.length) (pushO (dObj #[] 0) s))) = tick (3 * kvs.length) (pushO (dObj (ents2 s.toks kvs).toArray kvs.length) s) := by
    have e0 : (#[] : Array DictEntry) ++ (ents2 s.toks kvs).toArray = (ents2 s.toks kvs).toArray := by simp
    rw [e0, Nat.zero_add]
    have e1 := lay_pushO (dObj #[] 0) (dObj (ents2 s.toks kvs).toArray kvs.length) s
    show tick kvs.length (tick (2 * kvs.length) (lay s.heap.objs.size (dObj (ents2 s.toks kvs).toArray kvs.length) (pushO (dObj #[] 0) s))) = _
    rw [e1]
    unfold tick
    congr 1
    show s.toks + 2 * kvs.length + kvs.length = s.toks + 3 * kvs.length
    omega
  rw [e] at g2
  rw [hl] at g1
  rw [show 10 * kvs.length + 3 * kvs.length = 0 + (10 * kvs.length + 3 * kvs.length) by omega]
  refine go_bind (m := holding _ _) (a := ()) (pos1 := dp) (s1 := tick (3 * kvs.length) (pushO (dObj (ents2 s.toks kvs).toArray kvs.length) s)) ?_ go_pure
  refine go_holding ?_
  rw [if_pos hl']
  refine go_bind g1 (go_holding ?_)
  rw [show 10 * kvs.length = 0 + 10 * kvs.length by omega]
  refine go_bind (m := forIn _ PUnit.unit _) (a := PUnit.unit) (pos1 := dp) (s1 := tick (3 * kvs.length) (pushO (dObj (ents2 s.toks kvs).toArray kvs.length) s)) ?_ go_pure
  exact g2

theorem go_merge_loop {pos : Pos} {d a : Addr} {es : Array DictEntry} {nA : Nat} (hd : Nat.ble n₀ d = true) (hda : a ≠ d) {g : Nat → PUnit → Sem (ForInStep PUnit)} {all : List DictEntry}
    (hg : ∀ i, g i ⟨⟩ = (do
      let es ← dictEntries a
      match es[i]? with
      | some e => do
        holding [e.key, e.val] (dictPut d e.hash e.key e.val)
        let ep ← dictEpoch a
        if (ep != nA) = true then do unsupported "dict.changed-during-merge"; pure (ForInStep.yield PUnit.unit) else pure (ForInStep.yield PUnit.unit)
      | _ => do unsupported "dict.changed-during-merge"; pure (ForInStep.yield PUnit.unit)))
    (hk : ∀ e ∈ all, ∃ k t, e.key = .int k t) :
    ∀ (todo dn : List DictEntry) (m : Nat) (s : Shared), all = dn ++ todo → s.heap.get? a = some (dObj all.toArray nA) → s.heap.get? d = some (dObj (es ++ dn.toArray) m) →
      ((es.toList ++ all).map (·.hash)).Nodup → es.size + all.length < sizeLine →
      Go p w n₀ ann b env q (forIn (List.range' dn.length todo.length) PUnit.unit g) pos s (6 * todo.length) ⟨⟩ pos (lay d (dObj (es ++ all.toArray) (m + todo.length)) s)
  | [], dn, m, s, ha, _, ho, _, _ => by
    rw [List.length_nil, List.range'_zero, List.forIn_nil]
    have : all = dn := by rw [ha, List.append_nil]
    rw [this, Nat.add_zero, lay_self ho]
    exact go_pure
  | e :: r, dn, m, s, ha, hA, ho, hnd, hs => by
    obtain ⟨k, t, hkt⟩ := hk e (by rw [ha]; simp)
    have hlen : all.length = dn.length + (r.length + 1) := by rw [ha]; simp
    have hi : all.toArray[dn.length]? = some e := by rw [ha]; simp
    have hno : NoHash (es ++ dn.toArray) e.hash := noHash_of fun x hx q => by
      rw [ha, List.map_append, List.map_append, List.nodup_append] at hnd
      rcases Array.mem_append.mp hx with hx | hx
      · exact hnd.2.2 _ (List.mem_map_of_mem (Array.mem_toList_iff.mpr hx)) e.hash (by simp) q
      · have h2 := hnd.2.1
        rw [List.nodup_append] at h2
        exact h2.2.2 _ (List.mem_map_of_mem (List.mem_toArray.mp hx)) e.hash (by simp) q
    have g3 : Go p w n₀ ann b env q (dictPut d e.hash e.key e.val) pos s 4 () pos (put d e s) := by
      have := go_dput (p := p) (w := w) (n₀ := n₀) (ann := ann) (b := b) (env := env) (q := q) (k := k) (h := e.hash) (t := t) (v := e.val) (pos := pos) ho hd (by rw [Array.size_append]; simp; omega) hno
      rw [← hkt] at this
      exact this
    rw [put_lay ho] at g3
    have hA' : (lay d (dObj ((es ++ dn.toArray).push e) (m + 1)) s).heap.get? a = some (dObj all.toArray nA) := (lay_ne hda).trans hA
    have g4 : Go p w n₀ ann b env q (dictEpoch a) pos (lay d (dObj ((es ++ dn.toArray).push e) (m + 1)) s) 1 nA pos (lay d (dObj ((es ++ dn.toArray).push e) (m + 1)) s) := go_bind (n' := 0) (go_loadPart hA') go_pure
    have e1 : (es ++ dn.toArray).push e = es ++ (dn ++ [e]).toArray := by
      apply Array.toList_inj.mp
      simp
    have ho' : (lay d (dObj ((es ++ dn.toArray).push e) (m + 1)) s).heap.get? d = some (dObj (es ++ (dn ++ [e]).toArray) (m + 1)) := by rw [← e1]; exact lay_get ho rfl
    have rec_ := go_merge_loop (pos := pos) hd hda hg hk r (dn ++ [e]) (m + 1) _ (by rw [ha]; simp) hA' ho' hnd hs
    rw [lay_lay, List.length_append, List.length_singleton, show m + 1 + r.length = m + (r.length + 1) by omega] at rec_
    rw [List.length_cons, List.range'_succ, List.forIn_cons, hg, Nat.mul_succ]
    refine go_bind (a := ForInStep.yield PUnit.unit) (n := 6) ?_ rec_
    refine go_bind (n' := 5) (go_entries hA) ?_
    rw [hi]
    refine go_bind (n' := 1) (go_holding g3) (go_bind (n' := 0) g4 ?_)
    rw [if_neg (by simp)]
    exact go_pure

theorem dict_sub : isSubtype (.type "dict") (.type "dict") = (pure true : Sem Bool) := by kernel_rfl
theorem dict_iter : typeLookup (.type "dict") "__iter__" = (pure (some (.builtin "dict.__iter__")) : Sem (Option Value)) := by kernel_rfl

theorem go_merge {pos : Pos} {d a : Addr} {es : Array DictEntry} {n nA : Nat} {s : Shared} {all : List DictEntry} (hd : Nat.ble n₀ d = true) (hda : a ≠ d) (hsm : (a == sysModules) = false) (hk : ∀ e ∈ all, ∃ k t, e.key = .int k t) (hA : s.heap.get? a = some (dObj all.toArray nA))
    (ho : s.heap.get? d = some (dObj es n)) (h0 : es.size ≠ 0) (hnd : ((es.toList ++ all).map (·.hash)).Nodup) (hs : es.size + all.length < sizeLine) :
    Go p w n₀ ann b env q (mergeMapping d (.ref a) false) pos s (6 * all.length + 5) () pos (lay d (dObj (es ++ all.toArray) (n + all.length)) s) := by
  unfold mergeMapping
  have gi : Go p w n₀ ann b env q (isInstance (.ref a) (.type "dict")) pos s 1 true pos s := by
    show Go p w n₀ ann b env q (do isSubtype (← typeOf (.ref a)) (.type "dict")) pos s 1 true pos s
    refine go_bind (n' := 0) (n := 1) (a := .type "dict") (go_bind (n' := 0) (go_loadPart hA) go_pure) ?_
    rw [dict_sub]; exact go_pure
  have gs : Go p w n₀ ann b env q (specialOf (.ref a) "__iter__") pos s 1 (some (.builtin "dict.__iter__")) pos s := by
    show Go p w n₀ ann b env q (do typeLookup (← typeOf (.ref a)) "__iter__") pos s 1 _ pos s
    refine go_bind (n' := 0) (n := 1) (a := .type "dict") (go_bind (n' := 0) (go_loadPart hA) go_pure) ?_
    rw [dict_iter]; exact go_pure
  refine go_bind (n' := 6 * all.length + 4) gi ?_
  dsimp only
  rw [if_pos rfl]
  refine go_bind (n' := 6 * all.length + 3) gs (go_bind (n' := 6 * all.length + 3) (n := 0) (a := true) (go_eq (by simp) go_pure) ?_)
  dsimp only
  rw [if_neg (by rw [hsm]; exact Bool.false_ne_true)]
  refine go_bind (n' := 6 * all.length + 2) (go_entries ho) ?_
  rw [if_neg (by simpa [Array.isEmpty] using h0)]
  have ge : Go p w n₀ ann b env q (dictEpoch a) pos s 1 nA pos s := go_bind (n' := 0) (go_loadPart hA) go_pure
  refine go_bind (n' := 6 * all.length + 1) (go_entries hA) (go_bind (n' := 6 * all.length) ge ?_)
  have gl := go_merge_loop (p := p) (w := w) (n₀ := n₀) (ann := ann) (b := b) (env := env) (q := q) (pos := pos) (es := es) (nA := nA) hd hda
    (g := fun i _ => (do
      let es ← dictEntries a
      match es[i]? with
      | some e => do
        holding [e.key, e.val] (dictPut d e.hash e.key e.val)
        let ep ← dictEpoch a
        if (ep != nA) = true then do unsupported "dict.changed-during-merge"; pure (ForInStep.yield PUnit.unit) else pure (ForInStep.yield PUnit.unit)
      | _ => do unsupported "dict.changed-during-merge"; pure (ForInStep.yield PUnit.unit))) (fun _ => rfl) hk all [] n s rfl hA (by simpa using ho) hnd hs
  rw [show List.range' ([] : List DictEntry).length all.length = List.range all.toArray.size by rw [List.range_eq_range']; simp] at gl
  rw [show 6 * all.length = 0 + 6 * all.length by omega]
  refine go_bind (m := forIn _ PUnit.unit _) (a := PUnit.unit) (pos1 := pos) (s1 := lay d (dObj (es ++ all.toArray) (n + all.length)) s) ?_ go_pure
  exact gl
end
end Mine
end

section
open PySem PySem.W PyProof.Rows PySem.Calls
set_option Elab.async false
set_option maxRecDepth 100000
namespace Mine
section
variable {p : Program} {n₀ : Nat} {ann : Option Value} {b : List Stmt} {env : Env} {q : Pos} {w : World}

noncomputable abbrev DPair := Sem Value × Sem Value
noncomputable abbrev DAcc := Option Addr × List DPair
/-- the display's own way of laying a run down -/
noncomputable def flushD (run : List DPair) (main : Option Addr) : Sem (Option Addr) :=
  if run.isEmpty = true then pure main
  else match main with
    | none => do let x ← subDict run; pure (some x)
    | some d => do
      let sub ← holding [.ref d] (subDict run)
      (holding [.ref d, .ref sub] (mergeMapping d (.ref sub) false)).onRaise fun x => do let _ ← holding [.ref d, x] (runValue (.builtin "proto.let_go" {})); pure ()
      pure (some d)

theorem forIn_16 (f : (Option (Sem Value) × Sem Value) → DAcc → Sem (ForInStep DAcc)) (main : Option Addr)
    (hf : ∀ (x : DPair) (run : List DPair), run.length + 1 < 17 → f (some x.1, x.2) (main, run) = pure (.yield (main, run ++ [x]))) (rest : List (Option (Sem Value) × Sem Value)) :
    ∀ (items run : List DPair), run.length + items.length < 17 → forIn ((items.map fun x => (some x.1, x.2)) ++ rest) (main, run) f = forIn rest (main, run ++ items) f
  | [], run, _ => by simp
  | x :: r, run, h => by
    rw [List.map_cons, List.cons_append, List.forIn_cons, hf x run (by simp at h; omega), pure_bind]
    have := forIn_16 f main hf rest r (run ++ [x]) (by simp at h ⊢; omega)
    simpa using this

theorem forIn_17 (f : (Option (Sem Value) × Sem Value) → DAcc → Sem (ForInStep DAcc)) (main : Option Addr)
    (hf : ∀ (x : DPair) (run : List DPair), run.length + 1 < 17 → f (some x.1, x.2) (main, run) = pure (.yield (main, run ++ [x])))
    (hf' : ∀ (x : DPair) (run : List DPair), run.length + 1 = 17 → f (some x.1, x.2) (main, run) = (do let m ← flushD (run ++ [x]) main; pure (.yield (m, []))))
    (rest : List (Option (Sem Value) × Sem Value)) (items : List DPair) (hl : items.length = 17) :
    forIn ((items.map fun x => (some x.1, x.2)) ++ rest) (main, []) f = (do let m ← flushD items main; forIn rest (m, []) f) := by
  obtain ⟨l, x, rfl⟩ : ∃ l x, items = l ++ [x] := by
    cases h : items.reverse with
    | nil => simp at h; subst h; simp at hl
    | cons x r => exact ⟨r.reverse, x, by rw [← List.reverse_reverse items, h]; simp⟩
  have h16 : l.length = 16 := by simpa using hl
  rw [List.map_append, List.append_assoc, forIn_16 f main hf _ l [] (by simp [h16]), List.nil_append]
  show forIn ((some x.1, x.2) :: rest) (main, l) f = _
  rw [List.forIn_cons, hf' x l (by omega)]
  simp

/-- behind the first run -/
noncomputable def fin1 (kc : List (Int × Str)) (s : Shared) : Shared := tick 51 (pushO (dObj (ents s.toks kc).toArray 17) s)
/-- behind one run more: the new dict and the main one -/
noncomputable def fin2 (d : Addr) (es : Array DictEntry) (n : Nat) (kc : List (Int × Str)) (s : Shared) : Shared := lay d (dObj (es ++ (ents s.toks kc).toArray) (n + 17)) (fin1 kc s)
noncomputable def fins (d : Addr) : Array DictEntry → Nat → List (List (Int × Str)) → Shared → Shared
  | _, _, [], s => s
  | es, n, kc :: r, s => fins d (es ++ (ents s.toks kc).toArray) (n + 17) r (fin2 d es n kc s)
noncomputable def finE : Nat → List (List (Int × Str)) → List DictEntry
  | _, [] => []
  | t, kc :: r => ents t kc ++ finE (t + 51) r

noncomputable def Chunks (p : Program) (w : World) (n₀ : Nat) (ann : Option Value) (b : List Stmt) (env : Env) (q dp : Pos) : List (List DPair) → List (List (Int × Str)) → Prop
  | [], [] => True
  | c :: r, k :: r' => (Items p w n₀ ann b env q dp c k ∧ c.length = 17 ∧ k.length = 17) ∧ Chunks p w n₀ ann b env q dp r r'
  | _, _ => False

theorem ents_ints : ∀ (t : Nat) (l : List (Int × Str)), ∀ e ∈ ents t l, ∃ k u, e.key = .int k u := by
  intro t l
  induction l generalizing t with
  | nil => intro e h; rw [ents] at h; cases h
  | cons x r ih =>
    obtain ⟨k, v⟩ := x
    intro e h
    rw [ents] at h
    rcases List.mem_cons.mp h with rfl | h
    · exact ⟨k, t, rfl⟩
    · exact ih (t + 3) e h
theorem ents2_ints : ∀ (t : Nat) (l : List (Int × Str)), ∀ e ∈ ents2 t l, ∃ k u, e.key = .int k u := by
  intro t l
  induction l generalizing t with
  | nil => intro e h; rw [ents2] at h; cases h
  | cons x r ih =>
    obtain ⟨k, v⟩ := x
    intro e h
    rw [ents2] at h
    rcases List.mem_cons.mp h with rfl | h
    · exact ⟨k, t, rfl⟩
    · exact ih (t + 2) e h

theorem go_flush {dp : Pos} {d : Nat} {es : Array DictEntry} {n : Nat} {c : List DPair} {kc : List (Int × Str)} {s : Shared} (hi : Items p w n₀ ann b env q dp c kc) (hl : c.length = 17) (hk : kc.length = 17)
    (hd : Nat.ble n₀ d = true) (hlt : d < s.heap.objs.size) (hsm : @LT.lt Nat _ sysModules d) (ho : s.heap.get? d = some (dObj es n)) (h0 : es.size ≠ 0) (hnd : Fresh (es.toList.map (·.hash)) kc) (hs : es.size + 17 < sizeLine) :
    Go p w n₀ ann b env q (flushD c (some d)) dp s (6 * 17 + 5 + 223) (some d) dp (fin2 d es n kc s) := by
  have hne : c.isEmpty = false := by cases c with | nil => cases hl | cons _ _ => rfl
  unfold flushD
  rw [hne, if_neg Bool.false_ne_true]
  dsimp only
  have hf : Fresh [] kc := by unfold Fresh at hnd ⊢; exact (List.nodup_append.mp hnd).2.1
  have g1 := go_subLong (s := s) (p := p) (w := w) (n₀ := n₀) (ann := ann) (b := b) (env := env) (q := q) hi hl (by rw [Nat.ble_eq] at hd ⊢; omega) hf hk
  have hda : s.heap.objs.size ≠ d := by omega
  have hA : (fin1 kc s).heap.get? s.heap.objs.size = some (dObj (ents s.toks kc).toArray 17) := pushO_get rfl
  have ho' : (fin1 kc s).heap.get? d = some (dObj es n) := pushO_old ho
  have hln : (ents s.toks kc).length = 17 := (ents_length _ _).trans hk
  have g2 := go_merge (p := p) (w := w) (n₀ := n₀) (ann := ann) (b := b) (env := env) (q := q) (pos := dp) hd hda (by rw [beq_eq_false_iff_ne]; intro e; have e' : @Eq Nat s.heap.objs.size sysModules := e; omega) (ents_ints s.toks kc) hA ho' h0
    (by rw [List.map_append, ents_hash]; exact hnd) (by rw [hln]; exact hs)
  rw [hln] at g2
  refine go_bind (n' := 6 * 17 + 5) (go_holding g1) ?_
  exact go_bind (n' := 0) (go_onRaise (go_holding g2)) go_pure

theorem go_flushLast {dp : Pos} {d : Nat} {es : Array DictEntry} {n : Nat} {c : List DPair} {kc : List (Int × Str)} {s : Shared} (hi : Items p w n₀ ann b env q dp c kc) (hl : c.length = kc.length) (hl' : c.length ≤ 15) (hne : c.isEmpty = false)
    (hd : Nat.ble n₀ d = true) (hlt : d < s.heap.objs.size) (hsm : @LT.lt Nat _ sysModules d) (ho : s.heap.get? d = some (dObj es n)) (h0 : es.size ≠ 0) (hnd : Fresh (es.toList.map (·.hash)) kc) (hs : es.size + 17 < sizeLine) :
    Go p w n₀ ann b env q (flushD c (some d)) dp s (6 * kc.length + 5 + (10 * kc.length + 3 * kc.length + 1)) (some d) dp
      (lay d (dObj (es ++ (ents2 s.toks kc).toArray) (n + kc.length)) (tick (3 * kc.length) (pushO (dObj (ents2 s.toks kc).toArray kc.length) s))) := by
  unfold flushD
  rw [hne, if_neg Bool.false_ne_true]
  dsimp only
  have hf : Fresh [] kc := by unfold Fresh at hnd ⊢; exact (List.nodup_append.mp hnd).2.1
  have g1 := go_subShort (s := s) (p := p) (w := w) (n₀ := n₀) (ann := ann) (b := b) (env := env) (q := q) hi hl hl' (by rw [Nat.ble_eq] at hd ⊢; omega) hf
  have hda : s.heap.objs.size ≠ d := by omega
  have hA : (tick (3 * kc.length) (pushO (dObj (ents2 s.toks kc).toArray kc.length) s)).heap.get? s.heap.objs.size = some (dObj (ents2 s.toks kc).toArray kc.length) := pushO_get rfl
  have ho' : (tick (3 * kc.length) (pushO (dObj (ents2 s.toks kc).toArray kc.length) s)).heap.get? d = some (dObj es n) := pushO_old ho
  have hln : (ents2 s.toks kc).length = kc.length := ents2_length _ _
  have g2 := go_merge (p := p) (w := w) (n₀ := n₀) (ann := ann) (b := b) (env := env) (q := q) (pos := dp) hd hda (by rw [beq_eq_false_iff_ne]; intro e; have e' : @Eq Nat s.heap.objs.size sysModules := e; omega) (ents2_ints s.toks kc) hA ho' h0
    (by rw [List.map_append, ents2_hash]; exact hnd) (by rw [hln]; omega)
  rw [hln] at g2
  refine go_bind (n' := 6 * kc.length + 5) (go_holding g1) ?_
  rw [show 6 * kc.length + 5 = 0 + (6 * kc.length + 5) by omega]
  exact go_bind (go_onRaise (go_holding g2)) go_pure

theorem hashes_fin {es : Array DictEntry} {t : Nat} {kc : List (Int × Str)} {r : List (Int × Str)} (h : Fresh (es.toList.map (·.hash)) (kc ++ r)) : Fresh ((es ++ (ents t kc).toArray).toList.map (·.hash)) r := by
  unfold Fresh at h ⊢
  simpa [ents_hash] using h
theorem fresh_left {hs : List Int} {kc r : List (Int × Str)} (h : Fresh hs (kc ++ r)) : Fresh hs kc := by
  unfold Fresh at h ⊢
  rw [List.map_append, ← List.append_assoc] at h
  exact (List.nodup_append.mp h).1

theorem fin2_get {d : Addr} {es : Array DictEntry} {n : Nat} {kc : List (Int × Str)} {s : Shared} (ho : s.heap.get? d = some (dObj es n)) : (fin2 d es n kc s).heap.get? d = some (dObj (es ++ (ents s.toks kc).toArray) (n + 17)) :=
  lay_get (s := fin1 kc s) (pushO_old ho) rfl
theorem fin2_size {d : Addr} {es : Array DictEntry} {n : Nat} {kc : List (Int × Str)} {s : Shared} : (fin2 d es n kc s).heap.objs.size = s.heap.objs.size + 1 := by
  unfold fin2 fin1 lay tick pushO
  simp [Heap.update, Heap.push]

theorem go_loop {dp : Pos} {d : Nat} (hd : Nat.ble n₀ d = true) (hsm : @LT.lt Nat _ sysModules d) {f : (Option (Sem Value) × Sem Value) → DAcc → Sem (ForInStep DAcc)}
    (hf : ∀ (x : DPair) (run : List DPair), run.length + 1 < 17 → f (some x.1, x.2) (some d, run) = pure (.yield (some d, run ++ [x])))
    (hf' : ∀ (x : DPair) (run : List DPair), run.length + 1 = 17 → f (some x.1, x.2) (some d, run) = (do let m ← flushD (run ++ [x]) (some d); pure (.yield (m, []))))
    (last : List DPair) (hlast : last.length < 17) :
    ∀ (cs : List (List DPair)) (ks : List (List (Int × Str))) (es : Array DictEntry) (n : Nat) (s : Shared), Chunks p w n₀ ann b env q dp cs ks → s.heap.get? d = some (dObj es n) → d < s.heap.objs.size → es.size ≠ 0 →
      Fresh (es.toList.map (·.hash)) ks.flatten → es.size + ks.flatten.length + 17 < sizeLine →
      Go p w n₀ ann b env q (forIn ((cs.flatten.map fun x => (some x.1, x.2)) ++ (last.map fun x => (some x.1, x.2))) (some d, []) f) dp s (330 * cs.length) (some d, last) dp (fins d es n ks s) := by
  intro cs
  induction cs with
  | nil =>
    intro ks es n s h ho hlt h0 hnd hs
    cases ks with
    | cons a b => exact False.elim h
    | nil =>
      have := forIn_16 f (some d) hf [] last [] (by simpa using hlast)
      rw [List.append_nil, List.forIn_nil, List.nil_append] at this
      rw [List.flatten_nil, List.map_nil, List.nil_append, this]
      exact go_pure
  | cons c r ih =>
    intro ks es n s h ho hlt h0 hnd hs
    cases ks with
    | nil => exact False.elim h
    | cons k r' =>
      obtain ⟨⟨hi, hc, hk⟩, hr⟩ := h
      rw [List.flatten_cons] at hnd hs
      rw [List.length_append, hk] at hs
      have g1 := go_flush (p := p) (w := w) (n₀ := n₀) (ann := ann) (b := b) (env := env) (q := q) hi hc hk hd hlt hsm ho h0 (fresh_left hnd) (by omega)
      have hsz : (es ++ (ents s.toks k).toArray).size = es.size + 17 := by rw [Array.size_append]; simp [ents_length, hk]
      have g2 := ih r' (es ++ (ents s.toks k).toArray) (n + 17) (fin2 d es n k s) hr (fin2_get ho) (by rw [fin2_size]; omega) (by omega) (hashes_fin hnd) (by omega)
      rw [List.flatten_cons, List.map_append, List.append_assoc, forIn_17 f (some d) hf hf' _ c hc, List.length_cons, Nat.mul_succ]
      exact go_bind g1 g2


theorem fin2_toks {d : Addr} {es : Array DictEntry} {n : Nat} {kc : List (Int × Str)} {s : Shared} : (fin2 d es n kc s).toks = s.toks + 51 := rfl
theorem fins_facts {d : Nat} : ∀ (ks : List (List (Int × Str))) (es : Array DictEntry) (n : Nat) (s : Shared), s.heap.get? d = some (dObj es n) →
    (fins d es n ks s).heap.get? d = some (dObj (es ++ (finE s.toks ks).toArray) (n + 17 * ks.length)) ∧ (fins d es n ks s).heap.objs.size = s.heap.objs.size + ks.length ∧ (fins d es n ks s).toks = s.toks + 51 * ks.length
  | [], es, n, s, ho => by refine ⟨?_, rfl, rfl⟩; rw [fins, finE]; simpa using ho
  | k :: r, es, n, s, ho => by
    obtain ⟨a, b, c⟩ := fins_facts r (es ++ (ents s.toks k).toArray) (n + 17) (fin2 d es n k s) (fin2_get ho)
    refine ⟨?_, ?_, ?_⟩
    · rw [fins, a, finE, fin2_toks]
      have e1 : es ++ (ents s.toks k).toArray ++ (finE (s.toks + 51) r).toArray = es ++ (ents s.toks k ++ finE (s.toks + 51) r).toArray := by
        apply Array.toList_inj.mp
        simp
      rw [e1, List.length_cons, show n + 17 + 17 * r.length = n + 17 * (r.length + 1) by omega]
    · rw [fins, b, fin2_size, List.length_cons]; omega
    · rw [fins, c, fin2_toks, List.length_cons]; omega
theorem finE_length : ∀ (t : Nat) (ks : List (List (Int × Str))), (finE t ks).length = ks.flatten.length
  | _, [] => rfl
  | t, k :: r => by rw [finE, List.length_append, ents_length, finE_length, List.flatten_cons, List.length_append]
theorem finE_hash : ∀ (t : Nat) (ks : List (List (Int × Str))), (finE t ks).map (·.hash) = ks.flatten.map (fun x => hashInt x.1)
  | _, [] => rfl
  | t, k :: r => by rw [finE, List.map_append, ents_hash, finE_hash, List.flatten_cons, List.map_append]

/-- all the entries of the display -/
noncomputable def dispE (t : Nat) (k0 : List (Int × Str)) (ks : List (List (Int × Str))) (kl : List (Int × Str)) : List DictEntry := ents t k0 ++ (finE (t + 51) ks ++ ents2 (t + 51 + 51 * ks.length) kl)
/-- the state behind the display -/
noncomputable def disp (k0 : List (Int × Str)) (ks : List (List (Int × Str))) (kl : List (Int × Str)) (s : Shared) : Shared :=
  lay s.heap.objs.size (dObj (dispE s.toks k0 ks kl).toArray (17 + 17 * ks.length + kl.length))
    (tick (3 * kl.length) (pushO (dObj (ents2 (s.toks + 51 + 51 * ks.length) kl).toArray kl.length) (fins s.heap.objs.size (ents s.toks k0).toArray 17 ks (fin1 k0 s))))

/-- the whole display: a first run, more runs, a short last one -/
theorem go_display {dp : Pos} {s : Shared} {c0 : List DPair} {k0 : List (Int × Str)} {cs : List (List DPair)} {ks : List (List (Int × Str))} {last : List DPair} {kl : List (Int × Str)}
    (hi0 : Items p w n₀ ann b env q dp c0 k0) (hc0 : c0.length = 17) (hk0 : k0.length = 17) (hcs : Chunks p w n₀ ann b env q dp cs ks) (hil : Items p w n₀ ann b env q dp last kl) (hll : last.length = kl.length) (hl15 : last.length ≤ 15) (hne : last.isEmpty = false)
    (hd : Nat.ble n₀ s.heap.objs.size = true) (hsm : @LT.lt Nat _ sysModules s.heap.objs.size) (hnd : Fresh [] (k0 ++ (ks.flatten ++ kl))) (hs : ks.flatten.length + 51 < sizeLine) :
    Go p w n₀ ann b env q (dictDisplay ((c0.map fun x => (some x.1, x.2)) ++ ((cs.flatten.map fun x => (some x.1, x.2)) ++ (last.map fun x => (some x.1, x.2))))) dp s
      (6 * kl.length + 5 + (10 * kl.length + 3 * kl.length + 1) + (330 * cs.length + 223)) (.ref s.heap.objs.size) dp (disp k0 ks kl s) := by
  have hne0 : c0.isEmpty = false := by cases c0 with | nil => cases hc0 | cons _ _ => rfl
  have ho1 : (fin1 k0 s).heap.get? s.heap.objs.size = some (dObj (ents s.toks k0).toArray 17) := pushO_get rfl
  have hz1 : @LT.lt Nat _ s.heap.objs.size (fin1 k0 s).heap.objs.size := by
    show s.heap.objs.size < (s.heap.push _).objs.size
    rw [Heap.size_push]; omega
  have hE0 : (ents s.toks k0).toArray.size = 17 := by simp [ents_length, hk0]
  have hf0 : Fresh ((ents s.toks k0).toArray.toList.map (·.hash)) (ks.flatten ++ kl) := by
    unfold Fresh at hnd ⊢
    simpa [ents_hash] using hnd
  obtain ⟨a1, a2, a3⟩ := fins_facts ks _ 17 (fin1 k0 s) ho1
  have hT1 : (fin1 k0 s).toks = s.toks + 51 := rfl
  have hfl : Fresh (((ents s.toks k0).toArray ++ (finE (fin1 k0 s).toks ks).toArray).toList.map (·.hash)) kl := by
    unfold Fresh at hf0 ⊢
    simpa [finE_hash] using hf0
  have gl := go_flushLast (p := p) (w := w) (n₀ := n₀) (ann := ann) (b := b) (env := env) (q := q) (d := s.heap.objs.size) hil hll hl15 hne hd (by rw [a2]; omega) hsm a1
    (by rw [Array.size_append, hE0]; omega) hfl (by rw [Array.size_append, hE0]; simp only [List.size_toArray, finE_length]; omega)
  have e : lay s.heap.objs.size (dObj ((ents s.toks k0).toArray ++ (finE (fin1 k0 s).toks ks).toArray ++ (ents2 (fins s.heap.objs.size (ents s.toks k0).toArray 17 ks (fin1 k0 s)).toks kl).toArray) (17 + 17 * ks.length + kl.length))
      (tick (3 * kl.length) (pushO (dObj (ents2 (fins s.heap.objs.size (ents s.toks k0).toArray 17 ks (fin1 k0 s)).toks kl).toArray kl.length) (fins s.heap.objs.size (ents s.toks k0).toArray 17 ks (fin1 k0 s)))) = disp k0 ks kl s := by
    unfold disp dispE
    rw [a3, hT1]
    have e1 : (ents s.toks k0).toArray ++ (finE (s.toks + 51) ks).toArray ++ (ents2 (s.toks + 51 + 51 * ks.length) kl).toArray = (ents s.toks k0 ++ (finE (s.toks + 51) ks ++ ents2 (s.toks + 51 + 51 * ks.length) kl)).toArray := by
      apply Array.toList_inj.mp
      simp
    rw [e1]
  rw [e] at gl
  have g0 : Go p w n₀ ann b env q (flushD c0 none) dp s 223 (some s.heap.objs.size) dp (fin1 k0 s) := by
    unfold flushD
    rw [hne0, if_neg Bool.false_ne_true]
    exact go_bind (n' := 0) (go_subLong hi0 hc0 hd (by unfold Fresh at hnd ⊢; simp only [List.nil_append, List.map_append] at hnd ⊢; exact (List.nodup_append.mp hnd).1) hk0) go_pure
  unfold dictDisplay
  dsimp only
  refine go_bind (n := 330 * cs.length + 223) (a := (some s.heap.objs.size, last)) (pos1 := dp) (s1 := fins s.heap.objs.size (ents s.toks k0).toArray 17 ks (fin1 k0 s)) ?_ ?_
  · rw [forIn_17 _ none (fun x run h => by
        have hne : ((run ++ [(x.1, x.2)]).length == 17) = false := by simp; omega
        dsimp only
        rw [hne, if_neg Bool.false_ne_true]) (fun x run h => by
        have hne : ((run ++ [(x.1, x.2)]).length == 17) = true := by simp; omega
        dsimp only
        rw [hne, if_pos rfl]
        rfl) _ c0 hc0]
    refine go_bind g0 ?_
    exact go_loop (d := s.heap.objs.size) hd hsm (fun x run h => by
        have hne : ((run ++ [(x.1, x.2)]).length == 17) = false := by simp; omega
        dsimp only
        rw [hne, if_neg Bool.false_ne_true]) (fun x run h => by
        have hne : ((run ++ [(x.1, x.2)]).length == 17) = true := by simp; omega
        dsimp only
        rw [hne, if_pos rfl]
        rfl) last (by omega) cs ks _ 17 (fin1 k0 s) hcs ho1 hz1 (by omega) (by
          unfold Fresh at hf0 ⊢
          rw [List.map_append, ← List.append_assoc] at hf0
          exact (List.nodup_append.mp hf0).1) (by omega)
  · rw [show 6 * kl.length + 5 + (10 * kl.length + 3 * kl.length + 1) = 0 + (6 * kl.length + 5 + (10 * kl.length + 3 * kl.length + 1)) by omega]
    refine go_bind (m := flushD last (some s.heap.objs.size)) (a := some s.heap.objs.size) gl ?_
    exact go_pure
end
end Mine
end

section
open PySem PySem.W PyProof.Rows PySem.Calls
set_option Elab.async false
set_option maxRecDepth 100000
namespace Mine
section
variable {p : Program} {n₀ : Nat} {ann : Option Value} {b : List Stmt} {env : Env} {q : Pos} {w : World}

/-- a table's items, out of its text -/
noncomputable def intC : Expr → Option Int
  | .Constant c _ _ => match c with
    | .int k => some k
    | _ => none
  | _ => none
noncomputable def strC : Expr → Option Str
  | .Constant c _ _ => match c with
    | .str k => some k
    | _ => none
  | _ => none
theorem intC_is {e : Expr} {i : Int} (h : intC e = some i) : ∃ a b, e = .Constant (.int i) a b := by
  cases e with
  | Constant c a b => cases c with
    | int k => cases h; exact ⟨a, b, rfl⟩
    | _ => exact nomatch h
  | _ => exact nomatch h
theorem strC_is {e : Expr} {i : Str} (h : strC e = some i) : ∃ a b, e = .Constant (.str i) a b := by
  cases e with
  | Constant c a b => cases c with
    | str k => cases h; exact ⟨a, b, rfl⟩
    | _ => exact nomatch h
  | _ => exact nomatch h
/-- a table's pairs, out of its text -/
noncomputable def shapeG {α : Type} (f : Expr → Option α) : List (Option Expr) → List Expr → Option (List (Int × α))
  | [] => fun vs => match vs with
    | [] => some []
    | _ :: _ => none
  | k :: r => fun vs => match vs with
    | [] => none
    | v :: r' => (k.bind intC).bind fun i => (f v).bind fun x => (shapeG f r r').map ((i, x) :: ·)
theorem shapeG_cons {α : Type} {f : Expr → Option α} {k : Option Expr} {v : Expr} {r : List (Option Expr)} {r' : List Expr} {kv : List (Int × α)} (h : shapeG f (k :: r) (v :: r') = some kv) :
    ∃ i a b x kv', k = some (.Constant (.int i) a b) ∧ f v = some x ∧ shapeG f r r' = some kv' ∧ kv = (i, x) :: kv' := by
  replace h : ((k.bind intC).bind fun i => (f v).bind fun x => (shapeG f r r').map ((i, x) :: ·)) = some kv := h
  obtain ⟨i, h1, h2⟩ := Option.bind_eq_some_iff.mp h
  obtain ⟨e, h3, h4⟩ := Option.bind_eq_some_iff.mp h1
  obtain ⟨x, h5, h6⟩ := Option.bind_eq_some_iff.mp h2
  obtain ⟨kv', h7, h8⟩ := Option.map_eq_some_iff.mp h6
  obtain ⟨a, b, h9⟩ := intC_is h4
  exact ⟨i, a, b, x, kv', by rw [h3, h9], h5, h7, h8.symm⟩
noncomputable abbrev shape : List (Option Expr) → List Expr → Option (List (Int × Str)) := shapeG strC
noncomputable def itemOf (dp : Pos) (env : Env) : List (Option Expr) → List Expr → List DPair
  | some k :: r, v :: r' => (eval k env, (do let x ← eval v env; standAt dp; pure x)) :: itemOf dp env r r'
  | _, _ => []
theorem shape_items {dp : Pos} : ∀ (ks : List (Option Expr)) (vs : List Expr) (kv : List (Int × Str)), shape ks vs = some kv →
    (evalEachOpt ks env).zip ((evalEach vs env).map fun v => do let x ← v; standAt dp; pure x) = (itemOf dp env ks vs).map (fun x => (some x.1, x.2)) ∧ Items p w n₀ ann b env q dp (itemOf dp env ks vs) kv := by
  intro ks
  induction ks with
  | nil =>
    intro vs kv h
    cases vs with
    | nil => cases h; exact ⟨rfl, trivial⟩
    | cons _ _ => exact nomatch h
  | cons k r ih =>
    intro vs kv h
    cases vs with
    | nil => exact nomatch h
    | cons v r' =>
      obtain ⟨i, a1, a2, x, kv', rfl, h5, h6, rfl⟩ := shapeG_cons h
      obtain ⟨a3, a4, rfl⟩ := strC_is h5
      obtain ⟨e, it⟩ := ih r' kv' h6
      refine ⟨?_, ⟨fun s K H gd lv N r' h => h, fun s K H gd lv N r' h => h⟩, it⟩
      rw [evalEachOpt, evalEach, List.map_cons, List.zip_cons_cons, itemOf, List.map_cons, e]
      rfl

theorem items_length {dp : Pos} : ∀ (l : List DPair) (kv : List (Int × Str)), Items p w n₀ ann b env q dp l kv → l.length = kv.length
  | [], [], _ => rfl
  | _ :: r, _ :: r', h => congrArg Nat.succ (items_length r r' h.2)
theorem items_split {dp : Pos} : ∀ (l : List DPair) (k k' : List (Int × Str)), Items p w n₀ ann b env q dp l (k ++ k') →
    ∃ l1 l2, l = l1 ++ l2 ∧ Items p w n₀ ann b env q dp l1 k ∧ Items p w n₀ ann b env q dp l2 k'
  | l, [], k', h => ⟨[], l, rfl, trivial, h⟩
  | [], _ :: _, _, h => h.elim
  | x :: r, y :: k, k', h => by
    obtain ⟨l1, l2, e, a, c⟩ := items_split r k k' h.2
    exact ⟨x :: l1, l2, by rw [e]; rfl, ⟨h.1, a⟩, c⟩
theorem items_chunks {dp : Pos} : ∀ (ks : List (List (Int × Str))) (l : List DPair), Items p w n₀ ann b env q dp l ks.flatten → (∀ k ∈ ks, k.length = 17) →
    ∃ cs, l = cs.flatten ∧ Chunks p w n₀ ann b env q dp cs ks ∧ cs.length = ks.length
  | [], l, h, _ => by
    cases l with
    | nil => exact ⟨[], rfl, trivial, rfl⟩
    | cons _ _ => exact h.elim
  | k :: r, l, h, hk => by
    rw [List.flatten_cons] at h
    obtain ⟨l1, l2, e, a, c⟩ := items_split l k r.flatten h
    obtain ⟨cs, e', c', n'⟩ := items_chunks r l2 c fun x hx => hk x (.tail _ hx)
    have := hk k (.head _)
    exact ⟨l1 :: cs, by rw [List.flatten_cons, ← e', e], ⟨⟨a, (items_length _ _ a).trans this, this⟩, c'⟩, congrArg Nat.succ n'⟩

theorem go_table {dp : Pos} {s : Shared} {keys : List (Option Expr)} {vals : List Expr} {k0 : List (Int × Str)} {ks : List (List (Int × Str))} {kl : List (Int × Str)}
    (hsh : shape keys vals = some (k0 ++ (ks.flatten ++ kl))) (hk0 : k0.length = 17) (hks : ∀ k ∈ ks, k.length = 17) (hl15 : kl.length ≤ 15) (hne : kl ≠ [])
    (hd : Nat.ble n₀ s.heap.objs.size = true) (hsm : @LT.lt Nat _ sysModules s.heap.objs.size) (hnd : Fresh [] (k0 ++ (ks.flatten ++ kl))) (hs : ks.flatten.length + 51 < sizeLine) {pos : Pos} :
    Go p w n₀ ann b env q (eval (.Dict keys vals dp) env) pos s
      (6 * kl.length + 5 + (10 * kl.length + 3 * kl.length + 1) + (330 * ks.length + 223) + 1) (.ref s.heap.objs.size) dp (disp k0 ks kl s) := by
  obtain ⟨e, i⟩ := shape_items (p := p) (w := w) (n₀ := n₀) (ann := ann) (b := b) (env := env) (q := q) (dp := dp) keys vals _ hsh
  obtain ⟨l1, l2, e1, i1, i2⟩ := items_split _ _ _ i
  obtain ⟨l3, l4, e2, i3, i4⟩ := items_split _ _ _ i2
  obtain ⟨cs, e3, c3, n3⟩ := items_chunks ks l3 i3 hks
  have hl := items_length _ _ i4
  rw [arm_eval_Dict, e, e1, e2, e3, List.map_append, List.map_append]
  have g := go_display (s := s) i1 ((items_length _ _ i1).trans hk0) hk0 c3 i4 hl (by omega) (by
    cases l4 with
    | nil => exact absurd (List.eq_nil_of_length_eq_zero hl.symm) hne
    | cons _ _ => rfl) hd hsm hnd hs
  rw [n3] at g
  exact go_bind go_at g

/-- strictly rising -/
noncomputable def rising : List Int → Bool
  | a :: b :: r => decide (a < b) && rising (b :: r)
  | _ => true
theorem rising_lt : ∀ (l : List Int) (a : Int), rising (a :: l) = true → ∀ x ∈ l, a < x
  | [], _, _, x, h => nomatch h
  | b :: r, a, h, x, hx => by
    rw [rising, Bool.and_eq_true, decide_eq_true_eq] at h
    rcases List.mem_cons.mp hx with rfl | hx
    · exact h.1
    · exact Int.lt_trans h.1 (rising_lt r b h.2 x hx)
theorem rising_nodup : ∀ (l : List Int), rising l = true → l.Nodup
  | [], _ => .nil
  | a :: r, h => by
    rw [List.nodup_cons]
    refine ⟨fun hm => Int.lt_irrefl a (rising_lt r a h a hm), rising_nodup r ?_⟩
    cases r with
    | nil => rfl
    | cons b r => rw [rising, Bool.and_eq_true] at h; exact h.2
end
end Mine
end

section
open PySem PySem.W PyProof.Rows PySem.Calls
set_option Elab.async false
set_option linter.unusedVariables false
set_option maxRecDepth 100000
set_option maxHeartbeats 0
namespace Mine
noncomputable section
/-- the text -/
noncomputable abbrev PR : Program := PySem.Challenge.rw_rw0085_01.prog
noncomputable def env1 : Env := { scope := PR.main.scope, locals := mainNs, globals := mainNs, cells := [], code := .ref 13, frame := some 14 }
noncomputable def bodyS : List Stmt := behindTheImports PR
noncomputable def cE : Code := .body bodyS env1
noncomputable abbrev an : Option Value := some (.ref 6)
noncomputable abbrev q0 : Pos := ⟨0, 0, 0, 0⟩
noncomputable def fdat (i : Nat) (name qual : Str) (gl : Addr) (dV kV doc pm code ct : Value) (bu : Addr) : FuncData := match bodyS[i]? with
  | some (.FunctionDef _ args body _ _ _ scope _ _ _) => { name, qualname := qual, params := args, body := .stmts body, scope, globals := gl, closure := [], defaults := dV, kwdefaults := kV, doc, pyModule := pm, annotations := none, code, closureTuple := ct, builtins := bu }
  | _ => default
/-- a tree of objects from their row -/
noncomputable def tr (l : List Obj) : Nat → Nat → Nat → BT
  | 0, _, _ => .nil
  | f + 1, a, b => match l[b]? with
    | some o => .node o (tr l f (2 * a) (a + b)) (tr l f (2 * a) (2 * a + b))
    | none => .nil
noncomputable def at8 : Option Stmt := bodyS[8]?
noncomputable def tabK : List (Option Expr) := match at8 with | some (.Assign _ (.Dict k _ _) _) => k | _ => []
noncomputable def tabV : List Expr := match at8 with | some (.Assign _ (.Dict _ v _) _) => v | _ => []
noncomputable def tabP : Pos := match at8 with | some (.Assign _ (.Dict _ _ p) _) => p | _ => q0
noncomputable def tabN : Pos := match at8 with | some (.Assign [.Name _ p] _ _) => p | _ => q0
noncomputable def tabA : Pos := match at8 with | some (.Assign _ _ p) => p | _ => q0
noncomputable def kvs : List (Int × Str) := (shape tabK tabV).getD []
noncomputable def K0 : List (Int × Str) := kvs.take 17
noncomputable def chunk : Nat → List (Int × Str) → List (List (Int × Str))
  | 0, _ => []
  | n + 1, l => l.take 17 :: chunk n (l.drop 17)
noncomputable def KS : List (List (Int × Str)) := chunk 37 (kvs.drop 17)
noncomputable def KL : List (Int × Str) := kvs.drop 646
noncomputable def subs : Nat → List (List (Int × Str)) → List Obj
  | _, [] => []
  | t, k :: r => dObj (ents t k).toArray 17 :: subs (t + 51) r
noncomputable def dicts : List Obj := dObj (dispE 291 K0 KS KL).toArray 650 :: (subs 342 KS ++ [dObj (ents2 2229 KL).toArray 4])
noncomputable def o_11 (P : Params) : Obj := ⟨(.type "tuple"), none, (.seq #[] 0), #[]⟩
noncomputable def o_13 (P : Params) : Obj := ⟨(.type "code"), none, (.fields #[(.str (Str.ofString "<module>") 182), (.str (Str.ofString "<module>") 183), (.str (Str.ofString "/claim/cut.py") 184), (.int 1 0), (.int 0 0), (.int 0 0), (.int 0 0), (.int 0 0), (.ref 11), (.bool false), (.int 181 0), (.ref 12), .none, .none, .none, .none, (.int 185 0), (.int 1 0), (.str (Str.ofString "/claim/cut.py") 186)]), #[]⟩
noncomputable def o_14 (P : Params) : Obj := ⟨(.type "frame"), none, .plain, #[(some (.ref 13)), (some (.ref 3)), (some (.ref 3)), none, (some (.str (Str.ofString "__main__") 164)), none, (some (.ref 0))]⟩
noncomputable def o_15 (P : Params) : Obj := ⟨(.type "tuple"), none, (.seq #[] 0), #[]⟩
noncomputable def o_16 (P : Params) : Obj := ⟨.none, none, (.fields #[]), #[]⟩
noncomputable def o_17 (P : Params) : Obj := ⟨(.type "tuple"), none, (.seq #[(.str (Str.ofString "iterator") 192), (.str (Str.ofString "b") 193), (.str (Str.ofString "val") 194)] 0), #[]⟩
noncomputable def o_18 (P : Params) : Obj := ⟨(.type "tuple"), none, (.seq #[] 0), #[]⟩
noncomputable def o_19 (P : Params) : Obj := ⟨.none, none, (.func (fdat 1 (Str.ofString "_parse_varint") (Str.ofString "_parse_varint") 0 .none .none .none .none .none .none 0)), #[]⟩
noncomputable def o_20 (P : Params) : Obj := ⟨(.type "code"), none, (.fields #[(.str (Str.ofString "_parse_varint") 189), (.str (Str.ofString "_parse_varint") 190), (.str (Str.ofString "/claim/cut.py") 191), (.int 2 0), (.int 1 0), (.int 0 0), (.int 0 0), (.int 3 0), (.ref 15), (.bool true), (.int 181 0), (.ref 16), .none, (.ref 17), (.ref 18), (.ref 19), (.int 195 0), (.int 2 0), (.str (Str.ofString "/claim/cut.py") 196)]), #[]⟩
noncomputable def o_21 (P : Params) : Obj := ⟨(.type "function"), none, (.func (fdat 1 (Str.ofString "_parse_varint") (Str.ofString "_parse_varint") 3 .none .none .none (.str (Str.ofString "cpy313.dis") 187) (.ref 20) .none 0)), #[]⟩
noncomputable def o_22 (P : Params) : Obj := ⟨(.type "tuple"), none, (.seq #[] 0), #[]⟩
noncomputable def o_23 (P : Params) : Obj := ⟨.none, none, (.fields #[]), #[]⟩
noncomputable def o_24 (P : Params) : Obj := ⟨(.type "tuple"), none, (.seq #[(.str (Str.ofString "a") 203), (.str (Str.ofString "n") 204)] 0), #[]⟩
noncomputable def o_25 (P : Params) : Obj := ⟨(.type "tuple"), none, (.seq #[(.str (Str.ofString "n") 205), (.str (Str.ofString "a_digits") 206), (.str (Str.ofString "inner") 207)] 0), #[]⟩
noncomputable def o_26 (P : Params) : Obj := ⟨.none, none, (.func (fdat 3 (Str.ofString "_int2digits") (Str.ofString "_int2digits") 0 .none .none .none .none .none .none 0)), #[]⟩
noncomputable def o_27 (P : Params) : Obj := ⟨(.type "code"), none, (.fields #[(.str (Str.ofString "_int2digits") 200), (.str (Str.ofString "_int2digits") 201), (.str (Str.ofString "/claim/cut.py") 202), (.int 11 0), (.int 2 0), (.int 0 0), (.int 0 0), (.int 3 0), (.ref 22), (.bool true), (.int 181 0), (.ref 23), .none, (.ref 24), (.ref 25), (.ref 26), (.int 208 0), (.int 11 0), (.str (Str.ofString "/claim/cut.py") 209)]), #[]⟩
noncomputable def o_28 (P : Params) : Obj := ⟨(.type "function"), none, (.func (fdat 3 (Str.ofString "_int2digits") (Str.ofString "_int2digits") 3 .none .none .none (.str (Str.ofString "cpy313._pylong") 198) (.ref 27) .none 0)), #[]⟩
noncomputable def o_29 (P : Params) : Obj := ⟨(.type "tuple"), none, (.seq #[] 0), #[]⟩
noncomputable def o_30 (P : Params) : Obj := ⟨.none, none, (.fields #[]), #[]⟩
noncomputable def o_31 (P : Params) : Obj := ⟨(.type "tuple"), none, (.seq #[(.str (Str.ofString "digits") 214), (.str (Str.ofString "n") 215)] 0), #[]⟩
noncomputable def o_32 (P : Params) : Obj := ⟨(.type "tuple"), none, (.seq #[(.str (Str.ofString "digits") 216), (.str (Str.ofString "n") 217), (.str (Str.ofString "inner") 218)] 0), #[]⟩
noncomputable def o_33 (P : Params) : Obj := ⟨.none, none, (.func (fdat 4 (Str.ofString "_digits2int") (Str.ofString "_digits2int") 0 .none .none .none .none .none .none 0)), #[]⟩
noncomputable def o_34 (P : Params) : Obj := ⟨(.type "code"), none, (.fields #[(.str (Str.ofString "_digits2int") 211), (.str (Str.ofString "_digits2int") 212), (.str (Str.ofString "/claim/cut.py") 213), (.int 27 0), (.int 2 0), (.int 0 0), (.int 0 0), (.int 3 0), (.ref 29), (.bool true), (.int 181 0), (.ref 30), .none, (.ref 31), (.ref 32), (.ref 33), (.int 219 0), (.int 27 0), (.str (Str.ofString "/claim/cut.py") 220)]), #[]⟩
noncomputable def o_35 (P : Params) : Obj := ⟨(.type "function"), none, (.func (fdat 4 (Str.ofString "_digits2int") (Str.ofString "_digits2int") 3 .none .none .none (.str (Str.ofString "cpy313._pylong") 198) (.ref 34) .none 0)), #[]⟩
noncomputable def o_36 (P : Params) : Obj := ⟨(.type "list"), none, (.seq #[(.int 173 224), (.int 847 225), (.int 6150 226), (.int 6155 227), (.int 6156 228), (.int 6157 229), (.int 8203 230), (.int 8204 231), (.int 8205 232), (.int 8288 233), (.int 65279 234)] 0), #[]⟩
noncomputable def o_37 (P : Params) : Obj := ⟨(.type "range"), none, (.fields #[(.int 65024 235), (.int 65040 236), (.int 1 237)]), #[]⟩
noncomputable def o_38 (P : Params) : Obj := ⟨(.type "list"), none, (.seq #[(.int 65024 240), (.int 65025 241), (.int 65026 242), (.int 65027 243), (.int 65028 244), (.int 65029 245), (.int 65030 246), (.int 65031 247), (.int 65032 248), (.int 65033 249), (.int 65034 250), (.int 65035 251), (.int 65036 252), (.int 65037 253), (.int 65038 254), (.int 65039 255)] 18), #[]⟩
noncomputable def o_39 (P : Params) : Obj := ⟨(.type "range_iterator"), none, (.fields #[(.int 65040 0), (.int 0 0), (.int 1 0)]), #[]⟩
noncomputable def o_40 (P : Params) : Obj := ⟨(.type "tuple"), none, (.seq #[] 0), #[]⟩
noncomputable def o_41 (P : Params) : Obj := ⟨(.type "StopIteration"), none, (.fields #[(.ref 40), .none, .none, .none, (.bool false), .none]), #[]⟩
noncomputable def o_42 (P : Params) : Obj := ⟨(.type "list"), none, (.seq #[(.int 173 224), (.int 847 225), (.int 6150 226), (.int 6155 227), (.int 6156 228), (.int 6157 229), (.int 8203 230), (.int 8204 231), (.int 8205 232), (.int 8288 233), (.int 65279 234), (.int 65024 240), (.int 65025 241), (.int 65026 242), (.int 65027 243), (.int 65028 244), (.int 65029 245), (.int 65030 246), (.int 65031 247), (.int 65032 248), (.int 65033 249), (.int 65034 250), (.int 65035 251), (.int 65036 252), (.int 65037 253), (.int 65038 254), (.int 65039 255)] 0), #[]⟩
noncomputable def o_43 (P : Params) : Obj := ⟨(.type "set"), none, (.set #[(65024, (.int 65024 240)), (65025, (.int 65025 241)), (65026, (.int 65026 242)), (65027, (.int 65027 243)), (65028, (.int 65028 244)), (65029, (.int 65029 245)), (6150, (.int 6150 226)), (65030, (.int 65030 246)), (65031, (.int 65031 247)), (65032, (.int 65032 248)), (65033, (.int 65033 249)), (6155, (.int 6155 227)), (6156, (.int 6156 228)), (6157, (.int 6157 229)), (8203, (.int 8203 230)), (8204, (.int 8204 231)), (8205, (.int 8205 232)), (65034, (.int 65034 250)), (65035, (.int 65035 251)), (65036, (.int 65036 252)), (65037, (.int 65037 253)), (65038, (.int 65038 254)), (65039, (.int 65039 255)), (173, (.int 173 224)), (847, (.int 847 225)), (8288, (.int 8288 233)), (65279, (.int 65279 234))] 29 ⟨127, #[0, 1, 2, 3, 4, 5, 6, 7, 8, 9, 10, 11, 12, 13, 14, 15, 16, 17, 18, 19, 20, 21, 22, 45, 79, 96, 127], #[], 0, !P.followText "set-order", 2, true⟩), #[]⟩
noncomputable def o_44 (P : Params) : Obj := ⟨(.type "list_iterator"), none, (.fields #[.none, (.int 27 0)]), #[]⟩
noncomputable def o_45 (P : Params) : Obj := ⟨(.type "tuple"), none, (.seq #[] 0), #[]⟩
noncomputable def o_46 (P : Params) : Obj := ⟨(.type "StopIteration"), none, (.fields #[(.ref 45), .none, .none, .none, (.bool false), .none]), #[]⟩
noncomputable def o_47 (P : Params) : Obj := ⟨(.type "tuple"), none, (.seq #[] 0), #[]⟩
noncomputable def o_48 (P : Params) : Obj := ⟨.none, none, (.fields #[]), #[]⟩
noncomputable def o_49 (P : Params) : Obj := ⟨(.type "tuple"), none, (.seq #[(.str (Str.ofString "code") 287)] 0), #[]⟩
noncomputable def o_50 (P : Params) : Obj := ⟨(.type "tuple"), none, (.seq #[] 0), #[]⟩
noncomputable def o_51 (P : Params) : Obj := ⟨.none, none, (.func (fdat 7 (Str.ofString "in_table_b1") (Str.ofString "in_table_b1") 0 .none .none .none .none .none .none 0)), #[]⟩
noncomputable def o_52 (P : Params) : Obj := ⟨(.type "code"), none, (.fields #[(.str (Str.ofString "in_table_b1") 284), (.str (Str.ofString "in_table_b1") 285), (.str (Str.ofString "/claim/cut.py") 286), (.int 38 0), (.int 1 0), (.int 0 0), (.int 0 0), (.int 3 0), (.ref 47), (.bool true), (.int 181 0), (.ref 48), .none, (.ref 49), (.ref 50), (.ref 51), (.int 288 0), (.int 38 0), (.str (Str.ofString "/claim/cut.py") 289)]), #[]⟩
noncomputable def o_53 (P : Params) : Obj := ⟨(.type "function"), none, (.func (fdat 7 (Str.ofString "in_table_b1") (Str.ofString "in_table_b1") 3 .none .none .none (.str (Str.ofString "cpy313.stringprep") 222) (.ref 52) .none 0)), #[]⟩
noncomputable def o_93 (P : Params) : Obj := ⟨(.type "tuple"), none, (.seq #[] 0), #[]⟩
noncomputable def o_94 (P : Params) : Obj := ⟨.none, none, (.fields #[]), #[]⟩
noncomputable def o_95 (P : Params) : Obj := ⟨(.type "tuple"), none, (.seq #[(.str (Str.ofString "code") 2245), (.str (Str.ofString "r") 2246)] 0), #[]⟩
noncomputable def o_96 (P : Params) : Obj := ⟨(.type "tuple"), none, (.seq #[] 0), #[]⟩
noncomputable def o_97 (P : Params) : Obj := ⟨.none, none, (.func (fdat 9 (Str.ofString "map_table_b3") (Str.ofString "map_table_b3") 0 .none .none .none .none .none .none 0)), #[]⟩
noncomputable def o_98 (P : Params) : Obj := ⟨(.type "code"), none, (.fields #[(.str (Str.ofString "map_table_b3") 2242), (.str (Str.ofString "map_table_b3") 2243), (.str (Str.ofString "/claim/cut.py") 2244), (.int 41 0), (.int 1 0), (.int 0 0), (.int 0 0), (.int 3 0), (.ref 93), (.bool true), (.int 181 0), (.ref 94), .none, (.ref 95), (.ref 96), (.ref 97), (.int 2247 0), (.int 41 0), (.str (Str.ofString "/claim/cut.py") 2248)]), #[]⟩
noncomputable def o_99 (P : Params) : Obj := ⟨(.type "function"), none, (.func (fdat 9 (Str.ofString "map_table_b3") (Str.ofString "map_table_b3") 3 .none .none .none (.str (Str.ofString "cpy313.stringprep") 222) (.ref 98) .none 0)), #[]⟩
noncomputable def o_100 (P : Params) : Obj := ⟨(.type "tuple"), none, (.seq #[] 0), #[]⟩
noncomputable def o_101 (P : Params) : Obj := ⟨.none, none, (.fields #[]), #[]⟩
noncomputable def o_102 (P : Params) : Obj := ⟨(.type "tuple"), none, (.seq #[] 0), #[]⟩
noncomputable def o_103 (P : Params) : Obj := ⟨(.type "tuple"), none, (.seq #[] 0), #[]⟩
noncomputable def o_104 (P : Params) : Obj := ⟨.none, none, (.func (fdat 11 (Str.ofString "_law_hidden") (Str.ofString "_law_hidden") 0 .none .none .none .none .none .none 0)), #[]⟩
noncomputable def o_105 (P : Params) : Obj := ⟨(.type "code"), none, (.fields #[(.str (Str.ofString "_law_hidden") 2252), (.str (Str.ofString "_law_hidden") 2253), (.str (Str.ofString "/claim/cut.py") 2254), (.int 47 0), (.int 0 0), (.int 0 0), (.int 0 0), (.int 3 0), (.ref 100), (.bool true), (.int 181 0), (.ref 101), .none, (.ref 102), (.ref 103), (.ref 104), (.int 2255 0), (.int 47 0), (.str (Str.ofString "/claim/cut.py") 2256)]), #[]⟩
noncomputable def o_106 (P : Params) : Obj := ⟨(.type "function"), none, (.func (fdat 11 (Str.ofString "_law_hidden") (Str.ofString "_law_hidden") 3 .none .none .none (.str (Str.ofString "law_rw0085_01") 2250) (.ref 105) .none 0)), #[]⟩
noncomputable def o_107 (P : Params) : Obj := ⟨(.type "tuple"), none, (.seq #[] 0), #[]⟩
noncomputable def o_108 (P : Params) : Obj := ⟨.none, none, (.fields #[]), #[]⟩
noncomputable def o_109 (P : Params) : Obj := ⟨.none, none, (.func (fdat 12 (Str.ofString "_law_alphabet") (Str.ofString "_law_alphabet") 0 .none .none .none .none .none .none 0)), #[]⟩
noncomputable def o_110 (P : Params) : Obj := ⟨(.type "code"), none, (.fields #[(.str (Str.ofString "_law_alphabet") 2258), (.str (Str.ofString "_law_alphabet") 2259), (.str (Str.ofString "/claim/cut.py") 2260), (.int 49 0), (.int 1 0), (.int 0 0), (.int 0 0), (.int 3 0), (.ref 107), (.bool true), (.int 181 0), (.ref 108), .none, .none, .none, (.ref 109), (.int 2261 0), (.int 49 0), (.str (Str.ofString "/claim/cut.py") 2262)]), #[]⟩
noncomputable def o_111 (P : Params) : Obj := ⟨(.type "function"), none, (.func (fdat 12 (Str.ofString "_law_alphabet") (Str.ofString "_law_alphabet") 3 .none .none .none (.str (Str.ofString "law_rw0085_01") 2250) (.ref 110) .none 0)), #[]⟩
noncomputable def o_112 (P : Params) : Obj := ⟨(.type "tuple"), none, (.seq #[] 0), #[]⟩
noncomputable def o_113 (P : Params) : Obj := ⟨.none, none, (.fields #[]), #[]⟩
noncomputable def o_114 (P : Params) : Obj := ⟨(.type "tuple"), none, (.seq #[] 0), #[]⟩
noncomputable def o_115 (P : Params) : Obj := ⟨(.type "tuple"), none, (.seq #[] 0), #[]⟩
noncomputable def o_116 (P : Params) : Obj := ⟨.none, none, (.func (fdat 13 (Str.ofString "_law_gaps") (Str.ofString "_law_gaps") 0 .none .none .none .none .none .none 0)), #[]⟩
noncomputable def o_117 (P : Params) : Obj := ⟨(.type "code"), none, (.fields #[(.str (Str.ofString "_law_gaps") 2264), (.str (Str.ofString "_law_gaps") 2265), (.str (Str.ofString "/claim/cut.py") 2266), (.int 52 0), (.int 0 0), (.int 0 0), (.int 0 0), (.int 3 0), (.ref 112), (.bool true), (.int 181 0), (.ref 113), .none, (.ref 114), (.ref 115), (.ref 116), (.int 2267 0), (.int 52 0), (.str (Str.ofString "/claim/cut.py") 2268)]), #[]⟩
noncomputable def o_118 (P : Params) : Obj := ⟨(.type "function"), none, (.func (fdat 13 (Str.ofString "_law_gaps") (Str.ofString "_law_gaps") 3 .none .none .none (.str (Str.ofString "law_rw0085_01") 2250) (.ref 117) .none 0)), #[]⟩
noncomputable def o_119 (P : Params) : Obj := ⟨(.type "tuple"), none, (.seq #[] 0), #[]⟩
noncomputable def o_120 (P : Params) : Obj := ⟨.none, none, (.fields #[]), #[]⟩
noncomputable def o_121 (P : Params) : Obj := ⟨(.type "tuple"), none, (.seq #[(.str (Str.ofString "letter") 2273), (.str (Str.ofString "place") 2274), (.str (Str.ofString "face") 2275), (.str (Str.ofString "gaps") 2276), (.str (Str.ofString "code") 2277)] 0), #[]⟩
noncomputable def o_122 (P : Params) : Obj := ⟨(.type "tuple"), none, (.seq #[] 0), #[]⟩
noncomputable def o_123 (P : Params) : Obj := ⟨.none, none, (.func (fdat 14 (Str.ofString "_law_spelled") (Str.ofString "_law_spelled") 0 .none .none .none .none .none .none 0)), #[]⟩
noncomputable def o_124 (P : Params) : Obj := ⟨(.type "code"), none, (.fields #[(.str (Str.ofString "_law_spelled") 2270), (.str (Str.ofString "_law_spelled") 2271), (.str (Str.ofString "/claim/cut.py") 2272), (.int 54 0), (.int 4 0), (.int 0 0), (.int 0 0), (.int 3 0), (.ref 119), (.bool true), (.int 181 0), (.ref 120), .none, (.ref 121), (.ref 122), (.ref 123), (.int 2278 0), (.int 54 0), (.str (Str.ofString "/claim/cut.py") 2279)]), #[]⟩
noncomputable def o_125 (P : Params) : Obj := ⟨(.type "function"), none, (.func (fdat 14 (Str.ofString "_law_spelled") (Str.ofString "_law_spelled") 3 .none .none .none (.str (Str.ofString "law_rw0085_01") 2250) (.ref 124) .none 0)), #[]⟩
noncomputable def o_126 (P : Params) : Obj := ⟨(.type "tuple"), none, (.seq #[] 0), #[]⟩
noncomputable def o_127 (P : Params) : Obj := ⟨.none, none, (.fields #[]), #[]⟩
noncomputable def o_128 (P : Params) : Obj := ⟨(.type "tuple"), none, (.seq #[(.str (Str.ofString "script") 2284), (.str (Str.ofString "alphabet") 2285), (.str (Str.ofString "hidden") 2286), (.str (Str.ofString "numbers") 2287), (.str (Str.ofString "doubles") 2288), (.str (Str.ofString "gaps") 2289), (.str (Str.ofString "text") 2290), (.str (Str.ofString "word") 2291), (.str (Str.ofString "k") 2292), (.str (Str.ofString "x") 2293), (.str (Str.ofString "way") 2294), (.str (Str.ofString "face") 2295), (.str (Str.ofString "pick") 2296), (.str (Str.ofString "code") 2297), (.str (Str.ofString "letters") 2298), (.str (Str.ofString "place") 2299)] 0), #[]⟩
noncomputable def o_129 (P : Params) : Obj := ⟨(.type "tuple"), none, (.seq #[] 0), #[]⟩
noncomputable def o_130 (P : Params) : Obj := ⟨.none, none, (.func (fdat 15 (Str.ofString "_law_drawn") (Str.ofString "_law_drawn") 0 .none .none .none .none .none .none 0)), #[]⟩
noncomputable def o_131 (P : Params) : Obj := ⟨(.type "code"), none, (.fields #[(.str (Str.ofString "_law_drawn") 2281), (.str (Str.ofString "_law_drawn") 2282), (.str (Str.ofString "/claim/cut.py") 2283), (.int 61 0), (.int 3 0), (.int 0 0), (.int 0 0), (.int 3 0), (.ref 126), (.bool true), (.int 181 0), (.ref 127), .none, (.ref 128), (.ref 129), (.ref 130), (.int 2300 0), (.int 61 0), (.str (Str.ofString "/claim/cut.py") 2301)]), #[]⟩
noncomputable def o_132 (P : Params) : Obj := ⟨(.type "function"), none, (.func (fdat 15 (Str.ofString "_law_drawn") (Str.ofString "_law_drawn") 3 .none .none .none (.str (Str.ofString "law_rw0085_01") 2250) (.ref 131) .none 0)), #[]⟩
noncomputable def o_133 (P : Params) : Obj := ⟨(.type "tuple"), none, (.seq #[] 0), #[]⟩
noncomputable def o_134 (P : Params) : Obj := ⟨.none, none, (.fields #[]), #[]⟩
noncomputable def o_135 (P : Params) : Obj := ⟨.none, none, (.func (fdat 16 (Str.ofString "_law_octets") (Str.ofString "_law_octets") 0 .none .none .none .none .none .none 0)), #[]⟩
noncomputable def o_136 (P : Params) : Obj := ⟨(.type "code"), none, (.fields #[(.str (Str.ofString "_law_octets") 2303), (.str (Str.ofString "_law_octets") 2304), (.str (Str.ofString "/claim/cut.py") 2305), (.int 84 0), (.int 1 0), (.int 0 0), (.int 0 0), (.int 3 0), (.ref 133), (.bool true), (.int 181 0), (.ref 134), .none, .none, .none, (.ref 135), (.int 2306 0), (.int 84 0), (.str (Str.ofString "/claim/cut.py") 2307)]), #[]⟩
noncomputable def o_137 (P : Params) : Obj := ⟨(.type "function"), none, (.func (fdat 16 (Str.ofString "_law_octets") (Str.ofString "_law_octets") 3 .none .none .none (.str (Str.ofString "law_rw0085_01") 2250) (.ref 136) .none 0)), #[]⟩
noncomputable def o_138 (P : Params) : Obj := ⟨(.type "tuple"), none, (.seq #[] 0), #[]⟩
noncomputable def o_139 (P : Params) : Obj := ⟨.none, none, (.fields #[]), #[]⟩
noncomputable def o_140 (P : Params) : Obj := ⟨(.type "tuple"), none, (.seq #[(.str (Str.ofString "octets") 2312), (.str (Str.ofString "reader") 2313), (.str (Str.ofString "found") 2314)] 0), #[]⟩
noncomputable def o_141 (P : Params) : Obj := ⟨(.type "tuple"), none, (.seq #[] 0), #[]⟩
noncomputable def o_142 (P : Params) : Obj := ⟨.none, none, (.func (fdat 17 (Str.ofString "_law_read") (Str.ofString "_law_read") 0 .none .none .none .none .none .none 0)), #[]⟩
noncomputable def o_143 (P : Params) : Obj := ⟨(.type "code"), none, (.fields #[(.str (Str.ofString "_law_read") 2309), (.str (Str.ofString "_law_read") 2310), (.str (Str.ofString "/claim/cut.py") 2311), (.int 87 0), (.int 1 0), (.int 0 0), (.int 0 0), (.int 3 0), (.ref 138), (.bool true), (.int 181 0), (.ref 139), .none, (.ref 140), (.ref 141), (.ref 142), (.int 2315 0), (.int 87 0), (.str (Str.ofString "/claim/cut.py") 2316)]), #[]⟩
noncomputable def o_144 (P : Params) : Obj := ⟨(.type "function"), none, (.func (fdat 17 (Str.ofString "_law_read") (Str.ofString "_law_read") 3 .none .none .none (.str (Str.ofString "law_rw0085_01") 2250) (.ref 143) .none 0)), #[]⟩
noncomputable def o_145 (P : Params) : Obj := ⟨(.type "tuple"), none, (.seq #[] 0), #[]⟩
noncomputable def o_146 (P : Params) : Obj := ⟨.none, none, (.fields #[]), #[]⟩
noncomputable def o_147 (P : Params) : Obj := ⟨.none, none, (.func (fdat 18 (Str.ofString "_law_pairs") (Str.ofString "_law_pairs") 0 .none .none .none .none .none .none 0)), #[]⟩
noncomputable def o_148 (P : Params) : Obj := ⟨(.type "code"), none, (.fields #[(.str (Str.ofString "_law_pairs") 2318), (.str (Str.ofString "_law_pairs") 2319), (.str (Str.ofString "/claim/cut.py") 2320), (.int 95 0), (.int 1 0), (.int 0 0), (.int 0 0), (.int 3 0), (.ref 145), (.bool true), (.int 181 0), (.ref 146), .none, .none, .none, (.ref 147), (.int 2321 0), (.int 95 0), (.str (Str.ofString "/claim/cut.py") 2322)]), #[]⟩
noncomputable def o_149 (P : Params) : Obj := ⟨(.type "function"), none, (.func (fdat 18 (Str.ofString "_law_pairs") (Str.ofString "_law_pairs") 3 .none .none .none (.str (Str.ofString "law_rw0085_01") 2250) (.ref 148) .none 0)), #[]⟩
noncomputable def o_150 (P : Params) : Obj := ⟨(.type "tuple"), none, (.seq #[] 0), #[]⟩
noncomputable def o_151 (P : Params) : Obj := ⟨.none, none, (.fields #[]), #[]⟩
noncomputable def o_152 (P : Params) : Obj := ⟨.none, none, (.func (fdat 19 (Str.ofString "law") (Str.ofString "law") 0 .none .none .none .none .none .none 0)), #[]⟩
noncomputable def o_153 (P : Params) : Obj := ⟨(.type "code"), none, (.fields #[(.str (Str.ofString "law") 2324), (.str (Str.ofString "law") 2325), (.str (Str.ofString "/claim/cut.py") 2326), (.int 98 0), (.int 1 0), (.int 0 0), (.int 0 0), (.int 3 0), (.ref 150), (.bool true), (.int 181 0), (.ref 151), .none, .none, .none, (.ref 152), (.int 2327 0), (.int 98 0), (.str (Str.ofString "/claim/cut.py") 2328)]), #[]⟩
noncomputable def o_154 (P : Params) : Obj := ⟨(.type "function"), none, (.func (fdat 19 (Str.ofString "law") (Str.ofString "law") 3 .none .none .none (.str (Str.ofString "law_rw0085_01") 2250) (.ref 153) .none 0)), #[]⟩
noncomputable def m_0 (P : Params) : Obj := ⟨(.type "dict"), none, (.dict #[⟨PyData.keyHash P (Str.ofString "__name__"), .str (Str.ofString "__name__") 165, (.str (Str.ofString "__main__") 164)⟩, ⟨PyData.keyHash P (Str.ofString "__doc__"), .str (Str.ofString "__doc__") 166, .none⟩, ⟨PyData.keyHash P (Str.ofString "__package__"), .str (Str.ofString "__package__") 167, .none⟩, ⟨PyData.keyHash P (Str.ofString "__loader__"), .str (Str.ofString "__loader__") 168, (.builtin "__main__.__loader__#opaque")⟩, ⟨PyData.keyHash P (Str.ofString "__spec__"), .str (Str.ofString "__spec__") 169, .none⟩, ⟨PyData.keyHash P (Str.ofString "__annotations__"), .str (Str.ofString "__annotations__") 170, (.ref 6)⟩, ⟨PyData.keyHash P (Str.ofString "__builtins__"), .str (Str.ofString "__builtins__") 171, (.ref 4)⟩, ⟨PyData.keyHash P (Str.ofString "__file__"), .str (Str.ofString "__file__") 173, (.str (Str.ofString "/claim/cut.py") 172)⟩, ⟨PyData.keyHash P (Str.ofString "__cached__"), .str (Str.ofString "__cached__") 174, .none⟩] 9), #[]⟩
noncomputable def c_0 : Obj := ⟨.none, none, (.fields #[]), #[]⟩
noncomputable def l_0 (P : Params) : List Obj := [boot_o_0 P, boot_o_1 P, boot_o_2 P, m_0 P, boot_o_4 P, boot_o_5 P, boot_o_6 P, boot_o_7 P, boot_o_8 P, boot_o_9 P, boot_o_10 P, o_11 P, c_0, o_13 P, o_14 P]
noncomputable def S_0 (w : World) (os : OsState) : SharedT := ⟨tr (l_0 w.params) 10 1 0, 15, (boot_heap w.params).life, #[], boot_drawn, 187, os⟩
noncomputable def m_1 (P : Params) : Obj := ⟨(.type "dict"), none, (.dict #[⟨PyData.keyHash P (Str.ofString "__name__"), .str (Str.ofString "__name__") 165, (.str (Str.ofString "cpy313.stringprep") 222)⟩, ⟨PyData.keyHash P (Str.ofString "__doc__"), .str (Str.ofString "__doc__") 166, .none⟩, ⟨PyData.keyHash P (Str.ofString "__package__"), .str (Str.ofString "__package__") 167, .none⟩, ⟨PyData.keyHash P (Str.ofString "__loader__"), .str (Str.ofString "__loader__") 168, (.builtin "__main__.__loader__#opaque")⟩, ⟨PyData.keyHash P (Str.ofString "__spec__"), .str (Str.ofString "__spec__") 169, .none⟩, ⟨PyData.keyHash P (Str.ofString "__annotations__"), .str (Str.ofString "__annotations__") 170, (.ref 6)⟩, ⟨PyData.keyHash P (Str.ofString "__builtins__"), .str (Str.ofString "__builtins__") 171, (.ref 4)⟩, ⟨PyData.keyHash P (Str.ofString "__file__"), .str (Str.ofString "__file__") 173, (.str (Str.ofString "/claim/cut.py") 172)⟩, ⟨PyData.keyHash P (Str.ofString "__cached__"), .str (Str.ofString "__cached__") 174, .none⟩, ⟨PyData.keyHash P (Str.ofString "_parse_varint"), .str (Str.ofString "_parse_varint") 197, (.ref 21)⟩, ⟨PyData.keyHash P (Str.ofString "_int2digits"), .str (Str.ofString "_int2digits") 210, (.ref 28)⟩, ⟨PyData.keyHash P (Str.ofString "_digits2int"), .str (Str.ofString "_digits2int") 221, (.ref 35)⟩] 12), #[]⟩
noncomputable def c_1 : Obj := ⟨.none, none, (.fields #[(.int 2 0), (.int 0 0), (.ref 20), (.int 11 0), (.int 0 0), (.ref 27), (.int 27 0), (.int 0 0), (.ref 34)]), #[]⟩
noncomputable def l_1 (P : Params) : List Obj := [boot_o_0 P, boot_o_1 P, boot_o_2 P, m_1 P, boot_o_4 P, boot_o_5 P, boot_o_6 P, boot_o_7 P, boot_o_8 P, boot_o_9 P, boot_o_10 P, o_11 P, c_1, o_13 P, o_14 P, o_15 P, o_16 P, o_17 P, o_18 P, o_19 P, o_20 P, o_21 P, o_22 P, o_23 P, o_24 P, o_25 P, o_26 P, o_27 P, o_28 P, o_29 P, o_30 P, o_31 P, o_32 P, o_33 P, o_34 P, o_35 P]
noncomputable def S_1 (w : World) (os : OsState) : SharedT := ⟨tr (l_1 w.params) 10 1 0, 36, (boot_heap w.params).life, #[], boot_drawn, 224, os⟩
noncomputable def m_2 (P : Params) : Obj := ⟨(.type "dict"), none, (.dict #[⟨PyData.keyHash P (Str.ofString "__name__"), .str (Str.ofString "__name__") 165, (.str (Str.ofString "cpy313.stringprep") 222)⟩, ⟨PyData.keyHash P (Str.ofString "__doc__"), .str (Str.ofString "__doc__") 166, .none⟩, ⟨PyData.keyHash P (Str.ofString "__package__"), .str (Str.ofString "__package__") 167, .none⟩, ⟨PyData.keyHash P (Str.ofString "__loader__"), .str (Str.ofString "__loader__") 168, (.builtin "__main__.__loader__#opaque")⟩, ⟨PyData.keyHash P (Str.ofString "__spec__"), .str (Str.ofString "__spec__") 169, .none⟩, ⟨PyData.keyHash P (Str.ofString "__annotations__"), .str (Str.ofString "__annotations__") 170, (.ref 6)⟩, ⟨PyData.keyHash P (Str.ofString "__builtins__"), .str (Str.ofString "__builtins__") 171, (.ref 4)⟩, ⟨PyData.keyHash P (Str.ofString "__file__"), .str (Str.ofString "__file__") 173, (.str (Str.ofString "/claim/cut.py") 172)⟩, ⟨PyData.keyHash P (Str.ofString "__cached__"), .str (Str.ofString "__cached__") 174, .none⟩, ⟨PyData.keyHash P (Str.ofString "_parse_varint"), .str (Str.ofString "_parse_varint") 197, (.ref 21)⟩, ⟨PyData.keyHash P (Str.ofString "_int2digits"), .str (Str.ofString "_int2digits") 210, (.ref 28)⟩, ⟨PyData.keyHash P (Str.ofString "_digits2int"), .str (Str.ofString "_digits2int") 221, (.ref 35)⟩, ⟨PyData.keyHash P (Str.ofString "b1_set"), .str (Str.ofString "b1_set") 283, (.ref 43)⟩] 13), #[]⟩
noncomputable def c_2 : Obj := ⟨.none, none, (.fields #[(.int 2 0), (.int 0 0), (.ref 20), (.int 11 0), (.int 0 0), (.ref 27), (.int 27 0), (.int 0 0), (.ref 34)]), #[]⟩
noncomputable def l_2 (P : Params) : List Obj := [boot_o_0 P, boot_o_1 P, boot_o_2 P, m_2 P, boot_o_4 P, boot_o_5 P, boot_o_6 P, boot_o_7 P, boot_o_8 P, boot_o_9 P, boot_o_10 P, o_11 P, c_2, o_13 P, o_14 P, o_15 P, o_16 P, o_17 P, o_18 P, o_19 P, o_20 P, o_21 P, o_22 P, o_23 P, o_24 P, o_25 P, o_26 P, o_27 P, o_28 P, o_29 P, o_30 P, o_31 P, o_32 P, o_33 P, o_34 P, o_35 P, o_36 P, o_37 P, o_38 P, o_39 P, o_40 P, o_41 P, o_42 P, o_43 P, o_44 P, o_45 P, o_46 P]
noncomputable def S_2 (w : World) (os : OsState) : SharedT := ⟨tr (l_2 w.params) 10 1 0, 47, (boot_heap w.params).life, #[], boot_drawn, 284, os⟩
noncomputable def m_3 (P : Params) : Obj := ⟨(.type "dict"), none, (.dict #[⟨PyData.keyHash P (Str.ofString "__name__"), .str (Str.ofString "__name__") 165, (.str (Str.ofString "cpy313.stringprep") 222)⟩, ⟨PyData.keyHash P (Str.ofString "__doc__"), .str (Str.ofString "__doc__") 166, .none⟩, ⟨PyData.keyHash P (Str.ofString "__package__"), .str (Str.ofString "__package__") 167, .none⟩, ⟨PyData.keyHash P (Str.ofString "__loader__"), .str (Str.ofString "__loader__") 168, (.builtin "__main__.__loader__#opaque")⟩, ⟨PyData.keyHash P (Str.ofString "__spec__"), .str (Str.ofString "__spec__") 169, .none⟩, ⟨PyData.keyHash P (Str.ofString "__annotations__"), .str (Str.ofString "__annotations__") 170, (.ref 6)⟩, ⟨PyData.keyHash P (Str.ofString "__builtins__"), .str (Str.ofString "__builtins__") 171, (.ref 4)⟩, ⟨PyData.keyHash P (Str.ofString "__file__"), .str (Str.ofString "__file__") 173, (.str (Str.ofString "/claim/cut.py") 172)⟩, ⟨PyData.keyHash P (Str.ofString "__cached__"), .str (Str.ofString "__cached__") 174, .none⟩, ⟨PyData.keyHash P (Str.ofString "_parse_varint"), .str (Str.ofString "_parse_varint") 197, (.ref 21)⟩, ⟨PyData.keyHash P (Str.ofString "_int2digits"), .str (Str.ofString "_int2digits") 210, (.ref 28)⟩, ⟨PyData.keyHash P (Str.ofString "_digits2int"), .str (Str.ofString "_digits2int") 221, (.ref 35)⟩, ⟨PyData.keyHash P (Str.ofString "b1_set"), .str (Str.ofString "b1_set") 283, (.ref 43)⟩, ⟨PyData.keyHash P (Str.ofString "in_table_b1"), .str (Str.ofString "in_table_b1") 290, (.ref 53)⟩] 14), #[]⟩
noncomputable def c_3 : Obj := ⟨.none, none, (.fields #[(.int 2 0), (.int 0 0), (.ref 20), (.int 11 0), (.int 0 0), (.ref 27), (.int 27 0), (.int 0 0), (.ref 34), (.int 38 0), (.int 0 0), (.ref 52)]), #[]⟩
noncomputable def l_3 (P : Params) : List Obj := [boot_o_0 P, boot_o_1 P, boot_o_2 P, m_3 P, boot_o_4 P, boot_o_5 P, boot_o_6 P, boot_o_7 P, boot_o_8 P, boot_o_9 P, boot_o_10 P, o_11 P, c_3, o_13 P, o_14 P, o_15 P, o_16 P, o_17 P, o_18 P, o_19 P, o_20 P, o_21 P, o_22 P, o_23 P, o_24 P, o_25 P, o_26 P, o_27 P, o_28 P, o_29 P, o_30 P, o_31 P, o_32 P, o_33 P, o_34 P, o_35 P, o_36 P, o_37 P, o_38 P, o_39 P, o_40 P, o_41 P, o_42 P, o_43 P, o_44 P, o_45 P, o_46 P, o_47 P, o_48 P, o_49 P, o_50 P, o_51 P, o_52 P, o_53 P]
noncomputable def S_3 (w : World) (os : OsState) : SharedT := ⟨tr (l_3 w.params) 10 1 0, 54, (boot_heap w.params).life, #[], boot_drawn, 291, os⟩
noncomputable def m_4 (P : Params) : Obj := ⟨(.type "dict"), none, (.dict #[⟨PyData.keyHash P (Str.ofString "__name__"), .str (Str.ofString "__name__") 165, (.str (Str.ofString "cpy313.stringprep") 222)⟩, ⟨PyData.keyHash P (Str.ofString "__doc__"), .str (Str.ofString "__doc__") 166, .none⟩, ⟨PyData.keyHash P (Str.ofString "__package__"), .str (Str.ofString "__package__") 167, .none⟩, ⟨PyData.keyHash P (Str.ofString "__loader__"), .str (Str.ofString "__loader__") 168, (.builtin "__main__.__loader__#opaque")⟩, ⟨PyData.keyHash P (Str.ofString "__spec__"), .str (Str.ofString "__spec__") 169, .none⟩, ⟨PyData.keyHash P (Str.ofString "__annotations__"), .str (Str.ofString "__annotations__") 170, (.ref 6)⟩, ⟨PyData.keyHash P (Str.ofString "__builtins__"), .str (Str.ofString "__builtins__") 171, (.ref 4)⟩, ⟨PyData.keyHash P (Str.ofString "__file__"), .str (Str.ofString "__file__") 173, (.str (Str.ofString "/claim/cut.py") 172)⟩, ⟨PyData.keyHash P (Str.ofString "__cached__"), .str (Str.ofString "__cached__") 174, .none⟩, ⟨PyData.keyHash P (Str.ofString "_parse_varint"), .str (Str.ofString "_parse_varint") 197, (.ref 21)⟩, ⟨PyData.keyHash P (Str.ofString "_int2digits"), .str (Str.ofString "_int2digits") 210, (.ref 28)⟩, ⟨PyData.keyHash P (Str.ofString "_digits2int"), .str (Str.ofString "_digits2int") 221, (.ref 35)⟩, ⟨PyData.keyHash P (Str.ofString "b1_set"), .str (Str.ofString "b1_set") 283, (.ref 43)⟩, ⟨PyData.keyHash P (Str.ofString "in_table_b1"), .str (Str.ofString "in_table_b1") 290, (.ref 53)⟩, ⟨PyData.keyHash P (Str.ofString "b3_exceptions"), .str (Str.ofString "b3_exceptions") 2241, (.ref 54)⟩] 15), #[]⟩
noncomputable def c_4 : Obj := ⟨.none, none, (.fields #[(.int 2 0), (.int 0 0), (.ref 20), (.int 11 0), (.int 0 0), (.ref 27), (.int 27 0), (.int 0 0), (.ref 34), (.int 38 0), (.int 0 0), (.ref 52)]), #[]⟩
noncomputable def l_4 (P : Params) : List Obj := [boot_o_0 P, boot_o_1 P, boot_o_2 P, m_4 P, boot_o_4 P, boot_o_5 P, boot_o_6 P, boot_o_7 P, boot_o_8 P, boot_o_9 P, boot_o_10 P, o_11 P, c_4, o_13 P, o_14 P, o_15 P, o_16 P, o_17 P, o_18 P, o_19 P, o_20 P, o_21 P, o_22 P, o_23 P, o_24 P, o_25 P, o_26 P, o_27 P, o_28 P, o_29 P, o_30 P, o_31 P, o_32 P, o_33 P, o_34 P, o_35 P, o_36 P, o_37 P, o_38 P, o_39 P, o_40 P, o_41 P, o_42 P, o_43 P, o_44 P, o_45 P, o_46 P, o_47 P, o_48 P, o_49 P, o_50 P, o_51 P, o_52 P, o_53 P] ++ (dicts ++ [])
noncomputable def S_4 (w : World) (os : OsState) : SharedT := ⟨tr (l_4 w.params) 10 1 0, 93, (boot_heap w.params).life, #[], boot_drawn, 2242, os⟩
noncomputable def m_5 (P : Params) : Obj := ⟨(.type "dict"), none, (.dict #[⟨PyData.keyHash P (Str.ofString "__name__"), .str (Str.ofString "__name__") 165, (.str (Str.ofString "law_rw0085_01") 2250)⟩, ⟨PyData.keyHash P (Str.ofString "__doc__"), .str (Str.ofString "__doc__") 166, .none⟩, ⟨PyData.keyHash P (Str.ofString "__package__"), .str (Str.ofString "__package__") 167, .none⟩, ⟨PyData.keyHash P (Str.ofString "__loader__"), .str (Str.ofString "__loader__") 168, (.builtin "__main__.__loader__#opaque")⟩, ⟨PyData.keyHash P (Str.ofString "__spec__"), .str (Str.ofString "__spec__") 169, .none⟩, ⟨PyData.keyHash P (Str.ofString "__annotations__"), .str (Str.ofString "__annotations__") 170, (.ref 6)⟩, ⟨PyData.keyHash P (Str.ofString "__builtins__"), .str (Str.ofString "__builtins__") 171, (.ref 4)⟩, ⟨PyData.keyHash P (Str.ofString "__file__"), .str (Str.ofString "__file__") 173, (.str (Str.ofString "/claim/cut.py") 172)⟩, ⟨PyData.keyHash P (Str.ofString "__cached__"), .str (Str.ofString "__cached__") 174, .none⟩, ⟨PyData.keyHash P (Str.ofString "_parse_varint"), .str (Str.ofString "_parse_varint") 197, (.ref 21)⟩, ⟨PyData.keyHash P (Str.ofString "_int2digits"), .str (Str.ofString "_int2digits") 210, (.ref 28)⟩, ⟨PyData.keyHash P (Str.ofString "_digits2int"), .str (Str.ofString "_digits2int") 221, (.ref 35)⟩, ⟨PyData.keyHash P (Str.ofString "b1_set"), .str (Str.ofString "b1_set") 283, (.ref 43)⟩, ⟨PyData.keyHash P (Str.ofString "in_table_b1"), .str (Str.ofString "in_table_b1") 290, (.ref 53)⟩, ⟨PyData.keyHash P (Str.ofString "b3_exceptions"), .str (Str.ofString "b3_exceptions") 2241, (.ref 54)⟩, ⟨PyData.keyHash P (Str.ofString "map_table_b3"), .str (Str.ofString "map_table_b3") 2249, (.ref 99)⟩, ⟨PyData.keyHash P (Str.ofString "_law_hidden"), .str (Str.ofString "_law_hidden") 2257, (.ref 106)⟩, ⟨PyData.keyHash P (Str.ofString "_law_alphabet"), .str (Str.ofString "_law_alphabet") 2263, (.ref 111)⟩, ⟨PyData.keyHash P (Str.ofString "_law_gaps"), .str (Str.ofString "_law_gaps") 2269, (.ref 118)⟩, ⟨PyData.keyHash P (Str.ofString "_law_spelled"), .str (Str.ofString "_law_spelled") 2280, (.ref 125)⟩, ⟨PyData.keyHash P (Str.ofString "_law_drawn"), .str (Str.ofString "_law_drawn") 2302, (.ref 132)⟩, ⟨PyData.keyHash P (Str.ofString "_law_octets"), .str (Str.ofString "_law_octets") 2308, (.ref 137)⟩, ⟨PyData.keyHash P (Str.ofString "_law_read"), .str (Str.ofString "_law_read") 2317, (.ref 144)⟩, ⟨PyData.keyHash P (Str.ofString "_law_pairs"), .str (Str.ofString "_law_pairs") 2323, (.ref 149)⟩, ⟨PyData.keyHash P (Str.ofString "law"), .str (Str.ofString "law") 2329, (.ref 154)⟩] 25), #[]⟩
noncomputable def c_5 : Obj := ⟨.none, none, (.fields #[(.int 2 0), (.int 0 0), (.ref 20), (.int 11 0), (.int 0 0), (.ref 27), (.int 27 0), (.int 0 0), (.ref 34), (.int 38 0), (.int 0 0), (.ref 52), (.int 41 0), (.int 0 0), (.ref 98), (.int 47 0), (.int 0 0), (.ref 105), (.int 49 0), (.int 0 0), (.ref 110), (.int 52 0), (.int 0 0), (.ref 117), (.int 54 0), (.int 0 0), (.ref 124), (.int 61 0), (.int 0 0), (.ref 131), (.int 84 0), (.int 0 0), (.ref 136), (.int 87 0), (.int 0 0), (.ref 143), (.int 95 0), (.int 0 0), (.ref 148), (.int 98 0), (.int 0 0), (.ref 153)]), #[]⟩
noncomputable def l_5 (P : Params) : List Obj := [boot_o_0 P, boot_o_1 P, boot_o_2 P, m_5 P, boot_o_4 P, boot_o_5 P, boot_o_6 P, boot_o_7 P, boot_o_8 P, boot_o_9 P, boot_o_10 P, o_11 P, c_5, o_13 P, o_14 P, o_15 P, o_16 P, o_17 P, o_18 P, o_19 P, o_20 P, o_21 P, o_22 P, o_23 P, o_24 P, o_25 P, o_26 P, o_27 P, o_28 P, o_29 P, o_30 P, o_31 P, o_32 P, o_33 P, o_34 P, o_35 P, o_36 P, o_37 P, o_38 P, o_39 P, o_40 P, o_41 P, o_42 P, o_43 P, o_44 P, o_45 P, o_46 P, o_47 P, o_48 P, o_49 P, o_50 P, o_51 P, o_52 P, o_53 P] ++ (dicts ++ [o_93 P, o_94 P, o_95 P, o_96 P, o_97 P, o_98 P, o_99 P, o_100 P, o_101 P, o_102 P, o_103 P, o_104 P, o_105 P, o_106 P, o_107 P, o_108 P, o_109 P, o_110 P, o_111 P, o_112 P, o_113 P, o_114 P, o_115 P, o_116 P, o_117 P, o_118 P, o_119 P, o_120 P, o_121 P, o_122 P, o_123 P, o_124 P, o_125 P, o_126 P, o_127 P, o_128 P, o_129 P, o_130 P, o_131 P, o_132 P, o_133 P, o_134 P, o_135 P, o_136 P, o_137 P, o_138 P, o_139 P, o_140 P, o_141 P, o_142 P, o_143 P, o_144 P, o_145 P, o_146 P, o_147 P, o_148 P, o_149 P, o_150 P, o_151 P, o_152 P, o_153 P, o_154 P])
noncomputable def S_5 (w : World) (os : OsState) : SharedT := ⟨tr (l_5 w.params) 10 1 0, 155, (boot_heap w.params).life, #[], boot_drawn, 2330, os⟩
noncomputable def S0 (w : World) (os : OsState) : Shared := ⟨boot_heap w.params, Array.mk [], boot_drawn, boot_toks, os⟩
noncomputable def sts (a n : Nat) : List Stmt := (bodyS.drop a).take n
/-- the run by the library's quick twins -/
noncomputable def runT (n : Nat) (w : World) (S : SharedT) (l : List Stmt) (pos : Pos) := PySem.W.Fast.tw10110043849684766642 PySem.W.Fast.tw14364793385576792824 PR w 11 an 1 n S (piecesOf l env1 cE pos [topFrame q0])
theorem run_of {n : Nat} {w : World} {S S' : SharedT} {l : List Stmt} {pos pos' : Pos} (h : runT n w S l pos = some (.next, S', cE, pos')) : segRun treeTable PR w 11 an 1 n S.abs (piecesOf l env1 cE pos [topFrame q0]) = some (.next, S'.abs, cE, pos') := by
  refine segRun_of ?_
  rw [PySem.W.Fast.te10110043849684766642, PySem.W.Fast.te14364793385576792824]
  exact h
theorem run_pre (w : World) (os : OsState) : topGo treeTable PR w 11 an 12 (S0 w os) (topStub PR) = some ((S_0 w os).abs, ⟨denote treeTable cE, cE, q0, [topFrame q0]⟩) := by kernel_rfl
theorem run_block (w : World) (os : OsState) : segRun treeTable PR w 11 an 1 1 (S_0 w os).abs (blockOf bodyS env1 cE q0 [topFrame q0]) = some (.next, (S_0 w os).abs, cE, q0) := by kernel_rfl
theorem run_1 (w : World) (os : OsState) : runT 125 w (S_0 w os) (sts 0 6) q0 = some (.next, S_1 w os, cE, ⟨36, 0, 36, 8⟩) := by kernel_rfl
noncomputable def P2 (w : World) : Prop := (fun os => runT 999 w (S_1 w os) (sts 6 1) ⟨36, 0, 36, 8⟩) = fun os => some (.next, S_2 w os, cE, ⟨37, 0, 37, 6⟩)
theorem run2ff (w : World) : P2 ((w.withFollow "special-get-raises" false).withFollow "set-order" false) := by unfold P2; kernel_rfl
theorem run2tf (w : World) : P2 ((w.withFollow "special-get-raises" true).withFollow "set-order" false) := by unfold P2; kernel_rfl
theorem run2ft (w : World) : P2 ((w.withFollow "special-get-raises" false).withFollow "set-order" true) := by unfold P2; kernel_rfl
theorem run2tt (w : World) : P2 ((w.withFollow "special-get-raises" true).withFollow "set-order" true) := by unfold P2; kernel_rfl
theorem run_2 (w : World) : P2 w :=
  byRow2 (P := P2) "set-order" (fun w => byRow2 (P := fun w => P2 (w.withFollow "set-order" false)) "special-get-raises" run2ff run2tf w)
   (fun w => byRow2 (P := fun w => P2 (w.withFollow "set-order" true)) "special-get-raises" run2ft run2tt w) w
theorem run_3 (w : World) (os : OsState) : runT 30 w (S_2 w os) (sts 7 1) ⟨37, 0, 37, 6⟩ = some (.next, S_3 w os, cE, ⟨38, 0, 39, 30⟩) := by kernel_rfl
end
end Mine
end

section
open PySem PySem.W PyProof.Rows PySem.Calls
set_option Elab.async false
set_option linter.unusedVariables false
set_option maxRecDepth 100000
set_option maxHeartbeats 0
namespace Mine
noncomputable section
noncomputable abbrev tgt : List Expr := [.Name (Str.ofString "b3_exceptions") tabN]
noncomputable abbrev dctE : Expr := .Dict tabK tabV tabP
noncomputable abbrev stD : Stmt := .Assign tgt dctE tabA
noncomputable def tailD (v : Value) : Sem Flow := do assignStores env1 v (← swappedStores tgt dctE env1) ((assignEach tgt env1).map (·.2))
theorem exec_tab : exec stD env1 = (do standAt tabA; let v ← eval dctE env1; tailD v) := by kernel_rfl
theorem sts_tab : sts 8 1 = [stD] := by kernel_rfl
theorem kv_shape : shape tabK tabV = some (K0 ++ (KS.flatten ++ KL)) := by kernel_rfl
theorem kv_17 : ∀ k ∈ KS, k.length = 17 := by
  have h : KS.all (fun k => k.length == 17) = true := by kernel_rfl
  exact fun k hk => beq_iff_eq.mp (List.all_eq_true.mp h k hk)
theorem kv_fresh : Fresh [] (K0 ++ (KS.flatten ++ KL)) := rising_nodup _ (by kernel_rfl)
theorem kl_ne : KL ≠ [] := fun h => absurd (congrArg List.length h) (by rw [show KL.length = 4 by kernel_rfl]; decide)
theorem run_tail (w : World) (os : OsState) (K : Flow → Sem PySem.Fin) (H : Value → Sem PySem.Fin) (gd : Bool → Bool) (lv : List Value → List Value) (N : Nat) :
    topRun treeTable PR w 11 an (N + 7) (disp K0 KS KL (S_3 w os).abs) ⟨(tailD (.ref 54)).wrap K H gd lv, cE, tabP, [topFrame q0]⟩ =
    topRun treeTable PR w 11 an N (S_4 w os).abs ⟨K .next, cE, ⟨40, 0, 40, 13⟩, [topFrame q0]⟩ := by kernel_rfl
theorem go_tab (w : World) (os : OsState) : Go PR w 11 an bodyS env1 q0 (exec stD env1) ⟨38, 0, 39, 30⟩ (S_3 w os).abs 12524 .next ⟨40, 0, 40, 13⟩ (S_4 w os).abs := by
  rw [exec_tab]
  have hz : (S_3 w os).abs.heap.objs.size = 54 := absHeap_size _ _ _
  have g := go_table (p := PR) (w := w) (n₀ := 11) (ann := an) (b := bodyS) (env := env1) (q := q0) (dp := tabP) (s := (S_3 w os).abs) (pos := tabA) kv_shape (by kernel_rfl) kv_17 (by rw [show KL.length = 4 by kernel_rfl]; decide) kl_ne
    (by rw [hz]; rfl) (by rw [hz]; decide) kv_fresh (by rw [show KS.flatten.length = 629 by kernel_rfl, sizeLine_eq]; decide)
  rw [hz, show 6 * KL.length + 5 + (10 * KL.length + 3 * KL.length + 1) + (330 * KS.length + 223) + 1 = 12516 by rw [show KL.length = 4 by kernel_rfl, show KS.length = 37 by kernel_rfl]] at g
  have g2 : Go PR w 11 an bodyS env1 q0 (tailD (.ref 54)) tabP (disp K0 KS KL (S_3 w os).abs) 7 .next ⟨40, 0, 40, 13⟩ (S_4 w os).abs := fun K H gd lv N r h => (run_tail w os K H gd lv N).trans h
  have e : (12524 : Nat) = 7 + 12516 + 1 := rfl
  rw [e]
  exact go_bind go_at (go_bind g g2)
theorem run_5 (w : World) (os : OsState) : runT 308 w (S_4 w os) (sts 9 11) ⟨40, 0, 40, 13⟩ = some (.next, S_5 w os, cE, ⟨98, 0, 128, 86⟩) := by kernel_rfl
theorem run_fin (w : World) (os : OsState) : topRun treeTable PR w 11 an 2 (S_5 w os).abs ⟨doneF .next, cE, ⟨98, 0, 128, 86⟩, [topFrame q0]⟩ = some (S_5 w os).abs := by kernel_rfl
theorem body_split : bodyS = sts 0 6 ++ (sts 6 1 ++ (sts 7 1 ++ (stD :: (sts 9 11 ++ [])))) := by kernel_rfl
/-- the whole top's run -/
theorem run_all (w : World) (os : OsState) : topRun treeTable PR w 11 an (12 + (1 + (125 + (999 + (30 + (12524 + (308 + 2))))))) (S0 w os) (topStub PR) = some (S_5 w os).abs := by
  refine go_top (run_pre w os) (piece_block (run_block w os) ?_)
  have e : restOf bodyS env1 cE q0 [topFrame q0] = restOf (sts 0 6 ++ (sts 6 1 ++ (sts 7 1 ++ (stD :: (sts 9 11 ++ []))))) env1 cE q0 [topFrame q0] := congrArg (fun b => restOf b env1 cE q0 [topFrame q0]) body_split
  rw [e]
  refine piece_app (run_of (run_1 w os)) (piece_app (run_of (congrFun (run_2 w) os)) (piece_app (run_of (run_3 w os)) ?_))
  have k : topRun treeTable PR w 11 an (308 + 2) (S_4 w os).abs (restOf (sts 9 11 ++ []) env1 cE ⟨40, 0, 40, 13⟩ [topFrame q0]) = some (S_5 w os).abs := piece_app (run_of (run_5 w os)) (piece_nil (run_fin w os))
  rw [Nat.add_comm 12524]
  unfold restOf
  rw [execs_cons_wrap]
  exact go_tab w os _ _ _ _ _ _ k
end
end Mine
end

section
open PySem PySem.W PyProof.Rows PySem.Calls
set_option Elab.async false
set_option linter.unusedVariables false
set_option maxRecDepth 100000
set_option maxHeartbeats 0
namespace Mine
noncomputable section
noncomputable def qV : Program := view PR [1, 3, 4, 6, 7, 8, 9, 11, 12, 13, 14, 15, 16, 17, 18, 19]
noncomputable abbrev looseS : List Str := [Str.ofString "b1_set", Str.ofString "b3_exceptions"]
noncomputable def KF (P : Params) : Frag := (nat_lit 2, boot_o_2 P) :: (nat_lit 3, m_5 P) :: (nat_lit 6, boot_o_6 P) :: (nat_lit 15, o_15 P) :: (nat_lit 17, o_17 P) :: (nat_lit 18, o_18 P) :: (nat_lit 20, o_20 P) :: (nat_lit 21, o_21 P) :: (nat_lit 22, o_22 P) :: (nat_lit 24, o_24 P) :: (nat_lit 25, o_25 P) :: (nat_lit 27, o_27 P) :: (nat_lit 28, o_28 P) :: (nat_lit 29, o_29 P) :: (nat_lit 31, o_31 P) :: (nat_lit 32, o_32 P) :: (nat_lit 34, o_34 P) :: (nat_lit 35, o_35 P) :: (nat_lit 43, o_43 P) :: (nat_lit 47, o_47 P) :: (nat_lit 49, o_49 P) :: (nat_lit 50, o_50 P) :: (nat_lit 52, o_52 P) :: (nat_lit 53, o_53 P) :: (nat_lit 54, dObj (dispE 291 K0 KS KL).toArray 650) :: (nat_lit 93, o_93 P) :: (nat_lit 95, o_95 P) :: (nat_lit 96, o_96 P) :: (nat_lit 98, o_98 P) :: (nat_lit 99, o_99 P) :: (nat_lit 100, o_100 P) :: (nat_lit 102, o_102 P) :: (nat_lit 103, o_103 P) :: (nat_lit 105, o_105 P) :: (nat_lit 106, o_106 P) :: (nat_lit 107, o_107 P) :: (nat_lit 110, o_110 P) :: (nat_lit 111, o_111 P) :: (nat_lit 112, o_112 P) :: (nat_lit 114, o_114 P) :: (nat_lit 115, o_115 P) :: (nat_lit 117, o_117 P) :: (nat_lit 118, o_118 P) :: (nat_lit 119, o_119 P) :: (nat_lit 121, o_121 P) :: (nat_lit 122, o_122 P) :: (nat_lit 124, o_124 P) :: (nat_lit 125, o_125 P) :: (nat_lit 126, o_126 P) :: (nat_lit 128, o_128 P) :: (nat_lit 129, o_129 P) :: (nat_lit 131, o_131 P) :: (nat_lit 132, o_132 P) :: (nat_lit 133, o_133 P) :: (nat_lit 136, o_136 P) :: (nat_lit 137, o_137 P) :: (nat_lit 138, o_138 P) :: (nat_lit 140, o_140 P) :: (nat_lit 141, o_141 P) :: (nat_lit 143, o_143 P) :: (nat_lit 144, o_144 P) :: (nat_lit 145, o_145 P) :: (nat_lit 148, o_148 P) :: (nat_lit 149, o_149 P) :: (nat_lit 150, o_150 P) :: (nat_lit 153, o_153 P) :: (nat_lit 154, o_154 P) :: []
noncomputable abbrev asF : List Addr := [2, 3, 6, 15, 17, 18, 20, 21, 22, 24, 25, 27, 28, 29, 31, 32, 34, 35, 43, 47, 49, 50, 52, 53, 54, 93, 95, 96, 98, 99, 100, 102, 103, 105, 106, 107, 110, 111, 112, 114, 115, 117, 118, 119, 121, 122, 124, 125, 126, 128, 129, 131, 132, 133, 136, 137, 138, 140, 141, 143, 144, 145, 148, 149, 150, 153, 154]
theorem asF_is (P : Params) : asF = (KF P).map (·.1) := by kernel_rfl
noncomputable abbrev HK : Hook := kmHook KF asF asF_is [30, 23]
noncomputable abbrev XtF (s : Shared) : Bool := xlAt qV [] s && recOk (RowW.records PySem.Challenge.rw_rw0085_01.row.toRowW) s
noncomputable abbrev H1 (P : Params) : Heap := absHeap (tr (l_5 P) 10 1 0) 155 (boot_heap P).life
theorem e_open : opening PR = plainProg PR.main.scope.names := by kernel_rfl
theorem e_fence (s : Shared) : fenceModules? PR s = some s := by kernel_rfl
theorem left_open (w : World) : (fencedOpening treeTable PR w 30000).map (fun s => (s.heap, s.gens, s.drawn, s.toks)) = some (boot_heap w.params, Array.mk [], boot_drawn, boot_toks) := boot_open e_open (by decide) e_fence w
theorem left_size (w : World) : ((boot_heap w.params).isNs mainGlobals && (Array.mk ([] : List GenState)).size == 0, (boot_heap w.params).objs.size, (boot_heap w.params).nsMap mainGlobals "__annotations__") = (true, 11, an) := by kernel_rfl
theorem left_run (w : World) (os : OsState) : topRun treeTable PR w 11 an (12 + (1 + (125 + (999 + (30 + (12524 + (308 + 2))))))) ⟨boot_heap w.params, Array.mk [], boot_drawn, boot_toks, os⟩ (topStub PR) = some ⟨H1 w.params, #[], boot_drawn, 2330, os⟩ := run_all w os
noncomputable abbrev mods : List Str := importedModules PR.main.body
theorem look_1 (w : World) (os : OsState) : (staticsOk mods (boot_heap w.params) (H1 w.params) && namesBound PR (H1 w.params) && gensDone ⟨H1 w.params, #[], boot_drawn, 2330, os⟩ && laidKept (boot_heap w.params) (H1 w.params)) = true := by kernel_rfl
theorem look_2 (w : World) (os : OsState) : PySem.W.Fast.tw4187177175401517315 qV looseS mods XtF true ⟨H1 w.params, #[], boot_drawn, 2330, os⟩ = openGood qV looseS := by kernel_rfl
theorem look_2' (w : World) (os : OsState) : openSeen qV looseS mods XtF true ⟨H1 w.params, #[], boot_drawn, 2330, os⟩ = openGood qV looseS := by
  rw [PySem.W.Fast.te4187177175401517315]; exact look_2 w os
theorem look_3 (w : World) (os : OsState) : HK.obs ⟨H1 w.params, #[], boot_drawn, 2330, os⟩ = HK.val w := by kernel_rfl
theorem left : LeftO PR qV looseS XtF HK.obs HK.val 30000 :=
  LeftO.of_pieces left_open left_size left_run (by decide) fun w => funext fun os => by rw [look_1 w os, look_2' w os, look_3 w os]
end
end Mine
end

section
open PySem PySem.W PyProof.Rows PySem.Spec PySem.Calls
set_option Elab.async false
set_option linter.unusedVariables false
set_option maxRecDepth 100000
set_option maxHeartbeats 2000000
namespace Mine
open LCg
section
variable {prog : Program} {w : World} {A : Around} {E : Value → Shared → Prop} {R : Result → Shared → Prop} {s : Shared}

noncomputable abbrev testsT (ifs : List Expr) (env : Env) : Sem Bool := forIn ifs true fun c r => if r = true then do let ok ← isTrue c env (eval c env); pure (ForInStep.yield ok) else pure (ForInStep.yield r)

/-- the innermost loop's rule -/
noncomputable def LoopRule (prog : Program) (w : World) (A : Around) (c : Code) (target : Expr) (ifs : List Expr) (elt : Expr) (it acc : Value) (env : Env) : Prop :=
  ∀ (R : Result → Shared → Prop) (s : Shared) (I : Nat → Shared → Prop),
    (∀ n s, I n s → wpAny (model prog w) A (pyNext it) (fun r s₁ => match r with
      | none => R (.ok .next) s₁
      | some v => wpAny (model prog w) A (assign target env v) (fun _ s₂ =>
          wpAny (model prog w) A (testsT ifs env) (fun ok s₃ =>
            if ok = true then wpAny (model prog w) A (eval elt env) (fun x s₄ =>
              wpAny (model prog w) A (call (.builtin "list.append") [acc, x]) (fun _ s₅ => ∃ m, m < n ∧ I m s₅) (notedBy (model prog w) A env fun e s' => R (.error e) s') s₄) (notedBy (model prog w) A env fun e s' => R (.error e) s') s₃
            else ∃ m, m < n ∧ I m s₃) (notedBy (model prog w) A env fun e s' => R (.error e) s') s₂) (notedBy (model prog w) A env fun e s' => R (.error e) s') s₁) (notedBy (model prog w) A env fun e s' => R (.error e) s') s) →
    ∀ n, I n s → codeAny (model prog w) A c R s

theorem rule_one {elt iter : Expr} {x : Str} {px : Pos} {ifs : List Expr} {scope : Scope} {pos : Pos} {it acc : Value} {env : Env} :
    LoopRule prog w A (.compLoop (.ListComp elt [⟨.Name x px, iter, ifs, 0⟩] scope pos) 0 it acc env) (.Name x px) ifs elt it acc env :=
  fun R s I turn n h => codeAny_compLoop_tests I turn n h

section two
variable {elt t1 i1 t2 i2 : Expr} {ifs1 ifs2 : List Expr} {scope : Scope} {pos : Pos} {it acc : Value} {env : Env}
noncomputable abbrev two (elt t1 i1 : Expr) (ifs1 : List Expr) (t2 i2 : Expr) (ifs2 : List Expr) (scope : Scope) (pos : Pos) : Expr := .ListComp elt [⟨t1, i1, ifs1, 0⟩, ⟨t2, i2, ifs2, 0⟩] scope pos
theorem compTurn2_1 : compTurn (two elt t1 i1 ifs1 t2 i2 ifs2 scope pos) 1 it acc env = (do
      standAt i2.pos
      match ← pyNext it with
      | none => pure (.done .next)
      | some v =>
        letOwnedTupleGo t2 it v
        assign t2 env v
        let mut ok := true
        for c in ifs2 do
          if ok then ok ← isTrue c env (eval c env)
        if ok then
          (do let _ ← call (.builtin "list.append") [acc, ← eval elt env])
        again (.compLoop (two elt t1 i1 ifs1 t2 i2 ifs2 scope pos) 1 it acc env)) := by rfl
theorem compTurn2_0 : compTurn (two elt t1 i1 ifs1 t2 i2 ifs2 scope pos) 0 it acc env = (do
      standAt i1.pos
      match ← pyNext it with
      | none => pure (.done .next)
      | some v =>
        letOwnedTupleGo t1 it v
        assign t1 env v
        let mut ok := true
        for c in ifs1 do
          if ok then ok ← isTrue c env (eval c env)
        if ok then
          let x ← eval i2 env
          standAt i2.pos
          let x ← foldedSetIterable i2 env x
          let _ ← runOwn (.compStart (two elt t1 i1 ifs1 t2 i2 ifs2 scope pos) 1 (← holding [x] (pyIter x)) acc env) env
        again (.compLoop (two elt t1 i1 ifs1 t2 i2 ifs2 scope pos) 0 it acc env)) := by rfl
theorem rule_two (ht : ∀ v, letOwnedTupleGo t2 it v = pure () := by intro _; rfl) :
    LoopRule prog w A (.compLoop (two elt t1 i1 ifs1 t2 i2 ifs2 scope pos) 1 it acc env) t2 ifs2 elt it acc env := by
  intro R s I turn n h
  refine codeAny_loop rfl I (fun n s hI => ?_) n h
  show wpAny _ A ((compTurn (two elt t1 i1 ifs1 t2 i2 ifs2 scope pos) 1 it acc env).onRaise (fun x => do noteFrame x env; theTreesLotGoes x)) _ _ s
  refine wpAny_noted ?_
  rw [compTurn2_1]
  refine wpAny_bind (wpAny_standAt (wpAny_bind (wpAny_mono (turn n s hI) (fun r s₁ h₁ => ?_) fun _ _ h' => h')))
  cases r with
  | none => exact wpAny_pure h₁
  | some v =>
    refine wpAny_bind (wpAny_of_eq (ht v) ?_)
    refine wpAny_bind (wpAny_mono h₁ (fun _ s₂ h₂ => wpAny_bind (wpAny_mono h₂ (fun ok s₃ h₃ => ?_) fun _ _ h' => h')) fun _ _ h' => h')
    cases ok with
    | false => exact wpAny_pure ⟨rfl, h₃⟩
    | true =>
      exact wpAny_bind (wpAny_bind (wpAny_mono h₃ (fun x s₄ h₄ => wpAny_bind (wpAny_mono h₄ (fun _ s₅ h₅ => wpAny_pure (wpAny_pure ⟨rfl, h₅⟩)) fun _ _ h' => h')) fun _ _ h' => h'))
/-- the outer loop -/
theorem loop_two (I : Nat → Shared → Prop)
    (turn : ∀ n s, I n s → wpAny (model prog w) A (pyNext it) (fun r s₁ => match r with
      | none => R (.ok .next) s₁
      | some v => wpAny (model prog w) A (assign t1 env v) (fun _ s₂ =>
          wpAny (model prog w) A (testsT ifs1 env) (fun ok s₃ =>
            if ok = true then wpAny (model prog w) A (eval i2 env) (fun x s₄ => wpAny (model prog w) A (pyIter x) (fun it' s₅ =>
              codeAny (model prog w) A (.compStart (two elt t1 i1 ifs1 t2 i2 ifs2 scope pos) 1 it' acc env) (fun r s₆ => match r with
                | .ok _ => ∃ m, m < n ∧ I m s₆
                | .error e => False) s₅) (notedBy (model prog w) A env fun e s' => R (.error e) s') s₄) (notedBy (model prog w) A env fun e s' => R (.error e) s') s₃
            else ∃ m, m < n ∧ I m s₃) (notedBy (model prog w) A env fun e s' => R (.error e) s') s₂) (notedBy (model prog w) A env fun e s' => R (.error e) s') s₁) (notedBy (model prog w) A env fun e s' => R (.error e) s') s)
    (n : Nat) (h : I n s) (ht : ∀ v, letOwnedTupleGo t1 it v = pure () := by intro _; rfl) (hs : ∀ x, foldedSetIterable i2 env x = pure x := by intro _; rfl) :
    codeAny (model prog w) A (.compLoop (two elt t1 i1 ifs1 t2 i2 ifs2 scope pos) 0 it acc env) R s := by
  refine codeAny_loop rfl I (fun n s hI => ?_) n h
  show wpAny _ A ((compTurn (two elt t1 i1 ifs1 t2 i2 ifs2 scope pos) 0 it acc env).onRaise (fun x => do noteFrame x env; theTreesLotGoes x)) _ _ s
  refine wpAny_noted ?_
  rw [compTurn2_0]
  refine wpAny_bind (wpAny_standAt (wpAny_bind (wpAny_mono (turn n s hI) (fun r s₁ h₁ => ?_) fun _ _ h' => h')))
  cases r with
  | none => exact wpAny_pure h₁
  | some v =>
    refine wpAny_bind (wpAny_of_eq (ht v) ?_)
    refine wpAny_bind (wpAny_mono h₁ (fun _ s₂ h₂ => wpAny_bind (wpAny_mono h₂ (fun ok s₃ h₃ => ?_) fun _ _ h' => h')) fun _ _ h' => h')
    cases ok with
    | false => exact wpAny_pure ⟨rfl, h₃⟩
    | true =>
      refine wpAny_bind (wpAny_mono h₃ (fun x s₄ h₄ => wpAny_bind (wpAny_standAt (wpAny_bind (wpAny_of_eq (hs x) (wpAny_bind (wpAny_holding (wpAny_mono h₄ (fun it' s₅ h₅ => ?_) fun _ _ h' => h'))))))) fun _ _ h' => h')
      refine wpAny_bind (wpAny_runOwn (codeAny_mono h₅ fun r s₆ h₆ => ?_))
      cases r with
      | ok f => exact wpAny_pure ⟨rfl, h₆⟩
      | error e => exact h₆.elim
theorem start_two {I : Addr} (h0 : codeAny (model prog w) A (.compLoop (two elt t1 i1 ifs1 t2 i2 ifs2 scope pos) 1 it acc env) R s)
    (h : wpAny (model prog w) A (pyIter it) (fun it' s' => codeAny (model prog w) A (.compLoop (two elt t1 i1 ifs1 t2 i2 ifs2 scope pos) 1 it' acc env) R s')
      (notedBy (model prog w) A env fun x s' => R (.error x) s') s) :
    codeAny (model prog w) A (.compStart (two elt t1 i1 ifs1 t2 i2 ifs2 scope pos) 1 it acc env) R s := by
  refine codeAny_of_tree ?_
  show wpAny _ _ ((compStart (two elt t1 i1 ifs1 t2 i2 ifs2 scope pos) 1 it acc env).onRaise (fun x => do noteFrame x env; standAt theWindowsPlace)) _ _ s
  refine wpAny_notedAt ?_
  unfold compStart
  show wpAny _ _ (ask >>= _) _ _ s
  refine wpAny_bind (wpAny_askSetting (wpAny_ite ?_))
  split
  · first
      | exact wpAny_bind (wpAny_pure (wpAny_pure (And.intro rfl h0)))
      | exact wpAny_pure (And.intro rfl h0)
  · first
      | exact wpAny_bind (wpAny_rule (wpAny_bind (wpAny_standAt (wpAny_bind (wpAny_mono h (fun it' s' h' => wpAny_pure (And.intro rfl h')) fun _ _ x => x)))))
      | (refine wpAny_bind (wpAny_rule ?_); show wpAny _ _ (standAt i2.pos >>= _) _ _ s; exact wpAny_bind (wpAny_standAt (wpAny_bind (wpAny_mono h (fun it' s' h' => wpAny_pure (And.intro rfl h')) fun _ _ x => x))))
end two
end
end Mine
end

section
open PySem PySem.W PyProof.Rows PySem.Spec PySem.Calls
set_option Elab.async false
set_option linter.unusedVariables false
set_option maxRecDepth 100000
set_option maxHeartbeats 2000000
namespace Mine
open LCg
/-- where a turn ends -/
noncomputable def CEnd (h₀ : Heap) (L : Addr) (m : Str → Option Value) (s₁ : Shared) (I C D : Addr) (K : List Value → List (Addr × Obj) → Prop) (s₂ : Shared) : Prop :=
  ∃ h' tk oI oC m₂ ys news', s₂ = { s₁ with heap := h', toks := tk } ∧ Fr h₀ L h' m ∧ NsObj oC m₂ ∧ News h₀ L h' ((I, oI) :: (C, oC) :: (D, lst ys) :: news') ∧ Off3 I C D news' ∧ K ys news'
/-- where an element's reckoning ends -/
noncomputable def EEnd (h₀ : Heap) (L : Addr) (m : Str → Option Value) (s₁ : Shared) (I : Addr) (oI : Obj) (C : Addr) (oC : Obj) (D : Addr) (oD : Obj) (K : List (Addr × Obj) → Prop) (s₂ : Shared) : Prop :=
  ∃ h' tk news', s₂ = { s₁ with heap := h', toks := tk } ∧ Fr h₀ L h' m ∧ News h₀ L h' ((I, oI) :: (C, oC) :: (D, oD) :: news') ∧ Off3 I C D news' ∧ K news'
theorem EEnd.intro {h₀ : Heap} {L I C D : Addr} {m : Str → Option Value} {s₁ : Shared} {oI oC oD : Obj} {K : List (Addr × Obj) → Prop} {h' : Heap} {tk : Nat} {all : List (Addr × Obj)}
    (F : Fr h₀ L h' m) (N : News h₀ L h' all) (news' : List (Addr × Obj)) (sub : ∀ p ∈ (I, oI) :: (C, oC) :: (D, oD) :: news', p ∈ all) (off : Off3 I C D news') (k : K news') :
    EEnd h₀ L m s₁ I oI C oC D oD K { s₁ with heap := h', toks := tk } := ⟨h', tk, news', rfl, F, fun p hp => N p (sub p hp), off, k⟩
/-- the source of a walk: it stands whatever is made -/
structure Src (prog : Program) (w : World) (A : Around) (h₀ : Heap) (L : Addr) (I : Addr) (fp : List Addr) (n : Nat) (P : Nat → Value → Prop) (St : Nat → Heap → Prop) (S : List (Addr × Obj) → Prop) : Prop where
  W : Walks prog w A I fp [I] n P St
  io : ∀ i h, St i h → ∃ o, h.get? I = some o
  st : ∀ i h h' o nw, St i h → h.get? I = some o → h'.get? I = some o → (∀ b o, h₀.get? b = some o → h'.get? b = some o) → News h₀ L h' nw → S nw → St i h'
section
variable {prog : Program} {w : World} {A : Around} {E : Value → Shared → Prop} {s : Shared} {h₀ : Heap} {L : Addr} {m : Str → Option Value}

theorem inner_W {c : Code} {elt : Expr} {ifs : List Expr} {x : Str} {px : Pos} {I C D : Addr} {scope : Scope} {cl : List (Str × Addr)} {env : Env} {fp : List Addr} {n : Nat} {P : Nat → Value → Prop} {St : Nat → Heap → Prop} {S : List (Addr × Obj) → Prop}
    {R : Result → Shared → Prop} {oI oC : Obj} {m₀ : Str → Option Value} {h₁ : Heap} {tk₁ : Nat} {ys₀ : List Value} {news₀ : List (Addr × Obj)}
    (rule : LoopRule prog w A c (.Name x px) ifs elt (.ref I) (.ref D) (compEnvC scope cl C env))
    (Z : Src prog w A h₀ L I fp n P St S) (hfD : D ∉ fp) (hfC : C ∉ fp) (hkind : scope.kind = .function) (hx : scope.names.lookup x = some .local)
    (G : (Str → Option Value) → Prop) (hG : ∀ m v, G m → G (fun y => if y = x then some v else m y))
    (Inv : Nat → List Value → List (Addr × Obj) → Prop) (hS : ∀ i ys nw, Inv i ys nw → S nw) (hsz : ∀ i ys nw, Inv i ys nw → ys.length ≤ sizeLine)
    (F : Fr h₀ L h₁ m) (N : News h₀ L h₁ ((I, oI) :: (C, oC) :: (D, lst ys₀) :: news₀)) (off : Off3 I C D news₀) (ne : (@Ne Nat I C) ∧ (@Ne Nat I D) ∧ (@Ne Nat C D)) (hC : NsObj oC m₀) (g : G m₀) (st : St 0 h₁) (inv : Inv 0 ys₀ news₀)
    (turn : ∀ i ys news v oI oC m₂ h tk (E' : Value → Shared → Prop), i < n → Inv i ys news → P i v → NsObj oC m₂ → m₂ x = some v → G m₂ → Fr h₀ L h m → News h₀ L h ((I, oI) :: (C, oC) :: (D, lst ys) :: news) → Off3 I C D news →
      wpAny (model prog w) A (testsT ifs (compEnvC scope cl C env)) (fun ok s' => if ok = true then
          wpAny (model prog w) A (eval elt (compEnvC scope cl C env)) (fun y s₄ => EEnd h₀ L m { s with heap := h, toks := tk } I oI C oC D (lst ys) (fun news' => Inv (i + 1) (ys ++ [y]) news') s₄) E' s'
        else EEnd h₀ L m { s with heap := h, toks := tk } I oI C oC D (lst ys) (fun news' => Inv (i + 1) ys news') s') E' { s with heap := h, toks := tk })
    (fin : ∀ ys news oC m₂ h tk, Inv n ys news → NsObj oC m₂ → G m₂ → Fr h₀ L h m → News h₀ L h ((C, oC) :: (D, lst ys) :: news) → Off3 I C D news → R (.ok .next) { s with heap := h, toks := tk }) :
    codeAny (model prog w) A c R { s with heap := h₁, toks := tk₁ } := by
  have hIC := ne.1
  have hID := ne.2.1
  have hCD := ne.2.2
  have zI0 := (N (I, oI) List.mem_cons_self).2
  have zC0 := (N (C, oC) (List.mem_cons_of_mem _ List.mem_cons_self)).2
  have zD0 := (N (D, lst ys₀) (List.mem_cons_of_mem _ (List.mem_cons_of_mem _ List.mem_cons_self))).2
  refine rule R _ (fun k s' => ∃ h' tk i ys oI oC m' news', s' = { s with heap := h', toks := tk } ∧ i ≤ n ∧ k = n + 1 - i ∧ St i h' ∧ Fr h₀ L h' m ∧ NsObj oC m' ∧ G m' ∧ News h₀ L h' ((I, oI) :: (C, oC) :: (D, lst ys) :: news') ∧
        Off3 I C D news' ∧ Inv i ys news') ?_ (n + 1) ⟨h₁, tk₁, 0, ys₀, oI, oC, m₀, news₀, rfl, Nat.zero_le _, rfl, st, F, hC, g, N, off, inv⟩
  rintro k s' ⟨h', tk, i, ys, oI, oC, m', news', rfl, hi, rfl, hst', F', hC', g', N', off', inv'⟩
  have off3 := off'.mem
  have zC := (N' (C, oC) (List.mem_cons_of_mem _ List.mem_cons_self)).1
  have zD := (N' (D, lst ys) (List.mem_cons_of_mem _ (List.mem_cons_of_mem _ List.mem_cons_self))).1
  have N₀ : News h₀ L h' news' := fun p hp => N' p (List.mem_cons_of_mem _ (List.mem_cons_of_mem _ (List.mem_cons_of_mem _ hp)))
  by_cases hlt : i < n
  · refine Z.W.item i _ _ _ hlt hst' fun v h₂ tk₂ hPv hst₂ hk₂ => ?_
    have nC₂ : h₂.get? C = some oC := hk₂ _ _ (by simpa using Ne.symm hIC) zC
    have nD₂ : h₂.get? D = some (lst ys) := hk₂ _ _ (by simpa using Ne.symm hID) zD
    refine wpAny_assign_Name (wpAny_storeName_local (lookup_relabel_local hx) (hC'.ns nC₂) (fun h₃ hn₃ hs₃ => ?_) (by simp [compEnvC, relabel, hkind]))
    have hst₃ : St (i + 1) h₃ := Z.W.frame _ _ _ hst₂ fun b hb o e => hs₃.extBut b o (fun q => hfC (by have q' : b = C := q; rw [← q']; exact hb)) e
    obtain ⟨oI₃, heI⟩ := Z.io _ _ hst₃
    obtain ⟨oC₃, heC, hoC⟩ := ns_obj hn₃
    have F₃ : Fr h₀ L h₃ m := (fr_but F' hk₂ (Ne.symm zI0.1) zI0.2).change hs₃ zC0.1 zC0.2
    have N₃ : News h₀ L h₃ ((I, oI₃) :: (C, oC₃) :: (D, lst ys) :: news') := fun p hp => by
      rcases List.mem_cons.mp hp with rfl | hp
      · exact ⟨heI, zI0⟩
      · rcases List.mem_cons.mp hp with rfl | hp
        · exact ⟨heC, zC0⟩
        · rcases List.mem_cons.mp hp with rfl | hp
          · exact ⟨hs₃.extBut _ _ (Ne.symm hCD) nD₂, zD0⟩
          · exact ⟨hs₃.extBut _ _ (off3 p hp).2.1 (hk₂ _ _ (by simpa using (off3 p hp).1) (N₀ p hp).1), (N₀ p hp).2⟩
    refine wpAny_mono (turn i ys news' v oI₃ oC₃ _ h₃ _ _ hlt inv' hPv hoC (by simp) (hG _ _ g') F₃ N₃ off') (fun ok s₄ h₄ => ?_) fun _ _ e => e
    cases ok with
    | true =>
      simp only [if_true] at h₄ ⊢
      refine wpAny_mono h₄ (fun y s₅ h₅ => ?_) fun _ _ e => e
      obtain ⟨h₄, tk₄, news₄, rfl, F₄, N₄, off₄, inv₄⟩ := h₅
      have zI := (N₄ (I, oI₃) List.mem_cons_self).1
      have zC := (N₄ (C, oC₃) (List.mem_cons_of_mem _ List.mem_cons_self)).1
      have zD := (N₄ (D, lst ys) (List.mem_cons_of_mem _ (List.mem_cons_of_mem _ List.mem_cons_self))).1
      have N₄' : News h₀ L h₄ news₄ := fun p hp => N₄ p (List.mem_cons_of_mem _ (List.mem_cons_of_mem _ (List.mem_cons_of_mem _ hp)))
      have hst₄ : St (i + 1) h₄ := Z.st _ _ _ _ _ hst₃ heI zI F₄.keep N₄' (hS _ _ _ inv₄)
      refine append_at (hsz := by show ys.toArray.size ≤ sizeLine; rw [List.size_toArray]; exact hsz _ _ _ inv') zD fun h₅ hs₅ hD₅ => ?_
      have off4 := off₄.mem
      refine ⟨n + 1 - (i + 1), by omega, h₅, tk₄, i + 1, ys ++ [y], oI₃, oC₃, _, news₄, rfl, hlt, rfl, Z.W.frame _ _ _ hst₄ fun b hb o e => hs₅.extBut b o (fun q => hfD (q ▸ hb)) e, F₄.change hs₅ zD0.1 zD0.2,
        hoC, hG _ _ g', fun p hp => ?_, off₄, inv₄⟩
      rcases List.mem_cons.mp hp with rfl | hp
      · exact ⟨hs₅.extBut _ _ hID zI, zI0⟩
      · rcases List.mem_cons.mp hp with rfl | hp
        · exact ⟨hs₅.extBut _ _ hCD zC, zC0⟩
        · rcases List.mem_cons.mp hp with rfl | hp
          · exact ⟨hD₅.trans (congrArg some (lst_snoc ys y)), zD0⟩
          · exact ⟨hs₅.extBut _ _ (off4 p hp).2.2 (N₄' p hp).1, (N₄' p hp).2⟩
    | false =>
      simp only [Bool.false_eq_true, if_false] at h₄ ⊢
      obtain ⟨h₅, tk₄, news₄, rfl, F₄, N₄, off₄, inv₄⟩ := h₄
      have zI := (N₄ (I, oI₃) List.mem_cons_self).1
      have N₄' : News h₀ L h₅ news₄ := fun p hp => N₄ p (List.mem_cons_of_mem _ (List.mem_cons_of_mem _ (List.mem_cons_of_mem _ hp)))
      exact ⟨n + 1 - (i + 1), by omega, h₅, tk₄, i + 1, ys, oI₃, oC₃, _, news₄, rfl, hlt, rfl, Z.st _ _ _ _ _ hst₃ heI zI F₄.keep N₄' (hS _ _ _ inv₄), F₄, hoC, hG _ _ g', N₄, off₄, inv₄⟩
  · obtain rfl : i = n := Nat.le_antisymm hi (Nat.not_lt.mp hlt)
    refine Z.W.done _ _ _ hst' fun h₂ tk₂ hk₂ => ?_
    refine fin ys news' oC m' h₂ tk₂ inv' hC' g' (fr_but F' hk₂ (Ne.symm zI0.1) zI0.2) (fun p hp => ?_) off'
    have z := N' p (List.mem_cons_of_mem _ hp)
    refine ⟨hk₂ _ _ ?_ z.1, z.2⟩
    rcases List.mem_cons.mp hp with rfl | hp
    · simpa using Ne.symm hIC
    · rcases List.mem_cons.mp hp with rfl | hp
      · simpa using Ne.symm hID
      · simpa using (off3 p hp).1

/-- the outer loop of two -/
theorem outer_W {elt i1 t2 i2 : Expr} {ifs2 : List Expr} {x : Str} {px : Pos} {pos : Pos} {I C D : Addr} {scope : Scope} {cl : List (Str × Addr)} {env : Env} {fp : List Addr} {n : Nat} {P : Nat → Value → Prop} {St : Nat → Heap → Prop} {S : List (Addr × Obj) → Prop}
    {R : Result → Shared → Prop} {oI oC : Obj} {m₀ : Str → Option Value} {h₁ : Heap} {tk₁ : Nat} {ys₀ : List Value} {news₀ : List (Addr × Obj)}
    (Z : Src prog w A h₀ L I fp n P St S) (hfC : C ∉ fp) (hkind : scope.kind = .function) (hx : scope.names.lookup x = some .local)
    (Inv : Nat → List Value → List (Addr × Obj) → Prop) (hS : ∀ i ys nw, Inv i ys nw → S nw)
    (F : Fr h₀ L h₁ m) (N : News h₀ L h₁ ((I, oI) :: (C, oC) :: (D, lst ys₀) :: news₀)) (off : Off3 I C D news₀) (ne : (@Ne Nat I C) ∧ (@Ne Nat I D) ∧ (@Ne Nat C D)) (hC : NsObj oC m₀) (st : St 0 h₁) (inv : Inv 0 ys₀ news₀)
    (turn : ∀ i ys news v oI oC m₂ h tk (E' : Value → Shared → Prop), i < n → Inv i ys news → P i v → NsObj oC m₂ → m₂ x = some v → Fr h₀ L h m → News h₀ L h ((I, oI) :: (C, oC) :: (D, lst ys) :: news) → Off3 I C D news →
      wpAny (model prog w) A (eval i2 (compEnvC scope cl C env)) (fun xv s₄ => wpAny (model prog w) A (pyIter xv) (fun it' s₅ =>
        codeAny (model prog w) A (.compStart (two elt (.Name x px) i1 [] t2 i2 ifs2 scope pos) 1 it' (.ref D) (compEnvC scope cl C env)) (fun r s₆ => match r with
          | .ok _ => ∃ h' tk oC m₂ ys news', s₆ = { s with heap := h', toks := tk } ∧ Fr h₀ L h' m ∧ NsObj oC m₂ ∧ News h₀ L h' ((I, oI) :: (C, oC) :: (D, lst ys) :: news') ∧ Off3 I C D news' ∧ Inv (i + 1) ys news'
          | .error e => False) s₅) E' s₄) E' { s with heap := h, toks := tk })
    (fin : ∀ ys news oC m₂ h tk, Inv n ys news → NsObj oC m₂ → Fr h₀ L h m → News h₀ L h ((C, oC) :: (D, lst ys) :: news) → Off3 I C D news → R (.ok .next) { s with heap := h, toks := tk })
    (hs : ∀ x, foldedSetIterable i2 (compEnvC scope cl C env) x = pure x := by intro _; rfl) :
    codeAny (model prog w) A (.compLoop (two elt (.Name x px) i1 [] t2 i2 ifs2 scope pos) 0 (.ref I) (.ref D) (compEnvC scope cl C env)) R { s with heap := h₁, toks := tk₁ } := by
  have hIC := ne.1
  have hID := ne.2.1
  have hCD := ne.2.2
  have zI0 := (N (I, oI) List.mem_cons_self).2
  have zC0 := (N (C, oC) (List.mem_cons_of_mem _ List.mem_cons_self)).2
  have zD0 := (N (D, lst ys₀) (List.mem_cons_of_mem _ (List.mem_cons_of_mem _ List.mem_cons_self))).2
  refine loop_two (fun k s' => ∃ h' tk i ys oI oC m' news', s' = { s with heap := h', toks := tk } ∧ i ≤ n ∧ k = n + 1 - i ∧ St i h' ∧ Fr h₀ L h' m ∧ NsObj oC m' ∧ News h₀ L h' ((I, oI) :: (C, oC) :: (D, lst ys) :: news') ∧
        Off3 I C D news' ∧ Inv i ys news') ?_ (n + 1) ⟨h₁, tk₁, 0, ys₀, oI, oC, m₀, news₀, rfl, Nat.zero_le _, rfl, st, F, hC, N, off, inv⟩ (fun _ => rfl) hs
  rintro k s' ⟨h', tk, i, ys, oI, oC, m', news', rfl, hi, rfl, hst', F', hC', N', off', inv'⟩
  have off3 := off'.mem
  have zC := (N' (C, oC) (List.mem_cons_of_mem _ List.mem_cons_self)).1
  have zD := (N' (D, lst ys) (List.mem_cons_of_mem _ (List.mem_cons_of_mem _ List.mem_cons_self))).1
  have N₀ : News h₀ L h' news' := fun p hp => N' p (List.mem_cons_of_mem _ (List.mem_cons_of_mem _ (List.mem_cons_of_mem _ hp)))
  by_cases hlt : i < n
  · refine Z.W.item i _ _ _ hlt hst' fun v h₂ tk₂ hPv hst₂ hk₂ => ?_
    have nC₂ : h₂.get? C = some oC := hk₂ _ _ (by simpa using Ne.symm hIC) zC
    have nD₂ : h₂.get? D = some (lst ys) := hk₂ _ _ (by simpa using Ne.symm hID) zD
    refine wpAny_assign_Name (wpAny_storeName_local (lookup_relabel_local hx) (hC'.ns nC₂) (fun h₃ hn₃ hs₃ => ?_) (by simp [compEnvC, relabel, hkind]))
    have hst₃ : St (i + 1) h₃ := Z.W.frame _ _ _ hst₂ fun b hb o e => hs₃.extBut b o (fun q => hfC (by have q' : b = C := q; rw [← q']; exact hb)) e
    obtain ⟨oI₃, heI⟩ := Z.io _ _ hst₃
    obtain ⟨oC₃, heC, hoC⟩ := ns_obj hn₃
    have F₃ : Fr h₀ L h₃ m := (fr_but F' hk₂ (Ne.symm zI0.1) zI0.2).change hs₃ zC0.1 zC0.2
    have N₃ : News h₀ L h₃ ((I, oI₃) :: (C, oC₃) :: (D, lst ys) :: news') := fun p hp => by
      rcases List.mem_cons.mp hp with rfl | hp
      · exact ⟨heI, zI0⟩
      · rcases List.mem_cons.mp hp with rfl | hp
        · exact ⟨heC, zC0⟩
        · rcases List.mem_cons.mp hp with rfl | hp
          · exact ⟨hs₃.extBut _ _ (Ne.symm hCD) nD₂, zD0⟩
          · exact ⟨hs₃.extBut _ _ (off3 p hp).2.1 (hk₂ _ _ (by simpa using (off3 p hp).1) (N₀ p hp).1), (N₀ p hp).2⟩
    refine wpAny_tests_nil ?_
    simp only [if_true]
    refine wpAny_mono (turn i ys news' v oI₃ oC₃ _ h₃ _ _ hlt inv' hPv hoC (by simp) F₃ N₃ off') (fun xv s₄ h₄ => wpAny_mono h₄ (fun it' s₅ h₅ => codeAny_mono h₅ fun r s₆ h₆ => ?_) fun _ _ e => e) fun _ _ e => e
    cases r with
    | error e => exact h₆.elim
    | ok f =>
      obtain ⟨h₄, tk₄, oC₄, m₄, ys₄, news₄, rfl, F₄, hC₄, N₄, off₄, inv₄⟩ := h₆
      have zI := (N₄ (I, oI₃) List.mem_cons_self).1
      have N₄' : News h₀ L h₄ news₄ := fun p hp => N₄ p (List.mem_cons_of_mem _ (List.mem_cons_of_mem _ (List.mem_cons_of_mem _ hp)))
      exact ⟨n + 1 - (i + 1), by omega, h₄, tk₄, i + 1, ys₄, oI₃, oC₄, m₄, news₄, rfl, hlt, rfl, Z.st _ _ _ _ _ hst₃ heI zI F₄.keep N₄' (hS _ _ _ inv₄), F₄, hC₄, N₄, off₄, inv₄⟩
  · obtain rfl : i = n := Nat.le_antisymm hi (Nat.not_lt.mp hlt)
    refine Z.W.done _ _ _ hst' fun h₂ tk₂ hk₂ => ?_
    refine fin ys news' oC m' h₂ tk₂ inv' hC' (fr_but F' hk₂ (Ne.symm zI0.1) zI0.2) (fun p hp => ?_) off'
    have z := N' p (List.mem_cons_of_mem _ hp)
    refine ⟨hk₂ _ _ ?_ z.1, z.2⟩
    rcases List.mem_cons.mp hp with rfl | hp
    · simpa using Ne.symm hIC
    · rcases List.mem_cons.mp hp with rfl | hp
      · simpa using Ne.symm hID
      · simpa using (off3 p hp).1
end
end Mine
end

section
open PySem PySem.W PyProof.Rows PySem.Spec PySem.Calls
set_option Elab.async false
set_option linter.unusedVariables false
set_option maxRecDepth 100000
set_option maxHeartbeats 2000000
namespace Mine
open LCg
/-- what the loop hands on -/
noncomputable def LEnd (h₀ : Heap) (L : Addr) (m : Str → Option Value) (s : Shared) (C D : Addr) (Fin : List Value → List (Addr × Obj) → Prop) (r : Result) (s' : Shared) : Prop :=
  r = .ok .next ∧ ∃ ys news oC m₂ h tk, s' = { s with heap := h, toks := tk } ∧ NsObj oC m₂ ∧ Fr h₀ L h m ∧ News h₀ L h ((C, oC) :: (D, lst ys) :: news) ∧ (@Ne Nat C D) ∧ (∀ p ∈ news, p.1 ≠ C ∧ p.1 ≠ D) ∧ Fin ys news
section
variable {prog : Program} {w : World} {A : Around} {E : Value → Shared → Prop} {s : Shared} {h₀ : Heap} {L : Addr} {m : Str → Option Value}

theorem comp_enter {elt target iter : Expr} {ifs : List Expr} {rest : List Comprehension} {scope : Scope} {cl : List (Str × Addr)} {env : Env} {pos : Pos} {s₂ : Shared} {I : Addr} {oI : Obj} {fp : List Addr} {n : Nat} {P : Nat → Value → Prop} {St : Nat → Heap → Prop}
    {news : List (Addr × Obj)} {RR : Value → Addr → Result → Shared → Prop}
    (W : Walks prog w A I fp [I] n P St) (hcell : ∀ y ∈ scope.names, y.2 ≠ .cell) (hkind : scope.kind = .function)
    (st : St 0 s₂.heap) (hfp : ∀ b ∈ fp, b < s₂.heap.objs.size) (F : Fr h₀ L s₂.heap m) (N : News h₀ L s₂.heap ((I, oI) :: news)) (off : ∀ p ∈ news, p.1 ≠ I)
    (go : ∀ D C h₁ oC m₀ tk, Fr h₀ L h₁ m → NsObj oC m₀ → News h₀ L h₁ ((I, oI) :: (C, oC) :: (D, lst []) :: news) → Off3 I C D news → ((@Ne Nat I C) ∧ (@Ne Nat I D) ∧ (@Ne Nat C D)) → D ∉ fp → C ∉ fp → St 0 h₁ → (∀ p ∈ (I, oI) :: news, p.1 < D) → D < C →
      codeAny (model prog w) A (.compLoop (.ListComp elt (⟨target, iter, ifs, 0⟩ :: rest) scope pos) 0 (.ref I) (.ref D) (compEnvC scope cl C env)) (RR (.ref D) C) { s₂ with heap := h₁, toks := tk }) :
    wpAny (model prog w) A (newList []) (fun acc s₃ => wpAny (model prog w) A (newFunctionEnv scope env.globals cl [] env.qual none .none (some env)) (fun cenv s₄ =>
      codeAny (model prog w) A (.compStart (.ListComp elt (⟨target, iter, ifs, 0⟩ :: rest) scope pos) 0 (.ref I) acc { cenv with scope := relabel scope env }) (RR acc cenv.locals) s₄) E s₃) E s₂ := by
  refine wpAny_newObj_type (wpAny_newFunctionEnv hcell (by intro y hy; simp at hy) (fun h₁ hns₁ hsb₁ => ?_) hkind)
  dsimp only at hns₁ hsb₁ ⊢
  generalize hH2 : s₂.heap.push { cls := .type "list", dict := none, data := .seq ([] : List Value).toArray } = H2 at hns₁ hsb₁ ⊢
  have hC : H2.objs.size = s₂.heap.objs.size + 1 := by rw [← hH2, Heap.size_push]
  have hDC : s₂.heap.objs.size ≠ H2.objs.size := by rw [hC]; exact Nat.ne_of_lt (Nat.lt_succ_self _)
  have below : ∀ b, b < s₂.heap.objs.size → b ≠ H2.objs.size ∧ b ≠ s₂.heap.objs.size := fun b hb => ⟨by rw [hC]; exact Nat.ne_of_lt (Nat.lt_succ_of_lt hb), Nat.ne_of_lt hb⟩
  have hDf : s₂.heap.objs.size ∉ fp := fun hm => Nat.lt_irrefl _ (hfp _ hm)
  have hCf : H2.objs.size ∉ fp := fun hm => by have := hfp _ hm; rw [hC] at this; exact Nat.lt_irrefl _ (Nat.lt_of_succ_lt this)
  have hIlt : I < s₂.heap.objs.size := Heap.lt_size (N (I, oI) List.mem_cons_self).1
  have old : ∀ b o, s₂.heap.get? b = some o → h₁.get? b = some o := fun b o e => hsb₁.extBut b o (below b (Heap.lt_size e)).1 (Heap.get?_push_of_some _ (hH2 ▸ Heap.get?_push_of_some _ e))
  have hacc : h₁.get? s₂.heap.objs.size = some (lst []) := hsb₁.extBut _ _ hDC (Heap.get?_push_of_some _ (hH2 ▸ Heap.get?_push_size _ rfl))
  have fresh₀ : ∀ a, s₂.heap.objs.size ≤ a → h₀.get? a = none := fun a ha => by
    cases e : h₀.get? a with
    | none => rfl
    | some o' =>
      have := Heap.lt_size (F.keep a o' e)
      exact absurd this (Nat.not_lt.mpr ha)
  have hLlt : L < s₂.heap.objs.size := F.ns.lt
  have hDL : s₂.heap.objs.size ≠ L := Ne.symm (below L hLlt).2
  have hCL : H2.objs.size ≠ L := Ne.symm (below L hLlt).1
  obtain ⟨oC, heC, hoC⟩ := ns_obj hns₁
  have NN : News h₀ L h₁ ((I, oI) :: (H2.objs.size, oC) :: (s₂.heap.objs.size, lst []) :: news) := fun p hp => by
    rcases List.mem_cons.mp hp with rfl | hp
    · exact ⟨old _ _ (N (I, oI) List.mem_cons_self).1, (N (I, oI) List.mem_cons_self).2⟩
    · rcases List.mem_cons.mp hp with rfl | hp
      · exact ⟨heC, hCL, fresh₀ _ (by rw [hC]; exact Nat.le_succ _)⟩
      · rcases List.mem_cons.mp hp with rfl | hp
        · exact ⟨hacc, hDL, fresh₀ _ (Nat.le_refl _)⟩
        · have z := N p (List.mem_cons_of_mem _ hp)
          exact ⟨old _ _ z.1, z.2⟩
  have st₁ : St 0 h₁ := W.frame _ _ _ st fun b _ o e => old b o e
  have off₀ : Off3 I H2.objs.size s₂.heap.objs.size news := Off3.of fun p hp => ⟨off p hp, (below _ (Heap.lt_size (N p (List.mem_cons_of_mem _ hp)).1)).1, (below _ (Heap.lt_size (N p (List.mem_cons_of_mem _ hp)).1)).2⟩
  have loop := go s₂.heap.objs.size H2.objs.size h₁ oC _ (s₂.toks + ([] : List (Str × Value)).length) (F.keeps old) hoC NN off₀ ⟨(below I hIlt).1, (below I hIlt).2, Ne.symm hDC⟩ hDf hCf st₁ (fun p hp => Heap.lt_size (N p hp).1) (by rw [hC]; exact Nat.lt_succ_self _)
  exact codeAny_compStart_list loop (W.self 0 _ _ _ st₁ loop)

/-- what the source must bring -/
noncomputable def SrcGo (prog : Program) (w : World) (A : Around) (h₀ : Heap) (L : Addr) (m : Str → Option Value) (e : Expr) (scope : Scope) (cl : List (Str × Addr)) (env : Env) (Fin : Shared → Addr → List Value → List (Addr × Obj) → Prop) (it : Value) (s₂ : Shared) : Prop :=
  ∃ I oI fp n P St news, it = .ref I ∧ Walks prog w A I fp [I] n P St ∧ St 0 s₂.heap ∧ (∀ b ∈ fp, b < s₂.heap.objs.size) ∧ Fr h₀ L s₂.heap m ∧ News h₀ L s₂.heap ((I, oI) :: news) ∧ (∀ p ∈ news, p.1 ≠ I) ∧
    ∀ D C h₁ oC m₀ tk, Fr h₀ L h₁ m → NsObj oC m₀ → News h₀ L h₁ ((I, oI) :: (C, oC) :: (D, lst []) :: news) → Off3 I C D news → ((@Ne Nat I C) ∧ (@Ne Nat I D) ∧ (@Ne Nat C D)) → D ∉ fp → C ∉ fp → St 0 h₁ → (∀ p ∈ (I, oI) :: news, p.1 < D) → D < C →
      codeAny (model prog w) A (.compLoop e 0 (.ref I) (.ref D) (compEnvC scope cl C env)) (LEnd h₀ L m s₂ C D (Fin s₂ D)) { s₂ with heap := h₁, toks := tk }

noncomputable def FinX (h₀ : Heap) (L : Addr) (m : Str → Option Value) (s : Shared) (Q : Value → Shared → Prop) (D : Addr) (ys : List Value) (news : List (Addr × Obj)) : Prop :=
  ∀ h tk, Fr h₀ L h m → News h₀ L h ((D, lst ys) :: news) → Q (.ref D) { s with heap := h, toks := tk }
noncomputable def FinY (h₀ : Heap) (L : Addr) (m : Str → Option Value) (s : Shared) (y : Str) (Q : Flow → Shared → Prop) (D : Addr) (ys : List Value) (news : List (Addr × Obj)) : Prop :=
  ∀ h tk, Fr h₀ L h (fun z => if z = y then some (.ref D) else m z) → News h₀ L h ((D, lst ys) :: news) → Q .next { s with heap := h, toks := tk }

theorem ListComp_X {elt target iter : Expr} {ifs : List Expr} {rest : List Comprehension} {scope : Scope} {cl : List (Str × Addr)} {env : Env} {pos : Pos} {Q : Value → Shared → Prop}
    (hclos : closureFor scope env = pure cl) (hcell : ∀ y ∈ scope.names, y.2 ≠ .cell) (hkind : scope.kind = .function)
    (hnames : ∀ y ∈ scope.names, y.2 = .local → scope.names.lookup y.1 = some .local)
    (h : wpAny (model prog w) A (eval iter env) (fun xv s₁ => wpAny (model prog w) A (pyIter xv) (fun it s₂ =>
      SrcGo prog w A h₀ L m (.ListComp elt (⟨target, iter, ifs, 0⟩ :: rest) scope pos) scope cl env (fun s₂ => FinX h₀ L m s₂ Q) it s₂) E s₁) E s)
    (hs : ∀ x, foldedSetIterable iter env x = pure x := by intro _; rfl) :
    wpAny (model prog w) A (eval (.ListComp elt (⟨target, iter, ifs, 0⟩ :: rest) scope pos) env) Q E s := by
  rw [eval_ListComp]
  refine wpAny_comprehension_free (use := none) rfl hs hclos hkind hnames (wpAny_mono h (fun xv s₁ h₁ => wpAny_mono h₁ (fun it s₂ h₂ => ?_) fun _ _ e => e) fun _ _ e => e)
  obtain ⟨I, oI, fp, n, P, St, news, rfl, W, st, hfp, F, N, off, go⟩ := h₂
  refine comp_enter W hcell hkind st hfp F N off fun D C h₁ oC m₀ tk F₁ hC N₁ off₁ ne hD hC' st₁ l1 l2 => codeAny_mono (go D C h₁ oC m₀ tk F₁ hC N₁ off₁ ne hD hC' st₁ l1 l2) fun r s' hr => ?_
  obtain ⟨rfl, ys, news', oC', m₂, h', tk', rfl, hC2, F', N', hCD, off', fin⟩ := hr
  have zC := N' (C, oC') List.mem_cons_self
  refine ⟨m₂, hC2.ns zC.1, fun h'' hs'' => fin h'' tk' (F'.change hs'' zC.2.1 zC.2.2) (fun p hp => ?_)⟩
  have z := N' p (List.mem_cons_of_mem _ hp)
  refine ⟨hs''.extBut _ _ ?_ z.1, z.2⟩
  rcases List.mem_cons.mp hp with rfl | hp
  · exact Ne.symm hCD
  · exact (off' p hp).1

theorem Assign_X {elt target iter : Expr} {ifs : List Expr} {rest : List Comprehension} {scope : Scope} {cl : List (Str × Addr)} {env : Env} {pos spos py : Pos} {y : Str} {Q : Flow → Shared → Prop} (hLe : env.locals = L)
    (hsw : swapsWith (.ListComp elt (⟨target, iter, ifs, 0⟩ :: rest) scope pos) (some (.Name y py)) spos.line env = pure true)
    (hclos : closureFor scope env = pure cl) (hcell : ∀ y ∈ scope.names, y.2 ≠ .cell) (hkind : scope.kind = .function)
    (hnames : ∀ y ∈ scope.names, y.2 = .local → scope.names.lookup y.1 = some .local)
    (hy : env.kindOf y = some .local) (hp : (env.scope.kind == .class || (env.scope.kind == .module && env.locals != env.globals)) = false)
    (h : wpAny (model prog w) A (eval iter env) (fun xv s₁ => wpAny (model prog w) A (pyIter xv) (fun it s₂ =>
      SrcGo prog w A h₀ L m (.ListComp elt (⟨target, iter, ifs, 0⟩ :: rest) scope pos) scope cl env (fun s₂ => FinY h₀ L m s₂ y Q) it s₂) E s₁) E s)
    (hs : ∀ x, foldedSetIterable iter env x = pure x := by intro _; rfl) :
    wpAny (model prog w) A (exec (.Assign [.Name y py] (.ListComp elt (⟨target, iter, ifs, 0⟩ :: rest) scope pos) spos) env) Q E s := by
  subst hLe
  rw [exec_Assign_Name_used _ _ _ _ hsw]
  refine wpAny_bind (wpAny_standAt (wpAny_bind ?_))
  show wpAny _ A (do let _ ← comprehension (.ListComp elt (⟨target, iter, ifs, 0⟩ :: rest) scope pos) scope env _ (newList []) false (eval iter env) (some (assign (.Name y py) env))) _ _ s
  refine wpAny_bind (wpAny_mono (wpAny_comprehension_free (use := some (assign (.Name y py) env)) (Q := fun _ s' => Q .next s') rfl hs hclos hkind hnames
    (wpAny_mono h (fun xv s₁ h₁ => wpAny_mono h₁ (fun it s₂ h₂ => ?_) fun _ _ e => e) fun _ _ e => e)) (fun _ s' hq => wpAny_pure (wpAny_pure hq)) fun _ _ e => e)
  obtain ⟨I, oI, fp, n, P, St, news, rfl, W, st, hfp, F, N, off, go⟩ := h₂
  refine comp_enter W hcell hkind st hfp F N off fun D C h₁ oC m₀ tk F₁ hC N₁ off₁ ne hD hC' st₁ l1 l2 => codeAny_mono (go D C h₁ oC m₀ tk F₁ hC N₁ off₁ ne hD hC' st₁ l1 l2) fun r s' hr => ?_
  obtain ⟨rfl, ys, news', oC', m₂, h', tk', rfl, hC2, F', N', hCD, off', fin⟩ := hr
  have zC := N' (C, oC') List.mem_cons_self
  show wpAny _ A (assign (.Name y py) env (.ref D)) _ _ _
  refine wpAny_assign_Name (wpAny_storeName_local hy F'.ns (fun h₂ hn₂ hs₂ => ?_) hp)
  have hL₀ : h₀.get? env.locals = none := Heap.get?_none_of_le F'.above
  have F₂ : Fr h₀ env.locals h₂ (fun z => if z = y then some (.ref D) else m z) := ⟨hn₂, fun b o e => hs₂.extBut b o (fun q => by rw [q, hL₀] at e; cases e) (F'.keep b o e), F'.above⟩
  have zC2 : h₂.get? C = some oC' := hs₂.extBut _ _ zC.2.1 zC.1
  refine ⟨m₂, hC2.ns zC2, fun h'' hs'' => fin h'' _ (F₂.change hs'' zC.2.1 zC.2.2) (fun p hp => ?_)⟩
  have z := N' p (List.mem_cons_of_mem _ hp)
  have z2 : h₂.get? p.1 = some p.2 := hs₂.extBut _ _ z.2.1 z.1
  refine ⟨hs''.extBut _ _ ?_ z2, z.2⟩
  rcases List.mem_cons.mp hp with rfl | hp
  · exact Ne.symm hCD
  · exact (off' p hp).1
end

/-! sources -/
section
variable {prog : Program} {w : World} {A : Around} {E : Value → Shared → Prop} {s : Shared} {h₀ : Heap} {L : Addr} {m : Str → Option Value} {news : List (Addr × Obj)}
noncomputable def SrcIn (h₀ : Heap) (ax : Addr) (its : Array Value) (news : List (Addr × Obj)) : Prop := SrcAt h₀ ax its news
theorem src_list (hh : A.handled = none) {I ax : Addr} (hne : ax ≠ I) {its : Array Value} :
    Src prog w A h₀ L I [I, ax] its.size (fun i v => its[i]? = some v) (fun i h => h.IsListIter I ax i ∧ h.IsList ax its) (SrcAt h₀ ax its) where
  W := Walks.list hh I ax hne its
  io := fun i h st => by obtain ⟨o, e, _⟩ := st.1; exact ⟨o, e⟩
  st := list_st
theorem src_str (hh : A.handled = none) {I : Addr} {x : Str} {St : Nat → Heap → Prop} (W : Walks prog w A I [I] [I] x.cps.size (SignAt x) St) (io : ∀ i h, St i h → ∃ o, h.get? I = some o) :
    Src prog w A h₀ L I [I] x.cps.size (SignAt x) St (fun _ => True) where
  W := W
  io := io
  st := fun i h h' o nw st e e' _ _ _ => W.frame i h h' st fun b hb o' eb => by
    rw [List.mem_singleton.mp hb] at eb ⊢
    rw [e', ← e, eb]
theorem src_range (hh : A.handled = none) {I : Addr} (a c : Int) (n : Nat) :
    Src prog w A h₀ L I [I] n (fun i v => ∃ t, v = .int (a + i * c) t) (fun i h => IsRangeIter h I (a + (i : Nat) * c) ((n : Int) - (i : Nat)) c) (fun _ => True) where
  W := Walks.range hh I a c n
  io := fun i h st => ⟨_, st⟩
  st := fun i h h' o nw st e e' _ _ _ => (Walks.range (prog := prog) (w := w) hh I a c n).frame i h h' st fun b hb o' eb => by
    rw [List.mem_singleton.mp hb] at eb ⊢
    rw [e', ← e, eb]
theorem src_tuple (hh : A.handled = none) {I ax : Addr} (hne : ax ≠ I) {its : Array Value} {S : List (Addr × Obj) → Prop} (hS : ∀ h nw, (∀ b o, h₀.get? b = some o → h.get? b = some o) → News h₀ L h nw → S nw → h.IsTuple ax its) :
    Src prog w A h₀ L I [I, ax] its.size (fun i v => its[i]? = some v) (fun i h => h.IsTupleIter I ax i ∧ h.IsTuple ax its) S where
  W := Walks.tuple hh I ax hne its
  io := fun i h st => by obtain ⟨o, e, _⟩ := st.1; exact ⟨o, e⟩
  st := fun i h h' o nw st e e' k N S => ⟨by obtain ⟨o', q, r⟩ := st.1; rw [e] at q; cases q; exact ⟨o, e', r⟩, hS _ _ k N S⟩
theorem iter_tuple {ax : Addr} {its : Array Value} {Q : Value → Shared → Prop} (F : Fr h₀ L s.heap m) (N : News h₀ L s.heap news) (hl : s.heap.IsTuple ax its)
    (h : ∀ I oI h', Fr h₀ L h' m → News h₀ L h' ((I, oI) :: news) → (∀ p ∈ news, p.1 < I) → ax ≠ I → h'.IsTupleIter I ax 0 ∧ h'.IsTuple ax its → (∀ b ∈ [I, ax], b < h'.objs.size) → Q (.ref I) { s with heap := h' }) :
    wpAny (model prog w) A (pyIter (.ref ax)) Q E s := by
  have hlt : ax < s.heap.objs.size := by obtain ⟨_, e, _⟩ := hl; exact Heap.lt_size e
  refine wpAny_pyIter_tuple hl ?_
  have up : ∀ b o, s.heap.get? b = some o → (s.heap.push { cls := .type "tuple_iterator", data := .fields #[.ref ax, .int 0 0] }).get? b = some o := fun b o e => Heap.get?_push_of_some _ e
  refine h _ _ _ (F.keeps up) (News.push F N _ rfl) (fun p hp => Heap.lt_size (N p hp).1) (Nat.ne_of_lt hlt) ⟨⟨_, Heap.get?_push_size _ rfl, rfl, rfl⟩, hl.at fun o e => up _ o e⟩ fun b hb => ?_
  show b < (s.heap.push _).objs.size
  rw [Heap.size_push]
  rcases List.mem_cons.mp hb with rfl | hb
  · exact Nat.lt_succ_self _
  · rw [List.mem_singleton.mp hb]; exact Nat.lt_succ_of_lt hlt
theorem iter_range {r : Addr} {a b c : Int} {t u v : Tok} {n : Nat} {Q : Value → Shared → Prop} (F : Fr h₀ L s.heap m) (N : News h₀ L s.heap news) (hr : IsRange s.heap r a b c t u v) (hsm : Builtin.Range.small a b c = true) (hn : Builtin.Range.rangeSize a b c = ((n : Nat) : Int))
    (h : ∀ I oI h', Fr h₀ L h' m → News h₀ L h' ((I, oI) :: news) → (∀ p ∈ news, p.1 < I) → IsRangeIter h' I (a + (0 : Nat) * c) ((n : Int) - (0 : Nat)) c → (∀ b ∈ [I], b < h'.objs.size) → Q (.ref I) { s with heap := h' }) :
    wpAny (model prog w) A (pyIter (.ref r)) Q E s := by
  refine wpAny_pyIter_range hr hsm ?_
  refine h _ _ _ (F.keeps fun b o e => Heap.get?_push_of_some _ e) (News.push F N _ rfl) (fun p hp => Heap.lt_size (N p hp).1) (by show IsRangeIter _ _ _ _ _; rw [hn]; simpa using Heap.get?_push_size _ rfl) fun b hb => ?_
  rw [List.mem_singleton.mp hb]
  show s.heap.objs.size < (s.heap.push _).objs.size
  rw [Heap.size_push]; exact Nat.lt_succ_self _

theorem iter_list {ax : Addr} {its : Array Value} {Q : Value → Shared → Prop} (F : Fr h₀ L s.heap m) (N : News h₀ L s.heap news) (S : SrcAt h₀ ax its news)
    (h : ∀ I oI h', Fr h₀ L h' m → News h₀ L h' ((I, oI) :: news) → (∀ p ∈ news, p.1 < I) → ax ≠ I → h'.IsListIter I ax 0 ∧ h'.IsList ax its → (∀ b ∈ [I, ax], b < h'.objs.size) → Q (.ref I) { s with heap := h' }) :
    wpAny (model prog w) A (pyIter (.ref ax)) Q E s := by
  have hl := S.list F.keep N
  have hlt : ax < s.heap.objs.size := by obtain ⟨_, e, _⟩ := hl; exact Heap.lt_size e
  refine wpAny_pyIter_list hl ?_
  have up : ∀ b o, s.heap.get? b = some o → (s.heap.push { cls := .type "list_iterator", data := .fields #[.ref ax, .int 0 0] }).get? b = some o := fun b o e => Heap.get?_push_of_some _ e
  refine h _ _ _ (F.keeps up) (News.push F N _ rfl) (fun p hp => Heap.lt_size (N p hp).1) (Nat.ne_of_lt hlt) ⟨⟨_, Heap.get?_push_size _ rfl, rfl, rfl⟩, hl.push _⟩ fun b hb => ?_
  show b < (s.heap.push _).objs.size
  rw [Heap.size_push]
  rcases List.mem_cons.mp hb with rfl | hb
  · exact Nat.lt_succ_self _
  · rw [List.mem_singleton.mp hb]; exact Nat.lt_succ_of_lt hlt
theorem iter_str {x : Str} {t : Tok} {Q : Value → Shared → Prop} (F : Fr h₀ L s.heap m) (N : News h₀ L s.heap news) (hh : A.handled = none)
    (h : ∀ I oI h' St, Fr h₀ L h' m → News h₀ L h' ((I, oI) :: news) → (∀ p ∈ news, p.1 < I) → Src prog w A h₀ L I [I] x.cps.size (SignAt x) St (fun _ => True) → St 0 h' → (∀ b ∈ [I], b < h'.objs.size) → Q (.ref I) { s with heap := h' }) :
    wpAny (model prog w) A (pyIter (.str x t)) Q E s := by
  have key : ∀ (o : Obj) (St : Nat → Heap → Prop), o.isFreed = false → Walks prog w A s.heap.objs.size [s.heap.objs.size] [s.heap.objs.size] x.cps.size (SignAt x) St → (∀ i h, St i h → ∃ o, h.get? s.heap.objs.size = some o) → St 0 (s.heap.push o) →
      Q (.ref s.heap.objs.size) { s with heap := s.heap.push o } := fun o St ho W io st => by
    refine h _ _ _ St (F.keeps fun b o e => Heap.get?_push_of_some _ e) (News.push F N _ ho) (fun p hp => Heap.lt_size (N p hp).1) (src_str hh W io) st fun b hb => ?_
    rw [List.mem_singleton.mp hb]
    show s.heap.objs.size < (s.heap.push _).objs.size
    rw [Heap.size_push]; exact Nat.lt_succ_self _
  cases ha : x.cps.all (· < 128)
  · exact wpAny_pyIter_wide ha (key _ _ rfl (Walks.strWide hh _ x t) (fun i h st => by obtain ⟨o, e, _⟩ := st; exact ⟨o, e⟩) ⟨_, Heap.get?_push_size _ rfl, rfl, rfl⟩)
  · exact wpAny_pyIter_ascii ha (key _ _ rfl (Walks.strAscii hh _ x t) (fun i h st => by obtain ⟨o, e, _⟩ := st; exact ⟨o, e⟩) ⟨_, Heap.get?_push_size _ rfl, rfl, rfl⟩)
end
end Mine
namespace Mine
theorem rsize1 {a b : Int} {n : Nat} (h : b = a + n) : Builtin.Range.rangeSize a b 1 = ((n : Nat) : Int) := by
  rw [rangeSize_one]; split <;> omega
theorem rsize2 {n : Nat} : Builtin.Range.rangeSize 0 (n : Int) 2 = (((n + 1) / 2 : Nat) : Int) := by
  unfold Builtin.Range.rangeSize; simp only [show (2 : Int) > 0 by decide, if_true]; split <;> omega
theorem fitsL {i : Int} (h : i.natAbs < 2 ^ 40) : Builtin.Range.rangeFitsLong i = true := by
  unfold Builtin.Range.rangeFitsLong
  rw [decide_eq_true (show -2 ^ 63 ≤ i by omega), decide_eq_true (show i < 2 ^ 63 by omega)]
  rfl
theorem rsmall {a b c : Int} (ha : a.natAbs < 2 ^ 30) (hb : b.natAbs < 2 ^ 30) (hc : 1 ≤ c) (hc' : c < 100) : Builtin.Range.small a b c = true := by
  have h := rangeSize_toNat a b c
  have h2 := rangeSize_toNat_le a b c
  generalize (Builtin.Range.rangeSize a b c).toNat = k at h h2
  unfold Builtin.Range.small
  rw [if_pos (show c > 0 by omega), h, fitsL (show a.natAbs < 2 ^ 40 by omega), fitsL (show b.natAbs < 2 ^ 40 by omega), fitsL (show c.natAbs < 2 ^ 40 by omega), fitsL (show ((k : Nat) : Int).natAbs < 2 ^ 40 by clear h; omega), fitsL (show (b + (c - 1)).natAbs < 2 ^ 40 by omega)]
  exact Bool.or_true _
end Mine
namespace Mine
open LCg
theorem news_sub {h₀ h : Heap} {L : Addr} {l l' : List (Addr × Obj)} (N : News h₀ L h l) (k : ∀ p ∈ l', p ∈ l) : News h₀ L h l' := fun p hp => N p (k p hp)
theorem off3_sub {I C D : Addr} {l l' : List (Addr × Obj)} (N : Off3 I C D l) (k : ∀ p ∈ l', p ∈ l) : Off3 I C D l' := Off3.of fun p hp => N.mem p (k p hp)
theorem lend {h₀ : Heap} {L : Addr} {m : Str → Option Value} {s : Shared} {I C D : Addr} {Fin : List Value → List (Addr × Obj) → Prop} {ys : List Value} {news : List (Addr × Obj)} {oC : Obj} {m₂ : Str → Option Value} {h : Heap} {tk : Nat}
    (hC : NsObj oC m₂) (F : Fr h₀ L h m) (N : News h₀ L h ((C, oC) :: (D, lst ys) :: news)) (ne : @Ne Nat C D) (off : Off3 I C D news) (f : Fin ys news) : LEnd h₀ L m s C D Fin (.ok .next) { s with heap := h, toks := tk } :=
  ⟨rfl, ys, news, oC, m₂, h, tk, rfl, hC, F, N, ne, fun p hp => (off.mem p hp).2, f⟩
end Mine
end

section
open PySem PySem.W PyProof.Rows PySem.Spec PyProof.V PySem.Calls
set_option Elab.async false
set_option linter.unusedVariables false
set_option maxRecDepth 100000
set_option maxHeartbeats 2000000
namespace Mine
section
variable {prog : Program} {w : World} {A : Around} {E : Value → Shared → Prop} {s : Shared} {env : Env}
noncomputable abbrev IK (prog : Program) (w : World) := PySem.intKind prog w
/-- a pair of int literals -/
noncomputable def LitP (prog : Program) (w : World) (A : Around) (p : DPair) (kv : Int × Int) : Prop :=
  (∀ (s : Shared) (Q E : Value → Shared → Prop), (∀ t tk', Q (.int kv.1 t) { s with toks := tk' }) → wpAny (model prog w) A p.1 Q E s) ∧
  (∀ (s : Shared) (Q E : Value → Shared → Prop), (∀ t tk', Q (.int kv.2 t) { s with toks := tk' }) → wpAny (model prog w) A p.2 Q E s)
inductive Lits (prog : Program) (w : World) (A : Around) : List DPair → List (Int × Int) → Prop
  | nil : Lits prog w A [] []
  | cons {p kv l k} : LitP prog w A p kv → Lits prog w A l k → Lits prog w A (p :: l) (kv :: k)
inductive KV : List (Int × Value) → List (Int × Int) → Prop
  | nil : KV [] []
  | cons {k v t l r} : KV l r → KV ((k, .int v t) :: l) ((k, v) :: r)
theorem KV.keys : ∀ {l : List (Int × Value)} {r : List (Int × Int)}, KV l r → l.map (·.1) = r.map (·.1) := fun h => by
  induction h with
  | nil => rfl
  | cons _ ih => rw [List.map_cons, List.map_cons, ih]
theorem KV.app : ∀ {l l' : List (Int × Value)} {r r' : List (Int × Int)}, KV l r → KV l' r' → KV (l ++ l') (r ++ r') := fun a h => by
  induction a with
  | nil => exact h
  | cons _ ih => exact .cons ih
theorem KV.flat : ∀ {l : List (Int × Value)} {r : List (Int × Int)}, KV l r → FlatPairs PyData.int l (r.map fun x => (PyData.int x.1, PyData.int x.2)) := fun a => by
  induction a with
  | nil => exact .nil
  | cons _ ih => exact .cons (.int _ _) ih
theorem lits_app_left : ∀ {l : List DPair} {k k' : List (Int × Int)}, Lits prog w A l (k ++ k') → ∃ a b, l = a ++ b ∧ Lits prog w A a k ∧ Lits prog w A b k'
  | l, [], k', h => ⟨[], l, rfl, .nil, h⟩
  | _, kv :: k, k', .cons a h => by
    obtain ⟨x, y, rfl, h1, h2⟩ := lits_app_left h
    exact ⟨_ :: x, y, rfl, .cons a h1, h2⟩
theorem Lits.len : ∀ {l : List DPair} {k : List (Int × Int)}, Lits prog w A l k → l.length = k.length := fun h => by
  induction h with
  | nil => rfl
  | cons _ _ ih => rw [List.length_cons, List.length_cons, ih]
theorem Lits.split {l : List DPair} {k : List (Int × Int)} (h : Lits prog w A l k) (n : Nat) : Lits prog w A (l.take n) (k.take n) ∧ Lits prog w A (l.drop n) (k.drop n) := by
  induction n generalizing l k with
  | zero => exact ⟨.nil, h⟩
  | succ n ih =>
    cases h with
    | nil => exact ⟨.nil, .nil⟩
    | cons a h => exact ⟨.cons a (ih h).1, (ih h).2⟩

theorem lit_sets {d : Addr} : ∀ (l : List DPair) (k : List (Int × Int)) (acc : List (Int × Value)) (s : Shared) (Q : PUnit → Shared → Prop), Lits prog w A l k → s.heap.DictOf (IK prog w) d acc → ((acc.map (·.1)) ++ k.map (·.1)).Nodup → acc.length + k.length ≤ sizeLine →
    (∀ kvs h' tk', KV kvs k → h'.DictOf (IK prog w) d (acc ++ kvs) → Heap.SameBut d s.heap h' → Q PUnit.unit { s with heap := h', toks := tk' }) →
    wpAny (model prog w) A (forIn l PUnit.unit fun (x : DPair) (_ : PUnit) => (do
        let kv ← x.1
        let vv ← holding [kv] x.2
        holding [kv, vv] (dictSet d kv vv); pure (ForInStep.yield PUnit.unit) : Sem (ForInStep PUnit))) Q E s := by
  intro l k acc s Q h
  induction h generalizing acc s Q with
  | nil =>
    intro hm _ _ hQ
    rw [List.forIn_nil]
    refine wpAny_pure ?_
    have := hQ [] s.heap s.toks .nil (by simpa using hm) (Heap.SameBut.refl _ _)
    exact this
  | @cons p kv l k hp hl ih =>
    intro hm hn hz hQ
    rw [List.forIn_cons]
    rw [List.length_cons] at hz
    refine wpAny_bind (wpAny_bind (hp.1 _ _ _ fun t1 tk1 => wpAny_bind (wpAny_holding (hp.2 _ _ _ fun t2 tk2 => wpAny_bind (wpAny_holding (wpAny_dictSet_pairs (knd := IK prog w) (k := kv.1) (hsz := by omega) ?_ hm fun h₁ hm₁ hs₁ => wpAny_pure ?_))))))
    · simp [IK, intKind, Value.isInt]
    · have hnk : kv.1 ∉ acc.map (·.1) := fun hx => by
        rw [List.map_cons, List.nodup_append] at hn
        exact hn.2.2 _ hx _ (List.mem_cons_self) rfl
      have hany : ¬ (acc.any fun x => decide (x.1 = kv.1)) = true := by
        rw [List.any_eq_true]; rintro ⟨x, hx, he⟩
        exact hnk (List.mem_map.mpr ⟨x, hx, of_decide_eq_true he⟩)
      rw [stored, if_neg hany] at hm₁
      refine ih _ _ Q hm₁ (by simpa using hn) (by simp; omega) fun kvs h' tk' hk hm' hs' => ?_
      refine hQ ((kv.1, .int kv.2 t2) :: kvs) h' tk' (.cons hk) (by simpa using hm') (hs₁.trans hs')
theorem lit_eval : ∀ (l : List DPair) (k : List (Int × Int)) (s : Shared) (Q : List (Value × Value) → Shared → Prop), Lits prog w A l k →
    (∀ vs kvs tk', KV kvs k → Carries (IK prog w) vs kvs → Q vs { s with toks := tk' }) → wpAny (model prog w) A (evalPairs l) Q E s := by
  intro l k s Q h
  induction h generalizing s Q with
  | nil => exact fun hQ => evalPairs_nil (hQ [] [] s.toks .nil trivial)
  | @cons p kv l k hp hl ih => exact fun hQ => evalPairs_cons (hp.1 _ _ _ fun t1 tk1 => hp.2 _ _ _ fun t2 tk2 => ih _ _ fun vs kvs tk' h1 h2 =>
      hQ ((.int kv.1 t1, .int kv.2 t2) :: vs) ((kv.1, .int kv.2 t2) :: kvs) tk' (.cons h1) ⟨by simp [IK, intKind, Value.isInt], rfl, h2⟩)

theorem sub_lits {l : List DPair} {k : List (Int × Int)} {Q : Addr → Shared → Prop} (hl : Lits prog w A l k) (hn : (k.map (·.1)).Nodup) (hlen : k.length < 1000)
    (h : ∀ kvs h' tk', KV kvs k → h'.DictOf (IK prog w) s.heap.objs.size kvs → (∀ b o, s.heap.get? b = some o → h'.get? b = some o) → Q s.heap.objs.size { s with heap := h', toks := tk' }) :
    wpAny (model prog w) A (subDict l) Q E s := by
  unfold subDict
  refine wpAny_bind (wpAny_alloc (wpAny_bind (wpAny_holding ?_)))
  have hll := hl.len
  have m0 : (s.heap.push { cls := .type "dict", data := .dict #[] }).DictOf (IK prog w) s.heap.objs.size [] := Heap.DictOf.new s.heap
  have up : ∀ h', Heap.SameBut s.heap.objs.size (s.heap.push { cls := .type "dict", data := .dict #[] }) h' → ∀ b o, s.heap.get? b = some o → h'.get? b = some o := fun h' hs b o e =>
    hs.extBut b o (Nat.ne_of_lt (Heap.lt_size e)) (Heap.get?_push_of_some _ e)
  split
  · refine wpAny_bind (lit_eval (E := E) l k _ _ hl fun vs kvs tk' h1 h2 => wpAny_holding ?_)
    refine wpAny_bind (wpAny_storeAll (knd := IK prog w) vs kvs [] _ _ h2 m0 (by rw [sizeLine_eq, List.length_nil]; have := congrArg List.length h1.keys; simp at this; omega) fun h' hm' hs' => wpAny_pure (wpAny_pure ?_))
    rw [merged_nil_of_nodup kvs (by rw [h1.keys]; exact hn)] at hm'
    exact h kvs h' _ h1 hm' (up h' hs')
  · refine wpAny_bind (wpAny_rule (wpAny_bind (lit_sets (E := E) l k [] _ _ hl m0 (by simpa using hn) (by rw [sizeLine_eq, List.length_nil]; omega) fun kvs h' tk' h1 hm' hs' => wpAny_pure (wpAny_pure ?_))))
    exact h kvs h' _ h1 (by simpa using hm') (up h' hs')

theorem put_K {d : Addr} {kvs : List (Int × Value)} {k : Int} {key v : Value} {Q : Unit → Shared → Prop} (hes' : kvs.length ≤ sizeLine) (hkey : (IK prog w).is k key = true) (hm : s.heap.DictOf (IK prog w) d kvs)
    (hQ : ∀ h', h'.DictOf (IK prog w) d (stored kvs k v) → Heap.SameBut d s.heap h' → Q () { s with heap := h' }) :
    wpAny (model prog w) A (dictPut d ((IK prog w).hash k) key v) Q E s := by
  obtain ⟨o, es, ep, ho, hc, hd, hk, hp, hn⟩ := hm
  have hes : es.size ≤ sizeLine := by
    have e1 := hp.length
    have e2 : es.toList.length = es.size := by simp
    omega
  unfold dictPut
  refine wpAny_bind (wpAny_dictFind_of hkey ho hd hk ?_)
  have hidx : (es.findIdx? fun e => (IK prog w).is k e.key) = kvs.findIdx? fun kv => decide (kv.1 = k) := by
    rw [← hp.findIdx k]; obtain ⟨l⟩ := es; simp
  cases hi : es.findIdx? fun e => (IK prog w).is k e.key with
  | some i =>
    refine wpAny_updateDict ho hd (hQ _ ⟨_, _, ep, Heap.get?_update_self _ ho (Obj.isFreed_of_dict (Obj.data_mapDict hd _)),
      hc.mapDict _, Obj.data_mapDict hd _, hk.modify _ _, ?_, ?_⟩ (Heap.SameBut.update ..))
    · rw [stored, if_pos (any_of_findIdx_some (hidx ▸ hi))]
      have hl : (es.toList.findIdx? fun e => (IK prog w).is k e.key) = some i := by rw [← hi]; obtain ⟨l⟩ := es; simp
      have := hp.modify hn hl v
      obtain ⟨l⟩ := es
      simpa using this
    · rw [stored, if_pos (any_of_findIdx_some (hidx ▸ hi)), keys_map_store]; exact hn
  | none =>
    have hnot : k ∉ kvs.map (·.1) := not_mem_of_findIdx_none (hidx ▸ hi)
    have hany : ¬ (kvs.any fun kv => decide (kv.1 = k)) = true := by
      rw [List.any_eq_true]; rintro ⟨kv, hkv, he⟩
      exact hnot (List.mem_map.mpr ⟨kv, hkv, of_decide_eq_true he⟩)
    refine wpAny_updateDictKeys (hz := hes) ho hd (hQ _ ⟨_, _, ep + 1, Heap.get?_update_self _ ho (Obj.isFreed_of_dict (Obj.data_mapDictKeys hd _)),
      hc.mapDictKeys _, Obj.data_mapDictKeys hd _, hk.push hkey _, ?_, ?_⟩ (Heap.SameBut.update ..))
    · rw [stored, if_neg hany]
      have := hp.append hkey ((IK prog w).hash k) v
      obtain ⟨l⟩ := es
      simpa using this
    · rw [stored, if_neg hany, List.map_append, List.nodup_append]
      refine ⟨hn, by simp, ?_⟩
      intro a ha b hb
      simp only [List.map_cons, List.map_nil, List.mem_singleton] at hb
      subst hb
      exact fun e => hnot (e ▸ ha)

theorem merge_K {d o : Addr} {kvs more : List (Int × Value)} {Q : Unit → Shared → Prop} (hdo : d ≠ o) (hoS : (o == sysModules) = false) (h0 : kvs ≠ [])
    (hd : s.heap.DictOf (IK prog w) d kvs) (ho : s.heap.DictOf (IK prog w) o more)
    (hQ : ∀ h', h'.DictOf (IK prog w) d (merged kvs more) → Heap.SameBut d s.heap h' → Q () { s with heap := h' })
    (hsz : kvs.length + more.length ≤ sizeLine) :
    wpAny (model prog w) A (mergeMapping d (.ref o) false) Q E s := by
  obtain ⟨od, esd, epd, hod, hcd, hdd, hkd, hpd, hnd⟩ := id hd
  obtain ⟨oo, eso, epo, hoo, hco, hdo', hko, hpo, hno⟩ := id ho
  have hlen : more.length = eso.size := by rw [← hpo.length]; simp
  have hT : s.TypeIs (.ref o) "dict" := ⟨oo, hoo, hco.1⟩
  unfold mergeMapping
  refine wpAny_bind (wpAny_isInstance hT dict_sub ?_)
  rw [if_pos rfl]
  refine wpAny_bind (wpAny_specialOf hT dict_iter ?_)
  rw [show (some (Value.builtin "dict.__iter__") == some (Value.builtin "dict.__iter__")) = true from by decide]
  refine wpAny_bind (wpAny_pure ?_)
  dsimp only
  rw [if_neg (by rw [hoS]; exact Bool.false_ne_true)]
  refine wpAny_bind (wpAny_dictEntries hod hdd ?_)
  have hemp : esd.isEmpty = false := by
    have := hpd.length
    rw [Array.isEmpty_eq_false_iff]
    intro e; subst e; simp at this; exact h0 (List.length_eq_zero_iff.mp this.symm)
  rw [hemp, if_neg Bool.false_ne_true]
  refine wpAny_bind (wpAny_dictEntries hoo hdo' ?_)
  refine wpAny_bind (wpAny_dictEpoch hoo hdo' ?_)
  refine wpAny_bind ?_
  rw [List.range_eq_range']
  refine wpAny_forIn_list _
      (fun rest _ s' => ∃ h' i, s' = { s with heap := h' } ∧ rest = List.range' i (eso.size - i) ∧ i ≤ eso.size ∧ h'.DictOf (IK prog w) d (merged kvs (more.take i)) ∧ h'.get? o = some oo ∧ Heap.SameBut d s.heap h')
      _ ?_ ?_ _ _ ⟨s.heap, 0, rfl, by simp, Nat.zero_le _, by simpa [merged] using hd, hoo, Heap.SameBut.refl _ _⟩
  · rintro x rest b s' ⟨h', i, rfl, hr, hi, hd', hoo', hs'⟩
    have hlt : i < eso.size := by
      rcases Nat.lt_or_ge i eso.size with h | h
      · exact h
      · rw [Nat.sub_eq_zero_of_le h] at hr; simp at hr
    obtain ⟨rfl, hrest⟩ : x = i ∧ rest = List.range' (i + 1) (eso.size - (i + 1)) := by
      have e : eso.size - i = (eso.size - (i + 1)) + 1 := by omega
      rw [e, List.range'_succ] at hr
      injection hr with h1 h2
      exact ⟨h1, h2⟩
    refine wpAny_bind (wpAny_dictEntries hoo' hdo' ?_)
    rw [Array.getElem?_eq_getElem hlt]
    obtain ⟨kv, hkv⟩ : ∃ kv, more[x]? = some kv := ⟨more[x]'(by rw [hlen]; exact hlt), List.getElem?_eq_getElem _⟩
    obtain ⟨k, v⟩ := kv
    obtain ⟨hkey, hval⟩ := hpo.get? (e := eso[x]) (by simp [hlt]) hkv
    obtain ⟨k', hkey', hhash⟩ := hko eso[x] (Array.getElem_mem hlt)
    obtain rfl : k' = k := (IK prog w).inj _ _ _ hkey' hkey
    show wpAny _ _ (holding [eso[x].key, eso[x].val] (dictPut d eso[x].hash eso[x].key eso[x].val) >>= _) _ _ _
    rw [hhash, hval]
    have hmx : (merged kvs (more.take x)).length ≤ sizeLine := by
      have e1 := merged_length_le kvs (more.take x)
      have e2 : (more.take x).length ≤ more.length := by rw [List.length_take]; omega
      omega
    refine wpAny_bind (wpAny_holding (put_K hmx hkey hd' fun h'' hd'' hs'' => ?_))
    have hoo'' : h''.get? o = some oo := (hs''.2 o (Ne.symm hdo)).trans hoo'
    refine wpAny_bind (wpAny_dictEpoch hoo'' hdo' ?_)
    rw [if_neg (by simp)]
    exact wpAny_pure ⟨h'', x + 1, rfl, hrest, hlt, by rw [merged_take_succ kvs more x (k', v) hkv]; exact hd'', hoo'', hs'.trans hs''⟩
  · rintro b s' ⟨h', i, rfl, hr, hi, hd', hoo', hs'⟩
    have hin : i = eso.size := by
      rcases Nat.lt_or_ge i eso.size with h | h
      · have e : eso.size - i = (eso.size - (i + 1)) + 1 := by omega
        rw [e, List.range'_succ] at hr; exact nomatch hr
      · exact Nat.le_antisymm hi h
    refine wpAny_pure (hQ h' ?_ hs')
    rw [hin, ← hlen, List.take_length] at hd'; exact hd'

/-- a display's keys and values, all of them int literals -/
noncomputable abbrev shapeI : List (Option Expr) → List Expr → Option (List (Int × Int)) := shapeG intC
theorem shapeI_items {dp : Pos} : ∀ (ks : List (Option Expr)) (vs : List Expr) (kv : List (Int × Int)), shapeI ks vs = some kv →
    (evalEachOpt ks env).zip ((evalEach vs env).map fun v => do let x ← v; standAt dp; pure x) = (itemOf dp env ks vs).map (fun x => (some x.1, x.2)) ∧ Lits prog w A (itemOf dp env ks vs) kv := by
  intro ks
  induction ks with
  | nil =>
    intro vs kv h
    cases vs with
    | nil => cases h; exact ⟨rfl, .nil⟩
    | cons _ _ => exact nomatch h
  | cons k r ih =>
    intro vs kv h
    cases vs with
    | nil => exact nomatch h
    | cons v r' =>
      obtain ⟨i, a1, a2, x, kv', rfl, h5, h6, rfl⟩ := shapeG_cons h
      obtain ⟨a3, a4, rfl⟩ := intC_is h5
      obtain ⟨e, l⟩ := ih r' kv' h6
      refine ⟨?_, .cons ⟨fun s Q E h => ?_, fun s Q E h => ?_⟩ l⟩
      rotate_left
      · exact wpAny_Constant_int (env := env) (k := a1) (pos := a2) (h _ _)
      · exact wpAny_bind (wpAny_Constant_int (env := env) (k := a3) (pos := a4) (wpAny_bind (wpAny_standAt (wpAny_pure (h _ _)))))
      rw [evalEachOpt, evalEach, List.map_cons, List.zip_cons_cons, itemOf, List.map_cons, e]
      rfl
theorem Dict_long {h₀ : Heap} {L : Addr} {m : Str → Option Value} {news : List (Addr × Obj)} {keys : List (Option Expr)} {values : List Expr} {pos : Pos} {kl : List (Int × Int)} {Q : Value → Shared → Prop} (F : Fr h₀ L s.heap m) (N : News h₀ L s.heap news) (hbig : h₀.NoLimit)
    (hsh : shapeI keys values = some kl) (h1 : 17 < kl.length) (h2 : kl.length < 33) (hn : (kl.map (·.1)).Nodup)
    (h : ∀ d o kvs h' tk', Fr h₀ L h' m → News h₀ L h' ((d, o) :: news) → (∀ p ∈ news, p.1 < d) → (d == sysModules) = false → o.IsDictOf (IK prog w) kvs → KV kvs kl → Q (.ref d) { s with heap := h', toks := tk' }) :
    wpAny (model prog w) A (eval (.Dict keys values pos) env) Q E s := by
  obtain ⟨e, i⟩ := shapeI_items (prog := prog) (w := w) (A := A) (env := env) (dp := pos) keys values kl hsh
  rw [arm_eval_Dict, e]
  obtain ⟨i1, i2⟩ := i.split 17
  have hl := i.len
  generalize itemOf pos env keys values = l at i1 i2 hl e
  have e1 : l = l.take 17 ++ l.drop 17 := (List.take_append_drop 17 l).symm
  have hl1 : (l.take 17).length = 17 := by rw [List.length_take]; omega
  have hl2 : (l.drop 17).length = kl.length - 17 := by rw [List.length_drop]; omega
  rw [e1, List.map_append]
  generalize l.take 17 = l1 at i1 hl1
  generalize l.drop 17 = l2 at i2 hl2
  have hn' : ((kl.take 17 ++ kl.drop 17).map (·.1)).Nodup := by rw [List.take_append_drop]; exact hn
  rw [List.map_append, List.nodup_append] at hn'
  refine wpAny_bind (wpAny_standAt ?_)
  unfold dictDisplay
  dsimp only
  have hne1 : l1.isEmpty = false := by cases l1 with | nil => cases hl1 | cons _ _ => rfl
  have hne2 : l2.isEmpty = false := by cases l2 with | nil => simp at hl2; omega | cons _ _ => rfl
  rw [show (fun (x : DPair) => ((some x.1, x.2) : Option (Sem Value) × Sem Value)) = (fun x => (some x.1, x.2)) from rfl]
  have e4 : ∀ r : List DPair, r.map (fun x => ((some x.1, x.2) : Option (Sem Value) × Sem Value)) ++ [] = r.map (fun x => (some x.1, x.2)) := fun r => List.append_nil _
  rw [← e4 l2, forIn_17 _ none (fun x run h => by
        have hne : ((run ++ [(x.1, x.2)]).length == 17) = false := by simp; omega
        dsimp only
        rw [hne, if_neg Bool.false_ne_true]) (fun x run h => by
        have hne : ((run ++ [(x.1, x.2)]).length == 17) = true := by simp; omega
        dsimp only
        rw [hne, if_pos rfl]
        rfl) _ l1 hl1]
  unfold flushD
  rw [hne1, if_neg Bool.false_ne_true]
  dsimp only
  have hsz : s.heap.objs.size = s.heap.objs.size := rfl
  have zlen : ∀ {kvs : List (Int × Value)} {k : List (Int × Int)}, KV kvs k → kvs.length = k.length := fun h => by have := congrArg List.length h.keys; simpa using this
  refine wpAny_bind (wpAny_bind (wpAny_bind (sub_lits i1 hn'.1 (by rw [List.length_take]; omega) fun kvs1 h₁ tk₁ k1 d1 up1 => wpAny_pure ?_)))
  rw [forIn_16 _ (some s.heap.objs.size) (fun x run h => by
        have hne : ((run ++ [(x.1, x.2)]).length == 17) = false := by simp; omega
        dsimp only
        rw [hne, if_neg Bool.false_ne_true]) [] l2 [] (by rw [List.length_nil]; omega), List.forIn_nil, List.nil_append]
  refine wpAny_pure ?_
  rw [hne2, if_neg Bool.false_ne_true]
  dsimp only
  have k1l := zlen k1
  have hd1 : s.heap.objs.size < h₁.objs.size := by obtain ⟨_, _, _, e, _⟩ := d1; exact Heap.lt_size e
  have hsm : (s.heap.objs.size == sysModules) = false := F.notModules (modules_low hbig)
  have hsm1 : (h₁.objs.size == sysModules) = false := (F.keeps up1).notModules (modules_low hbig)
  refine wpAny_bind (wpAny_bind (wpAny_holding (sub_lits i2 hn'.2.1 (by rw [List.length_drop]; omega) fun kvs2 h₂ tk₂ k2 d2 up2 => ?_)))
  have k2l := zlen k2
  have d1' : h₂.DictOf (IK prog w) s.heap.objs.size kvs1 := by
    obtain ⟨o, es, ep, e, r⟩ := d1
    exact ⟨o, es, ep, up2 _ _ e, r⟩
  refine wpAny_bind (wpAny_onRaise (wpAny_holding (merge_K (d := s.heap.objs.size) (Nat.ne_of_lt hd1) hsm1 (by intro e; rw [e] at k1l; rw [List.length_take] at k1l; simp at k1l; omega) d1' d2 (fun h₃ d3 hs3 => ?_) (by rw [k1l, k2l, List.length_take, List.length_drop, sizeLine_eq]; omega))))
  refine wpAny_pure (wpAny_pure ?_)
  have hk12 : ((kvs1 ++ kvs2).map (·.1)).Nodup := by
    rw [List.map_append, k1.keys, k2.keys, ← List.map_append, List.take_append_drop]; exact hn
  rw [merged_append_of_fresh kvs1 kvs2 hk12] at d3
  obtain ⟨o, ho, hd⟩ := Heap.dictOf_iff.mp d3
  have up3 : ∀ b o, s.heap.get? b = some o → h₃.get? b = some o := fun b o e => hs3.extBut b o (Nat.ne_of_lt (Heap.lt_size e)) (up2 _ _ (up1 _ _ e))
  refine h s.heap.objs.size o _ h₃ _ (F.keeps up3) (fun p hp => ?_) (fun p hp => Heap.lt_size (N p hp).1) hsm hd (by have := k1.app k2; rw [List.take_append_drop] at this; exact this)
  rcases List.mem_cons.mp hp with rfl | hp
  · refine ⟨ho, Nat.ne_of_gt F.ns.lt, ?_⟩
    cases hq : h₀.get? s.heap.objs.size with
    | none => rfl
    | some o' => exact absurd (Heap.lt_size (F.keep _ _ hq)) (Nat.lt_irrefl _)
  · exact ⟨up3 _ _ (N p hp).1, (N p hp).2⟩
end
end Mine
end

section
open PySem PySem.W PyProof.Rows PySem.Spec PySem.Calls
set_option Elab.async false
set_option linter.unusedVariables false
set_option maxRecDepth 100000
set_option maxHeartbeats 2000000
namespace Mine
section
variable {prog : Program} {w : World} {A₀ A : Around} {s : Shared} {base h₀ : Heap} {L f : Addr} {m mg mb : Str → Option Value} {news : List (Addr × Obj)} {K : Frag} {p : Program} {loose : List Str} {mean : ExcName → Option Value}
  {env : Env} {R : Result → Shared → Prop} {name qual : Str} {params : Arguments} {body : List Stmt} {scope : Scope} {dV kV doc pm cdv ct oc : Value} {an od : Option Addr} {osl : Array (Option Value)} {args : Args} {binds : List (Str × Value)}
/-- a def with a try of its own, called from the lowest frame, whatever cells that one has -/
theorem defX0 (B : Below A₀ base [] h₀) (F : Fr h₀ L s.heap m) (X₀ : K.In h₀) (N : News h₀ L s.heap news) (T : Top p loose mean mg mb h₀) (hA : A.frames = some [env]) (hf : env.frame = some L) (hke : env.scope.kind = .function)
    (ho : K.lookup f = some ⟨oc, od, .func (fnOf name qual params body scope dV kV doc pm an cdv ct), osl⟩) (hcd : codeIn K cdv qual = true) (hroom : A.depth < recursionLimit)
    (hbind : BindsTo s (fnOf name qual params body scope dV kV doc pm an cdv ct) args binds) (hloc : ∀ y ∈ binds, scope.names.lookup y.1 = some .local)
    (h : ∀ g L' h₁, Fr h₀ L g m → Fr g L' h₁ (fun y => binds.reverse.lookup y) → News g L' h₁ news → Below A base [env] g → K.In g → Top p loose mean mg mb g → KtsDicts ([env].filterMap (·.frame)) g → (∀ p ∈ news, p.1 < L') →
      wpAny (model prog w) (A.deeper (envOf qual scope L' f cdv)) (execs body (envOf qual scope L' f cdv))
        (fun fl s' => LeaveS0 ([env].filterMap (·.frame)) h₀ L m g R (match fl with | .ret v => v | _ => .none) s')
        (fun e s' => wpAny (model prog w) (A.deeper (envOf qual scope L' f cdv)) (leaving (envOf qual scope L' f cdv) e) (fun _ s'' => R (.error e) s'') (fun e' s'' => R (.error e') s'') s')
        { s with heap := h₁, toks := s.toks + binds.length })
    (hco : scope.isCoroutine = false) (hgen : scope.isGenerator = false) (hk : scope.kind = .function)
    (hcell : ∀ x ∈ scope.names, x.2 ≠ .cell) : codeAny (model prog w) A (.call (.ref f) args) R s := by
  have X := X₀.keeps F.keep
  obtain ⟨FG, BG, st, lv⟩ := groundX (R := R) B F N hA hf hke
  have efs : [env].filterMap (·.frame) = [L] := by simp [hf]
  refine codeAny_call_def (fd := fnOf name qual params body scope dV kV doc pm an cdv ct) (body := body) (binds := binds) hroom (X _ _ ho) rfl (T.nolimit.keeps F.keep) (codeRec_of X hcd) rfl hbind hcell hloc (fun h₁ hns hk₁ => ?_) hco hgen hk
  obtain ⟨oL, es, ep, hLg, hLd, hLk, hLf⟩ := FG.ns
  refine wpAny_mono (h _ s.heap.objs.size h₁ FG ⟨hns, fun b o e => hk₁ b o (of_hideAll _ e), Nat.le_of_eq (hideAll_size _ _)⟩
    (fun p hp => ⟨hk₁ _ _ (N p hp).1, Nat.ne_of_lt (Heap.lt_size (N p hp).1), hideAll_none _ (List.mem_map_of_mem hp)⟩) BG (X₀.keeps st) (T.keeps st) (fun b hb => by
      rw [efs] at hb
      rw [List.mem_singleton.mp hb]
      exact ⟨oL, es, ep, hLg, hLd⟩) (fun p hp => Heap.lt_size (N p hp).1)) (fun fl s' hl => ?_) fun _ _ y => y
  obtain ⟨g', L', m', news', T', F', N', k⟩ := hl
  rw [efs] at T'
  have nL₀ : h₀.get? L = none := kts_self F
  obtain ⟨sl, hs⟩ := T'.up hLg
  refine k ⟨⟨_, es, ep, F'.keep _ _ hs, hLd, hLk, hLf⟩, fun b o e => F'.keep b o (T'.other b o (st b o e) (fun q => by rw [List.mem_singleton.mp q, nL₀] at e; cases e)), F.above⟩ fun p hp => ⟨(N' p hp).1, fun q => ?_, ?_⟩
  · have := (N' p hp).2.2; rw [q, hs] at this; cases this
  · cases q : h₀.get? p.1 with
    | none => rfl
    | some o =>
      obtain ⟨sl', hs'⟩ := T'.up (st _ _ q)
      have := (N' p hp).2.2
      rw [hs'] at this
      cases this
end
end Mine
end

section
open PySem PySem.W PyProof.Rows PySem.Spec PySem.Calls
set_option Elab.async false
set_option linter.unusedVariables false
set_option maxRecDepth 100000
set_option maxHeartbeats 2000000
namespace Mine
section
variable {prog : Program} {w : World} {A : Around} {E : Value → Shared → Prop} {s : Shared} {h₀ : Heap} {env : Env} {target : Expr} {body : List Stmt} {Q : Flow → Shared → Prop}
theorem unr_mono {L : Addr} {s₁ : Shared} {its : List (Addr × Obj)} {r r' : (Str → Option Value) → List (Addr × Obj) → Prop} (h : ∀ m n, r m n → r' m n) {f : Flow} {s₂ : Shared} (x : UnrPostW h₀ L s₁ its r Q f s₂) : UnrPostW h₀ L s₁ its r' Q f s₂ := by
  cases f with
  | ret v => exact x
  | brk => exact x
  | next => obtain ⟨a, b, c, d, e, F, N, o, k⟩ := x; exact ⟨a, b, c, d, e, F, N, o, h _ _ k⟩
  | cont => obtain ⟨a, b, c, d, e, F, N, o, k⟩ := x; exact ⟨a, b, c, d, e, F, N, o, h _ _ k⟩
theorem allObj_mono : ∀ {ws : List (Addr × String)} {k k' : List (Addr × Obj) → Prop}, (∀ its, k its → k' its) → AllObj ws k → AllObj ws k'
  | [], _, _, h, x => h [] x
  | w :: r, _, _, h, x => fun o ho => allObj_mono (fun its hk => h _ hk) (x o ho)
/-- a loop over items, by what holds between the turns -/
theorem items_inv {ws : List (Addr × String)} {keep : List (Addr × Obj)} {xs : List Itm} (Inv : Nat → (Str → Option Value) → List (Addr × Obj) → Prop)
    (turn : ∀ i a m news v h tk, xs[i]? = some a → Inv i m news → a.Is v h → Fr h₀ env.locals h m → AllObj ws (fun its => News h₀ env.locals h (its ++ news) →
      wpAny (model prog w) A (assign target env v) (fun _ s₂ => wpAny (model prog w) A (execs body env) (UnrPostW h₀ env.locals { s with heap := h, toks := tk } its (fun m' n' => SubL keep n' ∧ Inv (i + 1) m' n') Q) E s₂) E { s with heap := h, toks := tk }))
    (fin : ∀ m news h tk, Inv xs.length m news → Fr h₀ env.locals h m → News h₀ env.locals h news → Q .next { s with heap := h, toks := tk })
    {m : Str → Option Value} {news : List (Addr × Obj)} (hi : Inv 0 m news) : ItemsRest prog w A E h₀ env target body Q s ws keep xs m news := by
  suffices H : ∀ (ys : List Itm) i m news, xs.drop i = ys → i ≤ xs.length → Inv i m news → ItemsRest prog w A E h₀ env target body Q s ws keep ys m news from H xs 0 m news rfl (Nat.zero_le _) hi
  intro ys
  induction ys with
  | nil =>
    intro i m news hd hl hi h tk F N
    have : xs.length ≤ i := List.drop_eq_nil_iff.mp hd
    obtain rfl : i = xs.length := by omega
    exact fin m news h tk hi F N
  | cons a r ih =>
    intro i m news hd hl hi v h tk hv F
    have hlt : i < xs.length := by
      rcases Nat.lt_or_ge i xs.length with h | h
      · exact h
      · rw [List.drop_eq_nil_of_le h] at hd; cases hd
    have ha : xs[i]? = some a := by
      have := congrArg (fun l => l[0]?) hd
      simpa using this
    have hr : xs.drop (i + 1) = r := by
      have := congrArg List.tail hd
      simpa using this
    refine allObj_mono (fun its hk N => ?_) (turn i a m news v h tk ha hi hv F)
    refine wpAny_mono (hk N) (fun _ s₂ h₂ => wpAny_mono h₂ (fun f s₃ h₃ => ?_) fun _ _ e => e) fun _ _ e => e
    exact unr_mono (fun m' n' h' => ⟨h'.1, ih (i + 1) m' n' hr hlt h'.2⟩) h₃
end
end Mine
end

section
open PySem PySem.W PyProof.Rows PySem.Spec PySem.Calls
set_option Elab.async false
set_option linter.unusedVariables false
set_option maxRecDepth 100000
set_option maxHeartbeats 2000000
namespace Mine
section
variable {prog : Program} {w : World} {A : Around} {E : Value → Shared → Prop} {s : Shared} {h₀ : Heap} {env : Env} {target : Expr} {body : List Stmt} {Q : Flow → Shared → Prop}
noncomputable def rangeItems (a : Int) (n : Nat) : List Itm := (List.range n).map fun (i : Nat) => Itm.tok fun t => .int (a + (i : Int) * 1) t
theorem walks_in {I : Addr} {fp wr : List Addr} {n : Nat} {P : Nat → Value → Prop} {St : Nat → Heap → Prop} (W : Walks prog w A I fp wr n P St) : Walks prog w A I fp wr n (fun i v => i < n ∧ P i v) St :=
  { W with item := fun i s Q E hi st h => W.item i s Q E hi st fun v h' tk hP => h v h' tk ⟨hi, hP⟩ }
theorem iter_rangeTurns {r : Addr} {a b : Int} {t u v : Tok} {n : Nat} {m₀ : Str → Option Value} {news : List (Addr × Obj)}
    (hgo : ∀ I x, letOwnedTupleGo target (.ref I) x = pure ()) (hh : A.handled = none) (F : Fr h₀ env.locals s.heap m₀) (N : News h₀ env.locals s.heap news) (hr : IsRange s.heap r a b 1 t u v) (hsm : Builtin.Range.small a b 1 = true) (hn : Builtin.Range.rangeSize a b 1 = ((n : Nat) : Int))
    (rest₀ : ∀ I : Addr, (∀ p ∈ news, p.1 < I) → ItemsRest prog w A E h₀ env target body Q s [(I, "range_iterator")] [] (rangeItems a n) m₀ news) :
    wpAny (model prog w) A (pyIter (.ref r)) (fun it s₂ => TurnsAt prog w A h₀ env target body Q E it s₂) E s := by
  refine wpAny_pyIter_range hr hsm ?_
  refine ktu_core (tk0 := s.toks) (keep := []) (n := n) (KTurns.ofWalks (walks_in (Walks.range hh s.heap.objs.size a 1 n)) fun i v s Q E st q => wpAny_of_eq (hgo _ _) q) (by simp [rangeItems]) (fun i v h hp => ?_) (fun i h st => ?_) (fun b hb => ?_) (fun b hb => by simpa using hb) (fun b hb => ?_) ?_ (fun p hp hI => ?_) ?_ (F.push _) (fun p hp => ⟨Heap.get?_push_of_some _ (N p hp).1, (N p hp).2⟩) trivial (rest₀ _ fun p hp => Heap.lt_size (N p hp).1)
  · obtain ⟨hi, t', rfl⟩ := hp
    exact ⟨.tok fun t => .int (a + (i : Int) * 1) t, by simp [rangeItems, hi], t', rfl⟩
  · exact ⟨[(s.heap.objs.size, _)], ⟨⟨rfl, rfl⟩, trivial⟩, fun p hp => by rw [List.mem_singleton.mp hp]; exact st⟩
  · have hb' : b = s.heap.objs.size := by simpa using hb
    rw [hb']
    exact ⟨List.mem_cons_self .., next_is_new F⟩
  · have hb' : b = s.heap.objs.size := by simpa using hb
    exact .inl (by simp [hb'])
  · intro hI
    exact absurd F.ns.lt ((List.mem_singleton.mp hI) ▸ Nat.lt_irrefl _)
  · exact absurd (Heap.lt_size (N p hp).1) ((List.mem_singleton.mp hI) ▸ Nat.lt_irrefl _)
  · show IsRangeIter _ _ _ _ _
    rw [hn]
    simpa using Heap.get?_push_size _ rfl
end
end Mine
end

section
open PySem PySem.W PyProof.Rows PySem.Spec PySem.Calls
set_option Elab.async false
set_option linter.unusedVariables false
set_option maxRecDepth 100000
set_option maxHeartbeats 4000000
namespace Mine
section
variable {prog : Program} {w : World} {A : Around} {E : Value → Shared → Prop} {s : Shared} {h₀ : Heap} {L : Addr} {m : Str → Option Value} {news : List (Addr × Obj)}
/-- the texts met so far, each once -/
noncomputable def met (xs : List Str) : List Str := xs.foldl step_dedup []
theorem met_app (xs : List Str) (x : Str) : met (xs ++ [x]) = step_dedup (met xs) x := by unfold met; rw [List.foldl_append]; rfl
theorem sd_any (σ : List Str) (v k : Str) : (step_dedup σ v).any (· == k) = (σ.any (· == k) || decide (k = v)) := by
  unfold step_dedup
  split
  · rename_i h
    by_cases e : k = v
    · subst e; simp [h]
    · simp [e]
  · rw [List.any_append]
    by_cases e : k = v
    · subst e; simp
    · have hb : (v == k) = false := by
        rw [Bool.eq_false_iff]; exact fun h' => e (eq_of_beq h').symm
      simp [hb, e]
theorem sd_len (σ : List Str) (v : Str) : (step_dedup σ v).length = if σ.any (· == v) then σ.length else σ.length + 1 := by
  unfold step_dedup; split <;> simp
theorem met_le (xs : List Str) : (met xs).length ≤ xs.length := by
  suffices ∀ (xs σ : List Str), (xs.foldl step_dedup σ).length ≤ σ.length + xs.length by simpa [met] using this xs []
  intro xs
  induction xs with
  | nil => intro σ; exact Nat.le_refl _
  | cons x r ih =>
    intro σ
    have h1 := ih (step_dedup σ x)
    have h2 := sd_len σ x
    rw [List.foldl_cons, List.length_cons]
    split at h2 <;> omega
theorem strs_at : ∀ {vs : List Value} {xs : List Str}, StrsAre vs xs → ∀ (i : Nat) (v : Value), vs[i]? = some v → ∃ t x, v = .str x t ∧ xs[i]? = some x := fun a => by
  induction a with
  | nil => exact fun i v h => nomatch h
  | cons x t _ ih =>
    intro i v h
    cases i with
    | zero => exact ⟨t, x, (Option.some.inj h).symm, rfl⟩
    | succ i => exact ih i v h
theorem upd_loop {R : Result → Shared → Prop} {I l S : Addr} {its : Array Value} {xs : List Str} (hh : A.in1.handled = none) (hne : l ≠ I) (hSI : S ≠ I) (hSl : S ≠ l)
    (hi : StrsAre its.toList xs) (hb : its.size + 1 < scanBound) :
    ∀ (k i : Nat) (s : Shared), its.size - i = k → i ≤ its.size → s.heap.IsListIter I l i ∧ s.heap.IsList l its →
      s.heap.SetOf (strKind prog w) S (fun k' => (met (xs.take i)).any (· == k')) (met (xs.take i)).length →
      (∀ h tk, (∀ b o, b ≠ S → b ≠ I → s.heap.get? b = some o → h.get? b = some o) → h.SetOf (strKind prog w) S (fun k' => (met xs).any (· == k')) (met xs).length → R (.ok (.ret .none)) { s with heap := h, toks := tk }) →
      codeAny (model prog w) A (.builtin "set.update.loop" ⟨[.ref S, .ref I], []⟩) R s := by
  have hxl : xs.length = its.size := by
    have : ∀ {vs : List Value} {a : List Str}, StrsAre vs a → vs.length = a.length := fun h => by
      induction h with
      | nil => rfl
      | cons y t h' ih => simp [ih]
    rw [← this hi, Array.length_toList]
  have W := (Walks.list (prog := prog) (w := w) hh I l hne its)
  intro k
  induction k with
  | zero =>
    intro i s hk hi2 hst hS hR
    have hin : i = its.size := by omega
    subst hin
    refine codeAny_builtin PyProof.Rows.F.entry_set_update_loop ?_
    rw [Around.under_plainId PyProof.Rows.F.plain_set_update_loop _]
    show wpAny _ A.in1 (pyNext (.ref I) >>= _) _ _ s
    rw [List.take_of_length_le (by omega)] at hS
    refine wpAny_bind (W.done s _ _ hst fun h' tk' keep => ?_)
    show wpAny _ A.in1 (ret Value.none) _ _ _
    obtain ⟨o, es, ep, tb, ho, rest⟩ := hS
    exact wpAny_pure (hR _ _ (fun b o h1 h2 e => keep b o (by simpa using h2) e) ⟨o, es, ep, tb, keep _ _ (by simpa using hSI) ho, rest⟩)
  | succ k ih =>
    intro i s hk hi2 hst hS hR
    have hlt : i < its.size := by omega
    refine codeAny_builtin PyProof.Rows.F.entry_set_update_loop ?_
    rw [Around.under_plainId PyProof.Rows.F.plain_set_update_loop _]
    show wpAny _ A.in1 (pyNext (.ref I) >>= _) _ _ s
    refine wpAny_bind (W.item i s _ _ hlt hst fun v h' tk' hP hst' keep => ?_)
    obtain ⟨t, x, rfl, hx⟩ := strs_at hi i v (by rw [Array.getElem?_toList]; exact hP)
    have hS' : h'.SetOf (strKind prog w) S (fun k' => (met (xs.take i)).any (· == k')) (met (xs.take i)).length := by
      obtain ⟨o, es, ep, tb, ho, rest⟩ := hS
      exact ⟨o, es, ep, tb, keep _ _ (by simpa using hSI) ho, rest⟩
    have hms : met (xs.take (i + 1)) = step_dedup (met (xs.take i)) x := by
      rw [List.take_add_one, hx]; exact met_app _ _
    show wpAny _ A.in1 (holding [Value.str x t] (setAdd S (.str x t)) >>= _) _ _ _
    refine wpAny_bind (wpAny_holding ?_)
    unfold setAdd
    refine wpAny_holding ?_
    refine wpAny_bind ((strKind prog w).pyHash (k := x) (strKind_is _ _ _ _) ?_)
    have hroom : (met (xs.take i)).length + 1 < scanBound := by
      have := met_le (xs.take i)
      rw [List.length_take] at this
      omega
    refine wpAny_setAddHashed_of (knd := strKind prog w) (s := { s with heap := h', toks := tk' + 1 }) (strKind_is _ _ _ _) rfl hS' hroom fun h2 hsb hS2 => ?_
    have hSi : h2.SetOf (strKind prog w) S (fun k' => (met (xs.take (i + 1))).any (· == k')) (met (xs.take (i + 1))).length :=
      SetOf_congr hS2 (fun k' => by rw [hms, sd_any]) (by rw [hms, sd_len])
    refine wpAny_pure ⟨plainId_quiet PyProof.Rows.F.plain_set_update_loop _, ih (i + 1) _ (by omega) hlt (W.frame _ _ _ hst' fun b hb o e => ?_) hSi fun h3 tk3 keep3 hS3 => ?_⟩
    · refine hsb.extBut b o ?_ e
      rintro rfl
      simp at hb
      rcases hb with hb | hb
      · exact hSI hb
      · exact hSl hb
    · exact hR h3 tk3 (fun b o h1 h2 e => keep3 b o h1 h2 (hsb.extBut b o h1 (keep b o (by simpa using h2) e))) hS3
/-- set([..]) of texts -/
theorem set_strs {l : Addr} {items : Array Value} {xs : List Str} {Q : Value → Shared → Prop} (F : Fr h₀ L s.heap m) (N : News h₀ L s.heap news)
    (hh : A.handled = none) (hl : s.heap.IsList l items) (hi : StrsAre items.toList xs) (hb : items.size + 1 < scanBound)
    (h : ∀ D h' (tk : Nat) o, Fr h₀ L h' m → News h₀ L h' ((D, o) :: news) → (∀ p ∈ news, p.1 < D) → o.SetObjOf (strKind prog w) (fun k' => (met xs).any (· == k')) (met xs).length → Q (.ref D) { s with heap := h', toks := tk }) :
    wpAny (model prog w) A (call (.type "set") [.ref l]) Q E s := by
  have fin : ∀ h' (tk : Nat), h'.SetOf (strKind prog w) s.heap.objs.size (fun k' => (met xs).any (· == k')) (met xs).length → (∀ b o, b < s.heap.objs.size → s.heap.get? b = some o → h'.get? b = some o) → Q (.ref s.heap.objs.size) { s with heap := h', toks := tk } := fun h' tk hS hk => by
    obtain ⟨o, ho, hso⟩ := hS.objOf
    obtain ⟨oL, _, _, hL, _⟩ := F.ns
    have hLlt : L < s.heap.objs.size := Heap.lt_size hL
    refine h _ h' tk o ⟨F.ns.at' fun o' e => hk L o' hLlt e, fun b o' e => hk b o' (Heap.lt_size (F.keep b o' e)) (F.keep b o' e), F.above⟩ (fun p hp => ?_) (fun p hp => Heap.lt_size (N p hp).1) hso
    rcases List.mem_cons.mp hp with rfl | hp
    · refine ⟨ho, Nat.ne_of_gt hLlt, ?_⟩
      cases hq : h₀.get? s.heap.objs.size with
      | none => rfl
      | some o' => exact absurd (Heap.lt_size (F.keep _ _ hq)) (Nat.lt_irrefl _)
    · exact ⟨hk _ _ (Heap.lt_size (N p hp).1) (N p hp).1, (N p hp).2.1, (N p hp).2.2⟩
  clear h
  obtain ⟨c, tl, hmro⟩ := PySem.F.called_set.mro
  have hmade := PySem.F.called_set.made
  have hsub := PySem.F.called_set.sub
  refine wpAny_call (codeAny_of_tree ?_)
  show wpAny _ _ (callAny (.type "set") _) _ _ _
  refine wpAny_pure ⟨Code.quiet_builtin _ (by decide +kernel), codeAny_builtin PySem.F.entry_type_call ?_⟩
  rw [Around.under_plain (weight_type_call_type "set" [.ref l] []) rfl]
  have h1 := PySem.F.called_set.notType
  have h2 := PySem.F.called_set.canCreate
  have hct := PySem.F.typeCall_set_1 (.ref l)
  repeat (any_goals (first | assumption | wp_step))
  refine codeAny_mono (code_set_new_1 (.ref l) (E := E) (Q₁ := fun obj s₁ => ∃ led : Bool, obj = .ref s.heap.objs.size ∧ s₁ = { s with heap := s.heap.push { cls := .type "set", dict := none, data := .set #[] 0 (.fresh 0 0 led) } }) fun led => ⟨led, rfl, rfl⟩) fun r s₁ hr => ?_
  cases r with
  | error e => exact hr
  | ok fl =>
    cases fl with
    | ret obj =>
      obtain ⟨led, rfl, rfl⟩ := hr
      have hS : (s.heap.push { cls := .type "set", dict := none, data := .set #[] 0 (.fresh 0 0 led) }).get? s.heap.objs.size = some { cls := .type "set", dict := none, data := .set #[] 0 (.fresh 0 0 led) } := Heap.get?_push_size _ rfl
      have hT : Shared.TypeIs { s with heap := s.heap.push { cls := .type "set", dict := none, data := .set #[] 0 (.fresh 0 0 led) } } (.ref s.heap.objs.size) "set" := ⟨_, hS, rfl⟩
      have hli := PySem.F.called_set.init.lookup
      have hbi := PySem.F.called_set.init.bind (.ref s.heap.objs.size)
      repeat (any_goals (first | assumption | wp_step))
      refine codeAny_mono (codeAny_call_builtin (R := wants (fun r s₂ => r = .none ∧ Q (.ref s.heap.objs.size) s₂) E) PySem.F.called_set.init.plain PySem.F.entry_set_init (check_set_init_1 hT ?_)) fun r₂ s₂ hr₂ => ?_
      · obtain ⟨ol, hol, hcl, nl, hdl⟩ := hl
        obtain ⟨ocls, odict, odata, oslots⟩ := ol
        simp only at hcl hdl
        subst hcl; subst hdl
        have hol' : (s.heap.push { cls := .type "set", dict := none, data := .set #[] 0 (.fresh 0 0 led) }).get? l = some { cls := .type "list", dict := odict, data := .seq items nl, slots := oslots } := Heap.get?_push_of_some _ hol
        have hsls := PySem.F.sub_list_set
        have hslf := PySem.F.sub_list_frozenset
        have hne : (Value.type "list" == Value.type "dict") = false := by decide
        have hl1 : (s.heap.push { cls := .type "set", dict := none, data := .set #[] 0 (.fresh 0 0 led) }).IsList l items := ⟨_, hol', rfl, nl, rfl⟩
        unfold Builtin.«set.__init__» noKeywords Builtin.Frozenset.updateFrom
        generalize hPI : pyIter = PI
        wp_walk
        subst hPI
        refine wpAny_pyIter_list hl1 ?_
        refine wpAny_bind (wpAny_runValue ?_)
        have hlS : l < s.heap.objs.size := Heap.lt_size hol
        have hh3 : A.in1.in1.in1.handled = none := by simp [hh]
        have hII : (s.heap.push { cls := .type "set", dict := none, data := .set #[] 0 (.fresh 0 0 led) }).objs.size = s.heap.objs.size + 1 := Heap.size_push ..
        refine upd_loop (I := (s.heap.push { cls := .type "set", dict := none, data := .set #[] 0 (.fresh 0 0 led) }).objs.size) (l := l) (xs := xs) hh3 ?n1 ?n2 ?n3 hi hb (items.size - 0) 0 _ (by omega) (Nat.zero_le _) ⟨⟨_, Heap.get?_push_size _ rfl, rfl, rfl⟩, hl1.push _⟩ ?hS0 ?hR
        case n1 => rw [hII]; exact Nat.ne_of_lt (Nat.lt_succ_of_lt hlS)
        case n2 => rw [hII]; exact Nat.ne_of_lt (Nat.lt_succ_self _)
        case n3 => exact Nat.ne_of_gt hlS
        case hS0 =>
          have hget : ((s.heap.push { cls := .type "set", dict := none, data := .set #[] 0 (.fresh 0 0 led) }).push { cls := .type "list_iterator", data := .fields #[.ref l, .int 0 0] }).get? s.heap.objs.size
              = some { cls := .type "set", dict := none, data := .set #[] 0 (.fresh 0 0 led) } := Heap.get?_push_of_some _ hS
          exact SetOf_congr ((setObjOf_fresh (knd := strKind prog w) led).setOf hget (by unfold scanBound; omega)) (fun _ => rfl) rfl
        case hR =>
          intro h' tk' keep hS'
          show wpAny _ _ _ _ _ _
          refine wpAny_pure ?_
          show wpAny _ _ (ret Value.none) _ _ _
          refine wpAny_pure ⟨rfl, fin _ _ hS' fun b o hb e => ?_⟩
          refine keep b o (Nat.ne_of_lt hb) ?_ (Heap.get?_push_of_some _ (Heap.get?_push_of_some _ e))
          rw [hII]; exact Nat.ne_of_lt (Nat.lt_succ_of_lt hb)
      · cases r₂ with
        | error e => exact hr₂
        | ok fl₂ =>
          cases fl₂ with
          | ret r =>
            obtain ⟨rfl, hq⟩ := hr₂
            repeat (any_goals (first | assumption | wp_step))
          | _ => exact hr₂.elim
    | _ => exact hr.elim
end
end Mine
end

section
open PySem PySem.W PyProof.Rows PySem.Spec PyProof.V
set_option Elab.async false
set_option maxRecDepth 100000
set_option maxHeartbeats 8000000
namespace Mine
section
variable {w : World} {p : Program} {loose : List Str} {mean : ExcName → Option Value} {mg mb : Str → Option Value}
  {dp un : Nat} {gd : Option (List Code)} {cn : Str} {cs : Scope} {a : Addr} {ccd : Value} {cl : List (Str × Addr)} {outer : List Env} {A₀ : Around} {base h₀ : Heap} {L : Addr} {m : Str → Option Value} {news : List (Addr × Obj)} {s : Shared}
  {Q E : Value → Shared → Prop}
noncomputable def hidL : List Nat := [173, 847, 6150, 6155, 6156, 6157, 8203, 8204, 8205, 8288, 65279, 65024, 65025, 65026, 65027, 65028, 65029, 65030, 65031, 65032, 65033, 65034, 65035, 65036, 65037, 65038, 65039]
noncomputable def hidS : List Int := [65024, 65025, 65026, 65027, 65028, 65029, 6150, 65030, 65031, 65032, 65033, 6155, 6156, 6157, 8203, 8204, 8205, 65034, 65035, 65036, 65037, 65038, 65039, 173, 847, 8288, 65279]
theorem o43_set {prog : Program} {w : World} (P : Params) : (o_43 P).SetObjOf (intKind prog w) (fun k => (hidL.map Int.ofNat).contains k) 27 := by
  refine ⟨⟨rfl, rfl, rfl⟩, _, _, _, rfl, ?_, ?_, rfl, by kernel_rfl⟩
  · show ∀ e ∈ _, _
    repeat (refine List.forall_mem_cons.mpr ⟨⟨⟨_, beq_self_eq_true _, by kernel_rfl⟩, rfl⟩, ?_⟩)
    exact List.forall_mem_nil _
  · intro k
    refine Iff.trans ?_ List.any_eq_true
    have e1 : ∀ x ∈ hidL.map Int.ofNat, x ∈ hidS := by decide +kernel
    have e2 : ∀ x ∈ hidS, x ∈ hidL.map Int.ofNat := by decide +kernel
    have e : ((hidL.map Int.ofNat).contains k = true) ↔ ((hidS.any fun x => x == k) = true) :=
      List.contains_iff_mem.trans ⟨fun h => List.any_eq_true.mpr ⟨k, e1 k h, beq_self_eq_true k⟩, fun h => by obtain ⟨x, hx, e⟩ := List.any_eq_true.mp h; rw [← eq_of_beq e]; exact e2 x hx⟩
    exact e
theorem ents_dict {prog : Program} {w : World} : ∀ (t : Nat) (l : List (Int × Str)), ∃ kv : List (Int × Value), (∀ e ∈ ents t l, ∃ k, (intKind prog w).is k e.key = true ∧ e.hash = (intKind prog w).hash k) ∧ Pairs (intKind prog w) (ents t l) kv ∧ kv.map (·.1) = l.map (·.1) ∧ FlatPairs PyData.int kv (l.map fun x => (PyData.int x.1, PyData.str x.2))
  | _, [] => ⟨[], (fun _ h => nomatch h), .nil, rfl, .nil⟩
  | t, (k, v) :: r => by
    obtain ⟨kv, h1, h2, h3, h4⟩ := ents_dict (t + 3) r
    refine ⟨(k, .str v (t + 1)) :: kv, ?_, .cons (by simp [intKind, Value.isInt]) rfl h2, by rw [List.map_cons, List.map_cons, h3], .cons (.str _ _) h4⟩
    intro e he
    rcases List.mem_cons.mp he with rfl | he
    · exact ⟨k, by simp [intKind, Value.isInt], rfl⟩
    · exact h1 e he
theorem ents2_dict {prog : Program} {w : World} : ∀ (t : Nat) (l : List (Int × Str)), ∃ kv : List (Int × Value), (∀ e ∈ ents2 t l, ∃ k, (intKind prog w).is k e.key = true ∧ e.hash = (intKind prog w).hash k) ∧ Pairs (intKind prog w) (ents2 t l) kv ∧ kv.map (·.1) = l.map (·.1) ∧ FlatPairs PyData.int kv (l.map fun x => (PyData.int x.1, PyData.str x.2))
  | _, [] => ⟨[], (fun _ h => nomatch h), .nil, rfl, .nil⟩
  | t, (k, v) :: r => by
    obtain ⟨kv, h1, h2, h3, h4⟩ := ents2_dict (t + 2) r
    refine ⟨(k, .str v (t + 1)) :: kv, ?_, .cons (by simp [intKind, Value.isInt]) rfl h2, by rw [List.map_cons, List.map_cons, h3], .cons (.str _ _) h4⟩
    intro e he
    rcases List.mem_cons.mp he with rfl | he
    · exact ⟨k, by simp [intKind, Value.isInt], rfl⟩
    · exact h1 e he
theorem pairs_app {prog : Program} {w : World} : ∀ {l l' : List DictEntry} {k k' : List (Int × Value)}, Pairs (intKind prog w) l k → Pairs (intKind prog w) l' k' → Pairs (intKind prog w) (l ++ l') (k ++ k') := fun a h => by
  induction a with
  | nil => exact h
  | cons a b _ ih => exact .cons a b ih
theorem flat_app {α : Type} {enc : α → PyData} : ∀ {k k' : List (α × Value)} {D D' : List (PyData × PyData)}, FlatPairs enc k D → FlatPairs enc k' D' → FlatPairs enc (k ++ k') (D ++ D') := fun a h => by
  induction a with
  | nil => exact h
  | cons a _ ih => exact .cons a ih
theorem finE_dict {prog : Program} {w : World} : ∀ (t : Nat) (ks : List (List (Int × Str))), ∃ kv : List (Int × Value), (∀ e ∈ finE t ks, ∃ k, (intKind prog w).is k e.key = true ∧ e.hash = (intKind prog w).hash k) ∧ Pairs (intKind prog w) (finE t ks) kv ∧ kv.map (·.1) = ks.flatten.map (·.1) ∧ FlatPairs PyData.int kv (ks.flatten.map fun x => (PyData.int x.1, PyData.str x.2))
  | _, [] => ⟨[], (fun _ h => nomatch h), .nil, rfl, .nil⟩
  | t, k :: r => by
    obtain ⟨a, a1, a2, a3, a4⟩ := ents_dict (prog := prog) (w := w) t k
    obtain ⟨b, b1, b2, b3, b4⟩ := finE_dict (prog := prog) (w := w) (t + 51) r
    refine ⟨a ++ b, ?_, pairs_app a2 b2, by rw [List.map_append, a3, b3, List.flatten_cons, List.map_append], ?_⟩
    · intro e he
      rcases List.mem_append.mp he with he | he
      · exact a1 e he
      · exact b1 e he
    · rw [List.flatten_cons, List.map_append]; exact flat_app a4 b4
noncomputable def kvD : List (PyData × PyData) := kvs.map fun x => (PyData.int x.1, PyData.str x.2)
theorem tab54 {prog : Program} {w : World} {h : Heap} (ho : h.get? 54 = some (dObj (dispE 291 K0 KS KL).toArray 650)) : IntTab prog w h 54 kvD := by
  obtain ⟨a, a1, a2, a3, a4⟩ := ents_dict (prog := prog) (w := w) 291 K0
  obtain ⟨b, b1, b2, b3, b4⟩ := finE_dict (prog := prog) (w := w) (291 + 51) KS
  obtain ⟨c, c1, c2, c3, c4⟩ := ents2_dict (prog := prog) (w := w) (291 + 51 + 51 * KS.length) KL
  have hk : kvs = K0 ++ (KS.flatten ++ KL) := by
    have h := kv_shape
    unfold kvs; rw [h]; rfl
  refine TabAt.ofObj (kvs := a ++ (b ++ c)) (by decide) ho ⟨_, _, ⟨rfl, rfl, rfl⟩, rfl, ?_, ?_, ?_⟩ ?_
  · intro e he
    have he := List.mem_toArray.mp he
    rcases List.mem_append.mp he with he | he
    · exact a1 e he
    · rcases List.mem_append.mp he with he | he
      · exact b1 e he
      · exact c1 e he
  · exact pairs_app a2 (pairs_app b2 c2)
  · rw [List.map_append, List.map_append, a3, b3, c3, ← List.map_append, ← List.map_append]
    exact rising_nodup _ (by kernel_rfl)
  · unfold kvD
    rw [hk, List.map_append, List.map_append]
    exact flat_app a4 (flat_app b4 c4)

theorem b1_spec {c : Nat} {t1 : Tok}
  (B : Below A₀ base outer h₀) (F : Fr h₀ L s.heap m) (X : (KF w.params).In h₀) (N : News h₀ L s.heap news) (T : Top p loose mean mg mb h₀) (hk : cs.kind = .function)
  (hd : dp + 10 < recursionLimit) (hu : un + 100 < cLine)
  (ret : ∀ h' tk', Fr h₀ L h' m → News h₀ L h' news → Q (.bool (hidL.contains c)) { s with heap := h', toks := tk' }) :
  wpAny (model PySem.Challenge.rw_rw0085_01.prog w) (ktrTop dp un gd cn cs L a ccd cl outer) (call (.ref 53) [.str ⟨#[c]⟩ t1]) Q E s := by
  revert X; k_fill; intro X
  refine wpAny_call ?_
  k_dflt ktr_enter
  k_steps
  rename (KF w.params).In _ => X'
  rename Fr _ _ _ _ => F'
  have hS : Heap.SetOf (intKind PySem.Challenge.rw_rw0085_01.prog w) _ 43 _ _ := (o43_set w.params).setOf (F'.keep _ _ (X' 43 _ rfl)) (by decide)
  refine wpAny_inSet_of (k := Int.ofNat c) (intKind_is _ _ _ _) rfl hS ?_
  k_steps
  have e : (hidL.map Int.ofNat).contains (Int.ofNat c) = hidL.contains c := by
    rw [Bool.eq_iff_iff, List.contains_iff_mem, List.contains_iff_mem, List.mem_map]
    constructor
    · rintro ⟨x, hx, he⟩; cases he; exact hx
    · exact fun h => ⟨c, h, rfl⟩
  rw [e]
  exact ret _ _ (by k_asm) (by k_asm)
end
end Mine
end

section
open PySem PySem.W PyProof.Rows PySem.Spec PyProof.V
set_option Elab.async false
set_option linter.unusedVariables false
set_option maxRecDepth 100000
set_option maxHeartbeats 8000000
namespace Mine
section
variable {w : World} {p : Program} {loose : List Str} {mean : ExcName → Option Value} {mg mb : Str → Option Value}
  {dp un : Nat} {gd : Option (List Code)} {cn : Str} {cs : Scope} {a : Addr} {ccd : Value} {cl : List (Str × Addr)} {outer : List Env} {A₀ : Around} {base h₀ : Heap} {L : Addr} {m : Str → Option Value} {news : List (Addr × Obj)} {s : Shared}
  {Q E : Value → Shared → Prop}
noncomputable def b3F (c : Nat) : Option Str := (kvs.find? fun x => x.1 == Int.ofNat c).map (·.2)
theorem lookup_kvD (c : Int) : ∀ l : List (Int × Str), Spec.lookup (.int c) (l.map fun x => (PyData.int x.1, PyData.str x.2)) = ((l.find? fun x => x.1 == c).map (·.2)).map PyData.str
  | [] => rfl
  | (k, v) :: r => by
    rw [List.map_cons, Spec.lookup, List.find?_cons]
    have e : same (PyData.int k) (.int c) = (k == c) := by rw [same_int]; rfl
    rw [e]
    cases h : (k == c) with
    | true => rfl
    | false => simp only [Bool.false_eq_true, if_false]; exact lookup_kvD c r
noncomputable def lowC (c : Nat) : Str := Txt.lower ⟨#[c]⟩
noncomputable def b3R (c : Nat) : Str := match b3F c with | some v => v | none => lowC c
theorem b3_spec {c : Nat} {t1 : Tok}
  (B : Below A₀ base outer h₀) (F : Fr h₀ L s.heap m) (X : (KF w.params).In h₀) (N : News h₀ L s.heap news) (T : Top p loose mean mg mb h₀) (hk : cs.kind = .function)
  (hd : dp + 10 < recursionLimit) (hu : un + 100 < cLine)
  (ret : ∀ t h' tk', Fr h₀ L h' m → News h₀ L h' news → Q (.str (b3R c) t) { s with heap := h', toks := tk' }) :
  wpAny (model PySem.Challenge.rw_rw0085_01.prog w) (ktrTop dp un gd cn cs L a ccd cl outer) (call (.ref 99) [.str ⟨#[c]⟩ t1]) Q E s := by
  revert X; k_fill; intro X
  refine wpAny_call ?_
  k_dflt ktr_enter
  k_steps
  rename (KF w.params).In _ => X'
  rename Fr _ _ _ _ => F'
  refine getMethod_intTab_get (tab54 (F'.keep _ _ (X' 54 _ rfl))) ?_
  k_steps
  refine call_get1_intTab (D := kvD) (tab54 (F'.keep _ _ (X' 54 _ rfl))) (fun v hv => ?_)
  have e : Spec.lookup (.int (Int.ofNat c)) kvD = (b3F c).map PyData.str := lookup_kvD _ _
  rw [show ((c : Nat) : Int) = Int.ofNat c from rfl, e] at hv
  unfold b3R at ret
  cases hb : b3F c with
  | none =>
    rw [hb] at hv ret
    have hv := hv ⟨#[], {}⟩
    cases hv
    k_steps
    refine SCL.lower (by show 1 ≤ _; omega) ?_
    intro _
    k_steps
    exact ret _ _ _ (by k_asm) (by k_asm)
  | some x =>
    rw [hb] at hv ret
    have hv := hv ⟨#[], {}⟩
    cases hv
    k_steps
    exact ret _ _ _ (by k_asm) (by k_asm)
end
end Mine
end

section
open PySem PySem.W PyProof.Rows PySem.Spec PyProof.V
set_option Elab.async false
set_option linter.unusedVariables false
set_option maxRecDepth 100000
set_option maxHeartbeats 8000000
namespace Mine
local macro_rules | `(tactic| k_room) => `(tactic| ktr_room)
local macro_rules | `(tactic| k_units) => `(tactic| ktr_units)
local macro_rules | `(tactic| tb_start) => `(tactic| (refine' code_nest ?k1 ?k2 ?k3 ?k4 ?k5 ?kA ?kF ?kK ?k6 ?k7 ?k8 ?k9 ?kB ?_ ?c2 ?c3 ?c4 ?c5; (case kA => exact rfl); (case kF => exact rfl); (case kK => assumption); (case k1 => k_asm); (case k2 => k_asm); (case k3 => k_asm); (case k4 => k_asm); (case k5 => k_asm); (case k6 => k_mem); (case k7 => exact codeRec_news (by k_asm) (by k_mem) (by assumption) (by assumption)); (case k8 => k_room); (case k9 => exact BindsTo.of_eq rfl); (case c5 => decide); (case kB => exact locs rfl); (case c2 => exact rfl); (case c3 => exact rfl); (case c4 => exact rfl); k_whole; intro g' L' h' FG' F' N' B' X' T'; (try dsimp only); (try k_fold)))
local macro_rules | `(tactic| walk_at "binaryOp LShift int int") => `(tactic| (k_here; refine lshift_int_small ?a ?b ?c ?_; (case a => assumption); (case b => assumption); (case c => assumption)))
theorem lo1 {P L : Nat} (h : P < L) : L + 1 ≠ P := Nat.ne_of_gt (Nat.lt_of_lt_of_le h (Nat.le_add_right L 1))
theorem lo2 {P L : Nat} (h : P < L) : L + 1 + 1 ≠ P := Nat.ne_of_gt (Nat.lt_of_lt_of_le h (Nat.le_add_right L 2))
theorem lo3 {P L : Nat} (h : P < L) : L + 1 + 1 + 1 ≠ P := Nat.ne_of_gt (Nat.lt_of_lt_of_le h (Nat.le_add_right L 3))
theorem lo4 {P L : Nat} (h : P < L) : L + 1 + 1 + 1 + 1 ≠ P := Nat.ne_of_gt (Nat.lt_of_lt_of_le h (Nat.le_add_right L 4))
theorem lo5 {P L : Nat} (h : P < L) : L + 1 + 1 + 1 + 1 + 1 ≠ P := Nat.ne_of_gt (Nat.lt_of_lt_of_le h (Nat.le_add_right L 5))
theorem lo6 {P L : Nat} (h : P < L) : L + 1 + 1 + 1 + 1 + 1 + 1 ≠ P := Nat.ne_of_gt (Nat.lt_of_lt_of_le h (Nat.le_add_right L 6))
theorem lo7 {P L : Nat} (h : P < L) : L + 1 + 1 + 1 + 1 + 1 + 1 + 1 ≠ P := Nat.ne_of_gt (Nat.lt_of_lt_of_le h (Nat.le_add_right L 7))
theorem lo8 {P L : Nat} (h : P < L) : L + 1 + 1 + 1 + 1 + 1 + 1 + 1 + 1 ≠ P := Nat.ne_of_gt (Nat.lt_of_lt_of_le h (Nat.le_add_right L 8))
theorem nu1 {a : Nat} : a + 1 ≠ a := Nat.ne_of_gt (show a < a + 1 from Nat.lt_add_of_pos_right (by decide))
theorem nw1 {a : Nat} : a ≠ a + 1 := Nat.ne_of_lt (show a < a + 1 from Nat.lt_add_of_pos_right (by decide))
theorem nu2 {a : Nat} : a + 1 + 1 ≠ a := Nat.ne_of_gt (show a < a + 2 from Nat.lt_add_of_pos_right (by decide))
theorem nw2 {a : Nat} : a ≠ a + 1 + 1 := Nat.ne_of_lt (show a < a + 2 from Nat.lt_add_of_pos_right (by decide))
theorem nu3 {a : Nat} : a + 1 + 1 + 1 ≠ a := Nat.ne_of_gt (show a < a + 3 from Nat.lt_add_of_pos_right (by decide))
theorem nw3 {a : Nat} : a ≠ a + 1 + 1 + 1 := Nat.ne_of_lt (show a < a + 3 from Nat.lt_add_of_pos_right (by decide))
theorem nu4 {a : Nat} : a + 1 + 1 + 1 + 1 ≠ a := Nat.ne_of_gt (show a < a + 4 from Nat.lt_add_of_pos_right (by decide))
theorem nw4 {a : Nat} : a ≠ a + 1 + 1 + 1 + 1 := Nat.ne_of_lt (show a < a + 4 from Nat.lt_add_of_pos_right (by decide))
theorem nu5 {a : Nat} : a + 1 + 1 + 1 + 1 + 1 ≠ a := Nat.ne_of_gt (show a < a + 5 from Nat.lt_add_of_pos_right (by decide))
theorem nw5 {a : Nat} : a ≠ a + 1 + 1 + 1 + 1 + 1 := Nat.ne_of_lt (show a < a + 5 from Nat.lt_add_of_pos_right (by decide))
theorem nu6 {a : Nat} : a + 1 + 1 + 1 + 1 + 1 + 1 ≠ a := Nat.ne_of_gt (show a < a + 6 from Nat.lt_add_of_pos_right (by decide))
theorem nw6 {a : Nat} : a ≠ a + 1 + 1 + 1 + 1 + 1 + 1 := Nat.ne_of_lt (show a < a + 6 from Nat.lt_add_of_pos_right (by decide))
theorem nu7 {a : Nat} : a + 1 + 1 + 1 + 1 + 1 + 1 + 1 ≠ a := Nat.ne_of_gt (show a < a + 7 from Nat.lt_add_of_pos_right (by decide))
theorem nw7 {a : Nat} : a ≠ a + 1 + 1 + 1 + 1 + 1 + 1 + 1 := Nat.ne_of_lt (show a < a + 7 from Nat.lt_add_of_pos_right (by decide))
theorem ge0 {a r : Nat} (h : a < r) : r ≠ a := Nat.ne_of_gt (Nat.lt_of_le_of_lt (Nat.le_add_right a 0) h)
theorem gg0 {a r k : Nat} (hk : r < k) (h : a < r) : k ≠ a := Nat.ne_of_gt (Nat.lt_trans (Nat.lt_of_le_of_lt (Nat.le_add_right a 0) h) hk)
theorem ge1 {a r : Nat} (h : a + 1 < r) : r ≠ a := Nat.ne_of_gt (Nat.lt_of_le_of_lt (Nat.le_add_right a 1) h)
theorem gg1 {a r k : Nat} (hk : r < k) (h : a + 1 < r) : k ≠ a := Nat.ne_of_gt (Nat.lt_trans (Nat.lt_of_le_of_lt (Nat.le_add_right a 1) h) hk)
theorem ge2 {a r : Nat} (h : a + 1 + 1 < r) : r ≠ a := Nat.ne_of_gt (Nat.lt_of_le_of_lt (Nat.le_add_right a 2) h)
theorem gg2 {a r k : Nat} (hk : r < k) (h : a + 1 + 1 < r) : k ≠ a := Nat.ne_of_gt (Nat.lt_trans (Nat.lt_of_le_of_lt (Nat.le_add_right a 2) h) hk)
theorem ge3 {a r : Nat} (h : a + 1 + 1 + 1 < r) : r ≠ a := Nat.ne_of_gt (Nat.lt_of_le_of_lt (Nat.le_add_right a 3) h)
theorem gg3 {a r k : Nat} (hk : r < k) (h : a + 1 + 1 + 1 < r) : k ≠ a := Nat.ne_of_gt (Nat.lt_trans (Nat.lt_of_le_of_lt (Nat.le_add_right a 3) h) hk)
theorem ge4 {a r : Nat} (h : a + 1 + 1 + 1 + 1 < r) : r ≠ a := Nat.ne_of_gt (Nat.lt_of_le_of_lt (Nat.le_add_right a 4) h)
theorem gg4 {a r k : Nat} (hk : r < k) (h : a + 1 + 1 + 1 + 1 < r) : k ≠ a := Nat.ne_of_gt (Nat.lt_trans (Nat.lt_of_le_of_lt (Nat.le_add_right a 4) h) hk)
theorem ge5 {a r : Nat} (h : a + 1 + 1 + 1 + 1 + 1 < r) : r ≠ a := Nat.ne_of_gt (Nat.lt_of_le_of_lt (Nat.le_add_right a 5) h)
theorem gg5 {a r k : Nat} (hk : r < k) (h : a + 1 + 1 + 1 + 1 + 1 < r) : k ≠ a := Nat.ne_of_gt (Nat.lt_trans (Nat.lt_of_le_of_lt (Nat.le_add_right a 5) h) hk)
theorem ge6 {a r : Nat} (h : a + 1 + 1 + 1 + 1 + 1 + 1 < r) : r ≠ a := Nat.ne_of_gt (Nat.lt_of_le_of_lt (Nat.le_add_right a 6) h)
theorem gg6 {a r k : Nat} (hk : r < k) (h : a + 1 + 1 + 1 + 1 + 1 + 1 < r) : k ≠ a := Nat.ne_of_gt (Nat.lt_trans (Nat.lt_of_le_of_lt (Nat.le_add_right a 6) h) hk)
theorem ge7 {a r : Nat} (h : a + 1 + 1 + 1 + 1 + 1 + 1 + 1 < r) : r ≠ a := Nat.ne_of_gt (Nat.lt_of_le_of_lt (Nat.le_add_right a 7) h)
theorem gg7 {a r k : Nat} (hk : r < k) (h : a + 1 + 1 + 1 + 1 + 1 + 1 + 1 < r) : k ≠ a := Nat.ne_of_gt (Nat.lt_trans (Nat.lt_of_le_of_lt (Nat.le_add_right a 7) h) hk)
theorem le1 {a : Nat} : a ≤ a + 1 := Nat.le_add_right a 1
theorem le2 {a : Nat} : a ≤ a + 1 + 1 := Nat.le_add_right a 2
theorem le3 {a : Nat} : a ≤ a + 1 + 1 + 1 := Nat.le_add_right a 3
theorem le4 {a : Nat} : a ≤ a + 1 + 1 + 1 + 1 := Nat.le_add_right a 4
theorem le5 {a : Nat} : a ≤ a + 1 + 1 + 1 + 1 + 1 := Nat.le_add_right a 5
theorem le6 {a : Nat} : a ≤ a + 1 + 1 + 1 + 1 + 1 + 1 := Nat.le_add_right a 6
theorem le7 {a : Nat} : a ≤ a + 1 + 1 + 1 + 1 + 1 + 1 + 1 := Nat.le_add_right a 7
theorem le8 {a : Nat} : a ≤ a + 1 + 1 + 1 + 1 + 1 + 1 + 1 + 1 := Nat.le_add_right a 8
theorem gea {a b r : Nat} (h : b < r) (hab : a ≤ b) : r ≠ a := Nat.ne_of_gt (Nat.lt_of_le_of_lt hab h)
theorem gga {a b r k : Nat} (hk : r < k) (h : b < r) (hab : a ≤ b) : k ≠ a := Nat.ne_of_gt (Nat.lt_trans (Nat.lt_of_le_of_lt hab h) hk)
theorem dlt {a b c n : Nat} (h : a + b < n) (hc : Nat.ble c b = true) : a + c < n := Nat.lt_of_le_of_lt (Nat.add_le_add_left (Nat.le_of_ble_eq_true hc) a) h
theorem dlt2 {a b c n : Nat} (h : a + b < n) (hc : Nat.ble (1 + c) b = true) : a + 1 + c < n := by rw [Nat.add_assoc]; exact dlt h hc
theorem dlt3 {a b c n : Nat} (h : a + b < n) (hc : Nat.ble (3 + c) b = true) : a + 3 + c < n := by rw [Nat.add_assoc]; exact dlt h hc
section
variable {w : World} {p : Program} {loose : List Str} {mean : ExcName → Option Value} {mg mb : Str → Option Value}
/-- the nested def's text -/
noncomputable def nst (i : Nat) : Option Stmt := match (bodyS[i]? : Option Stmt) with
  | some (.FunctionDef _ _ b _ _ _ _ _ _ _) => b.find? fun s => match s with | .FunctionDef .. => true | _ => false
  | _ => none
@[reducible] noncomputable def nd4 : { x : Arguments × List Stmt × Scope // ∃ n d r t ts bi ps, nst 4 = some (.FunctionDef n x.1 x.2.1 d r t x.2.2 ts bi ps) } := ⟨(_, _, _), _, _, _, _, _, _, _, rfl⟩

noncomputable abbrev qI : Str := Str.ofString "_digits2int.<locals>.inner"
/-- digits, the lowest first -/
noncomputable def vD (n : Nat) : List Int → Int
  | [] => 0
  | d :: r => d + 2 ^ n * vD n r
theorem vD_app (n : Nat) : ∀ a b : List Int, vD n (a ++ b) = vD n a + 2 ^ (n * a.length) * vD n b
  | [], b => by simp [vD]
  | d :: r, b => by
    rw [List.cons_append, vD, vD, vD_app n r b, List.length_cons, Nat.mul_succ, Int.mul_add, Int.pow_add]
    rw [← Int.mul_assoc, Int.mul_comm (2 ^ (n * r.length)) (2 ^ n)]
    omega
noncomputable def sl (ds : List Int) (lo hi : Nat) : List Int := (ds.drop lo).take (hi - lo)
theorem sl_one {ds : List Int} {lo : Nat} (h : lo < ds.length) : vD n (sl ds lo (lo + 1)) = ds.getD lo 0 := by
  unfold sl
  rw [show lo + 1 - lo = 1 by omega, List.drop_eq_getElem_cons h, List.take_succ_cons, List.take_zero, vD, vD]
  simp [List.getD, h]
theorem sl_split {n : Nat} {ds : List Int} {lo mid hi : Nat} (h1 : lo ≤ mid) (h2 : mid ≤ hi) (h3 : hi ≤ ds.length) : vD n (sl ds lo hi) = vD n (sl ds lo mid) + 2 ^ (n * (mid - lo)) * vD n (sl ds mid hi) := by
  have e : sl ds lo hi = sl ds lo mid ++ sl ds mid hi := by
    unfold sl
    rw [show hi - lo = (mid - lo) + (hi - mid) by omega, List.take_add, List.drop_drop, show lo + (mid - lo) = mid by omega]
  have hl : (sl ds lo mid).length = mid - lo := by unfold sl; rw [List.length_take, List.length_drop]; omega
  rw [e, vD_app, hl]
theorem sh_eq {n lo mid : Nat} (h : lo ≤ mid) : (((mid : Int) - lo) * n).toNat = n * (mid - lo) := by
  rw [← Int.ofNat_sub h, ← Int.natCast_mul, Int.toNat_natCast, Nat.mul_comm]
theorem inner_spec {f cD cN cI cc dA : Addr} {oD oN oI oc : Obj} {vsC : Array Value} {tC tn : Tok} {doc pm ctv : Value} {vs : List Value} {ds : List Int} {n : Nat} {kL : Nat} (k : Nat) (hB : ∀ lo hi, (vD n (sl ds lo hi)).natAbs < 2 ^ 64) (hn : n ≤ 64) :
  ∀ {dp un : Nat} {gd : Option (List Code)} {cn : Str} {cs : Scope} {a : Addr} {ccd : Value} {cl : List (Str × Addr)} {outer : List Env} {A₀ : Around} {base h₀ : Heap} {L : Addr} {m : Str → Option Value} {news : List (Addr × Obj)} {s : Shared}
  {Q E : Value → Shared → Prop} {lo hi : Nat} {t1 t2 : Tok}
  (B : Below A₀ base outer h₀) (F : Fr h₀ L s.heap m) (X : (KF w.params).In h₀) (N : News h₀ L s.heap news) (T : Top p loose mean mg mb h₀) (hk : cs.kind = .function) (C : CodeHd h₀ 34 30)
  (hf : (f, fnMade (Str.ofString "inner") qI nd4.1.1 nd4.1.2.1 nd4.1.2.2 [(Str.ofString "n", cN), (Str.ofString "inner", cI), (Str.ofString "digits", cD)] doc pm cc ctv) ∈ news)
  (hcc : (cc, oc) ∈ news) (hoc : oc.data = .fields vsC) (hvs : vsC[1]? = some (.str qI tC))
  (hcD : (cD, oD) ∈ news) (hoD : oD.data = .cell (some (.ref dA))) (hcN : (cN, oN) ∈ news) (hoN : oN.data = .cell (some (.int n tn))) (hcI : (cI, oI) ∈ news) (hoI : oI.data = .cell (some (.ref f)))
  (hl : (dA, W.listOf vs.toArray kL) ∈ news) (hi9 : IntsAre vs ds) (hlen : ds.length < 1000)
  (h1 : lo < hi) (h2 : hi ≤ ds.length) (h3 : hi - lo ≤ k)
  (hd : dp + k + 10 < recursionLimit) (hu : un + 8 * k + 100 < cLine)
  (ret : ∀ t h' tk', Fr h₀ L h' m → News h₀ L h' news → Q (.int (vD n (sl ds lo hi)) t) { s with heap := h', toks := tk' }),
  wpAny (model PySem.Challenge.rw_rw0085_01.prog w) (ktrTop dp un gd cn cs L a ccd cl outer) (call (.ref f) [.int lo t1, .int hi t2]) Q E s := by
  induction k with
  | zero => intros; omega
  | succ k ih =>
    intro dp un gd cn cs a ccd cl outer A₀ base h₀ L m news s Q E lo hi t1 t2 B F X N T hk C hf hcc hoc hvs hcD hoD hcN hoN hcI hoI hl hi9 hlen h1 h2 h3 hd hu ret
    revert X; k_fill; intro X
    refine wpAny_call ?_
    k_dflt tb_start
    obtain ⟨fd, efd⟩ : ∃ fd : FuncData, fd = fnX (Str.ofString "inner") qI nd4.1.1 nd4.1.2.1 nd4.1.2.2 [(Str.ofString "n", cN), (Str.ofString "inner", cI), (Str.ofString "digits", cD)] .none .none doc pm none (.ref cc) ctv := ⟨_, rfl⟩
    have hf2 : (f, (⟨.type "function", none, .func fd, #[]⟩ : Obj)) ∈ news := efd ▸ hf
    have hf3 := And.intro trivial hf
    clear hf
    have ih3 := And.intro trivial @ih
    clear ih
    have hmid : ((lo : Int) + hi).fdiv (2 ^ Int.toNat 1) = ((lo + hi) / 2 : Nat) := by
      rw [show (2 : Int) ^ Int.toNat 1 = 2 from rfl, Int.fdiv_eq_ediv_of_nonneg _ (by omega)]
      omega
    k_steps
    · rename ((lo : Int) + 1 = hi) => he
      have he' : hi = lo + 1 := by omega
      have e := sl_one (n := n) (ds := ds) (lo := lo) (by omega)
      rw [← he'] at e
      rw [show ((lo : Int)).toNat = lo from rfl, ← e]
      exact ret _ _ _ (by k_asm) (by k_asm)
    · rename ((lo : Int) + 1 ≠ hi) => he
      have m1 : lo < (lo + hi) / 2 := by omega
      have m2 : (lo + hi) / 2 < hi := by omega
      have hs0 : 0 ≤ (((lo : Int) + hi).fdiv (2 ^ Int.toNat 1) - lo) * n := by rw [hmid]; exact Int.mul_nonneg (by omega) (by omega)
      have hs1 : (((lo : Int) + hi).fdiv (2 ^ Int.toNat 1) - lo) * n ≤ 1000000 := by
        rw [hmid]
        have := Int.mul_le_mul (a := (((lo + hi) / 2 : Nat) : Int) - lo) (b := n) (c := 1000) (d := 64) (by omega) (by omega) (by omega) (by omega)
        omega
      have hb9 := hB ((lo + hi) / 2) hi
      rw [hmid]
      k_dflt (refine' ih3.2 ?B ?F ?X ?N ?T ?hk ?C hf3.2 hcc hoc hvs hcD hoD hcN hoN hcI hoI hl hi9 hlen ?a ?b ?c ?d ?e ?_; (case B => k_asm); (case F => k_asm); (case X => k_asm); (case N => k_asm); (case T => k_asm); (case hk => rfl); (case C => exact CodeHd.keeps C (Fr.keep (by assumption))); (case a => omega); (case b => omega); (case c => omega); (case d => first | exact dlt hd rfl | exact dlt2 hd rfl | exact dlt3 hd rfl | ((try simp only [depth_deeper]); (try dsimp only [ktrTop]); omega)); (case e => first | exact dlt hu rfl | exact dlt2 hu rfl | exact dlt3 hu rfl | ((try simp only [units_deeper]); (try dsimp only [ktrTop]); omega)))
      intro t5 h5 k5 F5 N5
      k_steps
      rw [hmid]
      k_dflt (refine' ih3.2 ?B ?F ?X ?N ?T ?hk ?C hf3.2 hcc hoc hvs hcD hoD hcN hoN hcI hoI hl hi9 hlen ?a ?b ?c ?d ?e ?_; (case B => k_asm); (case F => k_asm); (case X => k_asm); (case N => k_asm); (case T => k_asm); (case hk => rfl); (case C => exact CodeHd.keeps C (Fr.keep (by assumption))); (case a => omega); (case b => omega); (case c => omega); (case d => first | exact dlt hd rfl | exact dlt2 hd rfl | exact dlt3 hd rfl | ((try simp only [depth_deeper]); (try dsimp only [ktrTop]); omega)); (case e => first | exact dlt hu rfl | exact dlt2 hu rfl | exact dlt3 hu rfl | ((try simp only [units_deeper]); (try dsimp only [ktrTop]); omega)))
      intro t6 h6 k6 F6 N6
      k_steps
      have e := sl_split (n := n) (ds := ds) (lo := lo) (mid := (lo + hi) / 2) (hi := hi) (by omega) (by omega) h2
      have e2 : vD n (sl ds ((lo + hi) / 2) hi) * 2 ^ (((((lo + hi) / 2 : Nat) : Int) - lo) * n).toNat + vD n (sl ds lo ((lo + hi) / 2)) = vD n (sl ds lo hi) := by
        rw [e, sh_eq (by omega), Int.add_comm, Int.mul_comm]
      rw [e2]
      exact ret _ _ _ (by k_asm) (by k_asm)
end
end Mine
end

section
open PySem PySem.W PyProof.Rows PySem.Spec PyProof.V PySem.Calls
set_option Elab.async false
set_option linter.unusedVariables false
set_option maxRecDepth 100000
set_option maxHeartbeats 8000000
namespace Mine
/-- the table of a def's nested code: empty, or with the one that was made -/
noncomputable def TbOk (P l c : Nat) (q : Str) (led : List (Addr × Obj)) : Prop :=
  led = [(P, tabObj #[])] ∨ ∃ c' oc vs t, led = [(c', oc), (P, tabObj #[rawInt l, rawInt c, .ref c'])] ∧ oc.data = .fields vs ∧ vs[1]? = some (.str q t) ∧ c' ≠ P
structure LtAll (l : List (Addr × Obj)) (d : Nat) : Prop where
  h : ∀ q ∈ l, q.1 < d
theorem LtAll.ne {l : List (Addr × Obj)} {d e : Nat} (x : LtAll l d) (h : d ≤ e) : ∀ q ∈ l, q.1 ≠ e := fun q hq => Nat.ne_of_lt (Nat.lt_of_lt_of_le (x.h q hq) h)
noncomputable def AllNe (d : Nat) : List (Addr × Obj) → Prop
  | [] => True
  | p :: r => @Ne Nat p.1 d ∧ AllNe d r
theorem AllNe.of {d : Nat} : ∀ {l : List (Addr × Obj)}, (∀ p ∈ l, p.1 ≠ d) → AllNe d l
  | [], _ => trivial
  | p :: _, h => ⟨h p (.head _), AllNe.of fun q hq => h q (.tail _ hq)⟩
theorem leN {a b : Nat} (h : a ≤ b) : a ≤ b := h
theorem TbOk.mem {P l c : Nat} {q : Str} {led : List (Addr × Obj)} (x : TbOk P l c q led) : ∃ o, (P, o) ∈ led := by
  rcases x with rfl | ⟨c', oc, vs, t, rfl, _⟩
  · exact ⟨_, .head _⟩
  · exact ⟨_, .tail _ (.head _)⟩
noncomputable def Apart (led news : List (Addr × Obj)) : Prop := ∀ q ∈ news, ∀ q' ∈ led, q.1 ≠ q'.1
theorem nest_tb {M : Model} {A : Around} {E : Value → Shared → Prop} {s : Shared} {h₀ : Heap} {L a c P : Addr} {m mg mb : Str → Option Value} {cn : Str} {cs : Scope} {ccd : Value} {cl : List (Str × Addr)} {news pre led : List (Addr × Obj)}
  {p : Program} {loose : List Str} {mean : ExcName → Option Value} {name qual : Str} {params : Arguments} {body : List Stmt} {scope : Scope} {pos : Pos} {firstLine : Nat} {clos : List (Str × Addr)} {Q : Value → Shared → Prop}
  (F : Fr h₀ L s.heap m) (N : News h₀ L s.heap (pre ++ (led ++ news))) (T : Top p loose mean mg mb h₀) (C : CodeHd h₀ c P) (hcd : ccd = .ref c) (htb : TbOk P pos.line pos.col qual led)
  (hpre : ∀ q ∈ pre, q.1 ≠ P) (hap : Apart led news) (hpl : ∀ q ∈ pre, ∀ q' ∈ led, q'.1 < q.1)
  (hcl : closureFor scope (envX cn cs L a ccd cl) = pure clos)
  (h : ∀ f c' oc vs t ctv doc h' tk fd, And True (fd = fnX name qual params body scope clos .none .none doc ((mg "__name__").getD .none) none (.ref c') ctv) → Fr h₀ L h' m →
      News h₀ L h' ((f, ⟨.type "function", none, .func fd, #[]⟩) :: (pre ++ ((c', oc) :: (P, tabObj #[rawInt pos.line, rawInt pos.col, .ref c']) :: news))) →
      oc.data = .fields vs → vs[1]? = some (.str qual t) → c' ≠ P → (∀ q ∈ news, q.1 ≠ c') → AllNe c' pre → (∀ q ∈ pre, q.1 < f) → Q (.ref f) { s with heap := h', toks := tk }) :
    wpAny M A (makeFunction name qual params (.stmts body) scope (envX cn cs L a ccd cl) [] [] [] pos firstLine) Q E s := by
  rcases htb with rfl | ⟨c', oc, vs9, t9, rfl, hoc, hvs, hcP⟩
  · have U : UpdF P (tabObj #[]) (pre ++ ([(P, tabObj #[])] ++ news)) (fun o' => pre ++ (P, o') :: news) := by
      have hn : ∀ q ∈ news, q.1 ≠ P := fun q hq => hap q hq _ (.head _)
      clear N h hpl hap
      induction pre with
      | nil => exact .head hn
      | cons x r ih => exact .tail (hpre x (.head _)) (ih fun q hq => hpre q (.tail _ hq))
    refine nest_K F N T C hcd U (by simp [TriplesOk]) (by simp [codeAmong]) hcl fun f c' oc vs t ctv doc h' tk F' N' d1 d2 l1 l2 => h f c' oc vs t ctv doc h' tk _ ⟨trivial, rfl⟩ F' (fun q hq => ?_) d1 d2 ?_ (fun q hq => Nat.ne_of_lt (l1 q (List.mem_append_right _ (.tail _ hq)))) (.of fun q hq => Nat.ne_of_lt (l1 q (List.mem_append_left _ hq))) (fun q hq => Nat.lt_trans (l1 q (List.mem_append_left _ hq)) l2)
    · refine N' q ?_
      rcases List.mem_cons.mp hq with rfl | hq
      · exact .head _
      · rcases List.mem_append.mp hq with hq | hq
        · exact .tail _ (.tail _ (List.mem_append_left _ hq))
        · rcases List.mem_cons.mp hq with rfl | hq
          · exact .tail _ (.head _)
          · exact .tail _ (.tail _ (List.mem_append_right _ hq))
    · exact Nat.ne_of_gt (l1 (P, tabObj #[]) (List.mem_append_right _ (.head _)))
  · exact nestHit_K F N T C hcd (List.mem_append_right _ (.tail _ (.head _))) (by simp [TriplesOk, rawInt]) (by simp [codeAmong, rawInt]) hcl fun f ctv doc h' tk F' N' l1 =>
      h f c' oc vs9 t9 ctv doc h' tk _ ⟨trivial, rfl⟩ F' N' hoc hvs hcP (fun q hq => hap q hq _ (.head _)) (.of fun q hq => Nat.ne_of_gt (hpl q hq _ (.head _))) fun q hq => l1 q (List.mem_append_left _ hq)
end Mine
end

section
open PySem PySem.W PyProof.Rows PySem.Spec PyProof.V PySem.Calls
set_option Elab.async false
set_option linter.unusedVariables false
set_option maxRecDepth 100000
set_option maxHeartbeats 8000000
namespace Mine
noncomputable def BIt (o : Obj) (b : Array UInt8) (t : Tok) (i : Nat) : Prop := o.cls = .type "bytes_iterator" ∧ o.data = .fields #[.bytes b t, .int i 0]
theorem BIt.at {o : Obj} {b : Array UInt8} {t : Tok} {i : Nat} {h : Heap} {a : Addr} (x : BIt o b t i) (e : h.get? a = some o) : KBw.IsBytesIter h a b t i := ⟨o, e, x.1, x.2⟩
section
variable {prog : Program} {w : World} {A : Around} {E : Value → Shared → Prop} {s : Shared} {h₀ : Heap} {L it : Addr} {m : Str → Option Value} {news : List (Addr × Obj)} {g : Obj → List (Addr × Obj)} {io : Obj} {b : Array UInt8} {t : Tok} {i : Nat}
theorem iter_bytes_K {Q : Value → Shared → Prop} (F : Fr h₀ L s.heap m) (N : News h₀ L s.heap news)
    (h : ∀ (I : Addr) h' oI, Fr h₀ L h' m → News h₀ L h' ((I, oI) :: news) → (∀ p ∈ news, p.1 < I) → BIt oI b t 0 → Q (.ref I) { s with heap := h' }) :
    wpAny (model prog w) A (call (.builtin "iter") [.bytes b t]) Q E s := by
  refine call_function_entry (by decide +kernel) (by decide +kernel) kdk_entry_iter (kdk_args_iter _) ?_
  unfold Builtin.«iter»
  refine wpAny_bind (m := someArgs "iter" 1 2 _) (wpAny_of_eq (a := [Value.bytes b t]) (by first | rfl | kernel_rfl!) ?_)
  show wpAny _ _ (pyIter (.bytes b t) >>= _) _ _ _
  refine wpAny_bind (KBw.pyIter_bytes ?_)
  exact wpAny_pure ⟨_, rfl, h _ _ _ (F.push _) (News.push F N _ rfl) (fun q hq => Heap.lt_size (N q hq).1) ⟨rfl, rfl⟩⟩
theorem special_item {c : UInt8} {Q : Option Value → Shared → Prop} (hit : KBw.IsBytesIter s.heap it b t i) (hx : b[i]? = some c)
    (hQ : ∀ h', KBw.IsBytesIter h' it b t (i + 1) → Heap.SameBut it s.heap h' → Q (some (.int (c.toNat : Int) s.toks)) { s with heap := h', toks := s.toks + 1 }) : wpAny (model prog w) A (callSpecial? (.ref it) (Str.ofString "__next__")) Q E s := by
  obtain ⟨o, ho, hc, hd⟩ := id hit
  refine (wpAny_callSpecial?_slot (name := PySem.Str.ofString "__next__") (KBw.iter_typeIs hit) KBw.slot_next
    (wpAny_call_entry KBw.slot_next (KBw.iter_typeIs hit) KBw.entry_next ?_ (KBw.args_next _)))
  show wpAny _ _ (field (.ref it) 0 >>= _) _ _ s
  refine wpAny_bind (wpAny_field ho hd (x := .bytes b t) rfl ?_)
  show wpAny _ _ (if (Value.bytes b t == Value.none) = true then _ else _) _ _ s
  rw [if_neg (show ¬ ((Value.bytes b t == Value.none) = true) from Bool.false_ne_true)]
  show wpAny _ _ (field (.ref it) 1 >>= _) _ _ s
  refine wpAny_bind (wpAny_field ho hd (x := .int i 0) rfl ?_)
  refine wpAny_bind (wpAny_of_eq (a := b) rfl ?_)
  simp only [Int.toNat_natCast, hx]
  refine wpAny_bind (wpAny_setField ho hd (by simp) (wpAny_bind (wpAny_mkInt (wpAny_pure ⟨_, rfl, hQ _ ?_ (Heap.SameBut.update ..)⟩))))
  exact ⟨_, Heap.get?_update_self _ ho (Obj.isFreed_of_fields (Obj.data_mapFields hd _)), (Obj.cls_mapFields ..).trans hc, by
    rw [Obj.data_mapFields hd]; simp [rawInt]⟩
theorem special_end {Q : Option Value → Shared → Prop} (hh : A.handled = none) (hit : KBw.IsBytesIter s.heap it b t i) (hx : b[i]? = none)
    (hE : ∀ h1 h' e, Heap.SameBut it s.heap h1 → Heap.MadeExc h1 h' e "StopIteration" [] → E (.ref e) { s with heap := h' }) : wpAny (model prog w) A (callSpecial? (.ref it) (Str.ofString "__next__")) Q E s := by
  obtain ⟨o, ho, hc, hd⟩ := id hit
  refine (wpAny_callSpecial?_slot (name := PySem.Str.ofString "__next__") (KBw.iter_typeIs hit) KBw.slot_next
    (wpAny_call_entry KBw.slot_next (KBw.iter_typeIs hit) KBw.entry_next ?_ (KBw.args_next _)))
  show wpAny _ _ (field (.ref it) 0 >>= _) _ _ s
  refine wpAny_bind (wpAny_field ho hd (x := .bytes b t) rfl ?_)
  show wpAny _ _ (if (Value.bytes b t == Value.none) = true then _ else _) _ _ s
  rw [if_neg (show ¬ ((Value.bytes b t == Value.none) = true) from Bool.false_ne_true)]
  show wpAny _ _ (field (.ref it) 1 >>= _) _ _ s
  refine wpAny_bind (wpAny_field ho hd (x := .int i 0) rfl ?_)
  refine wpAny_bind (wpAny_of_eq (a := b) rfl ?_)
  simp only [Int.toNat_natCast, hx]
  refine wpAny_bind (wpAny_rule (wpAny_bind (wpAny_setField ho hd (by simp) ?_)))
  show wpAny _ _ (newExc (.type "StopIteration") [] >>= _) _ _ _
  refine wpAny_bind ?_
  simp only [newExc, newTuple]
  refine wpAny_bind (wpAny_newObj_type ?_ (by size_fits))
  refine wpAny_bind (m := firstArgMember _ _) (wpAny_of_eq (a := Value.none) (by first | rfl | (simp only [firstArgMember]; rfl)) ?_)
  refine wpAny_newObj_type ?_ (by size_fits)
  simp only [raiseNew]
  refine wpAny_bind (wpAny_handled ?_)
  first | rw [show A.in1.handled = none from hh] | rw [hh]
  refine wpAny_bind (wpAny_pure (wpAny_throw ?_))
  exact hE _ _ _ (Heap.SameBut.update ..) ⟨fun b o hb => Heap.get?_push_of_some _ (Heap.get?_push_of_some _ hb), Heap.get?_none_of_le (by simp), _, Heap.get?_push_size _ rfl, Heap.get?_none_of_le (Nat.le_refl _), Heap.get?_push_of_some _ (Heap.get?_push_size _ rfl)⟩
theorem next_K {c : UInt8} {Q : Value → Shared → Prop} (F : Fr h₀ L s.heap m) (N : News h₀ L s.heap news) (U : UpdF it io news g) (hi : BIt io b t i) (hx : b[i]? = some c)
    (h : ∀ h' o' u, Fr h₀ L h' m → News h₀ L h' (g o') → BIt o' b t (i + 1) → Q (.int (c.toNat : Int) u) { s with heap := h', toks := s.toks + 1 }) :
    wpAny (model prog w) A (call (.builtin "next") [.ref it]) Q E s := by
  obtain ⟨pre, post, hl, hg, a, b'⟩ := U.split
  have hmem : (it, io) ∈ news := by rw [hl]; exact List.mem_append_right _ (.head _)
  have hm := N (it, io) hmem
  have hit := hi.at hm.1
  refine call_function_entry (by decide +kernel) (by decide +kernel) kdk_entry_next (kdk_args_next _) ?_
  unfold Builtin.«next»
  refine wpAny_bind (m := someArgs "next" 1 2 _) (wpAny_of_eq (a := [Value.ref it]) (by first | rfl | kernel_rfl!) ?_)
  dsimp only
  refine wpAny_bind (wpAny_specialOf (name := Str.ofString "__next__") (KBw.iter_typeIs hit) KBw.slot_next.lookup ?_)
  refine wpAny_ite_split (fun hab => absurd hab (by decide)) (fun _ => ?_)
  refine wpAny_bind (special_item hit hx fun h' hit' hs => ?_)
  obtain ⟨o', ho', hc', hd'⟩ := hit'
  exact wpAny_pure ⟨_, rfl, h h' o' _ (F.change hs hm.2.1 hm.2.2) (hg o' ▸ (show News h₀ L s.heap (pre ++ (it, io) :: post) from hl ▸ N).setIn a b' hs ho') ⟨hc', hd'⟩⟩
theorem next_end_K {rest : List (Addr × Obj)} {Q : Value → Shared → Prop} (hh : A.handled = none) (F : Fr h₀ L s.heap m) (N : News h₀ L s.heap news) (hmem : (it, io) ∈ news) (hi : BIt io b t i) (hx : b[i]? = none)
    (hrest : ∀ q ∈ rest, q ∈ news ∧ q.1 ≠ it)
    (h : ∀ h1 h' e, Fr h₀ L h1 m → News h₀ L h1 rest → Heap.MadeExc h1 h' e "StopIteration" [] → E (.ref e) { s with heap := h' }) :
    wpAny (model prog w) A (call (.builtin "next") [.ref it]) Q E s := by
  have hm := N (it, io) hmem
  have hit := hi.at hm.1
  refine call_function_entry (by decide +kernel) (by decide +kernel) kdk_entry_next (kdk_args_next _) ?_
  unfold Builtin.«next»
  refine wpAny_bind (m := someArgs "next" 1 2 _) (wpAny_of_eq (a := [Value.ref it]) (by first | rfl | kernel_rfl!) ?_)
  dsimp only
  refine wpAny_bind (wpAny_specialOf (name := Str.ofString "__next__") (KBw.iter_typeIs hit) KBw.slot_next.lookup ?_)
  refine wpAny_ite_split (fun hab => absurd hab (by decide)) (fun _ => ?_)
  refine wpAny_bind (special_end (by exact hh) hit hx fun h1 h' e hs hm' => ?_)
  exact h h1 h' e (F.change hs hm.2.1 hm.2.2) (fun q hq => ⟨(hs.2 q.1 (hrest q hq).2).trans (N q (hrest q hq).1).1, (N q (hrest q hq).1).2⟩) hm'
end
end Mine
end

section
open PySem PySem.W PyProof.Rows PySem.Spec PyProof.V
set_option Elab.async false
set_option linter.unusedVariables false
set_option maxRecDepth 100000
set_option maxHeartbeats 8000000
namespace Mine

local macro_rules | `(tactic| k_room) => `(tactic| ktr_room)
local macro_rules | `(tactic| k_units) => `(tactic| ktr_units)
local macro_rules | `(tactic| k_all) => `(tactic| (refine LtAll.ne (by assumption) (leN ?_); (try dsimp only); first | walk_at "nl" | omega))
local macro_rules | `(tactic| walk_at "nl") => `(tactic| first | exact Nat.le_refl _ | exact le1 | exact le2 | exact le3 | exact le4 | exact le5 | exact le6 | exact le7 | exact le8)
local macro_rules | `(tactic| walk_at "nx") => `(tactic| first | exact nu1 | exact nu2 | exact nu3 | exact nu4 | exact nu5 | exact nu6 | exact nu7 | exact nw1 | exact nw2 | exact nw3 | exact nw4 | exact nw5 | exact nw6 | exact nw7 | (refine gea (by assumption) ?_; walk_at "nl") | (refine Ne.symm (gea (by assumption) ?_); walk_at "nl") | (refine gga (by assumption) (by assumption) ?_; walk_at "nl") | (refine Ne.symm (gga (by assumption) (by assumption) ?_); walk_at "nl") | omega)
local macro_rules | `(tactic| k_ne) => `(tactic| (refine neN ?_; (try dsimp only); walk_at "nx"))

section

section
variable {w : World} {p : Program} {loose : List Str} {mean : ExcName → Option Value} {mg mb : Str → Option Value}
  {dp un : Nat} {gd : Option (List Code)} {cn : Str} {cs : Scope} {a : Addr} {ccd : Value} {cl : List (Str × Addr)} {outer : List Env} {A₀ : Around} {base h₀ : Heap} {L : Addr} {m : Str → Option Value} {news : List (Addr × Obj)} {s : Shared}
  {Q E : Value → Shared → Prop}
theorem d2i_spec {dA : Addr} {vs : List Value} {ds : List Int} {n : Nat} {t1 : Tok} {kL : Nat} {led : List (Addr × Obj)}
  (B : Below A₀ base outer h₀) (F : Fr h₀ L s.heap m) (X : (KF w.params).In h₀) (htb : TbOk 30 29 4 qI led) (N : News h₀ L s.heap (led ++ news)) (T : Top p loose mean mg mb h₀) (hk : cs.kind = .function)
  (C : CodeHd h₀ 34 30) (hl : (dA, W.listOf vs.toArray kL) ∈ news) (hap : Apart led news) (hi9 : IntsAre vs ds) (hlen : ds.length < 100) (hB : ∀ lo hi, (vD n (sl ds lo hi)).natAbs < 2 ^ 64) (hn : n ≤ 64)
  (hd : dp + 200 < recursionLimit) (hu : un + 2000 < cLine)
  (ret : ∀ t h' tk' led', TbOk 30 29 4 qI led' → Apart led' news → Fr h₀ L h' m → News h₀ L h' (led' ++ news) → Q (.int (vD n ds) t) { s with heap := h', toks := tk' }) :
  wpAny (model PySem.Challenge.rw_rw0085_01.prog w) (ktrTop dp un gd cn cs L a ccd cl outer) (call (.ref 35) [.ref dA, .int n t1]) Q E s := by
  have hlv : vs.length = ds.length := hi9.length
  revert X; k_fill; intro X
  refine wpAny_call ?_
  k_dflt (refine' code_defC ?k1 ?k2 ?k3 ?k4 ?k5 ?kA ?kF ?kK ?k6 ?k7 ?k8 ?k9 ?kB ?kD ?_ ?c2 ?c3 ?c4; (case kA => exact rfl); (case kF => exact rfl); (case kK => assumption); (case k1 => k_asm); (case k2 => k_asm); (case k3 => k_asm); (case k4 => k_asm); (case k5 => k_asm); (case k6 => k_is); (case k7 => k_is); (case k8 => k_room); (case k9 => exact BindsTo.of_eq rfl); (case kB => exact rfl); (case kD => decide +kernel); (case c2 => exact rfl); (case c3 => exact rfl); (case c4 => exact rfl); k_whole)
  intro g' L' h' tk' cells' FG' F' N' Y' B' X' T' l1
  obtain ⟨o', o2', o3', hE', d1', d2', d3'⟩ := PyProof.Rows.CellsAre.three Y'; subst hE'; clear Y'
  try simp only [List.cons_append, List.nil_append] at N'
  try dsimp only
  try k_fold
  have C9 := CodeHd.keeps C (Fr.keep FG')
  replace d1' : o'.data = .cell none := d1'
  replace d2' : o2'.data = .cell (some (.int n t1)) := d2'
  replace d3' : o3'.data = .cell (some (.ref dA)) := d3'
  replace F' : Fr g' L' h' (fun _ => none) := F'
  walk1
  rename (∀ p ∈ led ++ news, p.1 < _) => l1
  obtain ⟨o30, m30⟩ := htb.mem
  have l30 := l1 (30, o30) (List.mem_append_left _ m30)
  k_lt2 l30
  have lB : LtAll led _ := ⟨fun q hq => l1 q (List.mem_append_left _ hq)⟩
  have lA : LtAll news _ := ⟨fun q hq => l1 q (List.mem_append_right _ hq)⟩
  clear l1
  k_here; kn_here; k_dflt (refine' nestDef_K ?d0 ?k0 ?a0 ?_; (case d0 => exact rfl); (case k0 => exact rfl); (case a0 => exact rfl))
  rename News _ _ _ _ => N1
  rename Fr _ _ _ _ => F1
  k_dflt (refine' nest_tb (pre := [_, _, _]) F1 N1 ?T ?C ?cd htb ?z1 ?z2 ?z4 ?z3 ?_; (case T => k_asm); (case cd => exact rfl); (case C => kn_code); (case z2 => exact hap); (case z3 => exact rfl); (case z4 => (intro q hq q' hq'; have h9 := ltN (lB.h q' hq'); simp only [List.mem_cons, List.not_mem_nil, or_false] at hq; rcases hq with rfl | rfl | rfl <;> (refine ltN ?_; dsimp only; omega))); (case z1 => (intro q hq; simp only [List.mem_cons, List.not_mem_nil, or_false] at hq; rcases hq with rfl | rfl | rfl <;> k_ne)); k_whole)
  intro f' c' oc' vs' t' ct' dc' h' tk' fd efd F' N' d1' d2' hcP hcn nP l2
  simp only [AllNe, and_true] at nP
  k_lt l2
  replace hcP := neN hcP
  dsimp only [List.cons_append, List.nil_append] at N'
  clear N1 F1
  have hap' : Apart [(c', oc'), (30, tabObj #[rawInt 29, rawInt 4, .ref c'])] news := fun q hq q' hq' => by
    rcases List.mem_cons.mp hq' with rfl | hq'
    · exact hcn q hq
    · rw [List.mem_singleton.mp hq']; exact hap q hq (30, o30) m30
  iterate 6 walk1
  rename News _ _ _ _ => N2
  refine wpAny_truthy_list (News.isList (n := kL) (items := vs.toArray) N2 (.tail _ (.tail _ (.tail _ (.tail _ (.tail _ (.tail _ hl))))))) (by rw [List.size_toArray, hlv]; omega) ?_
  have hem : (!vs.toArray.isEmpty) = decide (0 < ds.length) := by
    rw [← hlv]; cases vs <;> simp
  rw [hem]
  by_cases he : ds = []
  · subst he
    refine ite_neg (by decide) ?_
    walk1
    dsimp only
    k_unfold
    dsimp only
    walk1
    rename Fr _ _ _ _ => F9
    rename News _ _ _ _ => N9
    refine ret _ _ _ [(c', oc'), (30, _)] (.inr ⟨_, _, _, _, rfl, d1', d2', hcP⟩) hap' F9 (fun q hq => N9 q (.tail _ (.tail _ (.tail _ (.tail _ hq)))))
  · have hp : 0 < ds.length := List.length_pos_iff.mpr he
    refine ite_pos (decide_eq_true hp) ?_
    iterate 8 walk1
    iterate 4 walk1
    rename News _ _ _ _ => N9
    refine len_list (items := vs.toArray) (by exact News.isList (n := kL) (items := vs.toArray) N9 (.tail _ (.tail _ (.tail _ (.tail _ (.tail _ (.tail _ hl))))))) (by rw [List.size_toArray, hlv]; omega) ?_
    rw [List.size_toArray, hlv]
    iterate 3 walk1
    have hfd := efd.2
    subst hfd
    k_dflt (refine' inner_spec ds.length hB hn (lo := 0) (hi := ds.length) ?B ?F ?X ?N ?T ?hk ?C ?hf ?hcc d1' d2' ?hcD ?hoD ?hcN ?hoN ?hcI ?hoI ?hl hi9 ?hlen ?h1 ?h2 ?h3 ?hd ?hu ?_; (case B => k_asm); (case F => k_asm); (case X => k_asm); (case N => exact N9); (case T => k_asm); (case hk => rfl); (case C => exact C9); (case hf => exact .head _); (case hcc => exact .tail _ (.tail _ (.tail _ (.tail _ (.head _))))); (case hcD => exact .tail _ (.tail _ (.tail _ (.head _)))); (case hoD => assumption); (case hcN => exact .tail _ (.tail _ (.head _))); (case hoN => assumption); (case hcI => exact .tail _ (.head _)); (case hoI => assumption); (case hl => exact .tail _ (.tail _ (.tail _ (.tail _ (.tail _ (.tail _ hl)))))); (case hlen => omega); (case h1 => omega); (case h2 => omega); (case h3 => omega); (case hd => first | exact dlt hd rfl | exact dlt2 hd rfl | exact dlt3 hd rfl | ((try simp only [depth_deeper]); (try dsimp only [ktrTop]); omega)); (case hu => first | exact dlt hu rfl | exact dlt2 hu rfl | exact dlt3 hu rfl | ((try simp only [units_deeper]); (try dsimp only [ktrTop]); omega)))
    intro t5 h5 k5 F5 N5
    have esl : sl ds 0 ds.length = ds := by simp [sl]
    rw [esl]
    try dsimp only
    walk1
    rename Fr _ _ _ _ => F8
    rename News _ _ _ _ => N8
    exact ret _ _ _ [(c', oc'), (30, _)] (.inr ⟨_, _, _, _, rfl, d1', d2', hcP⟩) hap' F8 (fun q hq => N8 q (.tail _ (.tail _ (.tail _ (.tail _ hq)))))
end
end

section

section
variable {w : World} {p : Program} {loose : List Str} {mean : ExcName → Option Value} {mg mb : Str → Option Value}
  {dp un : Nat} {gd : Option (List Code)} {cn : Str} {cs : Scope} {a : Addr} {ccd : Value} {cl : List (Str × Addr)} {outer : List Env} {A₀ : Around} {base h₀ : Heap} {L : Addr} {m : Str → Option Value} {rest : List (Addr × Obj)} {s : Shared}
  {Q E : Value → Shared → Prop}
noncomputable def fv (fs : List Nat) : Nat := fs.foldl (fun v f => v * 64 + f) 0
theorem and63 (c : Nat) : Builtin.bitAnd (c : Int) 63 = ((c % 64 : Nat) : Int) := by
  rw [← Nat.and_two_pow_sub_one_eq_mod c 6]; rfl
theorem or64 (v c : Nat) : Builtin.bitOr ((v : Int) * 2 ^ Int.toNat 6) (Builtin.bitAnd (c : Int) 63) = ((v * 64 + c % 64 : Nat) : Int) := by
  have e : (v : Int) * (2 : Int) ^ Int.toNat 6 = ((v <<< 6 : Nat) : Int) := by
    rw [Nat.shiftLeft_eq, Int.natCast_mul]; rfl
  rw [and63, e]
  rw [bitOr_and]
  have e2 : Builtin.bitAnd ((v <<< 6 : Nat) : Int) ((c % 64 : Nat) : Int) = (((v <<< 6) &&& (c % 64) : Nat) : Int) := rfl
  have e3 : (v <<< 6) &&& (c % 64) = 0 := by
    refine Nat.eq_of_testBit_eq fun i => ?_
    rw [Nat.testBit_and, Nat.testBit_shiftLeft, show 64 = 2 ^ 6 from rfl, Nat.testBit_mod_two_pow, Nat.zero_testBit]
    by_cases h : i < 6
    · simp [show ¬ i ≥ 6 by omega]
    · simp [h]
  rw [e2, e3, Nat.shiftLeft_eq]
  omega
theorem and64 (c : UInt8) : (Builtin.bitAnd (c.toNat : Int) 64 != 0) = decide (c.toNat / 64 % 2 = 1) := by
  have h := c.toNat_lt
  have e : ∀ n : Fin 256, (Builtin.bitAnd (n.1 : Int) 64 != 0) = decide (n.1 / 64 % 2 = 1) := by decide +kernel
  exact e ⟨_, h⟩
structure PvM (m : Str → Option Value) (it : Addr) (v c : Nat) : Prop where
  v : ∃ t, m (Str.ofString "val") = some (.int v t)
  b : ∃ t, m (Str.ofString "b") = some (.int c t)
  i : m (Str.ofString "iterator") = some (.ref it)
  o : ∀ y, y ≠ Str.ofString "val" → y ≠ Str.ofString "b" → y ≠ Str.ofString "iterator" → m y = none
noncomputable def pvM (it : Addr) (v c : Nat) (tv tb : Tok) (y : Str) : Option Value :=
  if y = Str.ofString "val" then some (.int v tv) else if y = Str.ofString "b" then some (.int c tb) else if y = Str.ofString "iterator" then some (.ref it) else none
theorem PvM.eq {m : Str → Option Value} {it : Addr} {v c : Nat} (x : PvM m it v c) : ∃ tv tb, m = fun y => if y = Str.ofString "val" then some (.int v tv) else if y = Str.ofString "b" then some (.int c tb) else if y = Str.ofString "iterator" then some (.ref it) else none := by
  obtain ⟨⟨tv, hv⟩, ⟨tb, hb⟩, hi, ho⟩ := x
  refine ⟨tv, tb, funext fun y => ?_⟩
  by_cases h1 : y = Str.ofString "val"
  · subst h1; rw [if_pos rfl]; exact hv
  rw [if_neg h1]
  by_cases h2 : y = Str.ofString "b"
  · subst h2; rw [if_pos rfl]; exact hb
  rw [if_neg h2]
  by_cases h3 : y = Str.ofString "iterator"
  · subst h3; rw [if_pos rfl]; exact hi
  rw [if_neg h3]; exact ho y h1 h2 h3
theorem some_int {o : Option Value} {x y : Int} {t : Tok} (e : o = some (.int x t)) (h : x = y) : ∃ t', o = some (Value.int y t') := ⟨t, h ▸ e⟩
/-- the bytes from i on tell the figures fs -/
noncomputable def Tells (bs : Array UInt8) (i : Nat) (fs : List Nat) : Prop :=
  ∀ k f, fs[k]? = some f → ∃ c, bs[i + k]? = some c ∧ c.toNat % 64 = f ∧ c.toNat / 64 % 2 = if k + 1 < fs.length then 1 else 0
theorem Tells.lt {bs : Array UInt8} {i : Nat} {fs : List Nat} (h : Tells bs i fs) : ∀ f ∈ fs, f < 64 := fun f hf => by
  obtain ⟨k, hk⟩ := List.mem_iff_getElem?.mp hf
  obtain ⟨c, _, e, _⟩ := h k f hk
  omega
theorem fv_step (l : List Nat) (f : Nat) : fv (l ++ [f]) = fv l * 64 + f := by simp [fv]
theorem fv_take {fs : List Nat} {k f : Nat} (h : fs[k + 1]? = some f) : fv (fs.take (k + 1 + 1)) = fv (fs.take (k + 1)) * 64 + f := by
  rw [List.take_add_one, h]; exact fv_step _ _
theorem fv_lt : ∀ (l : List Nat) (v : Nat), (∀ f ∈ l, f < 64) → l.foldl (fun v f => v * 64 + f) v < (v + 1) * 64 ^ l.length
  | [], v, _ => by simp
  | f :: r, v, h => by
    have h1 := h f (.head _)
    have h2 := fv_lt r (v * 64 + f) fun q hq => h q (.tail _ hq)
    rw [List.foldl_cons, List.length_cons, Nat.pow_succ, Nat.mul_comm (64 ^ r.length) 64, ← Nat.mul_assoc]
    exact Nat.lt_of_lt_of_le h2 (Nat.mul_le_mul_right _ (by omega))
theorem fv_small {l : List Nat} (h : ∀ f ∈ l, f < 64) (h9 : l.length ≤ 9) : fv l < 2 ^ 54 := by
  have h1 := fv_lt l 0 h
  have h2 : 64 ^ l.length ≤ 64 ^ 9 := Nat.pow_le_pow_right (by omega) h9
  unfold fv
  omega
theorem pv_spec {it : Addr} {io : Obj} {bs : Array UInt8} {t : Tok} {i : Nat} {fs : List Nat}
  (B : Below A₀ base outer h₀) (F : Fr h₀ L s.heap m) (X : (KF w.params).In h₀) (N : News h₀ L s.heap ((it, io) :: rest)) (T : Top p loose mean mg mb h₀) (hk : cs.kind = .function)
  (hi : BIt io bs t i) (hr : ∀ q ∈ rest, q.1 ≠ it) (hf : Tells bs i fs) (h0 : fs ≠ []) (h9 : fs.length ≤ 9)
  (hd : dp + 10 < recursionLimit) (hu : un + 100 < cLine)
  (ret : ∀ u h' tk' io', Fr h₀ L h' m → News h₀ L h' ((it, io') :: rest) → BIt io' bs t (i + fs.length) → Q (.int (fv fs) u) { s with heap := h', toks := tk' }) :
  wpAny (model PySem.Challenge.rw_rw0085_01.prog w) (ktrTop dp un gd cn cs L a ccd cl outer) (call (.ref 21) [.ref it]) Q E s := by
  revert X; k_fill; intro X
  refine wpAny_call ?_
  k_dflt ktr_enter
  iterate 9 (first | walk1 | (dsimp only; walk1))
  obtain ⟨f0, fr, rfl⟩ : ∃ f0 fr, fs = f0 :: fr := by cases fs with
    | nil => exact absurd rfl h0
    | cons a b => exact ⟨a, b, rfl⟩
  obtain ⟨c0, hc0, hm0, hq0⟩ := hf 0 f0 rfl
  rename News _ _ _ _ => N1
  rename Fr _ _ _ _ => F1
  k_dflt (refine next_K F1 N1 (.head hr) hi hc0 fun h2 o2 u2 F2 N2 hi2 => ?_)
  clear N1 F1
  iterate 10 walk1
  rename Fr _ _ _ _ => F3
  rename News _ _ _ _ => N3
  have hlen : (f0 :: fr).length = fr.length + 1 := rfl
  k_dflt (refine While_inv (fun n m₁ nx => ∃ k c io', n + k + 1 = (f0 :: fr).length ∧ bs[i + k]? = some c ∧ c.toNat / 64 % 2 = (if k + 1 < (f0 :: fr).length then 1 else 0) ∧ PvM m₁ it (fv ((f0 :: fr).take (k + 1))) c.toNat ∧ nx = (it, io') :: rest ∧ BIt io' bs t (i + (k + 1))) (n₀ := fr.length) F3 N3 ?_ ?_)
  · refine ⟨0, c0, o2, by omega, hc0, hq0, ⟨?_, ?_, ?_, ?_⟩, rfl, hi2⟩
    · have e1 : fv ((f0 :: fr).take (0 + 1)) = f0 := by simp [fv]
      rw [e1]
      exact some_int (if_pos rfl) (by rw [and63, hm0])
    · exact some_int (by rfl) rfl
    · rfl
    · intro y h1 h2 h3
      dsimp only
      rw [if_neg h1, if_neg h2]
      simp [List.lookup, beq_eq_false_iff_ne.mpr h3]
  · rintro n m₁ nx h₁ tk₁ F4 N4 ⟨k, c, io', e1, hc, hq, hm, rfl, hi4⟩
    clear F3 N3
    obtain ⟨tv, tb, rfl⟩ := hm.eq
    clear hm
    iterate 4 walk1
    iterate 2 walk1
    rw [and64, hq]
    by_cases hl : k + 1 < (f0 :: fr).length
    · rw [if_pos hl]
      refine ite_pos rfl ?_
      obtain ⟨f', hf'⟩ : ∃ f', (f0 :: fr)[k + 1]? = some f' := ⟨_, List.getElem?_eq_getElem hl⟩
      obtain ⟨c', hc', hm', hq'⟩ := hf (k + 1) f' hf'
      iterate 5 walk1
      have hsm : fv ((f0 :: fr).take (k + 1)) < 2 ^ 54 := fv_small (fun f hf1 => hf.lt f (List.mem_of_mem_take hf1)) (Nat.le_trans (List.length_take_le _ _) (by omega))
      k_dflt (refine ilshift_int_small (by omega) (by omega) (by omega) ?_)
      iterate 9 (first | walk1 | (dsimp only; walk1))
      rename News _ _ _ _ => N5
      rename Fr _ _ _ _ => F5
      k_dflt (refine next_K F5 N5 (.head hr) hi4 hc' fun h6 o6 u6 F6 N6 hi6 => ?_)
      clear N5 F5
      iterate 10 (first | walk1 | (dsimp only; walk1))
      iterate 2 walk1
      rename Fr _ _ _ _ => F7
      rename News _ _ _ _ => N7
      refine WhileStep.intro F7 N7 (n' := n - 1) (by omega) ⟨k + 1, c', o6, by omega, hc', hq', ⟨?_, ?_, ?_, ?_⟩, rfl, hi6⟩
      · rw [fv_take hf']
        exact some_int (if_pos rfl) (by rw [or64, hm'])
      · exact some_int (by rfl) rfl
      · rfl
      · intro y h1 h2 h3
        simp only [if_neg h1, if_neg h2, if_neg h3]
    · rw [if_neg hl]
      refine ite_neg (by decide) ?_
      iterate 4 (first | (k_unfold; (try dsimp only)) | walk1 | (dsimp only; walk1))
      rename Fr _ _ _ _ => F9
      rename News _ _ _ _ => N9
      have ek : k + 1 = (f0 :: fr).length := by omega
      rw [List.take_of_length_le (by omega)]
      exact ret _ _ _ io' F9 N9 (by rw [← ek]; exact hi4)
end
end

section

section
variable {w : World} {p : Program} {loose : List Str} {mean : ExcName → Option Value} {mg mb : Str → Option Value}
  {dp un : Nat} {gd : Option (List Code)} {cn : Str} {cs : Scope} {a : Addr} {ccd : Value} {cl : List (Str × Addr)} {outer : List Env} {A₀ : Around} {base h₀ : Heap} {L : Addr} {m : Str → Option Value} {rest : List (Addr × Obj)} {s : Shared}
  {Q E : Value → Shared → Prop}
theorem pv_end {it : Addr} {io : Obj} {bs : Array UInt8} {t : Tok} {i : Nat}
  (B : Below A₀ base outer h₀) (F : Fr h₀ L s.heap m) (X : (KF w.params).In h₀) (N : News h₀ L s.heap ((it, io) :: rest)) (T : Top p loose mean mg mb h₀) (hk : cs.kind = .function)
  (hi : BIt io bs t i) (hr : ∀ q ∈ rest, q.1 ≠ it) (hx : bs[i]? = none)
  (hd : dp + 10 < recursionLimit) (hu : un + 100 < cLine)
  (ret : ∀ g' h' tk' e t, Fr h₀ L g' m → RaisedS base g' (envX cn cs L a ccd cl :: outer) e (.type "StopIteration") t [] rest h' → RaisedK base (envX cn cs L a ccd cl :: outer) e (.type "StopIteration") t [] rest h' → g'.UpToSlots h' → E (.ref e) { s with heap := h', toks := tk' }) :
  wpAny (model PySem.Challenge.rw_rw0085_01.prog w) (ktrTop dp un gd cn cs L a ccd cl outer) (call (.ref 21) [.ref it]) Q E s := by
  revert X; k_fill; intro X
  refine wpAny_call ?_
  k_dflt ktr_enter
  iterate 9 (first | walk1 | (dsimp only; walk1))
  rename News _ _ _ _ => N1
  rename Fr _ _ _ _ => F1
  k_dflt (refine next_end_K (rest := rest) (by rfl) F1 N1 (.head _) hi hx (fun q hq => ⟨.tail _ hq, hr q hq⟩) fun h1 h2 e F2 N2 hm => ?_)
  rename Below _ _ _ _ => B2
  k_dflt (refine leave_raiseS B2 (Heap.MadeExc.of hm) F2 N2 (fun h3 t3 R3 R4 U3 => ?_))
  exact ret _ _ _ _ _ (by assumption) R3 R4 U3
end
end

section

section
variable {w : World} {p : Program} {loose : List Str} {mean : ExcName → Option Value} {mg mb : Str → Option Value}
  {dp un : Nat} {gd : Option (List Code)} {cn : Str} {cs : Scope} {a : Addr} {ccd : Value} {cl : List (Str × Addr)} {outer : List Env} {A₀ : Around} {base h₀ : Heap} {L : Addr} {m : Str → Option Value} {news : List (Addr × Obj)} {s : Shared}
  {Q E : Value → Shared → Prop}
noncomputable def octL (ds : List Int) : List Int :=
  let row := ds.dropLast.map (· + 64) ++ ds.drop (ds.length - 1)
  (row.getD 0 0 + 128) :: row.drop 1
theorem oct_spec {dA : Addr} {vs : List Value} {ds : List Int} {kL : Nat}
  (B : Below A₀ base outer h₀) (F : Fr h₀ L s.heap m) (X : (KF w.params).In h₀) (N : News h₀ L s.heap news) (T : Top p loose mean mg mb h₀) (hk : cs.kind = .function)
  (hl : (dA, W.listOf vs.toArray kL) ∈ news) (hi9 : IntsAre vs ds) (hlen : ds.length < 100) (h0 : 0 < ds.length)
  (hd : dp + 10 < recursionLimit) (hu : un + 100 < cLine)
  (ret : ∀ a h' tk' ws, Fr h₀ L h' m → News h₀ L h' ((a, W.listOf (List.toArray ws) 0) :: news) → (∀ q ∈ news, q.1 < a) → IntsAre ws (octL ds) → Q (.ref a) { s with heap := h', toks := tk' }) :
  wpAny (model PySem.Challenge.rw_rw0085_01.prog w) (ktrTop dp un gd cn cs L a ccd cl outer) (call (.ref 137) [.ref dA]) Q E s := by
  revert X; k_fill; intro X
  refine wpAny_call ?_
  k_dflt ktr_enter
  k_steps
  with_reducible rename NewPlain _ _ _ _ => npX
  obtain ⟨nX, NX⟩ := made_enters npX (by assumption) (by assumption) (by assumption)
  clear npX
  have iX := CarriedAll.intsOf (by assumption)
  rename News _ _ _ _ => N7
  rename Fr _ _ _ _ => F7
  k_dflt (refine' kmk_slice_ints (ns := ds) F7 N7 ?zzl ?zzp ?zzq ?zzi ?zzm ?zzc ?_ ?zzs ?zzt ?zzz; (case zzl => exact News.isList (n := kL) (items := vs.toArray) N7 (.tail _ (.tail _ hl))); (case zzp => kmk_part); (case zzq => kmk_part); (case zzi => exact hi9); (case zzm => exact kmk_from_neg hi9 (by decide)); (case zzc => kmk_len); (case zzs => with_unfolding_all rfl); (case zzt => kmk_pure); (case zzz => exact kmk_sz hi9 (by rw [sizeLine_eq]; omega)))
  intro D2 ws2 h2 F8 N8 l8 hI8 hC8 hL8
  rw [List.filter_eq_self.mpr (fun _ _ => rfl)] at iX
  k_dflt (refine' kmk_add_ints F8 N8 ?zza ?zzb iX hI8 ?_ ?zzz; (case zza => exact News.isList N8 (.tail _ (.head _))); (case zzb => exact News.isList N8 (.head _)); (case zzz => (rw [sizeLine_eq]; simp only [List.length_map, List.length_take, List.length_drop]; omega)))
  intro D3 ws3 h3 F9 N9 l9 hI9
  iterate 8 (first | walk1 | (dsimp only; walk1))
  clear iX hI8
  iterate 6 (first | walk1 | (dsimp only; walk1))
  iterate 8 (first | walk1 | (dsimp only; walk1))
  rename News _ _ _ _ => N10
  rename Fr _ _ _ _ => F10
  k_dflt (refine' kmk_slice_ints (vs := ws3) F10 N10 ?yyl ?yyp ?yyq hI9 ?yym ?yyc ?_ ?yys ?yyt ?yyz; (case yyl => exact News.isList N10 (.tail _ (.head _))); (case yyp => kmk_part); (case yyq => kmk_part); (case yym => exact kmk_from hI9 (by decide)); (case yyc => kmk_len); (case yys => with_unfolding_all rfl); (case yyt => kmk_pure); (case yyz => exact kmk_sz hI9 (by rw [sizeLine_eq]; simp only [List.length_append, List.length_map, List.length_take, List.length_drop]; omega)))
  intro D5 ws5 h5 F11 N11 l11 hI11 hC11 hL11
  k_dflt (refine' kmk_add_ints F11 N11 ?xxa ?xxb ?xxi hI11 ?_ ?xxz; (case xxa => exact News.isList N11 (.tail _ (.head _))); (case xxb => exact News.isList N11 (.head _)); (case xxi => exact .cons _ _ .nil); (case xxz => (rw [sizeLine_eq]; simp only [List.length_append, List.length_map, List.length_take, List.length_drop, List.length_cons, List.length_nil]; omega)))
  intro D6 ws6 h6 F12 N12 l12 hI12
  iterate 4 (first | (k_unfold; (try dsimp only)) | walk1 | (dsimp only; walk1) | trace "none")
  rename Fr _ _ _ _ => F13
  rename News _ _ _ _ => N13
  refine ret D6 _ _ ws6 F13 (fun q hq => ?_) (fun q hq => l12 q (.tail _ (.tail _ (.tail _ (.tail _ (.tail _ (.tail _ hq))))))) ?_
  · rcases List.mem_cons.mp hq with rfl | hq
    · exact N13 _ (.head _)
    · exact N13 q (.tail _ (.tail _ (.tail _ (.tail _ (.tail _ (.tail _ (.tail _ hq)))))))
  · unfold octL
    rw [List.dropLast_eq_take]
    exact hI12
end
end

section
open PySem.Calls
set_option maxHeartbeats 2000000
/-- k digits of x, the lowest first -/
noncomputable def dg (n : Nat) : Nat → Nat → List Nat
  | 0, _ => []
  | k + 1, x => x % 2 ^ n :: dg n k (x / 2 ^ n)
theorem dg_length (n : Nat) : ∀ k x, (dg n k x).length = k
  | 0, _ => rfl
  | k + 1, x => by rw [dg, List.length_cons, dg_length n k]
theorem dg_add (n : Nat) : ∀ j k x, dg n (j + k) x = dg n j x ++ dg n k (x / 2 ^ (n * j))
  | 0, k, x => by simp [dg]
  | j + 1, k, x => by
    rw [show j + 1 + k = (j + k) + 1 by omega, dg, dg, dg_add n j k, List.cons_append, Nat.div_div_eq_div_mul, ← Nat.pow_add, Nat.mul_succ, Nat.add_comm n]
theorem dg_mod (n : Nat) : ∀ j x, dg n j (x % 2 ^ (n * j)) = dg n j x
  | 0, _ => rfl
  | j + 1, x => by
    rw [dg, dg]
    have h1 : x % 2 ^ (n * (j + 1)) % 2 ^ n = x % 2 ^ n := by
      rw [Nat.mul_succ, Nat.pow_add, Nat.mul_comm (2 ^ (n * j))]; exact Nat.mod_mul_right_mod _ _ _
    have h2 : x % 2 ^ (n * (j + 1)) / 2 ^ n = x / 2 ^ n % 2 ^ (n * j) := by
      rw [Nat.mul_succ, Nat.pow_add, Nat.mul_comm (2 ^ (n * j)), Nat.mod_mul_right_div_self]
    rw [h1, h2, dg_mod n j]
noncomputable def dgI (n k x : Nat) : List Int := (dg n k x).map Int.ofNat
theorem dgI_length (n k x : Nat) : (dgI n k x).length = k := by unfold dgI; rw [List.length_map, dg_length]
theorem dgI_split {n lo mid hi x : Nat} (h1 : lo ≤ mid) (h2 : mid ≤ hi) : dgI n (mid - lo) (x % 2 ^ (n * (mid - lo))) ++ dgI n (hi - mid) (x / 2 ^ (n * (mid - lo))) = dgI n (hi - lo) x := by
  unfold dgI
  rw [← List.map_append, dg_mod, ← dg_add, show mid - lo + (hi - mid) = hi - lo by omega]
noncomputable def putD (ds : List Int) (lo hi : Nat) (e : List Int) : List Int := ds.take lo ++ (e ++ ds.drop hi)
theorem putD_length {ds : List Int} {lo hi : Nat} {e : List Int} (h1 : lo ≤ hi) (h2 : hi ≤ ds.length) (he : e.length = hi - lo) : (putD ds lo hi e).length = ds.length := by
  unfold putD; rw [List.length_append, List.length_append, List.length_take, List.length_drop]; omega
theorem putD_putD {ds : List Int} {lo mid hi : Nat} {e1 e2 : List Int} (h1 : lo ≤ mid) (h2 : mid ≤ hi) (h3 : hi ≤ ds.length) (he : e1.length = mid - lo) : putD (putD ds lo mid e1) mid hi e2 = putD ds lo hi (e1 ++ e2) := by
  unfold putD
  have hl : (ds.take lo ++ e1).length = mid := by rw [List.length_append, List.length_take]; omega
  have t1 : List.take mid (ds.take lo ++ (e1 ++ ds.drop mid)) = ds.take lo ++ e1 := by
    rw [← List.append_assoc, List.take_append_of_le_length (by omega), List.take_of_length_le (by omega)]
  have t2 : List.drop hi (ds.take lo ++ (e1 ++ ds.drop mid)) = ds.drop hi := by
    rw [← List.append_assoc, List.drop_append, List.drop_eq_nil_of_le (by omega), List.nil_append, hl, List.drop_drop, show mid + (hi - mid) = hi by omega]
  rw [t1, t2, List.append_assoc, List.append_assoc]
theorem putD_one {ds : List Int} {lo : Nat} {x : Int} (h : lo < ds.length) : putD ds lo (lo + 1) [x] = ds.set lo x := by
  unfold putD
  rw [List.set_eq_take_append_cons_drop, if_pos h]; rfl
theorem putD_all {ds e : List Int} : putD ds 0 ds.length e = e := by simp [putD]
theorem xor_low (x s : Nat) : Builtin.bitXor (x : Int) (((x / 2 ^ s : Nat) : Int) * 2 ^ s) = ((x % 2 ^ s : Nat) : Int) := by
  have e : ((x / 2 ^ s : Nat) : Int) * (2 : Int) ^ s = (((x / 2 ^ s) * 2 ^ s : Nat) : Int) := by
    rw [Int.natCast_mul, Int.natCast_pow]; rfl
  unfold Builtin.bitXor
  rw [e, bitOr_and]
  have e2 : Builtin.bitAnd (x : Int) ((x / 2 ^ s * 2 ^ s : Nat) : Int) = ((x &&& (x / 2 ^ s * 2 ^ s) : Nat) : Int) := rfl
  have e3 : x &&& (x / 2 ^ s * 2 ^ s) = x / 2 ^ s * 2 ^ s := by
    refine Nat.eq_of_testBit_eq fun i => ?_
    rw [Nat.testBit_and, ← Nat.shiftLeft_eq, Nat.testBit_shiftLeft, ← Nat.shiftRight_eq_div_pow, Nat.testBit_shiftRight]
    by_cases h : s ≤ i
    · simp [h, show s + (i - s) = i by omega]
    · simp [h]
  rw [e2, e3]
  have := Nat.div_add_mod x (2 ^ s)
  rw [Nat.mul_comm] at this
  omega
theorem shr_eq (x s : Nat) : ((x : Int)).fdiv (2 ^ s) = ((x / 2 ^ s : Nat) : Int) := by
  rw [Int.fdiv_eq_ediv_of_nonneg _ (Int.le_of_lt (Int.pow_pos (by decide)))]
  rw [Int.natCast_ediv, Int.natCast_pow]; rfl
theorem pow_mul_sub {n lo mid hi : Nat} (h1 : lo ≤ mid) (h2 : mid ≤ hi) : 2 ^ (n * (hi - lo)) = 2 ^ (n * (mid - lo)) * 2 ^ (n * (hi - mid)) := by
  rw [← Nat.pow_add, ← Nat.mul_add, show mid - lo + (hi - mid) = hi - lo by omega]
end

section

local macro_rules | `(tactic| walk_at "tl") => `(tactic| first | assumption | exact List.Mem.head _ | (refine List.Mem.tail _ ?_; walk_at "tl"))
local macro_rules | `(tactic| walk_at "sub") => `(tactic| first | exact List.forall_mem_nil _ | (refine List.forall_mem_cons.mpr ⟨by walk_at "tl", ?_⟩; walk_at "sub") | (intro q hq; walk_at "tl"))
local macro_rules | `(tactic| walk_at "go") => `(tactic| first | walk1 | (dsimp only; walk1))

section
open PySem.Calls
open LCg (NsObj lst Off3)
section
variable {w : World} {p : Program} {loose : List Str} {mean : ExcName → Option Value} {mg mb : Str → Option Value}
  {dp un : Nat} {gd : Option (List Code)} {cn : Str} {cs : Scope} {a : Addr} {ccd : Value} {cl : List (Str × Addr)} {outer : List Env} {A₀ : Around} {base h₀ : Heap} {L : Addr} {m : Str → Option Value} {news : List (Addr × Obj)} {s : Shared}
  {Q E : Value → Shared → Prop}

noncomputable def pairsL (ds : List Int) : List Int := (List.range ((ds.length + 1) / 2)).map fun k => ds.getD (2 * k) 0 + 64 * ds.getD (2 * k + 1) 0
theorem pairs_spec {dA : Addr} {vs : List Value} {ds : List Int} {kL : Nat}
  (B : Below A₀ base outer h₀) (F : Fr h₀ L s.heap m) (X : (KF w.params).In h₀) (N : News h₀ L s.heap news) (T : Top p loose mean mg mb h₀) (hk : cs.kind = .function)
  (hl : (dA, W.listOf vs.toArray kL) ∈ news) (hi9 : IntsAre vs ds) (hlen : ds.length < 100)
  (hsm : ∀ d ∈ ds, d.natAbs < 2 ^ 20)
  (hd : dp + 10 < recursionLimit) (hu : un + 100 < cLine)
  (ret : ∀ a h' tk' ws k, Fr h₀ L h' m → News h₀ L h' ((a, W.listOf (List.toArray ws) k) :: news) → (∀ q ∈ news, q.1 < a) → IntsAre ws (pairsL ds) → Q (.ref a) { s with heap := h', toks := tk' }) :
  wpAny (model PySem.Challenge.rw_rw0085_01.prog w) (ktrTop dp un gd cn cs L a ccd cl outer) (call (.ref 149) [.ref dA]) Q E s := by
  revert X; k_fill; intro X
  refine wpAny_call ?_

  (k_dflt (refine' code_defC ?e0k1 ?e0k2 ?e0k3 ?e0k4 ?e0k5 ?e0kA ?e0kF ?e0kK ?e0k6 ?e0k7 ?e0k8 ?e0k9 ?e0kB ?e0kD ?_ ?e0c2 ?e0c3 ?e0c4; (case e0kA => exact rfl); (case e0kF => exact rfl); (case e0kK => assumption); (case e0k1 => k_asm); (case e0k2 => k_asm); (case e0k3 => k_asm); (case e0k4 => k_asm); (case e0k5 => k_asm); (case e0k6 => k_is); (case e0k7 => k_is); (case e0k8 => k_room); (case e0k9 => exact BindsTo.of_eq rfl); (case e0kB => exact rfl); (case e0kD => decide +kernel); (case e0c2 => exact rfl); (case e0c3 => exact rfl); (case e0c4 => exact rfl); k_whole))
  intro g' L' h' tk' cells' FG' F' N' Y' B' X' T' l1
  obtain ⟨oL, hE', dL⟩ := PyProof.Rows.CellsAre.one Y'; subst hE'; clear Y'
  simp only [List.cons_append, List.nil_append] at N'
  replace dL : oL.data = .cell none := dL
  replace F' : Fr g' L' h' (fun y => if y = "figures" then some (.ref dA) else none) := F'
  have lB : LtAll news _ := ⟨l1⟩
  clear l1
  try dsimp only
  try k_fold
  iterate 9 (walk_at "go")
  rename News _ _ _ _ => N7
  rename Fr _ _ _ _ => F7
  k_dflt (refine' kmk_add_ints F7 N7 ?zza ?zzb hi9 ?zzi ?_ ?zzz; (case zza => exact News.isList (n := kL) (items := vs.toArray) N7 (.tail _ (.tail _ hl))); (case zzb => exact News.isList N7 (.head _)); (case zzi => exact .cons _ _ .nil); (case zzz => (rw [sizeLine_eq]; simp only [List.length_cons, List.length_nil]; omega)))
  intro D3 ws3 h3 F9 N9 l9 hI9
  k_lt l9
  walk_at "go"
  rename_i h10 oL2 F10 N10 dL2
  iterate 3 (walk_at "go")
  k_dflt (refine' ListComp_X (h₀ := g') (L := L') (m := fun y => if y = "figures" then some (.ref dA) else none) ?clos ?cell ?kind ?names ?_; (case clos => with_unfolding_all rfl); (case cell => decide); (case kind => rfl); (case names => decide))
  iterate 12 (walk_at "go")
  have hlv : vs.length = ds.length := hi9.length
  refine len_list (items := vs.toArray) (by exact News.isList (n := kL) (items := vs.toArray) N10 (.tail _ (.tail _ (.tail _ hl)))) (by rw [List.size_toArray, hlv]; omega) ?_
  rw [List.size_toArray, hlv]
  iterate 4 (walk_at "go")
  rename IsRange _ _ _ _ _ _ _ _ => hr
  rename News _ _ _ _ => N11
  rename Fr _ _ _ _ => F11
  k_dflt (refine iter_range F11 N11 hr (rsmall (by omega) (by omega) (by omega) (by omega)) rsize2 ?_)
  intro I oI h12 F12 N12 l12 st12 hfp
  refine ⟨I, oI, _, _, _, _, _, rfl, (src_range (h₀ := g') (L := L') (by rfl) 0 2 ((ds.length + 1) / 2)).W, st12, hfp, F12, N12, fun p hp => Nat.ne_of_lt (l12 p hp), ?_⟩
  intro D C h1 oC m1 tk1 F13 hC13 N13 off13 ne13 hfD hfC st13 l13 l14
  refine inner_W (oI := oI) (ys₀ := []) (news₀ := (D3, W.listOf ws3.toArray 0) :: (L' + 1, oL2) :: news) (m := fun y => if y = "figures" then some (.ref dA) else none) rule_one (src_range (by rfl) 0 2 ((ds.length + 1) / 2)) hfD hfC (by rfl) (by rfl) (fun _ => True) (fun _ _ _ => trivial)
    (fun i ys nw => (∃ o, nw = ((D3, W.listOf ws3.toArray 0) :: (L' + 1, o) :: news) ∧ o.data = .cell (some (.ref D3))) ∧ IntsAre ys ((pairsL ds).take i)) (fun _ _ _ _ => trivial) ?hsz F13 ?N13 ?off13 ne13 hC13 trivial st13 ?inv ?turn ?fin
  case hsz =>
    rintro i ys nw ⟨-, hys⟩
    rw [hys.length, sizeLine_eq]
    have := List.length_take_le i (pairsL ds)
    have h9 : (pairsL ds).length = (ds.length + 1) / 2 := by simp [pairsL]
    have h10 := List.length_take_le' i (pairsL ds)
    omega
  case N13 => exact news_sub N13 (by walk_at "sub")
  case off13 => exact off3_sub off13 (by walk_at "sub")
  case inv => exact ⟨⟨_, rfl, by assumption⟩, .nil⟩
  case fin =>
    rintro ys nw oC2 m2 h2 tk2 ⟨⟨o2, rfl, ho2⟩, hys⟩ hC2 - F14 N14 off14
    refine lend hC2 F14 N14 ne13.2.2 off14 ?_
    rw [List.take_of_length_le (by simp [pairsL])] at hys
    intro h' tk' F' N'
    walk_at "go"
    rename News _ _ _ _ => N9
    rename Fr _ _ _ _ => F9
    exact ret D _ _ ys ys.length F9 (news_sub N9 (by walk_at "sub")) (fun q hq => l13 q (by walk_at "tl")) hys
  case turn =>
    rintro i ys nw v oI2 oC2 m2 h2 tk2 E2 hi ⟨⟨o2, rfl, ho2⟩, hys⟩ ⟨t5, rfl⟩ hC2 hx2 - F14 N14 off14
    refine wpAny_tests_nil ?_
    rw [if_pos rfl]
    have hl3 : ws3.length = ds.length + 1 := by rw [hI9.length]; simp
    k_steps
    refine EEnd.intro F14 N14 ((D3, W.listOf ws3.toArray 0) :: (L' + 1, o2) :: news) (fun _ h => h) off14 ⟨⟨_, rfl, ho2⟩, ?_⟩
    have hi' : i < (pairsL ds).length := by simp [pairsL]; omega
    rw [List.take_succ_eq_append_getElem hi']
    refine hys.append ?_
    have e : ∀ k, (ds ++ [0]).getD k 0 = ds.getD k 0 := fun k => by
      by_cases h : k < ds.length
      · simp [List.getD, List.getElem?_append_left h]
      · have h' : ds.length ≤ k := by omega
        rw [List.getD, List.getD, List.getElem?_append_right h', List.getElem?_eq_none h']
        cases h5 : ([0] : List Int)[k - ds.length]? with
        | none => rfl
        | some z => have := List.mem_of_getElem? h5; simp at this; subst this; rfl
    simp only [pairsL, List.getElem_map, List.getElem_range, e]
    rw [show (0 + (i : Int) * 2).toNat = 2 * i by omega, show (0 + (i : Int) * 2 + 1).toNat = 2 * i + 1 by omega]
    exact .cons _ _ .nil
end
end

section
open PySem.Calls
open LCg (NsObj lst Off3)
section
variable {w : World} {p : Program} {loose : List Str} {mean : ExcName → Option Value} {mg mb : Str → Option Value}
  {dp un : Nat} {gd : Option (List Code)} {cn : Str} {cs : Scope} {a : Addr} {ccd : Value} {cl : List (Str × Addr)} {outer : List Env} {A₀ : Around} {base h₀ : Heap} {L : Addr} {m : Str → Option Value} {news : List (Addr × Obj)} {s : Shared}
  {Q E : Value → Shared → Prop}

noncomputable def gapsL : List (Int × Int) := [(119965, 8492), (119968, 8496), (119969, 8497), (119971, 8459), (119972, 8464), (119975, 8466), (119976, 8499), (119981, 8475), (120070, 8493), (120075, 8460), (120076, 8465), (120085, 8476), (120093, 8488), (120122, 8450), (120127, 8461), (120133, 8469), (120135, 8473), (120136, 8474), (120137, 8477), (120145, 8484)]
theorem gaps_spec
  (B : Below A₀ base outer h₀) (F : Fr h₀ L s.heap m) (X : (KF w.params).In h₀) (N : News h₀ L s.heap news) (T : Top p loose mean mg mb h₀) (hk : cs.kind = .function)
  (hd : dp + 10 < recursionLimit) (hu : un + 100 < cLine)
  (ret : ∀ a o kvs h' tk', Fr h₀ L h' m → News h₀ L h' ((a, o) :: news) → (∀ q ∈ news, q.1 < a) → (a == sysModules) = false → o.IsDictOf (IK PySem.Challenge.rw_rw0085_01.prog w) kvs → KV kvs gapsL → Q (.ref a) { s with heap := h', toks := tk' }) :
  wpAny (model PySem.Challenge.rw_rw0085_01.prog w) (ktrTop dp un gd cn cs L a ccd cl outer) (call (.ref 118) []) Q E s := by
  revert X; k_fill; intro X
  refine wpAny_call ?_

  k_dflt ktr_enter
  iterate 3 (walk_at "go")
  rename News _ _ _ _ => N1
  rename Fr _ _ _ _ => F1
  with_reducible refine' Dict_long (kl := gapsL) ?F ?N ?nl ?sh ?l1 ?l2 ?nd ?_

  case F => exact F1
  case N => exact N1
  case nl => exact (Top.nolimit (by k_asm))
  trace "a"
  case sh => kernel_rfl
  trace "b"
  case l1 => decide
  case l2 => decide
  case nd => exact (rising_nodup _ (by decide +kernel))
  trace "c"
  intro d o kvs h2 tk2 F2 N2 l2 hs2 hd2 hk2
  k_steps
  exact ret d o kvs _ _ (by k_asm) (by k_asm) l2 hs2 hd2 hk2
end
end

section
open PySem.Calls
open LCg (NsObj lst Off3)
section
variable {w : World} {p : Program} {loose : List Str} {mean : ExcName → Option Value} {mg mb : Str → Option Value}
  {dp un : Nat} {gd : Option (List Code)} {cn : Str} {cs : Scope} {a : Addr} {ccd : Value} {cl : List (Str × Addr)} {outer : List Env} {A₀ : Around} {base h₀ : Heap} {L : Addr} {m : Str → Option Value} {news : List (Addr × Obj)} {s : Shared}
  {Q E : Value → Shared → Prop}

theorem hid_spec
  (B : Below A₀ base outer h₀) (F : Fr h₀ L s.heap m) (X : (KF w.params).In h₀) (N : News h₀ L s.heap news) (T : Top p loose mean mg mb h₀) (hk : cs.kind = .function)
  (hd : dp + 10 < recursionLimit) (hu : un + 100 < cLine)
  (ret : ∀ a h' tk' ws, Fr h₀ L h' m → News h₀ L h' ((a, W.listOf (List.toArray ws) 0) :: news) → (∀ q ∈ news, q.1 < a) → IntsAre ws (hidL.map Int.ofNat) → Q (.ref a) { s with heap := h', toks := tk' }) :
  wpAny (model PySem.Challenge.rw_rw0085_01.prog w) (ktrTop dp un gd cn cs L a ccd cl outer) (call (.ref 106) []) Q E s := by
  revert X; k_fill; intro X
  refine wpAny_call ?_

  k_dflt ktr_enter
  k_steps
  with_reducible rename NewPlain _ _ _ _ => npX
  obtain ⟨nX, NX⟩ := made_enters npX (by assumption) (by assumption) (by assumption)
  clear npX
  have iX := CarriedAll.intsOf (by assumption)
  rename News _ _ _ _ => N7
  rename Fr _ _ _ _ => F7
  k_dflt (refine' kmk_add_ints F7 N7 (ns := [173, 847, 6150, 6155, 6156, 6157, 8203, 8204, 8205, 8288, 65279]) ?zza ?zzb ?zzi iX ?_ ?zzz; (case zza => exact News.isList N7 (.tail _ (.head _))); (case zzi => exact .cons _ _ (.cons _ _ (.cons _ _ (.cons _ _ (.cons _ _ (.cons _ _ (.cons _ _ (.cons _ _ (.cons _ _ (.cons _ _ (.cons _ _ .nil))))))))))); (case zzb => exact News.isList N7 (.head _)); (case zzz => (rw [sizeLine_eq]; decide)))
  intro D6 ws6 h6 F12 N12 l12 hI12
  k_steps
  rename Fr _ _ _ _ => F13
  rename News _ _ _ _ => N13
  exact ret D6 _ _ ws6 F13 (news_sub N13 (by walk_at "sub")) (fun q hq => l12 q (by walk_at "tl")) (by exact hI12)
end
end

section
open PySem.Calls
open LCg (NsObj lst Off3)
section
variable {w : World} {p : Program} {loose : List Str} {mean : ExcName → Option Value} {mg mb : Str → Option Value}
  {dp un : Nat} {gd : Option (List Code)} {cn : Str} {cs : Scope} {a : Addr} {ccd : Value} {cl : List (Str × Addr)} {outer : List Env} {A₀ : Around} {base h₀ : Heap} {L : Addr} {m : Str → Option Value} {news : List (Addr × Obj)} {s : Shared}
  {Q E : Value → Shared → Prop}

noncomputable def gapsF (c : Int) : Int := ((gapsL.find? fun x => x.1 == c).map (·.2)).getD c
theorem gapsF_bd {c : Int} (h0 : 0 ≤ c) (h1 : c ≤ 1114111) : 0 ≤ gapsF c ∧ gapsF c ≤ 1114111 := by
  unfold gapsF
  cases h : gapsL.find? fun x => x.1 == c with
  | none => exact ⟨h0, h1⟩
  | some x =>
    have hm := List.mem_of_find?_eq_some h
    have ha : ∀ x ∈ gapsL, 0 ≤ x.2 ∧ x.2 ≤ 1114111 := by decide
    exact ha x hm
theorem lookup_ints (c : Int) : ∀ l : List (Int × Int), Spec.lookup (.int c) (l.map fun x => (PyData.int x.1, PyData.int x.2)) = ((l.find? fun x => x.1 == c).map (·.2)).map PyData.int
  | [] => rfl
  | (k, v) :: r => by
    rw [List.map_cons, Spec.lookup, List.find?_cons]
    have e : same (PyData.int k) (.int c) = (k == c) := by rw [same_int]; rfl
    rw [e]
    cases h : (k == c) with
    | true => rfl
    | false => simp only [Bool.false_eq_true, if_false]; exact lookup_ints c r
noncomputable def spelL (c : Nat) (pl fc : Int) : Nat := if 25 < pl ∨ fc = 14 then c else if fc = 13 then (65 + pl).toNat else (gapsF (119808 + 52 * fc + pl)).toNat
theorem spe_spec {c : Nat} {t1 t2 t3 : Tok} {pl fc : Int} {gA : Addr} {og : Obj} {kvs : List (Int × Value)}
  (B : Below A₀ base outer h₀) (F : Fr h₀ L s.heap m) (X : (KF w.params).In h₀) (N : News h₀ L s.heap news) (T : Top p loose mean mg mb h₀) (hk : cs.kind = .function)
  (hg : (gA, og) ∈ news) (hgs : (gA == sysModules) = false) (hgd : og.IsDictOf (IK PySem.Challenge.rw_rw0085_01.prog w) kvs) (hgk : KV kvs gapsL)
  (hp0 : 0 ≤ pl) (hp1 : pl < 42) (hf0 : 0 ≤ fc) (hf1 : fc < 15)
  (hd : dp + 10 < recursionLimit) (hu : un + 100 < cLine)
  (ret : ∀ t h' tk', Fr h₀ L h' m → News h₀ L h' news → Q (.str ⟨#[spelL c pl fc]⟩ t) { s with heap := h', toks := tk' }) :
  wpAny (model PySem.Challenge.rw_rw0085_01.prog w) (ktrTop dp un gd cn cs L a ccd cl outer) (call (.ref 125) [.str ⟨#[c]⟩ t1, .int pl t2, .int fc t3, .ref gA]) Q E s := by
  revert X; k_fill; intro X
  refine wpAny_call ?_

  k_dflt ktr_enter
  unfold spelL at ret
  k_steps
  · rename (25 < pl) => h1
    rw [if_pos (.inl h1)] at ret
    exact ret _ _ _ (by k_asm) (by k_asm)
  · rename (fc = 14) => h1
    rw [if_pos (.inr h1)] at ret
    exact ret _ _ _ (by k_asm) (by k_asm)
  · rename (fc = 13) => h1
    rw [if_neg (by omega), if_pos h1] at ret
    exact ret _ _ _ (by k_asm) (by k_asm)
  · rw [if_neg (by omega), if_neg (by assumption)] at ret
    rename News _ _ _ _ => N5
    have T5 := TabAt.ofNews N5 hg hgs hgd hgk.flat
    refine getMethod_intTab_get T5 ?_
    iterate 6 (walk_at "go")
    refine call_get2_intTab T5 (.int _ _) (fun v hv => ?_)
    rw [lookup_ints] at hv
    have hb := gapsF_bd (c := 119808 + 52 * fc + pl) (by omega) (by omega)
    have e : (Option.map PyData.int (Option.map (·.2) (gapsL.find? fun x => x.1 == 119808 + 52 * fc + pl))).getD (PyData.int (119808 + 52 * fc + pl)) = PyData.int (gapsF (119808 + 52 * fc + pl)) := by
      unfold gapsF
      cases gapsL.find? fun x => x.1 == 119808 + 52 * fc + pl <;> rfl
    rw [e] at hv
    have hv := hv ⟨#[], {}⟩
    cases hv
    generalize gapsF (119808 + 52 * fc + pl) = gc at hb ret ⊢
    obtain ⟨hb0, hb1⟩ := hb
    k_steps
    exact ret _ _ _ (by k_asm) (by k_asm)
end
end

section
open PySem.Calls
open LCg (NsObj lst Off3)
section
variable {w : World} {p : Program} {loose : List Str} {mean : ExcName → Option Value} {mg mb : Str → Option Value}
  {dp un : Nat} {gd : Option (List Code)} {cn : Str} {cs : Scope} {a : Addr} {ccd : Value} {cl : List (Str × Addr)} {outer : List Env} {A₀ : Around} {base h₀ : Heap} {L : Addr} {m : Str → Option Value} {news : List (Addr × Obj)} {s : Shared}
  {Q E : Value → Shared → Prop}

/-- the bytes from i on tell one number after another -/
inductive TellsA (bs : Array UInt8) : Nat → List (List Nat) → Prop
  | nil {i} : bs[i]? = none → TellsA bs i []
  | cons {i fs r} : Tells bs i fs → fs ≠ [] → fs.length ≤ 9 → TellsA bs (i + fs.length) r → TellsA bs i (fs :: r)
theorem exc_si : isSubtype (.type "StopIteration") (.type "BaseException") = pure true := by rw [isSubtype_type]; kernel_rfl
theorem ntup_si : isSubtype (.type ((Manifest.find? "StopIteration").elim "type" fun x => x.metatype)) (.type "tuple") = pure false := by
  rw [show ((Manifest.find? "StopIteration").elim "type" fun x => x.metatype) = "type" from by kernel_rfl, isSubtype_type]; kernel_rfl
theorem self_si : isSubtype (.type "StopIteration") (.type "StopIteration") = pure true := by rw [isSubtype_type]; kernel_rfl
theorem lookup_one (x : Str) (v : Value) : (fun y => List.lookup y [(x, v)]) = fun y => if y = x then some v else none := by
  funext y
  by_cases h : y = x
  · subst h; simp [List.lookup]
  · simp [List.lookup, beq_eq_false_iff_ne.mpr h, h]
theorem read_spec {bs : Array UInt8} {tb : Tok} {fss : List (List Nat)}
  (B : Below A₀ base [] h₀) (F : Fr h₀ L s.heap m) (X : (KF w.params).In h₀) (N : News h₀ L s.heap news) (T : Top p loose mean mg mb h₀) (hk : cs.kind = .function)
  (XB : (KF w.params).In base) (TB : Top p loose mean mg mb base)
  (ht : TellsA bs 0 fss) (hl : fss.length < 1000)
  (hd : dp + 30 < recursionLimit) (hu : un + 300 < cLine)
  (ret : ∀ a h' tk' ws k, Fr h₀ L h' m → News h₀ L h' ((a, W.listOf (List.toArray ws) k) :: news) → (∀ q ∈ news, q.1 < a) → IntsAre ws (fss.map fun fs => (fv fs : Int)) → Q (.ref a) { s with heap := h', toks := tk' }) :
  wpAny (model PySem.Challenge.rw_rw0085_01.prog w) (ktrTop dp un gd cn cs L a ccd cl []) (call (.ref 144) [.bytes bs tb]) Q E s := by
  revert X; k_fill; intro X
  refine wpAny_call ?_

  k_dflt (refine' defX0 ?k1 ?k2 ?k3 ?k4 ?k5 ?kA ?kF ?kK ?k6 ?k7 ?k8 ?k9 ?kB ?_ ?c2 ?c3 ?c4 ?c5; (case kA => exact rfl); (case kF => exact rfl); (case kK => assumption); (case k1 => k_asm); (case k2 => k_asm); (case k3 => k_asm); (case k4 => k_asm); (case k5 => k_asm); (case k6 => k_is); (case k7 => k_is); (case k8 => k_room); (case k9 => exact BindsTo.of_eq rfl); (case kB => exact locs rfl); (case c2 => exact rfl); (case c3 => exact rfl); (case c4 => exact rfl); (case c5 => decide); k_whole)
  intro g' L' h' FG' F1 N1 B' X' T' D' l1
  try dsimp only
  try k_fold
  have lB : LtAll news _ := ⟨l1⟩
  clear l1
  replace F1 : Fr g' L' h' (fun y => List.lookup y [(Str.ofString "octets", .bytes bs tb)]) := F1
  rw [lookup_one] at F1
  iterate 8 (walk_at "go")
  k_dflt (refine iter_bytes_K F1 N1 fun I h2 oI F2 N2 l2 bI => ?_)
  clear N1 F1
  have lI : LtAll news I := ⟨l2⟩
  iterate 12 (walk_at "go")
  rename (@LT.lt Nat _ I _ ∧ _) => l1
  rename Fr _ _ _ _ => F3
  rename News _ _ _ _ => N3
  k_dflt (refine While_inv (fun n m₁ nx => ∃ lA i done rest ws k io, m₁ = (fun y => if y = Str.ofString "found" then some (.ref lA) else if y = Str.ofString "reader" then some (.ref I) else if y = Str.ofString "octets" then some (.bytes bs tb) else none) ∧
     nx = (lA, W.listOf (List.toArray ws) k) :: (I, io) :: news ∧ fss = done ++ rest ∧ n = rest.length ∧ BIt io bs tb i ∧ TellsA bs i rest ∧ IntsAre ws (done.map fun fs => (fv fs : Int)) ∧ @LT.lt Nat _ I lA) (n₀ := fss.length) F3 N3 ?_ ?_)
  · exact ⟨_, 0, [], fss, [], 0, oI, rfl, rfl, rfl, rfl, bI, ht, .nil, l1.1⟩
  rintro n m₁ nx h₁ tk₁ F4 N4 ⟨lA, i, done, rest, ws, k, io, rfl, rfl, hd4, rfl, b4, t4, i4, l4⟩
  clear F3 N3
  iterate 8 (walk_at "go")
  iterate 9 (walk_at "go")
  refine ⟨by k_in, ?_⟩
  have hn : ∀ q ∈ (lA, W.listOf (List.toArray ws) k) :: news, q.1 ≠ I := fun q hq => by
    rcases List.mem_cons.mp hq with rfl | hq
    · exact Nat.ne_of_gt l4
    · exact Nat.ne_of_lt (lI.h q hq)
  cases t4 with
  | nil hx =>
    k_dflt (refine' pv_end (rest := (lA, W.listOf (List.toArray ws) k) :: news) ?B ?F ?X ?N ?T ?hk b4 hn hx ?hd ?hu ?_; (case B => k_asm); (case F => k_asm); (case X => k_asm); (case N => exact news_sub N4 (by walk_at "sub")); (case T => k_asm); (case hk => rfl); (case hd => first | exact dlt hd rfl | exact dlt2 hd rfl | exact dlt3 hd rfl | ((try simp only [depth_deeper]); (try dsimp only [ktrTop]); omega)); (case hu => first | exact dlt hu rfl | exact dlt2 hu rfl | exact dlt3 hu rfl | ((try simp only [units_deeper]); (try dsimp only [ktrTop]); omega)))
    intro g5 h5 k5 e5 t5 F5 R5 K5 U5
    k_dflt (refine' caught_S0 (T' := "StopIteration") R5 F5 B' U5 ?XB ?TB D' KtsTurn.refl ?ex PyProof.Rows.Boot.«StopIteration» ?hn exc_si ntup_si self_si ?_; (case XB => assumption); (case TB => assumption); (case ex => k_is); (case hn => decide))
    intro h7 g7 n7 T7 F7 N7 G7 N8 K7 X7 P7 D7
    clear N7 G7
    iterate 4 (walk_at "go")
    walk_at "go"
    rename Fr _ _ _ _ => F9
    rename News _ _ _ _ => N9
    rw [List.append_nil] at hd4
    subst hd4
    exact ret lA _ _ ws k F9 N9 (fun q hq => Nat.lt_trans (lI.h q hq) l4) i4
  | cons hf h0 h9 hr =>
    k_dflt (refine' pv_spec (rest := (lA, W.listOf (List.toArray ws) k) :: news) ?B ?F ?X ?N ?T ?hk b4 hn hf h0 h9 ?hd ?hu ?_; (case B => k_asm); (case F => k_asm); (case X => k_asm); (case N => exact news_sub N4 (by walk_at "sub")); (case T => k_asm); (case hk => rfl); (case hd => first | exact dlt hd rfl | exact dlt2 hd rfl | exact dlt3 hd rfl | ((try simp only [depth_deeper]); (try dsimp only [ktrTop]); omega)); (case hu => first | exact dlt hu rfl | exact dlt2 hu rfl | exact dlt3 hu rfl | ((try simp only [units_deeper]); (try dsimp only [ktrTop]); omega)))
    intro u5 h5 k5 io5 F5 N5 b5
    clear N4 F4
    walk_at "go"
    rename_i fs r
    have hw : ws.length < 1000 := by
      have := i4.length
      rw [hd4] at hl
      simp at this hl
      omega
    k_dflt (refine' append_K F5 (news_sub (l' := (lA, W.listOf (List.toArray ws) k) :: (I, io5) :: news) N5 (by walk_at "sub")) ?yyk ?_ ?yyz)
    case yyk => k_upd
    case yyz => rw [sizeLine_eq]; simp; omega
    intro h6 F6 N6
    clear N5 F5
    rw [List.push_toArray] at N6
    iterate 2 (walk_at "go")
    refine WhileStep.intro F6 N6 (n' := r.length) (by simp) ⟨lA, _, done ++ [fs], r, _, _, io5, rfl, rfl, by rw [hd4]; simp, rfl, b5, hr, ?_, l4⟩
    rw [List.map_append]
    exact i4.append (.cons _ _ .nil)
end
end

section
open PySem.Calls
open LCg (NsObj lst Off3)
local macro_rules | `(tactic| k_all) => `(tactic| first | assumption | (refine LtAll.ne (by assumption) (leN ?_); (try dsimp only); omega))
local macro_rules | `(tactic| walk_at "callWith ref") => `(tactic| (k_here; kn_here; k_dflt (first | (refine' callWith_F ?k1 ?_; (case k1 => exact FnAt.of (by k_asm) (by walk_at "tl")); k_whole) | (refine' callWith_F0 ?k1 ?_; (case k1 => exact FnAt.of (by k_asm) (by walk_at "tl")); k_whole; try dsimp only [List.nil_append, List.cons_append]))))
local macro_rules | `(tactic| walk_at "binaryOp LShift int int") => `(tactic| (k_here; refine lshift_int_small ?a ?b ?c ?_; (case a => assumption); (case b => assumption); (case c => assumption)))
local macro_rules | `(tactic| walk_at "eval Name") => `(tactic| (k_here; k_dflt (refine' nameX_F ?N ?c ?m ?d ?_ ?a ?b; (case a => rfl); (case b => rfl); (case N => k_asm); (case c => rfl); (case m => walk_at "tl"); (case d => k_asm); k_whole)))
local macro_rules | `(tactic| tb_start) => `(tactic| (refine' code_nest ?k1 ?k2 ?k3 ?k4 ?k5 ?kA ?kF ?kK ?k6 ?k7 ?k8 ?k9 ?kB ?_ ?c2 ?c3 ?c4 ?c5; (case kA => exact rfl); (case kF => exact rfl); (case kK => assumption); (case k1 => k_asm); (case k2 => k_asm); (case k3 => k_asm); (case k4 => k_asm); (case k5 => k_asm); (case k6 => walk_at "tl"); (case k7 => exact codeRec_news (by k_asm) (by walk_at "tl") (by assumption) (by assumption)); (case k8 => k_room); (case k9 => exact BindsTo.of_eq rfl); (case c5 => decide); (case kB => exact locs rfl); (case c2 => exact rfl); (case c3 => exact rfl); (case c4 => exact rfl); k_whole; intro g' L' h' FG' F' N' B' X' T'; (try dsimp only); (try k_fold)))
section
variable {w : World} {p : Program} {loose : List Str} {mean : ExcName → Option Value} {mg mb : Str → Option Value}
@[reducible] noncomputable def nd3 : { x : Arguments × List Stmt × Scope // ∃ n d r t ts bi ps, nst 3 = some (.FunctionDef n x.1 x.2.1 d r t x.2.2 ts bi ps) } := ⟨(_, _, _), _, _, _, _, _, _, _, rfl⟩
noncomputable abbrev qJ : Str := Str.ofString "_int2digits.<locals>.inner"
theorem inner2_spec {f cA cN cI cc dA : Addr} {oA oN oI oc : Obj} {vsC : Array Value} {tC tn : Tok} {doc pm ctv : Value} {n : Nat} {kL len : Nat} (k : Nat) (hn : n ≤ 64) (hn1 : 1 ≤ n) (hlen : len < 1000) :
  ∀ {dp un : Nat} {gd : Option (List Code)} {cn : Str} {cs : Scope} {a : Addr} {ccd : Value} {cl : List (Str × Addr)} {outer : List Env} {A₀ : Around} {base h₀ : Heap} {L : Addr} {m : Str → Option Value} {rest : List (Addr × Obj)} {s : Shared}
  {Q E : Value → Shared → Prop} {x lo hi : Nat} {t0 t1 t2 : Tok} {vs : List Value} {ds : List Int}
  (B : Below A₀ base outer h₀) (F : Fr h₀ L s.heap m) (X : (KF w.params).In h₀) (N : News h₀ L s.heap ((dA, W.listOf vs.toArray kL) :: rest)) (T : Top p loose mean mg mb h₀) (hk : cs.kind = .function) (C : CodeHd h₀ 27 23)
  (hf : (f, fnMade (Str.ofString "inner") qJ nd3.1.1 nd3.1.2.1 nd3.1.2.2 [(Str.ofString "n", cN), (Str.ofString "inner", cI), (Str.ofString "a_digits", cA)] doc pm cc ctv) ∈ rest)
  (hcc : (cc, oc) ∈ rest) (hoc : oc.data = .fields vsC) (hvs : vsC[1]? = some (.str qJ tC))
  (hcA : (cA, oA) ∈ rest) (hoA : oA.data = .cell (some (.ref dA))) (hcN : (cN, oN) ∈ rest) (hoN : oN.data = .cell (some (.int n tn))) (hcI : (cI, oI) ∈ rest) (hoI : oI.data = .cell (some (.ref f)))
  (hr : ∀ q ∈ rest, q.1 ≠ dA) (hi9 : IntsAre vs ds) (hdl : ds.length = len)
  (h1 : lo < hi) (h2 : hi ≤ len) (h3 : hi - lo ≤ k) (hx : x < 2 ^ (n * (hi - lo))) (hx64 : x < 2 ^ 64)
  (hd : dp + k + 10 < recursionLimit) (hu : un + 8 * k + 100 < cLine)
  (ret : ∀ vs' h' tk', Fr h₀ L h' m → News h₀ L h' ((dA, W.listOf (List.toArray vs') kL) :: rest) → IntsAre vs' (putD ds lo hi (dgI n (hi - lo) x)) → Q .none { s with heap := h', toks := tk' }),
  wpAny (model PySem.Challenge.rw_rw0085_01.prog w) (ktrTop dp un gd cn cs L a ccd cl outer) (call (.ref f) [.int x t0, .int lo t1, .int hi t2]) Q E s := by
  induction k with
  | zero => intros; omega
  | succ k ih =>
    intro dp un gd cn cs a ccd cl outer A₀ base h₀ L m rest s Q E x lo hi t0 t1 t2 vs ds B F X N T hk C hf hcc hoc hvs hcA hoA hcN hoN hcI hoI hr hi9 hdl h1 h2 h3 hx hx64 hd hu ret
    revert X; k_fill; intro X
    refine wpAny_call ?_
    k_dflt tb_start
    obtain ⟨fd, efd⟩ : ∃ fd : FuncData, fd = fnX (Str.ofString "inner") qJ nd3.1.1 nd3.1.2.1 nd3.1.2.2 [(Str.ofString "n", cN), (Str.ofString "inner", cI), (Str.ofString "a_digits", cA)] .none .none doc pm none (.ref cc) ctv := ⟨_, rfl⟩
    have hf2 : (f, (⟨.type "function", none, .func fd, #[]⟩ : Obj)) ∈ rest := efd ▸ hf
    have hf3 := And.intro trivial hf
    clear hf
    have ih3 := And.intro trivial @ih
    clear ih
    iterate 11 (walk_at "go")
    · iterate 10 (walk_at "go")
      rename ((lo : Int) + 1 = hi) => he
      have he' : hi = lo + 1 := by omega
      rename (IntsAre _ (List.set _ _ _)) => hi8
      rename News _ _ _ _ => N9
      rename Fr _ _ _ _ => F9
      refine ret _ _ _ F9 N9 ?_
      have hx' : x % 2 ^ n = x := Nat.mod_eq_of_lt (by rw [show n = n * (hi - lo) by rw [he']; simp]; exact hx)
      rw [he', show lo + 1 - lo = 1 by omega, show dgI n 1 x = [(x : Int)] by unfold dgI; rw [dg, dg, hx']; rfl, putD_one (by omega)]
      exact hi8
    · iterate 22 (walk_at "go")
      rename ((lo : Int) + 1 ≠ hi) => he
      obtain ⟨M, hM⟩ : ∃ M, M = (lo + hi) / 2 := ⟨_, rfl⟩
      have hmid : ((lo : Int) + hi).fdiv (2 ^ Int.toNat 1) = (M : Int) := by
        rw [show (2 : Int) ^ Int.toNat 1 = 2 from rfl, Int.fdiv_eq_ediv_of_nonneg _ (by omega)]
        omega
      have m1 : lo < M := by omega
      have m2 : M < hi := by omega
      obtain ⟨S, hS⟩ : ∃ S, S = n * (M - lo) := ⟨_, rfl⟩
      have hsh : ((M : Int) - lo) * n = (S : Int) := by
        rw [hS, ← Int.ofNat_sub (Nat.le_of_lt m1), ← Int.natCast_mul, Nat.mul_comm]
      have hs0 : (0 : Int) ≤ (S : Int) := by omega
      have hs1 : (S : Int) ≤ 1000000 := by
        have := Nat.mul_le_mul hn (show M - lo ≤ 1000 by omega)
        omega
      rename Fr _ _ _ _ => F5
      rw [hmid, hsh] at F5
      obtain ⟨U, hU⟩ : ∃ U, U = x / 2 ^ S := ⟨_, rfl⟩
      have hU9 : (U : Int).natAbs < 2 ^ 64 := by
        have := Nat.div_le_self x (2 ^ S)
        omega
      have hshr : ((x : Int)).fdiv (2 ^ ((S : Int)).toNat) = (U : Int) := by rw [Int.toNat_natCast, shr_eq, hU]
      iterate 7 (walk_at "go")
      rename Fr _ _ _ _ => F6
      rw [hshr] at F6
      have hxo : Builtin.bitXor (x : Int) ((U : Int) * 2 ^ ((S : Int)).toNat) = ((x % 2 ^ S : Nat) : Int) := by rw [Int.toNat_natCast, hU, xor_low]
      iterate 10 (walk_at "go")
      rename Fr _ _ _ _ => F7
      rw [hxo] at F7
      iterate 12 (walk_at "go")
      refine ⟨FnAt.of (by k_asm) (by walk_at "tl"), ?_⟩
      try dsimp only [List.nil_append, List.cons_append]
      have hU2 : U < 2 ^ (n * (hi - M)) := by
        rw [hU]
        refine Nat.div_lt_of_lt_mul ?_
        rw [hS, ← pow_mul_sub (Nat.le_of_lt m1) (Nat.le_of_lt m2)]
        exact hx
      k_dflt (refine' ih3.2 ?B ?F ?X ?N ?T ?hk ?C hf3.2 hcc hoc hvs hcA hoA hcN hoN hcI hoI hr hi9 ?dl ?a ?b ?c ?x1 ?x2 ?d ?e ?_; (case B => k_asm); (case F => k_asm); (case X => k_asm); (case N => k_asm); (case T => k_asm); (case hk => rfl); (case C => exact CodeHd.keeps C (Fr.keep (by assumption))); (case dl => exact hdl); (case a => omega); (case b => omega); (case c => omega); (case x1 => rw [← hS]; exact Nat.mod_lt _ (Nat.pow_pos (by decide))); (case x2 => exact Nat.lt_of_le_of_lt (Nat.mod_le _ _) hx64); (case d => first | exact dlt hd rfl | exact dlt2 hd rfl | exact dlt3 hd rfl | ((try simp only [depth_deeper]); (try dsimp only [ktrTop]); omega)); (case e => first | exact dlt hu rfl | exact dlt2 hu rfl | exact dlt3 hu rfl | ((try simp only [units_deeper]); (try dsimp only [ktrTop]); omega)))
      intro vs5 h5 k5 F8 N8 i5
      iterate 12 (walk_at "go")
      refine ⟨FnAt.of (by k_asm) (by walk_at "tl"), ?_⟩
      try dsimp only [List.nil_append, List.cons_append]
      k_dflt (refine' ih3.2 ?B ?F ?X ?N ?T ?hk ?C hf3.2 hcc hoc hvs hcA hoA hcN hoN hcI hoI hr i5 ?dl ?a ?b ?c ?x1 ?x2 ?d ?e ?_; (case B => k_asm); (case F => k_asm); (case X => k_asm); (case N => k_asm); (case T => k_asm); (case hk => rfl); (case C => exact CodeHd.keeps C (Fr.keep (by assumption))); (case dl => rw [putD_length (by omega) (by omega) (dgI_length _ _ _)]; exact hdl); (case a => omega); (case b => omega); (case c => omega); (case x1 => exact hU2); (case x2 => omega); (case d => first | exact dlt hd rfl | exact dlt2 hd rfl | exact dlt3 hd rfl | ((try simp only [depth_deeper]); (try dsimp only [ktrTop]); omega)); (case e => first | exact dlt hu rfl | exact dlt2 hu rfl | exact dlt3 hu rfl | ((try simp only [units_deeper]); (try dsimp only [ktrTop]); omega)))
      intro vs6 h6 k6 F9 N9 i6
      repeat (first | (k_unfold; (try dsimp only)) | walk_at "go")
      rename News _ _ _ _ => N7
      rename Fr _ _ _ _ => F7
      refine ret _ _ _ F7 N7 ?_
      have e := putD_putD (ds := ds) (lo := lo) (mid := M) (hi := hi) (e1 := dgI n (M - lo) (x % 2 ^ S)) (e2 := dgI n (hi - M) U) (by omega) (by omega) (by omega) (dgI_length _ _ _)
      have e2 := dgI_split (n := n) (x := x) (Nat.le_of_lt m1) (Nat.le_of_lt m2)
      rw [← hS, ← hU] at e2
      rw [e, e2] at i6
      exact i6
end
end

section
open PySem.Calls
open LCg (NsObj lst Off3)
section
variable {w : World} {p : Program} {loose : List Str} {mean : ExcName → Option Value} {mg mb : Str → Option Value}
  {dp un : Nat} {gd : Option (List Code)} {cn : Str} {cs : Scope} {a : Addr} {ccd : Value} {cl : List (Str × Addr)} {outer : List Env} {A₀ : Around} {base h₀ : Heap} {L : Addr} {m : Str → Option Value} {news : List (Addr × Obj)} {s : Shared}
  {Q E : Value → Shared → Prop}

noncomputable def bl (x : Nat) : Nat := Builtin.Int.intBits (x : Int)
theorem bl_eq (x : Nat) : bl x = if x = 0 then 0 else x.log2 + 1 := by
  unfold bl Builtin.Int.intBits
  by_cases h : x = 0
  · subst h; rfl
  · rw [if_neg h, if_neg (by simpa using h)]; rfl
theorem bl_lt (x : Nat) : x < 2 ^ bl x := by
  rw [bl_eq]
  split
  · omega
  · exact Nat.lt_log2_self
theorem bl_le {x k : Nat} (h : x < 2 ^ k) : bl x ≤ k := by
  rw [bl_eq]
  split
  · omega
  · rename_i h0; exact (Nat.log2_lt h0).mpr h
theorem rep_K {prog : Program} {A : Around} {l : Addr} {k K : Nat} {c : Int} {t u : Tok} (F : Fr h₀ L s.heap m) (N : News h₀ L s.heap news) (hl : (l, W.listOf #[.int c t] k) ∈ news) (hK : K < 10000)
    (h : ∀ D ws h', Fr h₀ L h' m → News h₀ L h' ((D, W.listOf (List.toArray ws) 0) :: news) → (∀ q ∈ news, q.1 < D) → IntsAre ws (List.replicate K c) → Q (.ref D) { s with heap := h' }) :
    wpAny (model prog w) A (binaryOp .Mult (.ref l) (.int (K : Int) u)) Q E s := by
  refine mul_list F N (N _ hl).1 (by omega) (by omega) (by simp; omega) fun h2 F2 N2 => ?_
  rw [listMul_foldl_if] at N2
  refine h _ _ h2 F2 N2 (fun q hq => Heap.lt_size (N q hq).1) ?_
  rw [Int.toNat_natCast]
  have : ∀ k : Nat, IntsAre (List.replicate k [Value.int c t]).flatten (List.replicate k c) := fun k => by
    induction k with
    | zero => exact .nil
    | succ k ih => rw [List.replicate_succ, List.replicate_succ, List.flatten_cons]; exact .cons _ _ ih
  exact this K
theorem i2d_spec {x : Nat} {n : Nat} {t0 t1 : Tok} {led : List (Addr × Obj)}
  (B : Below A₀ base outer h₀) (F : Fr h₀ L s.heap m) (X : (KF w.params).In h₀) (htb : TbOk 23 14 4 qJ led) (N : News h₀ L s.heap (led ++ news)) (T : Top p loose mean mg mb h₀) (hk : cs.kind = .function)
  (C : CodeHd h₀ 27 23) (hap : Apart led news) (hx : x < 2 ^ 64) (hn1 : 1 ≤ n) (hn : n ≤ 64)
  (hd : dp + 200 < recursionLimit) (hu : un + 2000 < cLine)
  (ret : ∀ D ws k h' tk' led', TbOk 23 14 4 qJ led' → Apart led' news → (∀ q' ∈ led', q'.1 ≠ D) → (∀ q ∈ news, q.1 < D) → Fr h₀ L h' m → News h₀ L h' (led' ++ (D, W.listOf (List.toArray ws) k) :: news) → IntsAre ws (dgI n ((bl x + n - 1) / n) x) → Q (.ref D) { s with heap := h', toks := tk' }) :
  wpAny (model PySem.Challenge.rw_rw0085_01.prog w) (ktrTop dp un gd cn cs L a ccd cl outer) (call (.ref 28) [.int x t0, .int n t1]) Q E s := by
  revert X; k_fill; intro X
  refine wpAny_call ?_
  (k_dflt (refine' code_defC ?e0k1 ?e0k2 ?e0k3 ?e0k4 ?e0k5 ?e0kA ?e0kF ?e0kK ?e0k6 ?e0k7 ?e0k8 ?e0k9 ?e0kB ?e0kD ?_ ?e0c2 ?e0c3 ?e0c4; (case e0kA => exact rfl); (case e0kF => exact rfl); (case e0kK => assumption); (case e0k1 => k_asm); (case e0k2 => k_asm); (case e0k3 => k_asm); (case e0k4 => k_asm); (case e0k5 => k_asm); (case e0k6 => k_is); (case e0k7 => k_is); (case e0k8 => k_room); (case e0k9 => exact BindsTo.of_eq rfl); (case e0kB => exact rfl); (case e0kD => decide +kernel); (case e0c2 => exact rfl); (case e0c3 => exact rfl); (case e0c4 => exact rfl); k_whole))
  intro g' L' h' tk' cells' FG' F' N' Y' B' X' T' l1
  obtain ⟨o', o2', o3', hE', d1', d2', d3'⟩ := PyProof.Rows.CellsAre.three Y'; subst hE'; clear Y'
  simp only [List.cons_append, List.nil_append] at N'
  dsimp only
  k_fold
  have C9 := CodeHd.keeps C (Fr.keep FG')
  replace d1' : o'.data = .cell none := d1'
  replace d2' : o2'.data = .cell none := d2'
  replace d3' : o3'.data = .cell (some (.int n t1)) := d3'
  replace F' : Fr g' L' h' (fun y => if y = "a" then some (.int x t0) else none) := F'
  have lB : LtAll (led ++ news) L' := ⟨l1⟩
  iterate 16 (walk_at "go")
  have hbl : bl x < 65 := by have := bl_le hx; omega
  rw [show Builtin.Int.intBits (x : Int) = bl x from rfl]
  obtain ⟨K, hK⟩ : ∃ K, K = (bl x + n - 1) / n := ⟨_, rfl⟩
  have hKd : ((bl x : Int) + n - 1).fdiv n = (K : Int) := by
    rw [Int.fdiv_eq_ediv_of_nonneg _ (by omega), hK, Int.natCast_ediv]
    congr 1
    omega
  have hn0 : (n : Int) ≠ 0 := by omega
  iterate 6 (walk_at "go")
  rw [hKd]
  have hK64 : K < 130 := by
    rw [hK]
    have := Nat.div_le_self (bl x + n - 1) n
    omega
  rename News _ _ _ _ => N1
  rename Fr _ _ _ _ => F1
  k_dflt (refine rep_K F1 N1 (.head _) (by omega) fun dA vs2 h2 F2 N2 l2 i2 => ?_)
  clear N1 F1
  replace N2 := news_sub (l' := (dA, W.listOf (List.toArray vs2) 0) :: (L' + 1 + 1 + 1, o') :: (L' + 1 + 1, o2') :: (L' + 1, o3') :: (led ++ news)) N2 (by walk_at "sub")
  have lD : And True (LtAll (led ++ news) dA) := ⟨trivial, ⟨fun q hq => l2 q (by walk_at "tl")⟩⟩
  k_lt l2
  walk_at "go"
  rename_i hA3 oA3 F3 N3 dA3
  iterate 2 (walk_at "go")
  obtain ⟨o23, m23⟩ := htb.mem
  have l23 := ltN (lB.h _ (List.mem_append_left _ m23))
  dsimp only at l23
  have lA : LtAll news L' := ⟨fun q hq => lB.h q (List.mem_append_right _ hq)⟩
  rename News _ _ _ _ => N3
  rename Fr _ _ _ _ => F3
  k_here; kn_here; k_dflt (refine' nestDef_K ?d0 ?k0 ?a0 ?_; (case d0 => exact rfl); (case k0 => exact rfl); (case a0 => exact rfl))
  k_dflt (refine' nest_tb (led := led) (news := news) (pre := [_, _, _, _]) F3 N3 ?T ?C ?cd htb ?z1 ?z2 ?z4 ?z3 ?_; (case T => k_asm); (case cd => exact rfl); (case C => kn_code); (case z2 => exact hap); (case z3 => exact rfl))
  case z1 =>
    obtain ⟨oP, mP⟩ := htb.mem
    have hP := ltN (lB.h _ (List.mem_append_left _ mP))
    have hP2 := ltN (lD.2.h _ (List.mem_append_left _ mP))
    intro q hq; simp only [List.mem_cons, List.not_mem_nil, or_false] at hq; rcases hq with rfl | rfl | rfl | rfl <;> k_ne
  case z4 =>
    intro q hq q' hq'
    have h9 := ltN (lB.h q' (List.mem_append_left _ hq'))
    have h10 := ltN (lD.2.h q' (List.mem_append_left _ hq'))
    simp only [List.mem_cons, List.not_mem_nil, or_false] at hq; rcases hq with rfl | rfl | rfl | rfl <;> (refine ltN ?_; dsimp only; omega)
  intro f' c' oc' vs' t' ct' dc' h' tk' fd efd F' N' d1' d2' hcP hcn nP l3
  simp only [AllNe, and_true] at nP
  k_lt l3
  replace hcP := neN hcP
  dsimp only [List.cons_append, List.nil_append] at N'
  replace lB := And.intro trivial lB
  clear F3 N3
  have hap' : Apart [(c', oc'), (23, tabObj #[rawInt 14, rawInt 4, .ref c'])] news := fun q hq q' hq' => by
    rcases List.mem_cons.mp hq' with rfl | hq'
    · exact hcn q hq
    · rw [List.mem_singleton.mp hq']; exact hap q hq (23, o23) m23
  have hfd := efd.2
  subst hfd
  walk_at "go"
  rename_i h5 oI5 F5 N5 dI5
  have hrest : ∀ fo, ∀ q ∈ (f', fo) :: (L' + 1 + 1 + 1, oI5) :: (L' + 1 + 1, oA3) :: (L' + 1, o3') :: (c', oc') :: (23, tabObj #[rawInt 14, rawInt 4, .ref c']) :: news, q.1 ≠ dA := fun fo q hq => by
    simp only [List.mem_cons] at hq
    rcases hq with rfl | rfl | rfl | rfl | rfl | rfl | hq
    · k_ne
    · k_ne
    · k_ne
    · k_ne
    · exact Ne.symm nP.1
    · k_ne
    · exact Nat.ne_of_lt (lD.2.h q (List.mem_append_right _ hq))
  iterate 5 (walk_at "go")
  have hled : TbOk 23 14 4 qJ [(c', oc'), (23, tabObj #[rawInt 14, rawInt 4, .ref c'])] := .inr ⟨_, _, _, _, rfl, d1', d2', hcP⟩
  have hldn : ∀ q' ∈ [(c', oc'), (23, tabObj #[rawInt 14, rawInt 4, .ref c'])], q'.1 ≠ dA := fun q hq => hrest oc' q (by
    simp only [List.mem_cons, List.not_mem_nil, or_false] at hq
    rcases hq with rfl | rfl
    · walk_at "tl"
    · walk_at "tl")
  by_cases hx0 : x = 0
  · subst hx0
    refine ite_neg (by decide) ?_
    iterate 5 (walk_at "go")
    rename News _ _ _ _ => N9
    rename Fr _ _ _ _ => F9
    have hK0 : K = 0 := by
      rw [hK, show bl 0 = 0 from rfl]
      exact Nat.div_eq_of_lt (by omega)
    refine ret dA vs2 0 _ _ _ hled hap' hldn (fun q hq => lD.2.h q (List.mem_append_right _ hq)) F9 (news_sub N9 (by walk_at "sub")) ?_
    rw [← hK, hK0]
    rw [hK0] at i2
    exact i2
  · refine ite_pos (by simp; omega) ?_
    iterate 16 (walk_at "go")
    rename News _ _ _ _ => N9
    have hvl : vs2.length = K := by rw [i2.length, List.length_replicate]
    refine len_list (items := vs2.toArray) (by exact News.isList (n := 0) (items := vs2.toArray) N9 (.tail _ (.head _))) (by rw [List.size_toArray, hvl]; omega) ?_
    rw [List.size_toArray, hvl]
    iterate 1 (walk_at "go")
    refine ⟨FnAt.of (by k_asm) (by walk_at "tl"), ?_⟩
    have hbK : bl x ≤ n * K := by
      have := Nat.lt_mul_div_succ (bl x + n - 1) (show 0 < n by omega)
      rw [← hK, Nat.mul_succ] at this
      omega
    have hxK : x < 2 ^ (n * (K - 0)) := Nat.lt_of_lt_of_le (bl_lt x) (Nat.pow_le_pow_right (by decide) (by rw [Nat.sub_zero]; exact hbK))
    have hK0 : 0 < K := by
      rcases Nat.eq_zero_or_pos K with h | h
      · rw [h] at hxK; simp at hxK; omega
      · exact h
    k_dflt (refine' inner2_spec (len := K) K hn hn1 (by omega) (lo := 0) (hi := K) (rest := (f', _) :: (L' + 1 + 1 + 1, oI5) :: (L' + 1 + 1, oA3) :: (L' + 1, o3') :: (c', oc') :: (23, tabObj #[rawInt 14, rawInt 4, .ref c']) :: news) ?B ?F ?X ?N ?T ?hk ?C ?hf ?hcc d1' d2' ?hcA dA3 ?hcN d3' ?hcI dI5 ?hr i2 ?dl ?h1 ?h2 ?h3 hxK hx ?hd ?hu ?_; (case B => k_asm); (case F => k_asm); (case X => k_asm); (case N => exact news_sub N9 (by walk_at "sub")); (case T => k_asm); (case hk => rfl); (case C => exact C9); (case hf => exact .head _); (case hcc => walk_at "tl"); (case hcA => walk_at "tl"); (case hcN => walk_at "tl"); (case hcI => walk_at "tl"); (case hr => exact hrest _); (case dl => exact List.length_replicate); (case h1 => omega); (case h2 => omega); (case h3 => omega); (case hd => first | exact dlt hd rfl | exact dlt2 hd rfl | exact dlt3 hd rfl | ((try simp only [depth_deeper]); (try dsimp only [ktrTop]); omega)); (case hu => first | exact dlt hu rfl | exact dlt2 hu rfl | exact dlt3 hu rfl | ((try simp only [units_deeper]); (try dsimp only [ktrTop]); omega)))
    intro vs6 h6 k6 F6 N6 i6
    iterate 5 (walk_at "go")
    rename News _ _ _ _ => N7
    rename Fr _ _ _ _ => F7
    have hall : putD (List.replicate K 0) 0 K (dgI n (K - 0) x) = dgI n K x := by
      have := putD_all (ds := List.replicate K 0) (e := dgI n (K - 0) x)
      rw [List.length_replicate] at this
      exact this
    refine ret dA vs6 0 _ _ _ hled hap' hldn (fun q hq => lD.2.h q (List.mem_append_right _ hq)) F7 (news_sub N7 (by walk_at "sub")) ?_
    rw [← hK, ← hall]
    exact i6
end
end

section
open PySem.Calls
open LCg (NsObj lst Off3)
section
variable {w : World} {p : Program} {loose : List Str} {mean : ExcName → Option Value} {mg mb : Str → Option Value}
  {dp un : Nat} {gd : Option (List Code)} {cn : Str} {cs : Scope} {a : Addr} {ccd : Value} {cl : List (Str × Addr)} {outer : List Env} {A₀ : Around} {base h₀ : Heap} {L : Addr} {m : Str → Option Value} {news : List (Addr × Obj)} {s : Shared}
  {Q E : Value → Shared → Prop}

noncomputable def hidI : List Int := hidL.map Int.ofNat
noncomputable def mk1 (c : Int) : List Int := [c + -1, c + 1].filter fun x => !(hidI.any (· == x))
noncomputable def mkUp (i : Nat) : List Int := (hidI.take i).flatMap mk1
theorem mkUp_succ {i : Nat} {c : Int} (h : hidI[i]? = some c) : mkUp (i + 1) = mkUp i ++ mk1 c := by
  unfold mkUp
  rw [List.take_add_one, h]
  simp
theorem mkUp_len : ∀ i, i ≤ 27 → (mkUp i).length ≤ 54 := by decide
noncomputable def alphaN : List Nat := [97, 98, 99, 100, 101, 102, 103, 104, 105, 106, 107, 108, 109, 110, 111, 112, 113, 114, 115, 116, 117, 118, 119, 120, 121, 122, 172, 174, 846, 848, 6149, 6151, 6154, 6158, 8202, 8206, 8287, 8289, 65278, 65280, 65023, 65040]
theorem alpha_is : Str.ofString "abcdefghijklmnopqrstuvwxyz" ++ Str.join (Str.ofString "") ((mkUp 27).map fun c => (⟨#[c.toNat]⟩ : Str)) = ⟨alphaN.toArray⟩ := by decide +kernel
theorem alpha_len : ((((mkUp 27).map fun c => (⟨#[c.toNat]⟩ : Str))).map (·.length)).sum + ((mkUp 27).map fun c => (⟨#[c.toNat]⟩ : Str)).length ≤ 1048576 := by decide +kernel
theorem mkUp_bd : ∀ c ∈ mkUp 27, 0 ≤ c ∧ c ≤ 1114111 := by decide +kernel
theorem strsApp : ∀ {vs ws : List Value} {a b : List Str}, StrsAre vs a → StrsAre ws b → StrsAre (vs ++ ws) (a ++ b) := fun a h => by
  induction a with
  | nil => exact h
  | cons y t _ ih => exact .cons y t ih
theorem strsLen : ∀ {vs : List Value} {a : List Str}, StrsAre vs a → vs.length = a.length := fun h => by
  induction h with
  | nil => rfl
  | cons y t _ ih => rw [List.length_cons, List.length_cons, ih]
theorem alp_spec {hA : Addr} {vs : List Value} {kL : Nat}
  (B : Below A₀ base outer h₀) (F : Fr h₀ L s.heap m) (X : (KF w.params).In h₀) (N : News h₀ L s.heap news) (T : Top p loose mean mg mb h₀) (hk : cs.kind = .function)
  (hl : (hA, W.listOf vs.toArray kL) ∈ news) (hi9 : IntsAre vs hidI)
  (hd : dp + 10 < recursionLimit) (hu : un + 100 < cLine)
  (ret : ∀ t h' tk', Fr h₀ L h' m → News h₀ L h' news → Q (.str ⟨alphaN.toArray⟩ t) { s with heap := h', toks := tk' }) :
  wpAny (model PySem.Challenge.rw_rw0085_01.prog w) (ktrTop dp un gd cn cs L a ccd cl outer) (call (.ref 111) [.ref hA]) Q E s := by
  revert X; k_fill; intro X
  refine wpAny_call ?_
  (k_dflt (refine' code_defC ?e0k1 ?e0k2 ?e0k3 ?e0k4 ?e0k5 ?e0kA ?e0kF ?e0kK ?e0k6 ?e0k7 ?e0k8 ?e0k9 ?e0kB ?e0kD ?_ ?e0c2 ?e0c3 ?e0c4; (case e0kA => exact rfl); (case e0kF => exact rfl); (case e0kK => assumption); (case e0k1 => k_asm); (case e0k2 => k_asm); (case e0k3 => k_asm); (case e0k4 => k_asm); (case e0k5 => k_asm); (case e0k6 => k_is); (case e0k7 => k_is); (case e0k8 => k_room); (case e0k9 => exact BindsTo.of_eq rfl); (case e0kB => exact rfl); (case e0kD => decide +kernel); (case e0c2 => exact rfl); (case e0c3 => exact rfl); (case e0c4 => exact rfl); k_whole))
  intro g' L' h' tk' cells' FG' F' N' Y' B' X' T' l1
  obtain ⟨oH, hE', dH⟩ := PyProof.Rows.CellsAre.one Y'; subst hE'; clear Y'
  simp only [List.cons_append, List.nil_append] at N'
  replace dH : oH.data = .cell (some (.ref hA)) := dH
  replace F' : Fr g' L' h' (fun _ => none) := F'
  have lB : LtAll news _ := ⟨l1⟩
  clear l1
  try dsimp only
  try k_fold
  have hlv : vs.length = 27 := by rw [hi9.length]; rfl
  iterate 1 (walk_at "go")
  with_reducible refine' Assign_X (h₀ := g') (L := L') (m := fun _ => none) ?le ?sw ?clos ?cell ?kind ?names ?ky ?kp ?_ ?hs
  case hs => intro _; rfl
  case le => rfl
  case sw => with_unfolding_all rfl
  case clos => with_unfolding_all rfl
  case cell => decide
  case kind => rfl
  case names => decide
  case ky => rfl
  case kp => rfl
  walk_at "go"
  k_dflt (refine' iter_list F' N' (its := vs.toArray) (.inr ⟨_, .tail _ hl, rfl, _, rfl⟩) ?_)
  intro I oI h12 F12 N12 l12 hne12 st12 hfp
  refine ⟨I, oI, _, _, _, _, _, rfl, (src_list (h₀ := g') (L := L') (by rfl) hne12).W, st12, hfp, F12, N12, fun p hp => Nat.ne_of_lt (l12 p hp), ?_⟩
  intro D C h1 oC m1 tk1 F13 hC13 N13 off13 ne13 hfD hfC st13 l13 l14
  refine outer_W (oI := oI) (ys₀ := []) (news₀ := (L' + 1, oH) :: news) (m := fun _ => none) (src_list (its := vs.toArray) (by rfl) hne12) hfC (by rfl) (by rfl)
    (fun i ys nw => nw = (L' + 1, oH) :: news ∧ IntsAre ys (mkUp i)) ?hS F13 ?N13 ?off13 ne13 hC13 st13 ?inv ?turn ?fin
  case hS => rintro i ys nw ⟨rfl, -⟩; exact .inr ⟨_, .tail _ hl, rfl, _, rfl⟩
  case N13 => exact N13
  case off13 => exact off13
  case inv => exact ⟨rfl, .nil⟩
  case fin =>
    rintro ys nw oC2 m2 h2 tk2 ⟨rfl, hys⟩ hC2 F14 N14 off14
    refine lend hC2 F14 N14 ne13.2.2 off14 ?_
    intro h' tk' F' N'
    have hys : IntsAre ys (mkUp 27) := by rw [show vs.toArray.size = 27 by rw [List.size_toArray, hlv]] at hys; exact hys
    iterate 9 (walk_at "go")
    with_reducible refine' ListComp_X (h₀ := g') (L := L') (m := fun z => if z = Str.ofString "marks" then some (Value.ref D) else none) ?clos ?cell ?kind ?names ?_ ?hs
    case hs => intro _; rfl
    case clos => with_unfolding_all rfl
    case cell => decide
    case kind => rfl
    case names => decide
    walk_at "go"
    k_dflt (refine' iter_list F' N' (its := ys.toArray) (.inr ⟨_, .head _, rfl, _, rfl⟩) ?_)
    intro J oJ h20 F20 N20 l20 hne20 st20 hfp20
    refine ⟨J, oJ, _, _, _, _, _, rfl, (src_list (h₀ := g') (L := L') (by rfl) hne20).W, st20, hfp20, F20, N20, fun p hp => Nat.ne_of_lt (l20 p hp), ?_⟩
    intro D2 C2 h21 oC21 m21 tk21 F21 hC21 N21 off21 ne21 hfD21 hfC21 st21 l21 l22
    refine inner_W (oI := oJ) (ys₀ := []) (news₀ := (D, lst ys) :: (L' + 1, oH) :: news) (m := fun z => if z = Str.ofString "marks" then some (Value.ref D) else none) rule_one (src_list (its := ys.toArray) (by rfl) hne20) hfD21 hfC21 (by rfl) (by rfl) (fun _ => True) (fun _ _ _ => trivial)
      (fun i zs nw => nw = (D, lst ys) :: (L' + 1, oH) :: news ∧ StrsAre zs (((mkUp 27).take i).map fun c => (⟨#[c.toNat]⟩ : Str))) ?hS4 ?hsz4 F21 ?N4 off21 ne21 hC21 trivial st21 ?inv4 ?turn4 ?fin4
    case hS4 => rintro i zs nw ⟨rfl, -⟩; exact .inr ⟨_, .head _, rfl, _, rfl⟩
    case hsz4 =>
      rintro i zs nw ⟨-, hzs⟩
      rw [strsLen hzs, List.length_map, sizeLine_eq]
      have := List.length_take_le' i (mkUp 27)
      have := mkUp_len 27 (by omega)
      omega
    case N4 => exact N21
    case inv4 => exact ⟨rfl, .nil⟩
    case turn4 =>
      rintro i zs nw v oI2 oC2 m2 h2 tk2 E2 hi ⟨rfl, hzs⟩ hv hC2 hx2 - F22 N22 off22
      refine wpAny_tests_nil ?_
      rw [if_pos rfl]
      obtain ⟨c, tc, rfl, hc⟩ := hys.at i v (by simpa using hv)
      have hc9 : 0 ≤ c ∧ c ≤ 1114111 := mkUp_bd c (List.mem_of_getElem? hc)
      obtain ⟨hc0, hc1⟩ := hc9
      k_steps
      refine EEnd.intro F22 N22 _ (fun _ h => h) off22 ⟨rfl, ?_⟩
      rw [List.take_add_one, hc, List.map_append]
      exact strsApp hzs (.cons _ _ .nil)
    case fin4 =>
      rintro zs nw oC2 m2 h2 tk2 ⟨rfl, hzs⟩ hC2 - F22 N22 off22
      refine lend hC2 F22 N22 ne21.2.2 off22 ?_
      intro h' tk' F' N'
      iterate 1 (walk_at "go")
      have hzs2 : StrsAre zs ((mkUp 27).map fun c => (⟨#[c.toNat]⟩ : Str)) := by
        rw [List.size_toArray, hys.length, List.take_length] at hzs
        exact hzs
      k_dflt (refine' join_listW (items := zs.toArray) ?jl hzs2 ?js alpha_len ?_)
      case jl => exact ⟨_, (N' _ (.head _)).1, rfl, _, rfl⟩
      case js => exact Nat.zero_le _
      intro t30 k30
      k_dflt (refine' add_str ?_ ?sz)
      case sz => exact Nat.le_of_ble_eq_true (by kernel_rfl)
      intro t31 k31
      rw [show Str.ofString "abcdefghijklmnopqrstuvwxyz" ++ Txt.join (Str.ofString "") ((mkUp 27).map fun c => (⟨#[c.toNat]⟩ : Str)) = ⟨alphaN.toArray⟩ from alpha_is]
      repeat (first | (k_unfold; (try dsimp only)) | walk_at "go")
      rename News _ _ _ _ => N9
      rename Fr _ _ _ _ => F9
      exact ret _ _ _ F9 (news_sub N9 (by walk_at "sub"))
  case turn =>
    rintro i ys nw v oI2 oC2 m2 h2 tk2 E2 hi ⟨rfl, hys⟩ hv hC2 hx2 F14 N14 off14
    iterate 9 (walk_at "go")
    rename News _ _ _ _ => N15
    rename Fr _ _ _ _ => F15
    rename_i tA h15 l15
    k_dflt (refine' iter_tuple F15 N15 (ax := tA) (its := #[Value.int (-1) (tk2 + 1), Value.int 1 (tk2 + 1 + 1)]) ⟨_, (N15 _ (.head _)).1, rfl, _, rfl⟩ ?_)
    intro J oJ h16 F16 N16 l16 ne16 st16 hfp16
    have ne2 : (@Ne Nat J C) ∧ (@Ne Nat J D) ∧ (@Ne Nat C D) := ⟨Nat.ne_of_gt (l16 (C, oC2) (by walk_at "tl")), Nat.ne_of_gt (l16 (D, lst ys) (by walk_at "tl")), ne13.2.2⟩
    have off2 : Off3 J C D ((I, oI2) :: (tA, ({ cls := .type "tuple", data := .seq #[Value.int (-1) (tk2 + 1), Value.int 1 (tk2 + 1 + 1)] } : Obj)) :: (L' + 1, oH) :: news) := Off3.of fun p hp => by
      rcases List.mem_cons.mp hp with rfl | hp
      · exact ⟨Nat.ne_of_lt (l16 (I, oI2) (by walk_at "tl")), ne13.1, ne13.2.1⟩
      · rcases List.mem_cons.mp hp with rfl | hp
        · exact ⟨Nat.ne_of_lt (l16 _ (by walk_at "tl")), Nat.ne_of_gt l15.2.1, Nat.ne_of_gt l15.2.2.1⟩
        · exact ⟨Nat.ne_of_lt (l16 _ (List.Mem.tail _ (List.Mem.tail _ (List.Mem.tail _ (List.Mem.tail _ hp))))), (off14.mem p hp).2⟩
    obtain ⟨c, tc, rfl, hc⟩ : ∃ c tc, v = .int c tc ∧ hidI[i]? = some c := by
      obtain ⟨n, t, e1, e2⟩ := hi9.at i v (by simpa using hv)
      exact ⟨n, t, e1, e2⟩
    have Z2 := fun (A : Around) (hA : A.handled = none) => src_tuple (prog := PySem.Challenge.rw_rw0085_01.prog) (w := w) (A := A) (h₀ := g') (L := L') (I := J) (ax := tA) (its := #[Value.int (-1) (tk2 + 1), Value.int 1 (tk2 + 1 + 1)]) (S := fun nw => (tA, ({ cls := .type "tuple", data := .seq #[Value.int (-1) (tk2 + 1), Value.int 1 (tk2 + 1 + 1)] } : Obj)) ∈ nw) hA ne16 (fun h nw k N S => ⟨_, (N _ S).1, rfl, _, rfl⟩)
    refine' start_two (I := J) ?lp (Walks.self (Z2 _ (by rfl)).W 0 _ _ _ st16 ?lp)
    refine' inner_W (prog := PySem.Challenge.rw_rw0085_01.prog) (w := w) (oI := oJ) (ys₀ := ys) (news₀ := (I, oI2) :: (tA, ({ cls := .type "tuple", data := .seq #[Value.int (-1) (tk2 + 1), Value.int 1 (tk2 + 1 + 1)] } : Obj)) :: (L' + 1, oH) :: news) (m := fun _ => none)
      ?rule ?Z3 ?fD ?fC ?k1 ?k2 (fun m => m (Str.ofString "code") = some (.int c tc)) ?hG
      (fun j ys' nw => nw = (I, oI2) :: (tA, ({ cls := .type "tuple", data := .seq #[Value.int (-1) (tk2 + 1), Value.int 1 (tk2 + 1 + 1)] } : Obj)) :: (L' + 1, oH) :: news ∧ IntsAre ys' (mkUp i ++ (([c + -1, c + 1].take j).filter fun x => !(hidI.any (· == x))))) ?hS2 ?hsz F16 ?N16 off2 ne2 hC2 hx2 ?st3 ?inv2 ?turn2 ?fin2
    case rule => exact rule_two (fun _ => rfl)
    case Z3 => exact Z2 _ rfl
    case st3 => exact st16
    case k1 => rfl
    case k2 => rfl
    case fD =>
      intro hm
      rcases List.mem_cons.mp hm with e | hm
      · exact ne2.2.1 e.symm
      · exact Nat.ne_of_lt l15.2.2.1 (List.mem_singleton.mp hm)
    case fC =>
      intro hm
      rcases List.mem_cons.mp hm with e | hm
      · exact ne2.1 e.symm
      · exact Nat.ne_of_lt l15.2.1 (List.mem_singleton.mp hm)
    case hG =>
      intro m v g
      show (if Str.ofString "code" = Str.ofString "step" then _ else m (Str.ofString "code")) = _
      rw [if_neg (by decide)]; exact g
    case hS2 => rintro j ys' nw ⟨rfl, -⟩; exact .tail _ (.head _)
    case hsz =>
      rintro j ys' nw ⟨-, hys'⟩
      rw [hys'.length, List.length_append, sizeLine_eq]
      have := mkUp_len i (by simp at hi; omega)
      have h2 := List.length_filter_le (fun x => !(hidI.any (· == x))) ([c + -1, c + 1].take j)
      have h3 : ([c + -1, c + 1].take j).length ≤ 2 := List.length_take_le' _ _
      omega
    case N16 => exact news_sub N16 (by walk_at "sub")
    case inv2 => exact ⟨rfl, by simpa using hys⟩
    case turn2 =>
      rintro j ys' nw v oI3 oC3 m3 h3 tk3 E3 hj ⟨rfl, hys'⟩ hv3 hC3 hx3 g3 F17 N17 off17
      refine wpAny_tests_one ?_
      obtain ⟨d, td, rfl, hd3⟩ : ∃ d td, v = .int d td ∧ [c + -1, c + 1].take (j + 1) = [c + -1, c + 1].take j ++ [c + d] := by
        have hj' : j < 2 := hj
        rcases j with _ | _ | j
        · exact ⟨-1, _, (Option.some.inj hv3).symm, rfl⟩
        · exact ⟨1, _, (Option.some.inj hv3).symm, rfl⟩
        · omega
      iterate 6 (walk_at "go")
      k_dflt (refine' notin_list_ints (vs := vs) (ns := hidI) ?il hi9 ?_; (case il => exact News.isList (n := kL) (items := vs.toArray) N17 (by walk_at "tl")))
      cases hin : hidI.any (· == c + d) with
      | true =>
        iterate 2 (walk_at "go")
        refine EEnd.intro F17 N17 _ (fun _ h => h) off17 ⟨rfl, ?_⟩
        rw [hd3, List.filter_append]
        have e : List.filter (fun x => !(hidI.any (· == x))) [c + d] = [] := by rw [List.filter_cons, hin]; rfl
        rw [e, List.append_nil]
        exact hys'
      | false =>
        iterate 2 (walk_at "go")
        iterate 4 (walk_at "go")
        refine EEnd.intro F17 N17 _ (fun _ h => h) off17 ⟨rfl, ?_⟩
        rw [hd3, List.filter_append]
        have e : List.filter (fun x => !(hidI.any (· == x))) [c + d] = [c + d] := by rw [List.filter_cons, hin]; rfl
        rw [e, ← List.append_assoc]
        exact hys'.append (.cons _ _ .nil)
    case fin2 =>
      rintro ys' nw oC3 m3 h3 tk3 ⟨rfl, hys'⟩ hC3 g3 F17 N17 off17
      refine ⟨h3, _, oC3, m3, ys', (L' + 1, oH) :: news, rfl, F17, hC3, news_sub N17 (by walk_at "sub"), off14, rfl, ?_⟩
      rw [mkUp_succ hc]
      exact hys'
end
end

section
open PySem.Calls
open LCg (NsObj lst Off3)
section
variable {w : World} {p : Program} {loose : List Str} {mean : ExcName → Option Value} {mg mb : Str → Option Value}
  {dp un : Nat} {gd : Option (List Code)} {cn : Str} {cs : Scope} {a : Addr} {ccd : Value} {cl : List (Str × Addr)} {outer : List Env} {A₀ : Around} {base h₀ : Heap} {L : Addr} {m : Str → Option Value} {news : List (Addr × Obj)} {s : Shared}
  {Q E : Value → Shared → Prop}

local macro_rules | `(tactic| walk_at "rdm") => `(tactic| first | assumption | exact if_pos rfl | (refine (if_neg (by decide)).trans ?_; walk_at "rdm"))
local macro_rules | `(tactic| walk_at "eval Name") => `(tactic| (k_here; k_dflt (refine' ld ?k1 ?k2 ?_; (case k1 => k_asm); (case k2 => walk_at "rdm"); k_whole)))
local macro_rules | `(tactic| walk_at "loadName") => `(tactic| (k_here; k_dflt (refine' ldn ?k1 ?k2 ?_; (case k1 => k_asm); (case k2 => walk_at "rdm"); k_whole)))
noncomputable abbrev St (l : List Nat) : Str := ⟨l.toArray⟩
noncomputable def dfl : List Int := [280, 1567, 1328, 2379, 429, 3722]
noncomputable def numsL (ns : List Int) : List Int := ns.take 6 ++ dfl.drop ns.length
theorem st_app (a b : List Nat) : St a ++ St b = St (a ++ b) := by
  show (⟨a.toArray ++ b.toArray⟩ : Str) = ⟨(a ++ b).toArray⟩
  simp
theorem hid_get {y : Int} (h0 : 0 ≤ y) (h1 : y < 27) : ∃ c : Nat, hidI.getD y.toNat 0 = (c : Int) ∧ hidL.getD y.toNat 0 = c ∧ c ≤ 1114111 := by
  obtain ⟨k, rfl⟩ := Int.eq_ofNat_of_zero_le h0
  have hk : k < 27 := by omega
  have h : ∀ k : Fin 27, hidI.getD k.1 0 = ((hidL.getD k.1 0 : Nat) : Int) ∧ hidL.getD k.1 0 ≤ 1114111 := by decide +kernel
  exact ⟨hidL.getD k 0, (h ⟨k, hk⟩).1, rfl, (h ⟨k, hk⟩).2⟩
theorem nums_len (ns : List Int) : (numsL ns).length ≤ 12 := by
  unfold numsL
  rw [List.length_append, List.length_take, List.length_drop]
  have : dfl.length = 6 := rfl
  omega
noncomputable def doublesL : List (Nat × List Nat) := [(223, [115, 115]), (64256, [102, 102]), (64257, [102, 105]), (64258, [102, 108]), (64262, [115, 116]), (13261, [107, 107])]
noncomputable def wayI (x : Int) : Int := (x.fdiv 28).fmod 3
noncomputable def faceI (x : Int) : Int := (x.fdiv 84).fmod 15
noncomputable def pickI (x : Int) : Int := x.fdiv 1260
noncomputable def drawT (x : Int) (text : List Nat) : List Nat := if x.fmod 28 < 27 then text ++ [hidL.getD (x.fmod 28).toNat 0] else text
noncomputable def placeN (x : Int) (word : List Nat) : Nat := if wayI x = 0 ∧ word ≠ [] then alphaN.idxOf (word.getD ((pickI x).fmod word.length).toNat 0) else ((pickI x).fmod 42).toNat
noncomputable def dblAt (x : Int) : Nat × List Nat := doublesL.getD ((pickI x).fmod 6).toNat (0, [])
noncomputable def drawStep (k : Nat) (x : Int) (text word : List Nat) : List Nat × List Nat :=
  if wayI x = 2 ∧ k % 2 = 0 then (drawT x text ++ [(dblAt x).1], word ++ (dblAt x).2)
  else (drawT x text ++ [spelL (alphaN.getD (placeN x word) 0) (placeN x word) (faceI x)], word ++ [alphaN.getD (placeN x word) 0])
structure DrwK (i : Nat) (x : Int) (m : Str → Option Value) : Prop where
  kk : ∃ t, m (Str.ofString "k") = some (.int (i : Nat) t)
  xx : ∃ t, m (Str.ofString "x") = some (.int x t)
  ww : ∃ t, m (Str.ofString "way") = some (.int (wayI x) t)
  ff : ∃ t, m (Str.ofString "face") = some (.int (faceI x) t)
  pp : ∃ t, m (Str.ofString "pick") = some (.int (pickI x) t)
inductive Drawn (ns : List Int) : Nat → List Nat → List Nat → Prop
  | zero : Drawn ns 0 [] []
  | succ {i x t w} : Drawn ns i t w → ns[i]? = some x → Drawn ns (i + 1) (drawStep i x t w).1 (drawStep i x t w).2
structure DrwM (hA lD gA nA : Addr) (text word : List Nat) (m : Str → Option Value) : Prop where
  al : ∃ t, m (Str.ofString "alphabet") = some (.str (St alphaN) t)
  hi : m (Str.ofString "hidden") = some (.ref hA)
  du : m (Str.ofString "doubles") = some (.ref lD)
  ga : m (Str.ofString "gaps") = some (.ref gA)
  te : ∃ t, m (Str.ofString "text") = some (.str (St text) t)
  nu : m (Str.ofString "numbers") = some (.ref nA)
  wo : ∃ t, m (Str.ofString "word") = some (.str (St word) t)
structure Dbl (lD : Addr) (LL : List (Addr × Obj)) : Prop where
  ex : ∃ T : Nat → Addr, (lD, W.listOf #[.ref (T 0), .ref (T 1), .ref (T 2), .ref (T 3), .ref (T 4), .ref (T 5)] 0) ∈ LL ∧
    ∀ i c l, doublesL[i]? = some (c, l) → ∃ t u, (T i, ({ cls := .type "tuple", data := .seq #[.int (c : Nat) t, .str (St l) u] } : Obj)) ∈ LL
theorem dbl_get {y : Int} (h0 : 0 ≤ y) (h1 : y < 6) : ∃ (j c : Nat) (l : List Nat), y = (j : Int) ∧ j < 6 ∧ doublesL[j]? = some (c, l) ∧ doublesL.getD y.toNat (0, []) = (c, l) ∧ c ≤ 1114111 ∧ l.length = 2 ∧ ∀ a ∈ l, a ∈ alphaN := by
  obtain ⟨k, rfl⟩ := Int.eq_ofNat_of_zero_le h0
  have hk : k < 6 := by omega
  have h : ∀ k : Fin 6, doublesL[k.1]? = some (doublesL.getD k.1 (0, [])) ∧ (doublesL.getD k.1 (0, [])).1 ≤ 1114111 ∧ (doublesL.getD k.1 (0, [])).2.length = 2 ∧ ∀ a ∈ (doublesL.getD k.1 (0, [])).2, a ∈ alphaN := by decide +kernel
  obtain ⟨a, b, c, d⟩ := h ⟨k, hk⟩
  exact ⟨k, _, _, rfl, hk, a, rfl, b, c, d⟩
theorem six {α : Type} (f : Nat → α) {j : Nat} (h : j < 6) : (#[f 0, f 1, f 2, f 3, f 4, f 5] : Array α)[j]? = some (f j) := by
  rcases j with _ | _ | _ | _ | _ | _ | j
  all_goals first | rfl | omega
theorem item_at {prog : Program} {A : Around} {value slice : PySem.Expr} {l : Addr} {its : Array Value} {k : Int} {u : Tok} {v : Value} (hl : s.heap.IsList l its) (h0 : 0 ≤ k) (hhi : k < 2 ^ 63) (hx : its[k.toNat]? = some v) (h : Q v s)
    (hs : subscripted slice false (.ref l) (.int k u) = operate [.ref l, .int k u] (getItem (.ref l) (.int k u)) := by with_unfolding_all rfl) :
    wpAny (model prog w) A (subscriptTail value slice (.ref l) (.int k u)) Q E s :=
  tail_any hl.typeIs slot_list_getitem.lookup (wpAny_getItem_list hl h0 hhi (by simpa using hx) h) hs
theorem item_St {l : List Nat} {y : Int} (h0 : 0 ≤ y) (h1 : y < l.length) : Txt.item (St l) y = St [l.getD y.toNat 0] := by
  obtain ⟨k, rfl⟩ := Int.eq_ofNat_of_zero_le h0
  have hk : k < l.length := by omega
  have e : seqIndex? (k : Int) (St l).length = some k := by
    unfold seqIndex?
    have hs : (St l).length = l.length := by show l.toArray.size = _; rw [List.size_toArray]
    rw [hs]
    simp only [show ¬ ((k : Int) < 0) by omega, if_false]
    rw [if_pos (by simp; omega), Int.toNat_natCast]
  show (⟨#[((seqIndex? (k : Int) (St l).length).bind ((St l).cps[·]?)).getD 0]⟩ : Str) = _
  rw [e]
  show (⟨#[(l.toArray[k]?).getD 0]⟩ : Str) = ⟨[l.getD ((k : Int)).toNat 0].toArray⟩
  simp [List.getD]
theorem find_alpha : ∀ c ∈ alphaN, Txt.find (St alphaN) (St [c]) = ((alphaN.idxOf c : Nat) : Int) := by decide +kernel
theorem alpha_nodup : alphaN.Nodup := by decide +kernel
theorem placeN_lt (x : Int) (word : List Nat) (h : ∀ c ∈ word, c ∈ alphaN) : placeN x word < 42 := by
  unfold placeN
  split
  · rename_i hc
    have hwp : 0 < word.length := List.length_pos_iff.mpr hc.2
    have h0 : 0 ≤ (pickI x).fmod word.length := Int.fmod_nonneg_of_pos _ (by omega)
    have h1 : (pickI x).fmod word.length < word.length := Int.fmod_lt_of_pos _ (by omega)
    have : ((pickI x).fmod word.length).toNat < word.length := by omega
    have hm : word.getD ((pickI x).fmod word.length).toNat 0 ∈ alphaN := by
      refine h _ ?_
      rw [List.getD, List.getElem?_eq_getElem this]
      exact List.getElem_mem _
    have := List.idxOf_lt_length_of_mem hm
    exact this
  · have h0 : 0 ≤ (pickI x).fmod 42 := Int.fmod_nonneg_of_pos _ (by decide)
    have h1 : (pickI x).fmod 42 < 42 := Int.fmod_lt_of_pos _ (by decide)
    omega
theorem drw_spec {sA hA : Addr} {vs vsH : List Value} {ns : List Int} {kH : Nat} {ta : Tok}
  (B : Below A₀ base outer h₀) (F : Fr h₀ L s.heap m) (X : (KF w.params).In h₀) (N : News h₀ L s.heap news) (T : Top p loose mean mg mb h₀) (hk : cs.kind = .function)
  (hs : h₀.IsList sA vs.toArray) (his : IntsAre vs ns) (hnl : ns.length ≤ 63) (hlH : (hA, W.listOf vsH.toArray kH) ∈ news) (hiH : IntsAre vsH hidI)
  (hd : dp + 20 < recursionLimit) (hu : un + 200 < cLine)
  (ret : ∀ TA h' tk' text word t1 t2, Drawn (numsL ns) (numsL ns).length text word → word.length ≤ 2 * (numsL ns).length → text.length ≤ 2 * (numsL ns).length → (∀ c ∈ word, c ∈ alphaN) → ((numsL ns).length ≠ 0 → word ≠ []) → Fr h₀ L h' m → News h₀ L h' ((TA, ({ cls := .type "tuple", data := .seq #[.str (St text) t1, .str (St word) t2] } : Obj)) :: news) → (∀ q ∈ news, q.1 < TA) → Q (.ref TA) { s with heap := h', toks := tk' }) :
  wpAny (model PySem.Challenge.rw_rw0085_01.prog w) (ktrTop dp un gd cn cs L a ccd cl outer) (call (.ref 132) [.ref sA, .str ⟨alphaN.toArray⟩ ta, .ref hA]) Q E s := by
  revert X; k_fill; intro X
  refine wpAny_call ?_
  k_dflt ktr_enter
  rename News _ _ _ _ => N0
  rename Fr _ _ _ _ => F0
  rename_i g' L' h' FG' B' X' T'
  iterate 11 (walk_at "go")
  rename News _ _ _ _ => N1
  rename Fr _ _ _ _ => F1
  k_dflt (refine' kmk_slice_ints (ns := ns) F1 N1 ?zl ?zp ?zq his ?zm ?zc ?_ ?zs ?zt ?zz; (case zl => exact Heap.IsList.at (hs.at fun o e => Fr.keep (by assumption) _ _ e) fun o e => F1.keep _ _ e); (case zp => kmk_part); (case zq => kmk_part); (case zm => exact kmk_upto his (by decide)); (case zc => exact List.length_take ..); (case zs => with_unfolding_all rfl); (case zt => kmk_pure); (case zz => exact kmk_sz his (by rw [sizeLine_eq]; omega)))
  intro D2 ws2 h2 F2 N2 l2 i2 c2 e2
  iterate 24 (walk_at "go")
  have hsv : vs.length = ns.length := his.length
  rename News _ _ _ _ => N3
  rename Fr _ _ _ _ => F3
  have hsl : Heap.IsList _ sA vs.toArray := Heap.IsList.at (hs.at fun o e => Fr.keep (by assumption) _ _ e) fun o e => F3.keep _ _ e
  refine len_list (items := vs.toArray) (by exact hsl) (by rw [List.size_toArray, hsv]; omega) ?_
  rw [List.size_toArray, hsv]
  iterate 2 (walk_at "go")
  have hid : ∀ t1 t2 t3 t4 t5 t6, IntsAre [Value.int 280 t1, .int 1567 t2, .int 1328 t3, .int 2379 t4, .int 429 t5, .int 3722 t6] dfl := fun _ _ _ _ _ _ => .cons _ _ (.cons _ _ (.cons _ _ (.cons _ _ (.cons _ _ (.cons _ _ .nil)))))
  refine kba_turn (value' := .Name (Str.ofString "numbers") ⟨0, 0, 0, 0⟩) (fun _ => rfl) ?_
  k_dflt (refine kmk_slice_ints (ns := dfl) (vs := [.int 280 _, .int 1567 _, .int 1328 _, .int 2379 _, .int 429 _, .int 3722 _]) F3 N3 ⟨_, (N3 _ (.head _)).1, rfl, _, rfl⟩ (by kmk_part) (by kmk_part) (hid _ _ _ _ _ _) (kmk_from (hid _ _ _ _ _ _) (Int.natCast_nonneg _)) (List.length_drop ..) ?_ (by with_unfolding_all rfl) (by kmk_pure) (kmk_sz (hid _ _ _ _ _ _) (by rw [sizeLine_eq]; decide)))
  intro D4 ws4 h4 F4 N4 l4 i4 c4 e4
  k_dflt (refine' kmk_add_ints F4 N4 ?xa ?xb i2 i4 ?_ ?xz; (case xa => exact News.isList N4 (.tail _ (.tail _ (.head _)))); (case xb => exact News.isList N4 (.head _)); (case xz => (rw [sizeLine_eq]; have : dfl.length = 6 := rfl; omega)))
  intro D5 ws5 h5 F5 N5 l5 i5
  replace i5 : IntsAre ws5 (numsL ns) := i5
  have N5' := news_sub (l' := (D5, W.listOf (List.toArray ws5) 0) :: news) N5 (by walk_at "sub")
  have l5' : ∀ q ∈ news, q.1 < D5 := fun q hq => l5 q (by walk_at "tl")
  try clear N1
  try clear N2
  try clear N3
  try clear N4
  try clear N5
  try clear F1
  try clear F2
  try clear F3
  try clear F4
  try clear l5
  try clear l4
  try clear l2
  have lD5 : LtAll news D5 := ⟨l5'⟩
  iterate 62 (walk_at "go")
  k_dflt (refine' gaps_spec ?B ?F ?X ?N ?T ?hk ?hd ?hu ?_; (case B => k_asm); (case F => k_asm); (case X => k_asm); (case N => k_asm); (case T => k_asm); (case hk => rfl); (case hd => first | exact dlt hd rfl | exact dlt2 hd rfl | exact dlt3 hd rfl | ((try simp only [depth_deeper]); (try dsimp only [ktrTop]); omega)); (case hu => first | exact dlt hu rfl | exact dlt2 hu rfl | exact dlt3 hu rfl | ((try simp only [units_deeper]); (try dsimp only [ktrTop]); omega)))
  intro gA og kg h6 tk6 F6 N6 l6 s6 d6 k6
  k_lt l6
  iterate 10 (walk_at "go")
  rename News _ _ _ _ => N7
  rename Fr _ _ _ _ => F7
  obtain ⟨LL, mm, lD, F8, N8, M8, D8, g8, q8⟩ : ∃ LL mm lD, Fr _ _ _ mm ∧ News _ _ _ LL ∧ DrwM hA lD gA D5 [] [] mm ∧ Dbl lD LL ∧ (gA, og) ∈ LL ∧ (∀ q ∈ (D5, W.listOf (List.toArray ws5) 0) :: news, q ∈ LL) :=
    ⟨_, _, _, F7, N7, ⟨⟨_, rfl⟩, rfl, rfl, rfl, ⟨_, rfl⟩, rfl, ⟨_, rfl⟩⟩, ⟨⟨fun i => match i with | 0 => _ | 1 => _ | 2 => _ | 3 => _ | 4 => _ | _ => _, .tail _ (.head _), fun i c l h => by
      rcases i with _ | _ | _ | _ | _ | _ | i
      · cases h; exact ⟨_, _, by rw [show St [115, 115] = Str.ofString "ss" from by decide +kernel]; walk_at "tl"⟩
      · cases h; exact ⟨_, _, by rw [show St [102, 102] = Str.ofString "ff" from by decide +kernel]; walk_at "tl"⟩
      · cases h; exact ⟨_, _, by rw [show St [102, 105] = Str.ofString "fi" from by decide +kernel]; walk_at "tl"⟩
      · cases h; exact ⟨_, _, by rw [show St [102, 108] = Str.ofString "fl" from by decide +kernel]; walk_at "tl"⟩
      · cases h; exact ⟨_, _, by rw [show St [115, 116] = Str.ofString "st" from by decide +kernel]; walk_at "tl"⟩
      · cases h; exact ⟨_, _, by rw [show St [107, 107] = Str.ofString "kk" from by decide +kernel]; walk_at "tl"⟩
      · cases h⟩⟩, .head _, fun q hq => by walk_at "tl"⟩
  clear N7 F7
  k_dflt (refine' For_turns F8 ?_ ?hs ?hE)
  case hs => intro _; rfl
  case hE => passes_own
  have hnu8 := M8.nu
  iterate 6 (walk_at "go")
  k_dflt (refine' ktu_enum (l := D5) (lo := W.listOf (List.toArray ws5) 0) (vs := ws5) ?hh F8 N8 ?hm rfl rfl rfl ?_; (case hh => rfl); (case hm => exact q8 _ (.head _)))
  intro I lI
  k_dflt (refine' items_inv (fun i m n => n = LL ∧ ∃ text word, DrwM hA lD gA D5 text word m ∧ Drawn (numsL ns) i text word ∧ word.length ≤ 2 * i ∧ text.length ≤ 2 * i ∧ (∀ c ∈ word, c ∈ alphaN) ∧ (i ≠ 0 → word ≠ [])) ?turn ?fin ⟨rfl, _, _, M8, .zero, by simp, by simp, by simp, by simp⟩)
  case fin =>
    rintro m2 nw h2 tk2 ⟨rfl, text, word, M, dr, hw1, ht1, hal1, hwn⟩ F9 N9
    obtain ⟨⟨tal, hal⟩, hhi, hdu, hga, ⟨tte, hte⟩, hnu, ⟨two, hwo⟩⟩ := M
    have hlen : (enumItems 0 ws5).length = (numsL ns).length := by rw [enumItems_length, i5.length]
    rw [hlen] at dr hw1 ht1 hwn
    iterate 9 (walk_at "go")
    rename (∀ p ∈ nw, p.1 < _) => l21
    repeat (first | (k_unfold; (try dsimp only)) | walk_at "go")
    rename News _ _ _ _ => N21
    rename Fr _ _ _ _ => F21
    refine ret _ _ _ text word tte two dr hw1 ht1 hal1 hwn F21 (fun q hq => ?_) (fun q hq => l21 q (q8 _ (.tail _ hq)))
    rcases List.mem_cons.mp hq with rfl | hq
    · exact N21 _ (.head _)
    · exact N21 q (.tail _ (q8 _ (.tail _ hq)))
  case turn =>
    rintro i a2 m2 nw v h2 tk2 ha ⟨rfl, text, word, M, dr, hw1, ht1, hal1, hwn⟩ hv F9
    obtain ⟨⟨tal, hal⟩, hhi, hdu, hga, ⟨tte, hte⟩, hnu, ⟨two, hwo⟩⟩ := M
    have hilt : i < ws5.length := by
      have := (List.getElem?_eq_some_iff.mp ha).1
      rw [enumItems_length] at this; exact this
    obtain ⟨x, tx, hx5, hxn⟩ : ∃ x tx, ws5[i]? = some (.int x tx) ∧ (numsL ns)[i]? = some x := by
      obtain ⟨n, t, e1, e2⟩ := i5.at i _ (List.getElem?_eq_getElem hilt)
      exact ⟨n, t, by rw [List.getElem?_eq_getElem hilt, e1], e2⟩
    rw [enumItems_get ws5 0 i hx5] at ha
    cases ha
    obtain ⟨T, tk, rfl, hT⟩ := hv
    have hi12 : i < 12 := by
      have h5 := i5.length
      have := nums_len ns
      omega
    refine AllObj.cons fun o1 ho1 => AllObj.cons fun o2 ho2 => AllObj.nil ?_
    intro N9
    dsimp only [List.cons_append, List.nil_append] at N9
    rw [Nat.zero_add] at hT
    iterate 36 (walk_at "go")
    rename News _ _ _ _ => N10
    rename Fr _ _ _ _ => F10
    obtain ⟨m10, F11, M11, K11⟩ : ∃ m10, Fr _ _ _ m10 ∧ DrwM hA lD gA D5 text word m10 ∧ DrwK i x m10 := ⟨_, F10, ⟨⟨_, by walk_at "rdm"⟩, by walk_at "rdm", by walk_at "rdm", by walk_at "rdm", ⟨_, by walk_at "rdm"⟩, by walk_at "rdm", ⟨_, by walk_at "rdm"⟩⟩, ⟨⟨_, by walk_at "rdm"⟩, ⟨_, by walk_at "rdm"⟩, ⟨_, by walk_at "rdm"⟩, ⟨_, by walk_at "rdm"⟩, ⟨_, by walk_at "rdm"⟩⟩⟩
    clear F10 hal hhi hdu hga hte hnu hwo
    refine wpAny_execs_cons ?_
    obtain ⟨tk1, hkk⟩ := K11.kk
    obtain ⟨tk2, hxx⟩ := K11.xx
    obtain ⟨tk3, hww⟩ := K11.ww
    obtain ⟨tk4, hff⟩ := K11.ff
    obtain ⟨tk5, hpp⟩ := K11.pp
    have hHL : (hA, W.listOf vsH.toArray kH) ∈ nw := q8 _ (.tail _ hlH)
    refine wpAny_mono (Q := fun f s' => f = .next ∧ ∃ m' h' tk', s' = { s with heap := h', toks := tk' } ∧ Fr g' L' h' m' ∧ News g' L' h' ((I + 1, o1) :: (I, o2) :: nw) ∧ DrwM hA lD gA D5 (drawT x text) word m' ∧ DrwK i x m') ?_ ?_ (fun _ _ e => e)
    · obtain ⟨⟨tal, hal⟩, hhi, hdu, hga, ⟨tte, hte⟩, hnu, ⟨two, hwo⟩⟩ := M11
      have hf0 : 0 ≤ x.fmod 28 := Int.fmod_nonneg_of_pos x (by decide)
      have hf1 : x.fmod 28 < 28 := Int.fmod_lt_of_pos x (by decide)
      iterate 9 (walk_at "go")
      by_cases h27 : x.fmod 28 < 27
      · refine ite_pos (by simpa using h27) ?_
        iterate 14 (walk_at "go")
        obtain ⟨c, hc1, hc2, hc3⟩ := hid_get hf0 h27
        rename News _ _ _ _ => N11
        k_dflt (refine ksa_sub N11 (.tail _ (.tail _ hHL)) hiH hf0 ?_ (by omega) fun t20 => ?_)
        · show x.fmod 28 < 27; exact h27
        rw [hc1]
        have hcc : (c : Int) ≤ 1114111 := by omega
        iterate 2 (walk_at "go")
        k_dflt (refine' iadd_str ?_ ?sz)
        case sz =>
          show text.toArray.size + 1 ≤ _
          rw [sizeLine_eq, List.size_toArray]; omega
        intro t21 k21
        rw [show (⟨#[(c : Int).toNat]⟩ : Str) = St [c] by rw [Int.toNat_natCast], st_app]
        iterate 3 (walk_at "go")
        obtain ⟨_, hf5⟩ := K11.ff
        refine ⟨rfl, _, _, _, rfl, by k_asm, by k_asm, ?_, ?_⟩
        · rw [show drawT x text = text ++ [c] by unfold drawT; rw [if_pos h27, hc2]]
          exact ⟨⟨_, by walk_at "rdm"⟩, by walk_at "rdm", by walk_at "rdm", by walk_at "rdm", ⟨_, by walk_at "rdm"⟩, by walk_at "rdm", ⟨_, by walk_at "rdm"⟩⟩
        · exact ⟨⟨_, by walk_at "rdm"⟩, ⟨_, by walk_at "rdm"⟩, ⟨_, by walk_at "rdm"⟩, ⟨_, by walk_at "rdm"⟩, ⟨_, by walk_at "rdm"⟩⟩
      · refine ite_neg (by simpa using h27) ?_
        iterate 2 (walk_at "go")
        refine ⟨rfl, _, _, _, rfl, by k_asm, by k_asm, ?_, K11⟩
        rw [show drawT x text = text from if_neg h27]
        exact ⟨⟨_, hal⟩, hhi, hdu, hga, ⟨_, hte⟩, hnu, ⟨_, hwo⟩⟩
    · rintro f s' ⟨rfl, m12, h12, tk12, rfl, F12, N12, M12, K12⟩
      obtain ⟨⟨tal, hal⟩, hhi, hdu, hga, ⟨tte, hte⟩, hnu, ⟨two, hwo⟩⟩ := M12
      clear hkk hxx hww hff hpp
      obtain ⟨tk1, hkk⟩ := K12.kk
      obtain ⟨tk2, hxx⟩ := K12.xx
      obtain ⟨tk3, hww⟩ := K12.ww
      obtain ⟨tk4, hff⟩ := K12.ff
      obtain ⟨tk5, hpp⟩ := K12.pp
      clear F11 N10
      iterate 2 (walk_at "go")
      have hp0 : 0 ≤ (pickI x).fmod 6 := Int.fmod_nonneg_of_pos _ (by decide)
      have hp1 : (pickI x).fmod 6 < 6 := Int.fmod_lt_of_pos _ (by decide)
      refine wpAny_mono (Q := fun b s' => b = decide (wayI x = 2 ∧ i % 2 = 0) ∧ ∃ tk', s' = { s with heap := h12, toks := tk' }) ?_ ?_ (fun _ _ e => e)
      · iterate 5 (walk_at "go")
        by_cases h2 : wayI x = 2
        · rw [show (wayI x == 2) = true from by simpa using h2]
          iterate 10 (walk_at "go")
          have hi2 : ((i : Nat) : Int).fmod 2 = ((i % 2 : Nat) : Int) := by rw [Int.fmod_eq_emod_of_nonneg _ (by decide)]; omega
          rw [hi2]
          by_cases hk2 : i % 2 = 0
          · rw [show (((i % 2 : Nat) : Int) == 0) = true by rw [hk2]; rfl]
            iterate 3 (walk_at "go")
            exact ⟨(decide_eq_true ⟨h2, hk2⟩).symm, _, rfl⟩
          · rw [show (((i % 2 : Nat) : Int) == 0) = false by rw [beq_eq_false_iff_ne]; omega]
            iterate 2 (walk_at "go")
            exact ⟨(decide_eq_false fun h => hk2 h.2).symm, _, rfl⟩
        · rw [show (wayI x == 2) = false from by simpa using h2]
          iterate 2 (walk_at "go")
          exact ⟨(decide_eq_false fun h => h2 h.1).symm, _, rfl⟩
      · rintro b s' ⟨rfl, tk', rfl⟩
        by_cases hB : wayI x = 2 ∧ i % 2 = 0
        · obtain ⟨h2, hk2⟩ := hB
          rw [show decide (wayI x = 2 ∧ i % 2 = 0) = true from decide_eq_true ⟨h2, hk2⟩]
          refine ite_pos rfl ?_
          obtain ⟨Tf, hTl, hTs⟩ := D8.ex
          obtain ⟨j, c, l, hj1, hj6, hj2, hj3, hc3, hl2, hla⟩ := dbl_get hp0 hp1
          obtain ⟨t30, u30, hTm⟩ := hTs j c l hj2
          have hTj : IsTup h12 (Tf j) #[.int (c : Nat) t30, .str (St l) u30] := News.isTup N12 (.tail _ (.tail _ hTm))
          iterate 8 (walk_at "go")
          k_dflt (refine item_at (News.isList N12 (.tail _ (.tail _ hTl))) hp0 (by omega) (v := .ref (Tf j)) ?_ ?_)
          · rw [show ((pickI x).fmod 6).toNat = j by rw [hj1]; rfl]
            exact six (fun i => Value.ref (Tf i)) hj6
          have hcc : (c : Int) ≤ 1114111 := by omega
          have htl : (drawT x text).length ≤ 2 * i + 1 := by unfold drawT; split <;> (try simp only [List.length_append, List.length_cons, List.length_nil]) <;> omega
          iterate 18 (walk_at "go")
          k_dflt (refine' iadd_str ?_ ?szA1)
          case szA1 =>
            show (drawT x text).toArray.size + 1 ≤ _
            rw [sizeLine_eq, List.size_toArray]; omega
          intro t41 k41
          rw [show (⟨#[(c : Int).toNat]⟩ : Str) = St [c] by rw [Int.toNat_natCast], st_app]
          iterate 6 (walk_at "go")
          k_dflt (refine' iadd_str ?_ ?szA2)
          case szA2 =>
            show word.toArray.size + l.toArray.size ≤ _
            rw [sizeLine_eq, List.size_toArray, List.size_toArray]; omega
          intro t42 k42
          rw [st_app]
          iterate 3 (walk_at "go")
          dsimp only [UnrPostW, UnrEndW]
          refine ⟨_, _, _, nw, rfl, by k_asm, by k_asm, ?zoff, ⟨q8 _ (.head _), trivial⟩, rfl, _, _, ⟨⟨_, by walk_at "rdm"⟩, by walk_at "rdm", by walk_at "rdm", by walk_at "rdm", ⟨_, by walk_at "rdm"⟩, by walk_at "rdm", ⟨_, by walk_at "rdm"⟩⟩, ?zdr, ?zwl, ?ztl, ?zal, ?zwn⟩
          case zoff =>
            intro p hp q hq
            simp only [List.mem_cons, List.not_mem_nil, or_false] at hq
            have := lI p hp
            rcases hq with rfl | rfl
            · exact Nat.ne_of_lt (Nat.lt_succ_of_lt this)
            · exact Nat.ne_of_lt this
          case zdr =>
            have := dr.succ hxn
            unfold drawStep at this
            rw [if_pos ⟨h2, hk2⟩, show dblAt x = (c, l) from hj3] at this
            exact this
          case zwl => rw [List.length_append]; omega
          case ztl => rw [List.length_append, List.length_singleton]; omega
          case zal =>
            intro a ha
            rcases List.mem_append.mp ha with ha | ha
            · exact hal1 a ha
            · exact hla a ha
          case zwn =>
            intro _ e
            have := congrArg List.length e
            rw [List.length_append, hl2] at this
            simp at this
        · rw [show decide (wayI x = 2 ∧ i % 2 = 0) = false from decide_eq_false hB]
          refine ite_neg (by decide) ?_
          iterate 8 (walk_at "go")
          have hq0 : 0 ≤ (pickI x).fmod 42 := Int.fmod_nonneg_of_pos _ (by decide)
          have hq1 : (pickI x).fmod 42 < 42 := Int.fmod_lt_of_pos _ (by decide)
          rename News _ _ _ _ => N13
          rename Fr _ _ _ _ => F13
          refine wpAny_mono (Q := fun f s' => f = .next ∧ ∃ m' h' tk', s' = { s with heap := h', toks := tk' } ∧ Fr g' L' h' m' ∧ News g' L' h' ((I + 1, o1) :: (I, o2) :: nw) ∧ DrwM hA lD gA D5 (drawT x text) word m' ∧ DrwK i x m' ∧ ∃ t, m' (Str.ofString "place") = some (.int (placeN x word) t)) ?_ ?_ (fun _ _ e => e)
          · iterate 6 (walk_at "go")
            by_cases h0 : wayI x = 0
            · rw [show (wayI x == 0) = true from by simpa using h0]
              iterate 7 (walk_at "go")
              by_cases hwe : word = []
              · rw [show (St word != Str.ofString "") = false by rw [hwe]; decide +kernel]
                iterate 5 (walk_at "go")
                have hpl : ((placeN x word : Nat) : Int) = (pickI x).fmod 42 := by
                  unfold placeN
                  rw [if_neg (fun h => h.2 hwe)]; exact Int.toNat_of_nonneg hq0
                refine ⟨rfl, _, _, _, rfl, by k_asm, by k_asm, ⟨⟨_, by walk_at "rdm"⟩, by walk_at "rdm", by walk_at "rdm", by walk_at "rdm", ⟨_, by walk_at "rdm"⟩, by walk_at "rdm", ⟨_, by walk_at "rdm"⟩⟩, ⟨⟨_, by walk_at "rdm"⟩, ⟨_, by walk_at "rdm"⟩, ⟨_, by walk_at "rdm"⟩, ⟨_, by walk_at "rdm"⟩, ⟨_, by walk_at "rdm"⟩⟩, ⟨_, by rw [hpl]; walk_at "rdm"⟩⟩
              · have hne : (St word != Str.ofString "") = true := by
                  rw [bne_iff_ne]
                  intro e
                  have := (congrArg Str.cps e).trans (show (Str.ofString "").cps = #[] by decide +kernel)
                  exact hwe (by simpa using this)
                rw [hne]
                iterate 16 (walk_at "go")
                have hwp : 0 < word.length := List.length_pos_iff.mpr hwe
                have hLw : (((St word).length : Nat) : Int) = (word.length : Nat) := by show ((word.toArray.size : Nat) : Int) = _; rw [List.size_toArray]
                have hwi : (word.length : Int) ≠ 0 := by omega
                iterate 6 (walk_at "go")
                refine P.len_str (by rw [hLw]; omega) ?_
                rw [hLw]
                iterate 1 (walk_at "go")
                have hm0 : 0 ≤ (pickI x).fmod word.length := Int.fmod_nonneg_of_pos _ (by omega)
                have hm1 : (pickI x).fmod word.length < word.length := Int.fmod_lt_of_pos _ (by omega)
                k_dflt (refine item_str_fmod (by omega) (by rw [hLw]; exact Int.le_refl _) (by rw [hLw]; omega) (fun _ => ?_))
                rw [item_St hm0 hm1]
                have hmem : word.getD ((pickI x).fmod word.length).toNat 0 ∈ alphaN := by
                  refine hal1 _ ?_
                  have : ((pickI x).fmod word.length).toNat < word.length := by omega
                  rw [List.getD, List.getElem?_eq_getElem this]
                  exact List.getElem_mem _
                iterate 1 (walk_at "go")
                have hfd := find_alpha _ hmem
                k_dflt (refine index_or (by rfl) (fun e _ => ?_) (fun _ _ => ?_))
                · rw [hfd] at e; omega
                rw [hfd]
                iterate 3 (walk_at "go")
                have hpl : placeN x word = alphaN.idxOf (word.getD ((pickI x).fmod word.length).toNat 0) := by
                  unfold placeN
                  rw [if_pos ⟨h0, hwe⟩]
                refine ⟨rfl, _, _, _, rfl, by k_asm, by k_asm, ⟨⟨_, by walk_at "rdm"⟩, by walk_at "rdm", by walk_at "rdm", by walk_at "rdm", ⟨_, by walk_at "rdm"⟩, by walk_at "rdm", ⟨_, by walk_at "rdm"⟩⟩, ⟨⟨_, by walk_at "rdm"⟩, ⟨_, by walk_at "rdm"⟩, ⟨_, by walk_at "rdm"⟩, ⟨_, by walk_at "rdm"⟩, ⟨_, by walk_at "rdm"⟩⟩, ⟨_, by rw [hpl]; walk_at "rdm"⟩⟩
            · rw [show (wayI x == 0) = false from by simpa using h0]
              iterate 5 (walk_at "go")
              have hpl : ((placeN x word : Nat) : Int) = (pickI x).fmod 42 := by
                unfold placeN
                rw [if_neg (fun h => h0 h.1)]; exact Int.toNat_of_nonneg hq0
              refine ⟨rfl, _, _, _, rfl, by k_asm, by k_asm, ⟨⟨_, by walk_at "rdm"⟩, by walk_at "rdm", by walk_at "rdm", by walk_at "rdm", ⟨_, by walk_at "rdm"⟩, by walk_at "rdm", ⟨_, by walk_at "rdm"⟩⟩, ⟨⟨_, by walk_at "rdm"⟩, ⟨_, by walk_at "rdm"⟩, ⟨_, by walk_at "rdm"⟩, ⟨_, by walk_at "rdm"⟩, ⟨_, by walk_at "rdm"⟩⟩, ⟨_, by rw [hpl]; walk_at "rdm"⟩⟩
          · rintro f s' ⟨rfl, m14, h14, tk14, rfl, F14, N14, M14, K14, ⟨tpl, hpl⟩⟩
            obtain ⟨⟨tal, hal⟩, hhi, hdu, hga, ⟨tte, hte⟩, hnu, ⟨two, hwo⟩⟩ := M14
            clear hkk hxx hww hff hpp
            obtain ⟨tk1, hkk⟩ := K14.kk
            obtain ⟨tk2, hxx⟩ := K14.xx
            obtain ⟨tk3, hww⟩ := K14.ww
            obtain ⟨tk4, hff⟩ := K14.ff
            obtain ⟨tk5, hpp⟩ := K14.pp
            clear F13 N13
            have hP42 : placeN x word < 42 := placeN_lt x word hal1
            have hPi : ((placeN x word : Nat) : Int) < (alphaN.length : Int) := by rw [show alphaN.length = 42 from rfl]; omega
            have hPg : (placeN x word : Int).toNat = placeN x word := rfl
            iterate 10 (walk_at "go")
            have hal42 : (St alphaN).length = 42 := rfl
            k_dflt (refine item_str (fitsSsize_of (N := 9223372036854775808) (by omega) (by omega) (Int.le_refl _)) (by rw [hal42]; omega) (by rw [hal42]; omega) (fun _ => ?_))
            rw [item_St (by omega) hPi, hPg]
            iterate 7 (walk_at "go")
            refine ⟨by k_in, ?_⟩
            try dsimp only [List.nil_append, List.cons_append]
            have hfc0 : 0 ≤ faceI x := Int.fmod_nonneg_of_pos _ (by decide)
            have hfc1 : faceI x < 15 := Int.fmod_lt_of_pos _ (by decide)
            k_dflt (refine' spe_spec ?oB ?oF ?oX ?oN ?oT ?ohk (.tail _ (.tail _ g8)) s6 d6 k6 ?op0 ?op1 hfc0 hfc1 ?ohd ?ohu ?_; (case oB => k_asm); (case oF => k_asm); (case oX => k_asm); (case oN => k_asm); (case oT => k_asm); (case ohk => rfl); (case op0 => omega); (case op1 => omega); (case ohd => first | exact dlt hd rfl | exact dlt2 hd rfl | exact dlt3 hd rfl | ((try simp only [depth_deeper]); (try dsimp only [ktrTop]); omega)); (case ohu => first | exact dlt hu rfl | exact dlt2 hu rfl | exact dlt3 hu rfl | ((try simp only [units_deeper]); (try dsimp only [ktrTop]); omega)))
            intro t40 h40 tk40 F40 N40
            clear F14 N14
            have htl : (drawT x text).length ≤ 2 * i + 1 := by unfold drawT; split <;> (try simp only [List.length_append, List.length_cons, List.length_nil]) <;> omega
            k_dflt (refine' iadd_str ?_ ?osz1)
            case osz1 =>
              show (drawT x text).toArray.size + 1 ≤ _
              rw [sizeLine_eq, List.size_toArray]; omega
            intro t41 k41
            rw [show (⟨#[spelL (alphaN.getD (placeN x word) 0) (placeN x word) (faceI x)]⟩ : Str) = St [spelL (alphaN.getD (placeN x word) 0) (placeN x word) (faceI x)] from rfl, st_app]
            iterate 8 (walk_at "go")
            k_dflt (refine item_str (fitsSsize_of (N := 9223372036854775808) (by omega) (by omega) (Int.le_refl _)) (by rw [hal42]; omega) (by rw [hal42]; omega) (fun _ => ?_))
            rw [item_St (by omega) hPi, hPg]
            k_dflt (refine' iadd_str ?_ ?osz2)
            case osz2 =>
              show word.toArray.size + 1 ≤ _
              rw [sizeLine_eq, List.size_toArray]; omega
            intro t42 k42
            rw [st_app]
            iterate 3 (walk_at "go")
            dsimp only [UnrPostW, UnrEndW]
            refine ⟨_, _, _, nw, rfl, by k_asm, by k_asm, ?ooff, ⟨q8 _ (.head _), trivial⟩, rfl, _, _, ⟨⟨_, by walk_at "rdm"⟩, by walk_at "rdm", by walk_at "rdm", by walk_at "rdm", ⟨_, by walk_at "rdm"⟩, by walk_at "rdm", ⟨_, by walk_at "rdm"⟩⟩, ?odr, ?owl, ?otl, ?oal, ?own⟩
            case ooff =>
              intro p hp q hq
              simp only [List.mem_cons, List.not_mem_nil, or_false] at hq
              have := lI p hp
              rcases hq with rfl | rfl
              · exact Nat.ne_of_lt (Nat.lt_succ_of_lt this)
              · exact Nat.ne_of_lt this
            case odr =>
              have := dr.succ hxn
              unfold drawStep at this
              rw [if_neg hB] at this
              exact this
            case owl => rw [List.length_append, List.length_singleton]; omega
            case otl => rw [List.length_append, List.length_singleton]; omega
            case oal =>
              intro c hc
              rcases List.mem_append.mp hc with hc | hc
              · exact hal1 c hc
              · rw [List.mem_singleton.mp hc, List.getD, List.getElem?_eq_getElem (show placeN x word < alphaN.length from hP42)]
                exact List.getElem_mem _
            case own => intro _ e; simp at e
end
end

section
open PySem.Calls
noncomputable def lawSt : Option Stmt := bodyS.find? fun s => match s with | .FunctionDef n .. => n == Str.ofString "law" | _ => false
@[reducible] noncomputable def ndL : { x : Arguments × List Stmt × Scope // ∃ n d r t ts bi ps, lawSt = some (.FunctionDef n x.1 x.2.1 d r t x.2.2 ts bi ps) } := ⟨(_, _, _), _, _, _, _, _, _, _, rfl⟩
@[reducible] noncomputable def lw0 : { x : Stmt // ndL.1.2.1[0]? = some x } := ⟨_, rfl⟩
@[reducible] noncomputable def lw1 : { x : Stmt // ndL.1.2.1[1]? = some x } := ⟨_, rfl⟩
@[reducible] noncomputable def lw2 : { x : Stmt // ndL.1.2.1[2]? = some x } := ⟨_, rfl⟩
@[reducible] noncomputable def lw3 : { x : Stmt // ndL.1.2.1[3]? = some x } := ⟨_, rfl⟩
@[reducible] noncomputable def lw4 : { x : Stmt // ndL.1.2.1[4]? = some x } := ⟨_, rfl⟩
@[reducible] noncomputable def lw5 : { x : Stmt // ndL.1.2.1[5]? = some x } := ⟨_, rfl⟩
@[reducible] noncomputable def lw6 : { x : Stmt // ndL.1.2.1[6]? = some x } := ⟨_, rfl⟩
@[reducible] noncomputable def lw7 : { x : Stmt // ndL.1.2.1[7]? = some x } := ⟨_, rfl⟩
@[reducible] noncomputable def lw8 : { x : Stmt // ndL.1.2.1[8]? = some x } := ⟨_, rfl⟩
@[reducible] noncomputable def lw9 : { x : Stmt // ndL.1.2.1[9]? = some x } := ⟨_, rfl⟩
@[reducible] noncomputable def lw10 : { x : Stmt // ndL.1.2.1[10]? = some x } := ⟨_, rfl⟩
@[reducible] noncomputable def lwF : { x : Expr × Expr × List Stmt // ∃ p, lw8.1 = .For x.1 x.2.1 x.2.2 [] p } := ⟨(_, _, _), _, rfl⟩
@[reducible] noncomputable def lf0 : { x : Stmt // lwF.1.2.2[0]? = some x } := ⟨_, rfl⟩
@[reducible] noncomputable def lf1 : { x : Stmt // lwF.1.2.2[1]? = some x } := ⟨_, rfl⟩
@[reducible] noncomputable def lf2 : { x : Stmt // lwF.1.2.2[2]? = some x } := ⟨_, rfl⟩
@[reducible] noncomputable def lf3 : { x : Stmt // lwF.1.2.2[3]? = some x } := ⟨_, rfl⟩
@[reducible] noncomputable def lf4 : { x : Stmt // lwF.1.2.2[4]? = some x } := ⟨_, rfl⟩
@[reducible] noncomputable def lf5 : { x : Stmt // lwF.1.2.2[5]? = some x } := ⟨_, rfl⟩
@[reducible] noncomputable def lf6 : { x : Stmt // lwF.1.2.2[6]? = some x } := ⟨_, rfl⟩
@[reducible] noncomputable def lf7 : { x : Stmt // lwF.1.2.2[7]? = some x } := ⟨_, rfl⟩
@[reducible] noncomputable def lf8 : { x : Stmt // lwF.1.2.2[8]? = some x } := ⟨_, rfl⟩
@[reducible] noncomputable def lf9 : { x : Stmt // lwF.1.2.2[9]? = some x } := ⟨_, rfl⟩
@[reducible] noncomputable def lf10 : { x : Stmt // lwF.1.2.2[10]? = some x } := ⟨_, rfl⟩
@[reducible] noncomputable def lf11 : { x : Stmt // lwF.1.2.2[11]? = some x } := ⟨_, rfl⟩
@[reducible] noncomputable def lf12 : { x : Stmt // lwF.1.2.2[12]? = some x } := ⟨_, rfl⟩
@[reducible] noncomputable def lf13 : { x : Stmt // lwF.1.2.2[13]? = some x } := ⟨_, rfl⟩
noncomputable abbrev lcl (L : Nat) : List (Str × Addr) := [(Str.ofString "same", L + 1 + 1 + 1 + 1 + 1 + 1 + 1 + 1), (Str.ofString "back", L + 1 + 1 + 1 + 1 + 1 + 1 + 1), (Str.ofString "forth", L + 1 + 1 + 1 + 1 + 1 + 1), (Str.ofString "end", L + 1 + 1 + 1 + 1 + 1), (Str.ofString "known", L + 1 + 1 + 1 + 1), (Str.ofString "row", L + 1 + 1 + 1), (Str.ofString "word", L + 1 + 1), (Str.ofString "alphabet", L + 1)]
theorem lcl_is (L : Nat) : cellsFrom (L + 1) ndL.1.2.2.names [] = lcl L := by rfl
/-- the law's frame -/
noncomputable abbrev LA (dp un : Nat) (gd : Option (List Code)) (L a : Addr) (ccd : Value) : Around := ktrTop dp un gd (Str.ofString "law") ndL.1.2.2 L a ccd (lcl L) []
noncomputable abbrev LE (L a : Addr) (ccd : Value) : Env := envX (Str.ofString "law") ndL.1.2.2 L a ccd (lcl L)
end

section

local macro_rules | `(tactic| walk_at "eval Name") => `(tactic| (k_here; (with_reducible show wpAny _ _ (eval (Expr.Name _ _) (compEnvC _ _ _ _)) _ _ _); k_dflt (first
  | (refine' lcf_free ?N ?c ?m ?d ?_ ?a ?b; (case a => rfl); (case b => rfl); (case N => k_asm); (case c => rfl); (case m => walk_at "tl"); (case d => k_asm); k_whole)
  | (refine' lcf_cell ?N ?c ?m ?d ?_ ?a ?b; (case a => rfl); (case b => rfl); (case N => k_asm); (case c => rfl); (case m => walk_at "tl"); (case d => k_asm); k_whole)
  | refine LCgL.ld_own (by k_asm) (by k_mem) (by assumption) (by assumption) ?_)))

section
open PySem.Calls
open LCg (NsObj lst Off3)
section
variable {w : World} {p : Program} {loose : List Str} {mean : ExcName → Option Value} {mg mb : Str → Option Value}
  {dp un : Nat} {gd : Option (List Code)} {cn : Str} {cs : Scope} {a : Addr} {ccd : Value} {cl : List (Str × Addr)} {outer : List Env} {A₀ : Around} {base h₀ : Heap} {L : Addr} {m : Str → Option Value} {news : List (Addr × Obj)} {s : Shared}
  {Q E : Value → Shared → Prop}

/-- slices that end at e, in the ledger -/
noncomputable def SlsAre (R : List Int) (e : Nat) (nw : List (Addr × Obj)) (ys : List Value) (n : Nat) : Prop :=
  ys.length = n ∧ ∀ j, j < n → ∃ T vs k, ys[j]? = some (.ref T) ∧ (T, W.listOf (List.toArray vs) k) ∈ nw ∧ IntsAre vs (sl R j e)
theorem SlsAre.mono {R : List Int} {e : Nat} {nw nw' : List (Addr × Obj)} {ys : List Value} {n : Nat} (h : SlsAre R e nw ys n) (k : ∀ q ∈ nw, q ∈ nw') : SlsAre R e nw' ys n :=
  ⟨h.1, fun j hj => by obtain ⟨T, vs, kk, a, b, c⟩ := h.2 j hj; exact ⟨T, vs, kk, a, k _ b, c⟩⟩
theorem SlsAre.snoc {R : List Int} {e : Nat} {nw : List (Addr × Obj)} {ys : List Value} {n : Nat} (h : SlsAre R e nw ys n) {T : Addr} {vs : List Value} {k : Nat} (hv : IntsAre vs (sl R n e)) (hm : (T, W.listOf (List.toArray vs) k) ∈ nw) : SlsAre R e nw (ys ++ [.ref T]) (n + 1) := by
  refine ⟨by rw [List.length_append, h.1]; rfl, fun j hj => ?_⟩
  by_cases hjn : j < n
  · obtain ⟨T', vs', k', a, b, c⟩ := h.2 j hjn
    exact ⟨T', vs', k', by rw [List.getElem?_append_left (by rw [h.1]; exact hjn)]; exact a, b, c⟩
  · have : j = n := by omega
    subst this
    exact ⟨T, vs, k, by rw [List.getElem?_append_right (by rw [h.1]; exact Nat.le_refl _), h.1, Nat.sub_self]; rfl, hm, hv⟩
theorem ends_spec {a : Addr} {ccd : Value} {oR oE : Obj} {rA : Addr} {vsR : List Value} {R : List Int} {kR e : Nat} {te : Tok} {Q : Flow → Shared → Prop}
  (B : Below A₀ base [] h₀) (F : Fr h₀ L s.heap m) (X : (KF w.params).In h₀) (N : News h₀ L s.heap news) (T : Top p loose mean mg mb h₀)
  (hR : (L + 1 + 1 + 1, oR) ∈ news) (dR : oR.data = .cell (some (.ref rA))) (hr : (rA, W.listOf (List.toArray vsR) kR) ∈ news) (iR : IntsAre vsR R) (hlR : R.length < 100)
  (hE : (L + 1 + 1 + 1 + 1 + 1, oE) ∈ news) (dE : oE.data = .cell (some (.int (e : Nat) te))) (he : e ≤ R.length)
  (hd : dp + 300 < recursionLimit) (hu : un + 3000 < cLine)
  (ret : ∀ D h' tk' ys k objs, Fr h₀ L h' (fun z => if z = Str.ofString "ends" then some (.ref D) else m z) → News h₀ L h' ((D, W.listOf (List.toArray ys) k) :: (objs ++ news)) → (∀ q ∈ news, q.1 < D) → (∀ q ∈ news, ∀ o ∈ objs, q.1 < o.1) → (∀ o ∈ objs, o.1 ≠ D) → SlsAre R e objs ys (e + 1) → Q .next { s with heap := h', toks := tk' }) :
  wpAny (model PySem.Challenge.rw_rw0085_01.prog w) (LA dp un gd L a ccd) (exec lf0.1 (LE L a ccd)) Q E s := by
  revert X; k_fill; intro X
  dsimp only [lf0]
  with_reducible refine' Assign_X (h₀ := h₀) (L := L) (m := m) ?le ?sw ?clos ?cell ?kind ?names ?ky ?kp ?_ ?hs
  case hs => intro _; rfl
  case le => rfl
  case sw => with_unfolding_all rfl
  case clos => with_unfolding_all rfl
  case cell => decide
  case kind => rfl
  case names => decide
  case ky => rfl
  case kp => rfl
  iterate 10 (walk_at "go")

  rename IsRange _ _ _ _ _ _ _ _ => hrg
  rename News _ _ _ _ => N11
  rename Fr _ _ _ _ => F11
  k_dflt (refine iter_range (n := e + 1) F11 N11 hrg (rsmall (by omega) (by omega) (by omega) (by omega)) (rsize1 (by omega)) ?_)
  intro I oI h12 F12 N12 l12 st12 hfp
  refine ⟨I, oI, _, _, _, _, _, rfl, (src_range (h₀ := h₀) (L := L) (by rfl) 0 1 (e + 1)).W, st12, hfp, F12, N12, fun p hp => Nat.ne_of_lt (l12 p hp), ?_⟩
  intro D C h1 oC m1 tk1 F13 hC13 N13 off13 ne13 hfD hfC st13 l13 l14
  refine inner_W (oI := oI) (ys₀ := []) (news₀ := news) (m := m) rule_one (src_range (by rfl) 0 1 (e + 1)) hfD hfC (by rfl) (by rfl) (fun _ => True) (fun _ _ _ => trivial)
    (fun i ys nw => i ≤ e + 1 ∧ ∃ objs, nw = objs ++ news ∧ (∀ q ∈ news, ∀ o ∈ objs, q.1 < o.1) ∧ (∀ o ∈ objs, o.1 ≠ D) ∧ SlsAre R e objs ys i) (fun _ _ _ _ => trivial) ?hsz F13 ?N13 ?off13 ne13 hC13 trivial st13 ?inv ?turn ?fin
  case hsz =>
    rintro i ys nw ⟨hie, objs, -, -, -, hys, -⟩
    rw [hys, sizeLine_eq]
    omega
  case N13 => exact news_sub N13 (by walk_at "sub")
  case off13 => exact off3_sub off13 (by walk_at "sub")
  case inv => exact ⟨by omega, [], rfl, by simp, by simp, rfl, fun j hj => by omega⟩
  case fin =>
    rintro ys nw oC2 m2 h2 tk2 ⟨-, objs, rfl, hlt, hoD, hys⟩ hC2 - F14 N14 off14
    refine lend hC2 F14 N14 ne13.2.2 off14 ?_
    intro h' tk' F' N'
    exact ret D _ _ ys ys.length objs F' N' (fun q hq => l13 q (by walk_at "tl")) hlt hoD hys
  case turn =>
    rintro i ys nw v oI2 oC2 m2 h2 tk2 E2 hi ⟨hie, objs, rfl, hlt, hoD, hys⟩ ⟨t5, rfl⟩ hC2 hx2 - F14 N14 off14
    refine wpAny_tests_nil ?_
    rw [if_pos rfl]
    obtain ⟨LL, hLL⟩ : ∃ LL, LL = objs ++ news := ⟨_, rfl⟩
    have sub9 : ∀ q ∈ news, q ∈ LL := fun q hq => by rw [hLL]; exact List.mem_append_right _ hq
    have hR9 := sub9 _ hR
    have hE9 := sub9 _ hE
    have hr9 := sub9 _ hr
    rw [← hLL] at N14 off14
    iterate 8 (walk_at "go")
    have hvl : vsR.length = R.length := iR.length
    have esl : (R.drop (0 + (i : Int) * 1).toNat).take (min ((e : Int)).toNat R.length - (0 + (i : Int) * 1).toNat) = sl R i e := by
      unfold sl
      rw [show (0 + (i : Int) * 1).toNat = i by omega, Int.toNat_natCast, Nat.min_eq_left he]
    k_dflt (refine' kmk_slice_ints (ns := R) (vs := vsR) F14 N14 ?zl ?zp ?zq iR ?zm ?zc ?_ ?zs ?zt ?zz; (case zl => exact News.isList (n := kR) (items := vsR.toArray) N14 (by walk_at "tl")); (case zp => kmk_part); (case zq => kmk_part); (case zm => exact kmk_run iR (by omega) (by omega)); (case zc => exact rfl); (case zs => with_unfolding_all rfl); (case zt => kmk_pure); (case zz => exact kmk_sz iR (by rw [sizeLine_eq]; omega)))
    intro T2 ws2 h3 F15 N15 l15 i15 _ _
    rw [esl] at i15
    refine EEnd.intro F15 N15 ((T2, W.listOf (List.toArray ws2) 0) :: LL) (by walk_at "sub") (Off3.of fun q hq => ?_) ⟨by omega, (T2, W.listOf (List.toArray ws2) 0) :: objs, by rw [hLL]; rfl, fun q hq o ho => ?_, fun o ho => ?_, ?_⟩
    · rcases List.mem_cons.mp hq with rfl | hq
      · exact ⟨Nat.ne_of_gt (l15 (I, oI2) (by walk_at "tl")), Nat.ne_of_gt (l15 (C, oC2) (by walk_at "tl")), Nat.ne_of_gt (l15 (D, lst ys) (by walk_at "tl"))⟩
      · exact off14.mem q hq
    · rcases List.mem_cons.mp ho with rfl | ho
      · exact l15 q (.tail _ (.tail _ (.tail _ (sub9 q hq))))
      · exact hlt q hq o ho
    · rcases List.mem_cons.mp ho with rfl | ho
      · exact Nat.ne_of_gt (l15 (D, lst ys) (by walk_at "tl"))
      · exact hoD o ho
    · exact (hys.mono fun q hq => .tail _ hq).snoc i15 (.head _)
end
end

section
open PySem.Calls
open LCg (NsObj lst Off3)
theorem ap_in {I C D : Addr} {oI oC oD : Obj} {led news : List (Addr × Obj)} (off : Off3 I C D (led ++ news)) (ap : Apart led news) : Apart led ((I, oI) :: (C, oC) :: (D, oD) :: news) := by
  intro q hq q' hq'
  have h := off.mem q' (List.mem_append_left _ hq')
  rcases List.mem_cons.mp hq with rfl | hq
  · exact Ne.symm h.1
  · rcases List.mem_cons.mp hq with rfl | hq
    · exact Ne.symm h.2.1
    · rcases List.mem_cons.mp hq with rfl | hq
      · exact Ne.symm h.2.2
      · exact ap q hq q' hq'
theorem ap_out {I C D : Addr} {oI oC oD : Obj} {led led' news : List (Addr × Obj)} (off : Off3 I C D (led ++ news)) (ap : Apart led' ((I, oI) :: (C, oC) :: (D, oD) :: news)) : Apart led' news ∧ Off3 I C D (led' ++ news) := by
  refine ⟨fun q hq => ap q (.tail _ (.tail _ (.tail _ hq))), Off3.of fun q hq => ?_⟩
  rcases List.mem_append.mp hq with hq | hq
  · exact ⟨fun e => ap (I, oI) (.head _) q hq e.symm, fun e => ap (C, oC) (.tail _ (.head _)) q hq e.symm, fun e => ap (D, oD) (.tail _ (.tail _ (.head _))) q hq e.symm⟩
  · exact off.mem q (List.mem_append_right _ hq)
theorem mv_in {I C D : Addr} {oI oC oD : Obj} {led news : List (Addr × Obj)} : ∀ p ∈ led ++ ((I, oI) :: (C, oC) :: (D, oD) :: news), p ∈ (I, oI) :: (C, oC) :: (D, oD) :: (led ++ news) := by
  intro p hp
  simp only [List.mem_append, List.mem_cons] at hp ⊢
  rcases hp with h | h | h | h | h <;> simp [h]
theorem mv_out {I C D : Addr} {oI oC oD : Obj} {led news : List (Addr × Obj)} : ∀ p ∈ (I, oI) :: (C, oC) :: (D, oD) :: (led ++ news), p ∈ led ++ ((I, oI) :: (C, oC) :: (D, oD) :: news) := by
  intro p hp
  simp only [List.mem_append, List.mem_cons] at hp ⊢
  rcases hp with h | h | h | h | h <;> simp [h]
theorem map_range_snoc {α : Type} (f : Nat → α) (n : Nat) : (List.range (n + 1)).map f = (List.range n).map f ++ [f n] := by
  rw [List.range_succ, List.map_append]; rfl
theorem pick_upto (ys : List Value) (e : Nat) : slicePick ys.toArray none (some (e : Int)) none = (ys.take e).toArray := by
  have h : sliceBounds none (some (e : Int)) none ys.toArray.size = (((0 : Nat) : Int), ((min e ys.toArray.size : Nat) : Int), 1) := by
    simp only [sliceBounds, Option.getD_none, show (1 : Int) > 0 by decide, if_true, if_neg (show ¬ ((e : Int) < 0) by omega)]
    congr 1
    congr 1
    omega
  rw [kmk_pick_nat _ h]
  show ((ys.drop 0).take (min e ys.toArray.size - 0)).toArray = _
  rw [List.drop_zero, Nat.sub_zero, List.size_toArray, kmk_take_min]
theorem SlsAre.take {R : List Int} {e : Nat} {nw : List (Addr × Obj)} {ys : List Value} {n k : Nat} (h : SlsAre R e nw ys n) (hk : k ≤ n) : SlsAre R e nw (ys.take k) k := by
  refine ⟨by rw [List.length_take, h.1]; omega, fun j hj => ?_⟩
  obtain ⟨T, vs, kk, a, b, c⟩ := h.2 j (by omega)
  exact ⟨T, vs, kk, by rw [List.getElem?_take, if_pos hj]; exact a, b, c⟩
theorem oct_len {ds : List Int} (h : ds ≠ []) : (octL ds).length = ds.length := by
  have : 0 < ds.length := List.length_pos_iff.mpr h
  unfold octL
  simp only [List.length_cons, List.length_drop, List.length_append, List.length_map, List.length_dropLast]
  omega
theorem ap_cons {led news : List (Addr × Obj)} {D : Addr} {o : Obj} (ap : Apart led news) (h : ∀ q ∈ led, q.1 < D) : Apart led ((D, o) :: news) := by
  intro q hq q' hq'
  rcases List.mem_cons.mp hq with rfl | hq
  · exact Nat.ne_of_gt (h q' hq')
  · exact ap q hq q' hq'
theorem mv1 {D : Addr} {o : Obj} {led news : List (Addr × Obj)} : ∀ p ∈ led ++ (D, o) :: news, p ∈ (D, o) :: (led ++ news) := by
  intro p hp
  simp only [List.mem_append, List.mem_cons] at hp ⊢
  rcases hp with h | h | h <;> simp [h]
@[reducible] noncomputable def lc3 : { x : Expr // ∃ l o b e p q, lf3.1 = .If (.Compare l o [x] p) b e q } := ⟨_, _, _, _, _, _, _, rfl⟩
@[reducible] noncomputable def lc4 : { x : Expr // ∃ t p, lf4.1 = .Assign t x p } := ⟨_, _, _, rfl⟩
@[reducible] noncomputable def lc8 : { x : Expr // ∃ t p, lf8.1 = .Assign t x p } := ⟨_, _, _, rfl⟩
@[reducible] noncomputable def lc6 : { x : Expr // ∃ t p, lw6.1 = .Assign t x p } := ⟨_, _, _, rfl⟩
end

section
open PySem.Calls
set_option maxHeartbeats 2000000
open Builtin.Str (strSliceIndices)
/-- what stands from i up to k -/
noncomputable def slN (l : List Nat) (i k : Nat) : List Nat := (l.drop i).take (k - i)
theorem slN_len {l : List Nat} {i k : Nat} (h2 : k ≤ l.length) : (slN l i k).length = k - i := by unfold slN; rw [List.length_take, List.length_drop]; omega
theorem St_len (l : List Nat) : (St l).length = l.length := by show l.toArray.size = _; rw [List.size_toArray]
theorem idx_run {n i k : Nat} (h1 : i ≤ k) (h2 : k ≤ n) : strSliceIndices (some (i : Int)) (some (k : Int)) 1 n = (List.range (k - i)).map (i + ·) := by
  unfold strSliceIndices
  simp only [show (1 : Int) > 0 by decide, if_true, if_neg (show ¬ ((i : Int) < 0) by omega), if_neg (show ¬ ((k : Int) < 0) by omega)]
  rw [Int.min_eq_left (Int.ofNat_le.mpr (Nat.le_trans h1 h2)), Int.min_eq_left (Int.ofNat_le.mpr h2), Int.max_eq_right (Int.natCast_nonneg i), Int.max_eq_right (Int.natCast_nonneg k)]
  unfold sliceRange
  simp only [show (1 : Int) > 0 by decide, if_true]
  have e : (if (i : Int) < k then ((k : Int) - i + 1 - 1) / 1 else 0).toNat = k - i := by
    split
    · rw [Int.ediv_one]; omega
    · omega
  rw [e]
  apply List.map_congr_left
  intro x _
  omega
theorem filt_run (l : List Nat) {i k : Nat} (h1 : i ≤ k) (h2 : k ≤ l.length) : ((List.range (k - i)).map (i + ·)).filterMap (l.toArray[·]?) = slN l i k := by
  have := pick_run l.toArray i (k - i)
  rw [this]
  rfl
theorem St_slice {l : List Nat} {i k : Nat} (h1 : i ≤ k) (h2 : k ≤ l.length) : Txt.slice (St l) (some (i : Int)) (some (k : Int)) = St (slN l i k) := by
  unfold Txt.slice
  rw [St_len, idx_run h1 h2]
  split
  · rename_i h
    simp only [List.length_map, List.length_range, beq_self_eq_true, Bool.true_and, beq_iff_eq] at h
    have : i = 0 ∧ k = l.length := by omega
    rw [this.1, this.2]
    unfold slN
    simp
  · show (⟨(List.filterMap (l.toArray[·]?) _).toArray⟩ : Str) = _
    rw [filt_run l h1 h2]
theorem idx_upto {n k : Nat} (h2 : k ≤ n) : strSliceIndices none (some (k : Int)) 1 n = strSliceIndices (some ((0 : Nat) : Int)) (some (k : Int)) 1 n := by
  unfold strSliceIndices
  simp only [show (1 : Int) > 0 by decide, if_true]
  congr 1
theorem St_upto {l : List Nat} {k : Nat} (h2 : k ≤ l.length) : Txt.slice (St l) none (some (k : Int)) = St (l.take k) := by
  have := St_slice (l := l) (i := 0) (k := k) (Nat.zero_le _) h2
  rw [show slN l 0 k = l.take k by unfold slN; simp] at this
  rw [← this]
  unfold Txt.slice
  rw [St_len, idx_upto h2]
theorem St_rev (l : List Nat) (u : Tok) : Txt.sliceBy (St l) none none (-1, u) = St l.reverse := by
  have hi : strSliceIndices none none (-1) l.length = (List.range l.length).reverse := by
    unfold strSliceIndices
    simp only [show ¬ ((-1 : Int) > 0) by decide, if_false]
    rw [krv_sliceRange, krv_range]
  have hi2 : slicePicked (St l) none none (some (-1, u)) = (List.range l.length).reverse := by rw [← hi]; rfl
  unfold Txt.sliceBy
  have e1 : ((Option.map (fun x => x.fst) (some ((-1 : Int), u))).getD 1 == 1 && (slicePicked (St l) none none (some (-1, u))).length == (St l).length) = false := rfl
  rw [if_neg (by rw [e1]; decide), hi2]
  show (⟨((List.range l.length).reverse.filterMap (l.toArray[·]?)).toArray⟩ : Str) = _
  have := krv_all l.toArray
  rw [List.filterMap_reverse]
  rw [List.size_toArray] at this
  rw [this]
theorem St_inj {a b : List Nat} (h : St a = St b) : a = b := by
  have := congrArg Str.cps h
  simpa using this
theorem St_beq (a b : List Nat) : (St a == St b) = decide (a = b) := by
  rw [Bool.eq_iff_iff, beq_iff_eq, decide_eq_true_iff]
  exact ⟨St_inj, fun h => by rw [h]⟩
theorem St_in (x y : List Nat) : Txt.contains (St x) (St y) = true ↔ ∃ i, i + y.length ≤ x.length ∧ slN x i (i + y.length) = y := by
  unfold Txt.contains
  rw [StrLaws.found_iff]
  simp only [St_len]
  refine exists_congr fun i => and_congr_right fun h => ?_
  unfold Builtin.Str.subAt
  rw [St_len, beq_iff_eq]
  show x.toArray.extract i (i + y.length) = y.toArray ↔ _
  rw [← Array.toList_inj, Array.toList_extract]
  show List.extract x i (i + y.length) = y ↔ _
  unfold slN
  rw [List.extract_eq_take_drop]
end

section
open PySem.Calls
open LCg (NsObj lst Off3)
section
variable {w : World} {p : Program} {loose : List Str} {mean : ExcName → Option Value} {mg mb : Str → Option Value}
  {dp un : Nat} {gd : Option (List Code)} {cn : Str} {cs : Scope} {a : Addr} {ccd : Value} {cl : List (Str × Addr)} {outer : List Env} {A₀ : Around} {base h₀ : Heap} {L : Addr} {m : Str → Option Value} {news : List (Addr × Obj)} {s : Shared}
  {Q E : Value → Shared → Prop}

theorem tape_spec {a : Addr} {ccd : Value} {eA : Addr} {ys : List Value} {R : List Int} {kE e : Nat} {oE : Obj} {te : Tok} {Q : Flow → Shared → Prop}
  (B : Below A₀ base [] h₀) (F : Fr h₀ L s.heap m) (X : (KF w.params).In h₀) (N : News h₀ L s.heap news) (T : Top p loose mean mg mb h₀)
  (hEn : (L + 1 + 1 + 1 + 1 + 1, oE) ∈ news) (dE : oE.data = .cell (some (.int (e : Nat) te))) (me : m (Str.ofString "ends") = some (.ref eA)) (hE : (eA, W.listOf (List.toArray ys) kE) ∈ news) (hys : SlsAre R e news ys (e + 1)) (he : e ≤ 20) (heR : e ≤ R.length)
  (hlR : R.length ≤ 20)
  (hd : dp + 300 < recursionLimit) (hu : un + 3000 < cLine)
  (ret : ∀ D h' tk' ws k, (∀ q ∈ news, q.1 < D) → Fr h₀ L h' (fun z => if z = Str.ofString "tape" then some (.ref D) else m z) → News h₀ L h' ((D, W.listOf (List.toArray ws) k) :: news) → IntsAre ws ((List.range e).flatMap fun j => octL (sl R j e)) → Q .next { s with heap := h', toks := tk' }) :
  wpAny (model PySem.Challenge.rw_rw0085_01.prog w) (LA dp un gd L a ccd) (exec lf1.1 (LE L a ccd)) Q E s := by
  revert X; k_fill; intro X
  dsimp only [lf1]
  have hyl : ys.length = e + 1 := hys.1
  with_reducible refine' Assign_X (h₀ := h₀) (L := L) (m := m) ?le ?sw ?clos ?cell ?kind ?names ?ky ?kp ?_ ?hs
  case hs => intro _; rfl
  case le => rfl
  case sw => with_unfolding_all rfl
  case clos => with_unfolding_all rfl
  case cell => decide
  case kind => rfl
  case names => decide
  case ky => rfl
  case kp => rfl
  iterate 1 (walk_at "go")
  refine nameX_L F me ?_
  iterate 5 (walk_at "go")
  k_dflt (refine' kmk_slice (its := ys.toArray) F N ?zl ?zp ?zq ?_ ?zs ?zt ?zz; (case zl => exact News.isList (n := kE) (items := ys.toArray) N hE); (case zp => kmk_part); (case zq => kmk_part); (case zs => with_unfolding_all rfl); (case zt => kmk_pure); (case zz => (rw [List.size_toArray, sizeLine_eq, hyl]; omega)))
  intro DS h8 F8 N8 l8
  rw [pick_upto] at N8
  obtain ⟨NN, hNN⟩ : ∃ NN, NN = (DS, W.listOf (List.toArray (ys.take e)) 0) :: news := ⟨_, rfl⟩
  have N9 : News h₀ L h8 NN := by rw [hNN]; exact N8
  have hE0 : (DS, W.listOf (List.toArray (ys.take e)) 0) ∈ NN := by rw [hNN]; exact .head _
  have sub0 : ∀ q ∈ news, q ∈ NN := fun q hq => by rw [hNN]; exact .tail _ hq
  have hys0 : SlsAre R e NN (ys.take e) e := (hys.mono sub0).take (by omega)
  have hyl0 : (ys.take e).length = e := hys0.1
  clear N8
  k_dflt (refine' iter_list F8 N9 (its := (ys.take e).toArray) (.inr ⟨_, hE0, rfl, _, rfl⟩) ?_)
  intro I oI h12 F12 N12 l12 hne12 st12 hfp
  refine ⟨I, oI, _, _, _, _, _, rfl, (src_list (h₀ := h₀) (L := L) (by rfl) hne12).W, st12, hfp, F12, N12, fun p hp => Nat.ne_of_lt (l12 p hp), ?_⟩
  intro D C h1 oC m1 tk1 F13 hC13 N13 off13 ne13 hfD hfC st13 l13 l14
  refine outer_W (oI := oI) (ys₀ := []) (news₀ := NN) (m := m) (src_list (its := (ys.take e).toArray) (by rfl) hne12) hfC (by rfl) (by rfl)
    (fun i zs nw => NN = nw ∧ i ≤ e ∧ IntsAre zs ((List.range i).flatMap fun j => octL (sl R j e))) ?hS F13 ?N13 ?off13 ne13 hC13 st13 ?inv ?turn ?fin
  case hS => rintro i zs nw ⟨rfl, -⟩; exact .inr ⟨_, hE0, rfl, _, rfl⟩
  case N13 => exact N13
  case off13 => exact off13
  case inv => exact ⟨rfl, by omega, .nil⟩
  case fin =>
    rintro zs nw oC2 m2 h2 tk2 ⟨rfl, -, hzs⟩ hC2 F14 N14 off14
    refine lend hC2 F14 N14 ne13.2.2 off14 ?_
    intro h' tk' F' N'
    rw [List.size_toArray, hyl0] at hzs
    refine ret D _ _ zs zs.length (fun q hq => l13 q (.tail _ (sub0 q hq))) F' (news_sub N' fun q hq => ?_) hzs
    rcases List.mem_cons.mp hq with rfl | hq
    · exact .head _
    · exact .tail _ (sub0 q hq)
  case turn =>
    rintro i zs nw v oI2 oC2 m2 h2 tk2 E2 hi ⟨rfl, hie, hzs⟩ hv hC2 hx2 F14 N14 off14
    have hi' : i < e := by rw [List.size_toArray, hyl0] at hi; exact hi
    obtain ⟨T1, vs1, k1, e1, e2, e3⟩ := hys0.2 i hi'
    have hv' : v = .ref T1 := by
      have : (ys.take e)[i]? = some v := by rw [← hv]; simp
      rw [e1] at this
      exact (Option.some.inj this).symm
    subst hv'
    have hsl : (sl R i e).length = e - i := by unfold sl; rw [List.length_take, List.length_drop]; omega
    iterate 7 (walk_at "go")
    refine ⟨by k_in, ?_⟩
    have eo : octL (sl R i e) ≠ [] := by unfold octL; simp
    k_dflt (refine' oct_spec (news := (I, oI2) :: (C, oC2) :: (D, lst zs) :: NN) ?dB ?dF ?dX ?dN ?dT ?dk (.tail _ (.tail _ (.tail _ e2))) e3 ?dl ?dp ?dd ?du ?_; (case dB => k_asm); (case dF => k_asm); (case dX => k_asm); (case dN => k_asm); (case dT => k_asm); (case dk => rfl); (case dl => omega); (case dp => omega); (case dd => first | exact dlt hd rfl | exact dlt2 hd rfl | exact dlt3 hd rfl | ((try simp only [depth_deeper]); (try dsimp only [ktrTop]); omega)); (case du => first | exact dlt hu rfl | exact dlt2 hu rfl | exact dlt3 hu rfl | ((try simp only [units_deeper]); (try dsimp only [ktrTop]); omega)))
    intro tA h15 k15 wsO F15 N15 l15 iO
    k_unfold
    try dsimp only
    k_dflt (refine' iter_list F15 N15 (its := wsO.toArray) (.inr ⟨_, .head _, rfl, _, rfl⟩) ?_)
    intro J oJ h16 F16 N16 l16 ne16 st16 hfp16
    have hoL : wsO.length = (octL (sl R i e)).length := iO.length
    have hol2 : (octL (sl R i e)).length ≤ 22 := by
      rw [oct_len fun h => by rw [h] at hsl; simp at hsl; omega, hsl]
      omega
    have ne2 : (@Ne Nat J C) ∧ (@Ne Nat J D) ∧ (@Ne Nat C D) := ⟨Nat.ne_of_gt (l16 (C, oC2) (by walk_at "tl")), Nat.ne_of_gt (l16 (D, lst zs) (by walk_at "tl")), ne13.2.2⟩
    have off2 : Off3 J C D ((I, oI2) :: (tA, W.listOf (List.toArray wsO) 0) :: NN) := Off3.of fun p hp => by
      rcases List.mem_cons.mp hp with rfl | hp
      · exact ⟨Nat.ne_of_lt (l16 (I, oI2) (by walk_at "tl")), ne13.1, ne13.2.1⟩
      · rcases List.mem_cons.mp hp with rfl | hp
        · exact ⟨Nat.ne_of_lt (l16 _ (by walk_at "tl")), Nat.ne_of_gt (l15 (C, oC2) (by walk_at "tl")), Nat.ne_of_gt (l15 (D, lst zs) (by walk_at "tl"))⟩
        · exact ⟨Nat.ne_of_lt (l16 _ (List.Mem.tail _ (List.Mem.tail _ (List.Mem.tail _ (List.Mem.tail _ hp))))), (off14.mem p hp).2⟩
    have Z2 := fun (A : Around) (hA : A.handled = none) => src_list (prog := PySem.Challenge.rw_rw0085_01.prog) (w := w) (A := A) (h₀ := h₀) (L := L) (I := J) (ax := tA) (its := wsO.toArray) hA ne16
    refine' start_two (I := J) ?lp (Walks.self (Z2 _ (by rfl)).W 0 _ _ _ st16 ?lp)
    refine' inner_W (prog := PySem.Challenge.rw_rw0085_01.prog) (w := w) (oI := oJ) (ys₀ := zs) (news₀ := (I, oI2) :: (tA, W.listOf (List.toArray wsO) 0) :: NN) (m := m)
      ?rule ?Z3 ?fD ?fC ?k1 ?k2 (fun _ => True) (fun _ _ _ => trivial)
      (fun j ys' nw => (I, oI2) :: (tA, W.listOf (List.toArray wsO) 0) :: NN = nw ∧ IntsAre ys' (((List.range i).flatMap fun j => octL (sl R j e)) ++ (octL (sl R i e)).take j)) ?hS2 ?hsz F16 ?N16 off2 ne2 hC2 trivial ?st3 ?inv2 ?turn2 ?fin2
    case rule => exact rule_two (fun _ => rfl)
    case Z3 => exact Z2 _ rfl
    case st3 => exact st16
    case k1 => rfl
    case k2 => rfl
    case fD =>
      intro hm
      rcases List.mem_cons.mp hm with e | hm
      · exact ne2.2.1 e.symm
      · exact Nat.ne_of_lt (l15 (D, lst zs) (by walk_at "tl")) (List.mem_singleton.mp hm)
    case fC =>
      intro hm
      rcases List.mem_cons.mp hm with e | hm
      · exact ne2.1 e.symm
      · exact Nat.ne_of_lt (l15 (C, oC2) (by walk_at "tl")) (List.mem_singleton.mp hm)
    case hS2 => rintro j ys' nw ⟨rfl, -⟩; exact .inr ⟨_, .tail _ (.head _), rfl, _, rfl⟩
    case hsz =>
      rintro j ys' nw ⟨-, hys'⟩
      have h1 : ys'.length ≤ zs.length + 22 := by
        rw [hys'.length, hzs.length, List.length_append]
        have := List.length_take_le' j (octL (sl R i e))
        omega
      have h2 : zs.length ≤ 22 * e := by
        rw [hzs.length]
        have : ∀ k, k ≤ e → ((List.range k).flatMap fun j => octL (sl R j e)).length ≤ 22 * k := fun k => by
          induction k with
          | zero => intro _; simp
          | succ k ih =>
            intro hk
            rw [List.range_succ, List.flatMap_append, List.length_append]
            have h3 := ih (by omega)
            have h4 : ([k].flatMap fun j => octL (sl R j e)).length ≤ 22 := by
              simp only [List.flatMap_cons, List.flatMap_nil, List.append_nil]
              have h5 : (sl R k e).length = e - k := by unfold sl; rw [List.length_take, List.length_drop]; omega
              rw [oct_len fun h => by rw [h] at h5; simp at h5; omega, h5]
              omega
            omega
        have := this i hie
        omega
      rw [sizeLine_eq]
      omega
    case N16 => exact news_sub N16 (by walk_at "sub")
    case inv2 => exact ⟨rfl, by simpa using hzs⟩
    case turn2 =>
      rintro j ys' nw v oI3 oC3 m3 h3 tk3 E3 hj ⟨rfl, hys'⟩ hv3 hC3 hx3 - F17 N17 off17
      refine wpAny_tests_nil ?_
      rw [if_pos rfl]
      obtain ⟨d, td, rfl, hd3⟩ : ∃ d td, v = .int d td ∧ (octL (sl R i e))[j]? = some d := by
        obtain ⟨n, t, e1, e2⟩ := iO.at j v (by simpa using hv3)
        exact ⟨n, t, e1, e2⟩
      iterate 1 (walk_at "go")
      refine EEnd.intro F17 N17 _ (fun _ h => h) off17 ⟨rfl, ?_⟩
      rw [List.take_add_one, hd3, ← List.append_assoc]
      exact hys'.append (.cons _ _ .nil)
    case fin2 =>
      rintro ys' nw oC3 m3 h3 tk3 ⟨rfl, hys'⟩ hC3 - F17 N17 off17
      refine ⟨h3, _, oC3, m3, ys', NN, rfl, F17, hC3, news_sub N17 (by walk_at "sub"), off14, rfl, by omega, ?_⟩
      rw [List.size_toArray, hoL, List.take_length] at hys'
      rw [List.range_succ, List.flatMap_append]
      simpa using hys'
end
end

section
open PySem.Calls
open LCg (NsObj lst Off3)
section
variable {w : World} {p : Program} {loose : List Str} {mean : ExcName → Option Value} {mg mb : Str → Option Value}
  {dp un : Nat} {gd : Option (List Code)} {cn : Str} {cs : Scope} {a : Addr} {ccd : Value} {cl : List (Str × Addr)} {outer : List Env} {A₀ : Around} {base h₀ : Heap} {L : Addr} {m : Str → Option Value} {news : List (Addr × Obj)} {s : Shared}
  {Q E : Value → Shared → Prop}

theorem f3_spec {a : Addr} {ccd : Value} {eA : Addr} {ys : List Value} {R : List Int} {kE e : Nat} {oE : Obj} {te : Tok} {led : List (Addr × Obj)}
  (B : Below A₀ base [] h₀) (F : Fr h₀ L s.heap m) (X : (KF w.params).In h₀) (htb : TbOk 30 29 4 qI led) (N : News h₀ L s.heap (led ++ news)) (T : Top p loose mean mg mb h₀)
  (C9 : CodeHd h₀ 34 30) (hap : Apart led news)
  (hEn : (L + 1 + 1 + 1 + 1 + 1, oE) ∈ news) (dE : oE.data = .cell (some (.int (e : Nat) te))) (me : m (Str.ofString "ends") = some (.ref eA)) (hE : (eA, W.listOf (List.toArray ys) kE) ∈ news) (hys : SlsAre R e news ys (e + 1)) (he : e < 100)
  (hlR : R.length < 100) (hB : ∀ j lo hi, (vD 6 (sl (sl R j e).reverse lo hi)).natAbs < 2 ^ 64)
  (hd : dp + 300 < recursionLimit) (hu : un + 3000 < cLine)
  (ret : ∀ D h' tk' ws k led', TbOk 30 29 4 qI led' → Apart led' news → (∀ q ∈ led', q.1 ≠ D) → (∀ q ∈ news, q.1 < D) → Fr h₀ L h' m → News h₀ L h' (led' ++ (D, W.listOf (List.toArray ws) k) :: news) → IntsAre ws ((List.range e).map fun j => vD 6 (sl R j e).reverse) → Q (.ref D) { s with heap := h', toks := tk' }) :
  wpAny (model PySem.Challenge.rw_rw0085_01.prog w) (LA dp un gd L a ccd) (eval lc3.1 (LE L a ccd)) Q E s := by
  revert X; k_fill; intro X
  dsimp only [lc3]
  have hyl : ys.length = e + 1 := hys.1
  with_reducible refine' ListComp_X (h₀ := h₀) (L := L) (m := m) ?clos ?cell ?kind ?names ?_ ?hs
  case hs => intro _; rfl
  case clos => with_unfolding_all rfl
  case cell => decide
  case kind => rfl
  case names => decide
  iterate 1 (walk_at "go")
  refine nameX_L F me ?_
  have hE9 : (L + 1 + 1 + 1 + 1 + 1, oE) ∈ led ++ news := List.mem_append_right _ hEn
  iterate 5 (walk_at "go")
  k_dflt (refine' kmk_slice (its := ys.toArray) F N ?zl ?zp ?zq ?_ ?zs ?zt ?zz; (case zl => exact News.isList (n := kE) (items := ys.toArray) N (List.mem_append_right _ hE)); (case zp => kmk_part); (case zq => kmk_part); (case zs => with_unfolding_all rfl); (case zt => kmk_pure); (case zz => (rw [List.size_toArray, sizeLine_eq, hyl]; omega)))
  intro DS h8 F8 N8 l8
  rw [pick_upto] at N8
  obtain ⟨NN, hNN⟩ : ∃ NN, NN = (DS, W.listOf (List.toArray (ys.take e)) 0) :: news := ⟨_, rfl⟩
  have N9 : News h₀ L h8 (led ++ NN) := by rw [hNN]; exact news_sub N8 mv1
  have hap0 : Apart led NN := by rw [hNN]; exact ap_cons hap fun q hq => l8 q (List.mem_append_left _ hq)
  have hE0 : (DS, W.listOf (List.toArray (ys.take e)) 0) ∈ NN := by rw [hNN]; exact .head _
  have sub0 : ∀ q ∈ news, q ∈ NN := fun q hq => by rw [hNN]; exact .tail _ hq
  have hys0 : SlsAre R e NN (ys.take e) e := (hys.mono sub0).take (by omega)
  have hyl0 : (ys.take e).length = e := hys0.1
  clear N8
  k_dflt (refine' iter_list F8 N9 (its := (ys.take e).toArray) (.inr ⟨_, List.mem_append_right _ hE0, rfl, _, rfl⟩) ?_)
  intro I oI h12 F12 N12 l12 hne12 st12 hfp
  refine ⟨I, oI, _, _, _, _, _, rfl, (src_list (h₀ := h₀) (L := L) (by rfl) hne12).W, st12, hfp, F12, N12, fun p hp => Nat.ne_of_lt (l12 p hp), ?_⟩
  intro D C h1 oC m1 tk1 F13 hC13 N13 off13 ne13 hfD hfC st13 l13 l14
  refine inner_W (oI := oI) (ys₀ := []) (news₀ := led ++ NN) (m := m) rule_one (src_list (its := (ys.take e).toArray) (by rfl) hne12) hfD hfC (by rfl) (by rfl) (fun _ => True) (fun _ _ _ => trivial)
    (fun i zs nw => i ≤ e ∧ ∃ led, nw = led ++ NN ∧ TbOk 30 29 4 qI led ∧ Apart led NN ∧ IntsAre zs ((List.range i).map fun j => vD 6 (sl R j e).reverse)) ?hS ?hsz F13 ?N13 ?off13 ne13 hC13 trivial st13 ?inv ?turn ?fin
  case hS => rintro i zs nw ⟨-, led, rfl, -⟩; exact .inr ⟨_, List.mem_append_right _ hE0, rfl, _, rfl⟩
  case hsz =>
    rintro i zs nw ⟨hie, led, -, -, -, hzs⟩
    rw [hzs.length, List.length_map, List.length_range, sizeLine_eq]
    omega
  case N13 => exact N13
  case off13 => exact off13
  case inv => exact ⟨by omega, led, rfl, htb, hap0, .nil⟩
  case fin =>
    rintro zs nw oC2 m2 h2 tk2 ⟨-, led2, rfl, htb2, hap2, hzs⟩ hC2 - F14 N14 off14
    refine lend hC2 F14 N14 ne13.2.2 off14 ?_
    intro h' tk' F' N'
    rw [List.size_toArray, hyl0] at hzs
    refine ret D _ _ zs zs.length led2 htb2 (fun q hq => hap2 q (sub0 q hq)) (fun q hq => (off14.mem q (List.mem_append_left _ hq)).2.2) (fun q hq => l13 q (.tail _ (List.mem_append_right _ (sub0 q hq)))) F' (news_sub N' fun q hq => ?_) hzs
    rcases List.mem_append.mp hq with hq | hq
    · exact .tail _ (List.mem_append_left _ hq)
    · rcases List.mem_cons.mp hq with rfl | hq
      · exact .head _
      · exact .tail _ (List.mem_append_right _ (sub0 q hq))
  case turn =>
    rintro i zs nw v oI2 oC2 m2 h2 tk2 E2 hi ⟨hie, led2, rfl, htb2, hap2, hzs⟩ hv hC2 hx2 - F14 N14 off14
    refine wpAny_tests_nil ?_
    rw [if_pos rfl]
    have hi' : i < e := by rw [List.size_toArray, hyl0] at hi; exact hi
    obtain ⟨T1, vs1, k1, e1, e2, e3⟩ := hys0.2 i hi'
    have hv' : v = .ref T1 := by
      have : (ys.take e)[i]? = some v := by rw [← hv]; simp
      rw [e1] at this
      exact (Option.some.inj this).symm
    subst hv'
    have hap3 := ap_in (oI := oI2) (oC := oC2) (oD := lst zs) off14 hap2
    have N15 := news_sub N14 (mv_in (I := I) (C := C) (D := D) (oI := oI2) (oC := oC2) (oD := lst zs) (led := led2) (news := NN))
    have hsl : (sl R i e).length < 100 := by unfold sl; rw [List.length_take, List.length_drop]; omega
    have hvl1 : vs1.length = (sl R i e).length := e3.length
    iterate 14 (walk_at "go")
    k_dflt (refine' krv_ints (ns := sl R i e) (vs := vs1) F14 N15 ?vl ?vk e3 ?_ ?vs ?vt ?vz; (case vl => exact News.isList (n := k1) (items := vs1.toArray) N15 (List.mem_append_right _ (.tail _ (.tail _ (.tail _ e2))))); (case vk => exact IsPart.int _ _); (case vs => with_unfolding_all rfl); (case vt => kmk_pure); (case vz => (rw [List.size_toArray, sizeLine_eq, hvl1]; omega)))
    intro TR wsR hR FR NR lR iR eR
    iterate 3 (walk_at "go")
    refine ⟨by k_in, ?_⟩
    try dsimp only [List.nil_append, List.cons_append]
    have hapR : Apart led2 ((TR, W.listOf (List.toArray wsR) 0) :: (I, oI2) :: (C, oC2) :: (D, lst zs) :: NN) := ap_cons hap3 fun q hq => lR q (List.mem_append_left _ hq)
    k_dflt (refine' d2i_spec (led := led2) (news := (TR, W.listOf (List.toArray wsR) 0) :: (I, oI2) :: (C, oC2) :: (D, lst zs) :: NN) ?dB ?dF ?dX htb2 ?dN ?dT ?dk C9 (.head _) hapR iR ?dl (hB i) (by decide) ?dd ?du ?_; (case dB => k_asm); (case dF => k_asm); (case dX => k_asm); (case dN => exact news_sub NR mv1); (case dT => k_asm); (case dk => rfl); (case dl => (rw [List.length_reverse]; exact hsl)); (case dd => first | exact dlt hd rfl | exact dlt2 hd rfl | exact dlt3 hd rfl | ((try simp only [depth_deeper]); (try dsimp only [ktrTop]); omega)); (case du => first | exact dlt hu rfl | exact dlt2 hu rfl | exact dlt3 hu rfl | ((try simp only [units_deeper]); (try dsimp only [ktrTop]); omega)))
    intro t5 h5 k5 led5 tb5 ap5 F5 N5
    have ap5' : Apart led5 ((I, oI2) :: (C, oC2) :: (D, lst zs) :: NN) := fun q hq => ap5 q (.tail _ hq)
    obtain ⟨ap6, off6⟩ := ap_out off14 ap5'
    have N6 : News h₀ L h5 (led5 ++ ((I, oI2) :: (C, oC2) :: (D, lst zs) :: NN)) := news_sub N5 fun q hq => by
      rcases List.mem_append.mp hq with hq | hq
      · exact List.mem_append_left _ hq
      · exact List.mem_append_right _ (.tail _ hq)
    refine EEnd.intro F5 N6 (led5 ++ NN) mv_out off6 ⟨by omega, led5, rfl, tb5, ap6, ?_⟩
    rw [map_range_snoc]
    exact hzs.append (.cons _ _ .nil)
end
end

section
open PySem.Calls
open LCg (NsObj lst Off3)
section
variable {w : World} {p : Program} {loose : List Str} {mean : ExcName → Option Value} {mg mb : Str → Option Value}
  {dp un : Nat} {gd : Option (List Code)} {cn : Str} {cs : Scope} {a : Addr} {ccd : Value} {cl : List (Str × Addr)} {outer : List Env} {A₀ : Around} {base h₀ : Heap} {L : Addr} {m : Str → Option Value} {news : List (Addr × Obj)} {s : Shared}
  {Q E : Value → Shared → Prop}

theorem back_spec {a : Addr} {ccd : Value} {eA : Addr} {ys : List Value} {R : List Int} {kE e : Nat} {led : List (Addr × Obj)}
  (B : Below A₀ base [] h₀) (F : Fr h₀ L s.heap m) (X : (KF w.params).In h₀) (htb : TbOk 30 29 4 qI led) (N : News h₀ L s.heap (led ++ news)) (T : Top p loose mean mg mb h₀)
  (C9 : CodeHd h₀ 34 30) (hap : Apart led news)
  (me : m (Str.ofString "ends") = some (.ref eA)) (hE : (eA, W.listOf (List.toArray ys) kE) ∈ news) (hys : SlsAre R e news ys (e + 1)) (he : e < 100)
  (hlR : R.length < 100) (hB : ∀ j lo hi, (vD 6 (sl (sl R j e) lo hi)).natAbs < 2 ^ 64)
  (hd : dp + 300 < recursionLimit) (hu : un + 3000 < cLine)
  (ret : ∀ D h' tk' ws k led', TbOk 30 29 4 qI led' → Apart led' news → (∀ q ∈ led', q.1 ≠ D) → (∀ q ∈ news, q.1 < D) → Fr h₀ L h' m → News h₀ L h' (led' ++ (D, W.listOf (List.toArray ws) k) :: news) → IntsAre ws ((List.range (e + 1)).map fun j => vD 6 (sl R j e)) → Q (.ref D) { s with heap := h', toks := tk' }) :
  wpAny (model PySem.Challenge.rw_rw0085_01.prog w) (LA dp un gd L a ccd) (eval lc4.1 (LE L a ccd)) Q E s := by
  revert X; k_fill; intro X
  dsimp only [lc4]
  have hyl : ys.length = e + 1 := hys.1
  with_reducible refine' ListComp_X (h₀ := h₀) (L := L) (m := m) ?clos ?cell ?kind ?names ?_ ?hs
  case hs => intro _; rfl
  case clos => with_unfolding_all rfl
  case cell => decide
  case kind => rfl
  case names => decide
  refine nameX_L F me ?_
  k_dflt (refine' iter_list F N (its := ys.toArray) (.inr ⟨_, List.mem_append_right _ hE, rfl, _, rfl⟩) ?_)
  intro I oI h12 F12 N12 l12 hne12 st12 hfp
  refine ⟨I, oI, _, _, _, _, _, rfl, (src_list (h₀ := h₀) (L := L) (by rfl) hne12).W, st12, hfp, F12, N12, fun p hp => Nat.ne_of_lt (l12 p hp), ?_⟩
  intro D C h1 oC m1 tk1 F13 hC13 N13 off13 ne13 hfD hfC st13 l13 l14
  refine inner_W (oI := oI) (ys₀ := []) (news₀ := led ++ news) (m := m) rule_one (src_list (its := ys.toArray) (by rfl) hne12) hfD hfC (by rfl) (by rfl) (fun _ => True) (fun _ _ _ => trivial)
    (fun i zs nw => i ≤ e + 1 ∧ ∃ led, nw = led ++ news ∧ TbOk 30 29 4 qI led ∧ Apart led news ∧ IntsAre zs ((List.range i).map fun j => vD 6 (sl R j e))) ?hS ?hsz F13 ?N13 ?off13 ne13 hC13 trivial st13 ?inv ?turn ?fin
  case hS => rintro i zs nw ⟨-, led, rfl, -⟩; exact .inr ⟨_, List.mem_append_right _ hE, rfl, _, rfl⟩
  case hsz =>
    rintro i zs nw ⟨hie, led, -, -, -, hzs⟩
    rw [hzs.length, List.length_map, List.length_range, sizeLine_eq]
    omega
  case N13 => exact N13
  case off13 => exact off13
  case inv => exact ⟨by omega, led, rfl, htb, hap, .nil⟩
  case fin =>
    rintro zs nw oC2 m2 h2 tk2 ⟨-, led2, rfl, htb2, hap2, hzs⟩ hC2 - F14 N14 off14
    refine lend hC2 F14 N14 ne13.2.2 off14 ?_
    intro h' tk' F' N'
    rw [List.size_toArray, hyl] at hzs
    refine ret D _ _ zs zs.length led2 htb2 hap2 (fun q hq => (off14.mem q (List.mem_append_left _ hq)).2.2) (fun q hq => l13 q (.tail _ (List.mem_append_right _ hq))) F' (news_sub N' fun q hq => ?_) hzs
    rcases List.mem_append.mp hq with hq | hq
    · exact .tail _ (List.mem_append_left _ hq)
    · rcases List.mem_cons.mp hq with rfl | hq
      · exact .head _
      · exact .tail _ (List.mem_append_right _ hq)
  case turn =>
    rintro i zs nw v oI2 oC2 m2 h2 tk2 E2 hi ⟨hie, led2, rfl, htb2, hap2, hzs⟩ hv hC2 hx2 - F14 N14 off14
    refine wpAny_tests_nil ?_
    rw [if_pos rfl]
    have hi' : i < e + 1 := by rw [List.size_toArray, hyl] at hi; exact hi
    obtain ⟨T1, vs1, k1, e1, e2, e3⟩ := hys.2 i hi'
    have hv' : v = .ref T1 := by
      have : ys[i]? = some v := by simpa using hv
      rw [e1] at this
      exact (Option.some.inj this).symm
    subst hv'
    have hap3 := ap_in (oI := oI2) (oC := oC2) (oD := lst zs) off14 hap2
    have N15 := news_sub N14 (mv_in (I := I) (C := C) (D := D) (oI := oI2) (oC := oC2) (oD := lst zs) (led := led2) (news := news))
    have hsl : (sl R i e).length < 100 := by unfold sl; rw [List.length_take, List.length_drop]; omega
    iterate 9 (walk_at "go")
    refine ⟨by k_in, ?_⟩
    try dsimp only [List.nil_append, List.cons_append]
    k_dflt (refine' d2i_spec (led := led2) (news := (I, oI2) :: (C, oC2) :: (D, lst zs) :: news) ?dB ?dF ?dX htb2 ?dN ?dT ?dk C9 (.tail _ (.tail _ (.tail _ e2))) hap3 e3 hsl (hB i) (by decide) ?dd ?du ?_; (case dB => k_asm); (case dF => k_asm); (case dX => k_asm); (case dN => exact N15); (case dT => k_asm); (case dk => rfl); (case dd => first | exact dlt hd rfl | exact dlt2 hd rfl | exact dlt3 hd rfl | ((try simp only [depth_deeper]); (try dsimp only [ktrTop]); omega)); (case du => first | exact dlt hu rfl | exact dlt2 hu rfl | exact dlt3 hu rfl | ((try simp only [units_deeper]); (try dsimp only [ktrTop]); omega)))
    intro t5 h5 k5 led5 tb5 ap5 F5 N5
    obtain ⟨ap6, off6⟩ := ap_out off14 ap5
    refine EEnd.intro F5 N5 (led5 ++ news) mv_out off6 ⟨by omega, led5, rfl, tb5, ap6, ?_⟩
    rw [map_range_snoc]
    exact hzs.append (.cons _ _ .nil)
end
end

section
open PySem.Calls
open LCg (NsObj lst Off3)
section
variable {w : World} {p : Program} {loose : List Str} {mean : ExcName → Option Value} {mg mb : Str → Option Value}
  {dp un : Nat} {gd : Option (List Code)} {cn : Str} {cs : Scope} {a : Addr} {ccd : Value} {cl : List (Str × Addr)} {outer : List Env} {A₀ : Around} {base h₀ : Heap} {L : Addr} {m : Str → Option Value} {news : List (Addr × Obj)} {s : Shared}
  {Q E : Value → Shared → Prop}

theorem same_spec {a : Addr} {ccd : Value} {fA bA : Addr} {vf vb : List Value} {fs bs : List Int} {kf kb e : Nat} {oF oB oE : Obj} {te : Tok}
  (B : Below A₀ base [] h₀) (F : Fr h₀ L s.heap m) (X : (KF w.params).In h₀) (N : News h₀ L s.heap news) (T : Top p loose mean mg mb h₀)
  (hEn : (L + 1 + 1 + 1 + 1 + 1, oE) ∈ news) (dE : oE.data = .cell (some (.int (e : Nat) te)))
  (hFn : (L + 1 + 1 + 1 + 1 + 1 + 1, oF) ∈ news) (dF : oF.data = .cell (some (.ref fA))) (hfl : (fA, W.listOf (List.toArray vf) kf) ∈ news) (hfi : IntsAre vf fs) (hfe : e ≤ fs.length)
  (hBn : (L + 1 + 1 + 1 + 1 + 1 + 1 + 1, oB) ∈ news) (dB : oB.data = .cell (some (.ref bA))) (hbl : (bA, W.listOf (List.toArray vb) kb) ∈ news) (hbi : IntsAre vb bs) (hbe : e ≤ bs.length)
  (he : e ≤ 20)
  (hd : dp + 300 < recursionLimit) (hu : un + 3000 < cLine)
  (ret : ∀ D h' tk' k, (∀ q ∈ news, q.1 < D) → Fr h₀ L h' m → News h₀ L h' ((D, W.listOf (List.toArray ((List.range e).map fun k => Value.bool (fs.getD k 0 == bs.getD k 0))) k) :: news) → Q (.ref D) { s with heap := h', toks := tk' }) :
  wpAny (model PySem.Challenge.rw_rw0085_01.prog w) (LA dp un gd L a ccd) (eval lc8.1 (LE L a ccd)) Q E s := by
  revert X; k_fill; intro X
  dsimp only [lc8]
  with_reducible refine' ListComp_X (h₀ := h₀) (L := L) (m := m) ?clos ?cell ?kind ?names ?_ ?hs
  case hs => intro _; rfl
  case clos => with_unfolding_all rfl
  case cell => decide
  case kind => rfl
  case names => decide
  iterate 7 (walk_at "go")
  rename IsRange _ _ _ _ _ _ _ _ => hrg
  rename News _ _ _ _ => N11
  rename Fr _ _ _ _ => F11
  k_dflt (refine iter_range (n := e) F11 N11 hrg (rsmall (by omega) (by omega) (by omega) (by omega)) (rsize1 (by omega)) ?_)
  intro I oI h12 F12 N12 l12 st12 hfp
  refine ⟨I, oI, _, _, _, _, _, rfl, (src_range (h₀ := h₀) (L := L) (by rfl) 0 1 e).W, st12, hfp, F12, N12, fun p hp => Nat.ne_of_lt (l12 p hp), ?_⟩
  intro D C h1 oC m1 tk1 F13 hC13 N13 off13 ne13 hfD hfC st13 l13 l14
  refine inner_W (oI := oI) (ys₀ := []) (news₀ := news) (m := m) rule_one (src_range (by rfl) 0 1 e) hfD hfC (by rfl) (by rfl) (fun _ => True) (fun _ _ _ => trivial)
    (fun i ys nw => i ≤ e ∧ news = nw ∧ ys = (List.range i).map fun k => Value.bool (fs.getD k 0 == bs.getD k 0)) (fun _ _ _ _ => trivial) ?hsz F13 ?N13 ?off13 ne13 hC13 trivial st13 ?inv ?turn ?fin
  case hsz =>
    rintro i ys nw ⟨hie, -, rfl⟩
    rw [List.length_map, List.length_range, sizeLine_eq]
    omega
  case N13 => exact news_sub N13 (by walk_at "sub")
  case off13 => exact off3_sub off13 (by walk_at "sub")
  case inv => exact ⟨by omega, rfl, rfl⟩
  case fin =>
    rintro ys nw oC2 m2 h2 tk2 ⟨-, rfl, rfl⟩ hC2 - F14 N14 off14
    refine lend hC2 F14 N14 ne13.2.2 off14 ?_
    intro h' tk' F' N'
    exact ret D _ _ _ (fun q hq => l13 q (by walk_at "tl")) F' N'
  case turn =>
    rintro i ys nw v oI2 oC2 m2 h2 tk2 E2 hi ⟨hie, rfl, rfl⟩ ⟨t5, rfl⟩ hC2 hx2 - F14 N14 off14
    refine wpAny_tests_nil ?_
    rw [if_pos rfl]
    have hi0 : (0 + (i : Int) * 1) = (i : Int) := by omega
    rw [hi0] at hx2
    obtain ⟨nf, tf, ef1, ef2⟩ := hfi.at i (vf[i]'(by rw [hfi.length]; omega)) (List.getElem?_eq_getElem _)
    obtain ⟨nb, tb, eb1, eb2⟩ := hbi.at i (vb[i]'(by rw [hbi.length]; omega)) (List.getElem?_eq_getElem _)
    have ef3 : vf[i]? = some (.int nf tf) := by rw [← ef1]; exact List.getElem?_eq_getElem _
    have eb3 : vb[i]? = some (.int nb tb) := by rw [← eb1]; exact List.getElem?_eq_getElem _
    iterate 4 (walk_at "go")
    refine item_at (its := vf.toArray) (v := .int nf tf) (News.isList (n := kf) N14 (by walk_at "tl")) (by omega) (by omega) (by simpa using ef3) ?_
    iterate 3 (walk_at "go")
    refine item_at (its := vb.toArray) (v := .int nb tb) (News.isList (n := kb) N14 (by walk_at "tl")) (by omega) (by omega) (by simpa using eb3) ?_
    iterate 1 (walk_at "go")
    refine EEnd.intro F14 N14 _ (fun _ h => h) off14 ⟨by omega, rfl, ?_⟩
    rw [map_range_snoc, List.getD_eq_getElem?_getD, List.getD_eq_getElem?_getD, ef2, eb2]
    rfl
end
end

section
open PySem.Calls
open LCg (NsObj lst Off3)
section
variable {w : World} {p : Program} {loose : List Str} {mean : ExcName → Option Value} {mg mb : Str → Option Value}
  {dp un : Nat} {gd : Option (List Code)} {cn : Str} {cs : Scope} {a : Addr} {ccd : Value} {cl : List (Str × Addr)} {outer : List Env} {A₀ : Around} {base h₀ : Heap} {L : Addr} {m : Str → Option Value} {news : List (Addr × Obj)} {s : Shared}
  {Q E : Value → Shared → Prop}

/-- what of the row is new -/
noncomputable def frK (fs bs known : List Int) (e : Nat) : List Nat := (List.range e).filter fun k => (fs.getD k 0 == bs.getD k 0) && !(known.any (· == fs.getD k 0))
theorem frK_snoc (fs bs known : List Int) (i : Nat) : frK fs bs known (i + 1) = frK fs bs known i ++ (if (fs.getD i 0 == bs.getD i 0) && !(known.any (· == fs.getD i 0)) then [i] else []) := by
  unfold frK
  rw [List.range_succ, List.filter_append]
  congr 1
  rw [List.filter_cons]
  rfl
theorem fresh_spec {a : Addr} {ccd : Value} {fA sA kA : Addr} {vf vk : List Value} {fs bs known : List Int} {kf ks kk e : Nat} {oF oS oE oK : Obj} {te : Tok} {Q : Flow → Shared → Prop}
  (B : Below A₀ base [] h₀) (F : Fr h₀ L s.heap m) (X : (KF w.params).In h₀) (N : News h₀ L s.heap news) (T : Top p loose mean mg mb h₀)
  (hEn : (L + 1 + 1 + 1 + 1 + 1, oE) ∈ news) (dE : oE.data = .cell (some (.int (e : Nat) te)))
  (hFn : (L + 1 + 1 + 1 + 1 + 1 + 1, oF) ∈ news) (dF : oF.data = .cell (some (.ref fA))) (hfl : (fA, W.listOf (List.toArray vf) kf) ∈ news) (hfi : IntsAre vf fs) (hfe : e ≤ fs.length)
  (hSn : (L + 1 + 1 + 1 + 1 + 1 + 1 + 1 + 1, oS) ∈ news) (dS : oS.data = .cell (some (.ref sA))) (hsl : (sA, W.listOf (List.toArray ((List.range e).map fun k => Value.bool (fs.getD k 0 == bs.getD k 0))) ks) ∈ news)
  (hKn : (L + 1 + 1 + 1 + 1, oK) ∈ news) (dK : oK.data = .cell (some (.ref kA))) (hkl : (kA, W.listOf (List.toArray vk) kk) ∈ news) (hki : IntsAre vk known)
  (he : e ≤ 20)
  (hd : dp + 300 < recursionLimit) (hu : un + 3000 < cLine)
  (ret : ∀ D h' tk' ws k, (∀ q ∈ news, q.1 < D) → Fr h₀ L h' (fun z => if z = Str.ofString "fresh" then some (.ref D) else m z) → News h₀ L h' ((D, W.listOf (List.toArray ws) k) :: news) → IntsAre ws ((frK fs bs known e).map fun k => fs.getD k 0) → Q .next { s with heap := h', toks := tk' }) :
  wpAny (model PySem.Challenge.rw_rw0085_01.prog w) (LA dp un gd L a ccd) (exec lf10.1 (LE L a ccd)) Q E s := by
  revert X; k_fill; intro X
  dsimp only [lf10]
  with_reducible refine' Assign_X (h₀ := h₀) (L := L) (m := m) ?le ?sw ?clos ?cell ?kind ?names ?ky ?kp ?_ ?hs
  case hs => intro _; rfl
  case le => rfl
  case sw => with_unfolding_all rfl
  case clos => with_unfolding_all rfl
  case cell => decide
  case kind => rfl
  case names => decide
  case ky => rfl
  case kp => rfl
  iterate 7 (walk_at "go")
  rename IsRange _ _ _ _ _ _ _ _ => hrg
  rename News _ _ _ _ => N11
  rename Fr _ _ _ _ => F11
  k_dflt (refine iter_range (n := e) F11 N11 hrg (rsmall (by omega) (by omega) (by omega) (by omega)) (rsize1 (by omega)) ?_)
  intro I oI h12 F12 N12 l12 st12 hfp
  refine ⟨I, oI, _, _, _, _, _, rfl, (src_range (h₀ := h₀) (L := L) (by rfl) 0 1 e).W, st12, hfp, F12, N12, fun p hp => Nat.ne_of_lt (l12 p hp), ?_⟩
  intro D C h1 oC m1 tk1 F13 hC13 N13 off13 ne13 hfD hfC st13 l13 l14
  refine inner_W (oI := oI) (ys₀ := []) (news₀ := news) (m := m) rule_one (src_range (by rfl) 0 1 e) hfD hfC (by rfl) (by rfl) (fun _ => True) (fun _ _ _ => trivial)
    (fun i ys nw => i ≤ e ∧ news = nw ∧ IntsAre ys ((frK fs bs known i).map fun k => fs.getD k 0)) (fun _ _ _ _ => trivial) ?hsz F13 ?N13 ?off13 ne13 hC13 trivial st13 ?inv ?turn ?fin
  case hsz =>
    rintro i ys nw ⟨hie, -, hys⟩
    rw [hys.length, List.length_map, sizeLine_eq]
    have := List.length_filter_le (fun k => (fs.getD k 0 == bs.getD k 0) && !(known.any (· == fs.getD k 0))) (List.range i)
    rw [List.length_range] at this
    unfold frK
    omega
  case N13 => exact news_sub N13 (by walk_at "sub")
  case off13 => exact off3_sub off13 (by walk_at "sub")
  case inv => exact ⟨by omega, rfl, .nil⟩
  case fin =>
    rintro ys nw oC2 m2 h2 tk2 ⟨-, rfl, hys⟩ hC2 - F14 N14 off14
    refine lend hC2 F14 N14 ne13.2.2 off14 ?_
    intro h' tk' F' N'
    exact ret D _ _ _ _ (fun q hq => l13 q (by walk_at "tl")) F' N' hys
  case turn =>
    rintro i ys nw v oI2 oC2 m2 h2 tk2 E2 hi ⟨hie, rfl, hys⟩ ⟨t5, rfl⟩ hC2 hx2 - F14 N14 off14
    refine wpAny_tests_one ?_
    have hi0 : (0 + (i : Int) * 1) = (i : Int) := by omega
    rw [hi0] at hx2
    obtain ⟨nf, tf, ef1, ef2⟩ := hfi.at i (vf[i]'(by rw [hfi.length]; omega)) (List.getElem?_eq_getElem _)
    have ef3 : vf[i]? = some (.int nf tf) := by rw [← ef1]; exact List.getElem?_eq_getElem _
    have egf : fs.getD i 0 = nf := by rw [List.getD_eq_getElem?_getD, ef2]; rfl
    have es3 : ((List.range e).map fun k => Value.bool (fs.getD k 0 == bs.getD k 0))[i]? = some (.bool (nf == bs.getD i 0)) := by
      rw [List.getElem?_map, List.getElem?_range hi, ← egf]; rfl
    have hfrs := frK_snoc fs bs known i
    rw [egf] at hfrs
    iterate 5 (walk_at "go")
    refine item_at (its := ((List.range e).map fun k => Value.bool (fs.getD k 0 == bs.getD k 0)).toArray) (v := .bool (nf == bs.getD i 0)) (News.isList (n := ks) N14 (by walk_at "tl")) (by omega) (by omega) (by simpa using es3) ?_
    cases hb : (nf == bs.getD i 0) with
    | false =>
      rw [hb, Bool.false_and] at hfrs
      iterate 3 (walk_at "go")
      refine EEnd.intro F14 N14 _ (fun _ h => h) off14 ⟨by omega, rfl, ?_⟩
      rw [hfrs]
      simpa using hys
    | true =>
      rw [hb, Bool.true_and] at hfrs
      iterate 7 (walk_at "go")
      refine item_at (its := vf.toArray) (v := .int nf tf) (News.isList (n := kf) N14 (by walk_at "tl")) (by omega) (by omega) (by simpa using ef3) ?_
      iterate 1 (walk_at "go")
      k_dflt (refine' notin_list_ints (vs := vk) (ns := known) ?il hki ?_; (case il => exact News.isList (n := kk) (items := vk.toArray) N14 (by walk_at "tl")))
      cases hin : known.any (· == nf) with
      | true =>
        iterate 3 (walk_at "go")
        refine EEnd.intro F14 N14 _ (fun _ h => h) off14 ⟨by omega, rfl, ?_⟩
        rw [hfrs, hin]
        simpa using hys
      | false =>
        iterate 2 (walk_at "go")
        iterate 5 (walk_at "go")
        refine item_at (its := vf.toArray) (v := .int nf tf) (News.isList (n := kf) N14 (by walk_at "tl")) (by omega) (by omega) (by simpa using ef3) ?_
        refine EEnd.intro F14 N14 _ (fun _ h => h) off14 ⟨by omega, rfl, ?_⟩
        rw [hfrs, hin, List.map_append]
        refine hys.append ?_
        rw [← egf]
        exact .cons _ _ .nil
end
end

section
open PySem.Calls
open LCg (NsObj lst Off3)
section
variable {w : World} {p : Program} {loose : List Str} {mean : ExcName → Option Value} {mg mb : Str → Option Value}
  {dp un : Nat} {gd : Option (List Code)} {cn : Str} {cs : Scope} {a : Addr} {ccd : Value} {cl : List (Str × Addr)} {outer : List Env} {A₀ : Around} {base h₀ : Heap} {L : Addr} {m : Str → Option Value} {news : List (Addr × Obj)} {s : Shared}
  {Q E : Value → Shared → Prop}

noncomputable def keptL (text : List Nat) : List Nat := text.filter fun c => !hidL.contains c
theorem kept_spec {a : Addr} {ccd : Value} {text : List Nat} {tt : Tok} {Q : Flow → Shared → Prop}
  (B : Below A₀ base [] h₀) (F : Fr h₀ L s.heap m) (X : (KF w.params).In h₀) (N : News h₀ L s.heap news) (T : Top p loose mean mg mb h₀)
  (me : m (Str.ofString "text") = some (.str (St text) tt)) (he : text.length ≤ 100)
  (hd : dp + 300 < recursionLimit) (hu : un + 3000 < cLine)
  (ret : ∀ D h' tk' ws k, (∀ q ∈ news, q.1 < D) → Fr h₀ L h' (fun z => if z = Str.ofString "kept" then some (.ref D) else m z) → News h₀ L h' ((D, W.listOf (List.toArray ws) k) :: news) → StrsAre ws ((keptL text).map fun c => (⟨#[c]⟩ : Str)) → Q .next { s with heap := h', toks := tk' }) :
  wpAny (model PySem.Challenge.rw_rw0085_01.prog w) (LA dp un gd L a ccd) (exec lw3.1 (LE L a ccd)) Q E s := by
  revert X; k_fill; intro X
  dsimp only [lw3]
  with_reducible refine' Assign_X (h₀ := h₀) (L := L) (m := m) ?le ?sw ?clos ?cell ?kind ?names ?ky ?kp ?_ ?hs
  case hs => intro _; rfl
  case le => rfl
  case sw => with_unfolding_all rfl
  case clos => with_unfolding_all rfl
  case cell => decide
  case kind => rfl
  case names => decide
  case ky => rfl
  case kp => rfl
  refine nameX_L F me ?_
  have htz : (St text).cps.size = text.length := by show text.toArray.size = _; rw [List.size_toArray]
  k_dflt (refine' iter_str F N (by rfl) ?_)
  intro I oI h12 St12 F12 N12 l12 Z12 st12 hfp
  refine ⟨I, oI, _, _, _, _, _, rfl, Z12.W, st12, hfp, F12, N12, fun p hp => Nat.ne_of_lt (l12 p hp), ?_⟩
  intro D C h1 oC m1 tk1 F13 hC13 N13 off13 ne13 hfD hfC st13 l13 l14
  refine inner_W (oI := oI) (ys₀ := []) (news₀ := news) (m := m) rule_one Z12 hfD hfC (by rfl) (by rfl) (fun _ => True) (fun _ _ _ => trivial)
    (fun i ys nw => i ≤ text.length ∧ news = nw ∧ StrsAre ys ((keptL (text.take i)).map fun c => (⟨#[c]⟩ : Str))) (fun _ _ _ _ => trivial) ?hsz F13 ?N13 ?off13 ne13 hC13 trivial st13 ?inv ?turn ?fin
  case hsz =>
    rintro i ys nw ⟨hie, -, hys⟩
    rw [strsLen hys, List.length_map, sizeLine_eq]
    have := List.length_filter_le (fun c => !hidL.contains c) (text.take i)
    have h2 := List.length_take_le i text
    unfold keptL
    omega
  case N13 => exact news_sub N13 (by walk_at "sub")
  case off13 => exact off3_sub off13 (by walk_at "sub")
  case inv => exact ⟨by omega, rfl, by rw [List.take_zero]; exact .nil⟩
  case fin =>
    rintro ys nw oC2 m2 h2 tk2 ⟨-, rfl, hys⟩ hC2 - F14 N14 off14
    refine lend hC2 F14 N14 ne13.2.2 off14 ?_
    intro h' tk' F' N'
    rw [htz, List.take_length] at hys
    exact ret D _ _ _ _ (fun q hq => l13 q (by walk_at "tl")) F' N' hys
  case turn =>
    rintro i ys nw v oI2 oC2 m2 h2 tk2 E2 hi ⟨hie, rfl, hys⟩ hv hC2 hx2 - F14 N14 off14
    rw [htz] at hi
    obtain ⟨c, tc, rfl, hc⟩ : ∃ c tc, v = .str ⟨#[c]⟩ tc ∧ text[i]? = some c := by
      obtain ⟨c, u, h1, h2⟩ := hv
      exact ⟨c, u, h2, by rw [← h1]; simp⟩
    have hks : keptL (text.take (i + 1)) = keptL (text.take i) ++ (if !hidL.contains c then [c] else []) := by
      unfold keptL
      rw [List.take_add_one, hc, List.filter_append]
      congr 1
      show List.filter _ [c] = _
      rw [List.filter_cons]
      rfl
    refine wpAny_tests_one ?_
    iterate 9 (walk_at "go")
    k_dflt (refine' b1_spec (news := (I, oI2) :: (C, oC2) :: (D, lst ys) :: news) ?dB ?dF ?dX ?dN ?dT ?dk ?dd ?du ?_; (case dB => k_asm); (case dF => k_asm); (case dX => k_asm); (case dN => k_asm); (case dT => k_asm); (case dk => rfl); (case dd => first | exact dlt hd rfl | exact dlt2 hd rfl | exact dlt3 hd rfl | ((try simp only [depth_deeper]); (try dsimp only [ktrTop]); omega)); (case du => first | exact dlt hu rfl | exact dlt2 hu rfl | exact dlt3 hu rfl | ((try simp only [units_deeper]); (try dsimp only [ktrTop]); omega)))
    intro h15 k15 F15 N15
    clear F14 N14
    cases hb : hidL.contains c with
    | true =>
      rw [hb] at hks
      iterate 3 (walk_at "go")
      refine ite_neg (by decide) ?_
      refine EEnd.intro F15 N15 _ (fun _ h => h) off14 ⟨by omega, rfl, ?_⟩
      rw [hks]
      simpa using hys
    | false =>
      rw [hb] at hks
      iterate 3 (walk_at "go")
      refine ite_pos (by decide) ?_
      iterate 1 (walk_at "go")
      refine EEnd.intro F15 N15 _ (fun _ h => h) off14 ⟨by omega, rfl, ?_⟩
      rw [hks, List.map_append]
      exact strsApp hys (.cons _ _ .nil)
end
end

section
open PySem.Calls
open LCg (NsObj lst Off3)
section
variable {w : World} {p : Program} {loose : List Str} {mean : ExcName → Option Value} {mg mb : Str → Option Value}
  {dp un : Nat} {gd : Option (List Code)} {cn : Str} {cs : Scope} {a : Addr} {ccd : Value} {cl : List (Str × Addr)} {outer : List Env} {A₀ : Around} {base h₀ : Heap} {L : Addr} {m : Str → Option Value} {news : List (Addr × Obj)} {s : Shared}
  {Q E : Value → Shared → Prop}

@[reducible] noncomputable def lc2 : { x : Expr // ∃ f v u l o r b e q, lw4.1 = .If (.Compare (.Call f [x] v u) l o r) b e q } := ⟨_, _, _, _, _, _, _, _, _, _, rfl⟩
theorem b3s_spec {a : Addr} {ccd : Value} {kA : Addr} {cs : List Nat} {vk : List Value} {kk : Nat}
  (B : Below A₀ base [] h₀) (F : Fr h₀ L s.heap m) (X : (KF w.params).In h₀) (N : News h₀ L s.heap news) (T : Top p loose mean mg mb h₀)
  (me : m (Str.ofString "kept") = some (.ref kA)) (hkl : (kA, W.listOf (List.toArray vk) kk) ∈ news) (hki : StrsAre vk (cs.map fun c => (⟨#[c]⟩ : Str))) (he : cs.length ≤ 100)
  (hd : dp + 300 < recursionLimit) (hu : un + 3000 < cLine)
  (ret : ∀ D h' tk' ws k, (∀ q ∈ news, q.1 < D) → Fr h₀ L h' m → News h₀ L h' ((D, W.listOf (List.toArray ws) k) :: news) → StrsAre ws (cs.map b3R) → Q (.ref D) { s with heap := h', toks := tk' }) :
  wpAny (model PySem.Challenge.rw_rw0085_01.prog w) (LA dp un gd L a ccd) (eval lc2.1 (LE L a ccd)) Q E s := by
  revert X; k_fill; intro X
  dsimp only [lc2]
  have hvl : vk.length = cs.length := by rw [strsLen hki, List.length_map]
  with_reducible refine' ListComp_X (h₀ := h₀) (L := L) (m := m) ?clos ?cell ?kind ?names ?_ ?hs
  case hs => intro _; rfl
  case clos => with_unfolding_all rfl
  case cell => decide
  case kind => rfl
  case names => decide
  refine nameX_L F me ?_
  k_dflt (refine' iter_list F N (its := vk.toArray) (.inr ⟨_, hkl, rfl, _, rfl⟩) ?_)
  intro I oI h12 F12 N12 l12 hne12 st12 hfp
  refine ⟨I, oI, _, _, _, _, _, rfl, (src_list (h₀ := h₀) (L := L) (by rfl) hne12).W, st12, hfp, F12, N12, fun p hp => Nat.ne_of_lt (l12 p hp), ?_⟩
  intro D C h1 oC m1 tk1 F13 hC13 N13 off13 ne13 hfD hfC st13 l13 l14
  refine inner_W (oI := oI) (ys₀ := []) (news₀ := news) (m := m) rule_one (src_list (its := vk.toArray) (by rfl) hne12) hfD hfC (by rfl) (by rfl) (fun _ => True) (fun _ _ _ => trivial)
    (fun i zs nw => i ≤ cs.length ∧ news = nw ∧ StrsAre zs ((cs.take i).map b3R)) ?hS ?hsz F13 ?N13 ?off13 ne13 hC13 trivial st13 ?inv ?turn ?fin
  case hS => rintro i zs nw ⟨-, rfl, -⟩; exact .inr ⟨_, hkl, rfl, _, rfl⟩
  case hsz =>
    rintro i zs nw ⟨hie, -, hzs⟩
    rw [strsLen hzs, List.length_map, sizeLine_eq]
    have h2 := List.length_take_le i cs
    omega
  case N13 => exact N13
  case off13 => exact off13
  case inv => exact ⟨by omega, rfl, by rw [List.take_zero]; exact .nil⟩
  case fin =>
    rintro zs nw oC2 m2 h2 tk2 ⟨-, rfl, hzs⟩ hC2 - F14 N14 off14
    refine lend hC2 F14 N14 ne13.2.2 off14 ?_
    intro h' tk' F' N'
    rw [List.size_toArray, hvl, List.take_length] at hzs
    exact ret D _ _ zs zs.length (fun q hq => l13 q (by walk_at "tl")) F' N' hzs
  case turn =>
    rintro i zs nw v oI2 oC2 m2 h2 tk2 E2 hi ⟨hie, rfl, hzs⟩ hv hC2 hx2 - F14 N14 off14
    refine wpAny_tests_nil ?_
    rw [if_pos rfl]
    have hi' : i < cs.length := by rw [List.size_toArray, hvl] at hi; exact hi
    obtain ⟨tc, x, rfl, hx⟩ := strs_at hki i v (by simpa using hv)
    obtain ⟨c, hc, rfl⟩ : ∃ c, cs[i]? = some c ∧ x = ⟨#[c]⟩ := by
      rw [List.getElem?_map] at hx
      cases hq : cs[i]? with
      | none => rw [hq] at hx; cases hx
      | some c => rw [hq] at hx; exact ⟨c, rfl, (Option.some.inj hx).symm⟩
    iterate 7 (walk_at "go")
    refine ⟨by k_in, ?_⟩
    try dsimp only [List.nil_append, List.cons_append]
    k_dflt (refine' b3_spec (news := (I, oI2) :: (C, oC2) :: (D, lst zs) :: news) ?dB ?dF ?dX ?dN ?dT ?dk ?dd ?du ?_; (case dB => k_asm); (case dF => k_asm); (case dX => k_asm); (case dN => k_asm); (case dT => k_asm); (case dk => rfl); (case dd => first | exact dlt hd rfl | exact dlt2 hd rfl | exact dlt3 hd rfl | ((try simp only [depth_deeper]); (try dsimp only [ktrTop]); omega)); (case du => first | exact dlt hu rfl | exact dlt2 hu rfl | exact dlt3 hu rfl | ((try simp only [units_deeper]); (try dsimp only [ktrTop]); omega)))
    intro t15 h15 k15 F15 N15
    refine EEnd.intro F15 N15 _ (fun _ h => h) off14 ⟨by omega, rfl, ?_⟩
    rw [List.take_add_one, hc, List.map_append]
    exact strsApp hzs (.cons _ _ .nil)
end
end

section
open PySem.Calls
open LCg (NsObj lst Off3)
section
variable {w : World} {p : Program} {loose : List Str} {mean : ExcName → Option Value} {mg mb : Str → Option Value}
  {dp un : Nat} {gd : Option (List Code)} {cn : Str} {cs : Scope} {a : Addr} {ccd : Value} {cl : List (Str × Addr)} {outer : List Env} {A₀ : Around} {base h₀ : Heap} {L : Addr} {m : Str → Option Value} {news : List (Addr × Obj)} {s : Shared}
  {Q E : Value → Shared → Prop}

noncomputable def plI (c : Nat) : Int := (alphaN.idxOf c : Nat)
theorem places_spec {a : Addr} {ccd : Value} {word : List Nat} {tw ta : Tok} {oW oA : Obj} {Q : Flow → Shared → Prop}
  (B : Below A₀ base [] h₀) (F : Fr h₀ L s.heap m) (X : (KF w.params).In h₀) (N : News h₀ L s.heap news) (T : Top p loose mean mg mb h₀)
  (hW : (L + 1 + 1, oW) ∈ news) (dW : oW.data = .cell (some (.str (St word) tw))) (hA : (L + 1, oA) ∈ news) (dA : oA.data = .cell (some (.str (St alphaN) ta)))
  (hal : ∀ c ∈ word, c ∈ alphaN) (he : word.length ≤ 100)
  (hd : dp + 300 < recursionLimit) (hu : un + 3000 < cLine)
  (ret : ∀ D h' tk' ws k, (∀ q ∈ news, q.1 < D) → Fr h₀ L h' (fun z => if z = Str.ofString "places" then some (.ref D) else m z) → News h₀ L h' ((D, W.listOf (List.toArray ws) k) :: news) → IntsAre ws (word.map plI) → Q .next { s with heap := h', toks := tk' }) :
  wpAny (model PySem.Challenge.rw_rw0085_01.prog w) (LA dp un gd L a ccd) (exec lw5.1 (LE L a ccd)) Q E s := by
  revert X; k_fill; intro X
  dsimp only [lw5]
  with_reducible refine' Assign_X (h₀ := h₀) (L := L) (m := m) ?le ?sw ?clos ?cell ?kind ?names ?ky ?kp ?_ ?hs
  case hs => intro _; rfl
  case le => rfl
  case sw => with_unfolding_all rfl
  case clos => with_unfolding_all rfl
  case cell => decide
  case kind => rfl
  case names => decide
  case ky => rfl
  case kp => rfl
  iterate 1 (walk_at "go")
  have htz : (St word).cps.size = word.length := by show word.toArray.size = _; rw [List.size_toArray]
  k_dflt (refine' iter_str F N (by rfl) ?_)
  intro I oI h12 St12 F12 N12 l12 Z12 st12 hfp
  refine ⟨I, oI, _, _, _, _, _, rfl, Z12.W, st12, hfp, F12, N12, fun p hp => Nat.ne_of_lt (l12 p hp), ?_⟩
  intro D C h1 oC m1 tk1 F13 hC13 N13 off13 ne13 hfD hfC st13 l13 l14
  refine inner_W (oI := oI) (ys₀ := []) (news₀ := news) (m := m) rule_one Z12 hfD hfC (by rfl) (by rfl) (fun _ => True) (fun _ _ _ => trivial)
    (fun i ys nw => i ≤ word.length ∧ news = nw ∧ IntsAre ys ((word.take i).map plI)) (fun _ _ _ _ => trivial) ?hsz F13 ?N13 ?off13 ne13 hC13 trivial st13 ?inv ?turn ?fin
  case hsz =>
    rintro i ys nw ⟨hie, -, hys⟩
    rw [hys.length, List.length_map, sizeLine_eq]
    have h2 := List.length_take_le i word
    omega
  case N13 => exact news_sub N13 (by walk_at "sub")
  case off13 => exact off3_sub off13 (by walk_at "sub")
  case inv => exact ⟨by omega, rfl, by rw [List.take_zero]; exact .nil⟩
  case fin =>
    rintro ys nw oC2 m2 h2 tk2 ⟨-, rfl, hys⟩ hC2 - F14 N14 off14
    refine lend hC2 F14 N14 ne13.2.2 off14 ?_
    intro h' tk' F' N'
    rw [htz, List.take_length] at hys
    exact ret D _ _ _ _ (fun q hq => l13 q (by walk_at "tl")) F' N' hys
  case turn =>
    rintro i ys nw v oI2 oC2 m2 h2 tk2 E2 hi ⟨hie, rfl, hys⟩ hv hC2 hx2 - F14 N14 off14
    rw [htz] at hi
    obtain ⟨c, tc, rfl, hc⟩ : ∃ c tc, v = .str ⟨#[c]⟩ tc ∧ word[i]? = some c := by
      obtain ⟨c, u, h1, h2⟩ := hv
      exact ⟨c, u, h2, by rw [← h1]; simp⟩
    have hca : c ∈ alphaN := hal c (List.mem_of_getElem? hc)
    have hfd := find_alpha c hca
    refine wpAny_tests_nil ?_
    rw [if_pos rfl]
    iterate 8 (walk_at "go")
    k_dflt (refine index_or (by rfl) (fun e _ => ?_) (fun _ _ => ?_))
    · rw [show (⟨#[c]⟩ : Str) = St [c] from rfl, hfd] at e; omega
    rw [show (⟨#[c]⟩ : Str) = St [c] from rfl, hfd]
    refine EEnd.intro F14 N14 _ (fun _ h => h) off14 ⟨by omega, rfl, ?_⟩
    rw [List.take_add_one, hc, List.map_append]
    exact hys.append (.cons _ _ .nil)
end
end

section
open PySem.Calls
open LCg (NsObj lst Off3)
section
variable {w : World} {p : Program} {loose : List Str} {mean : ExcName → Option Value} {mg mb : Str → Option Value}
  {dp un : Nat} {gd : Option (List Code)} {cn : Str} {cs : Scope} {a : Addr} {ccd : Value} {cl : List (Str × Addr)} {outer : List Env} {A₀ : Around} {base h₀ : Heap} {L : Addr} {m : Str → Option Value} {news : List (Addr × Obj)} {s : Shared}
  {Q E : Value → Shared → Prop}

noncomputable def figI (p : Int) : Int := if p < 26 then p + 1 else p + 22
theorem row_spec {a : Addr} {ccd : Value} {pA : Addr} {ps : List Int} {vp : List Value} {kp : Nat}
  (B : Below A₀ base [] h₀) (F : Fr h₀ L s.heap m) (X : (KF w.params).In h₀) (N : News h₀ L s.heap news) (T : Top p loose mean mg mb h₀)
  (me : m (Str.ofString "places") = some (.ref pA)) (hpl : (pA, W.listOf (List.toArray vp) kp) ∈ news) (hpi : IntsAre vp ps) (he : ps.length ≤ 100) (hsm : ∀ q ∈ ps, 0 ≤ q ∧ q < 42)
  (hd : dp + 300 < recursionLimit) (hu : un + 3000 < cLine)
  (ret : ∀ D h' tk' ws k, (∀ q ∈ news, q.1 < D) → Fr h₀ L h' m → News h₀ L h' ((D, W.listOf (List.toArray ws) k) :: news) → IntsAre ws (ps.map figI) → Q (.ref D) { s with heap := h', toks := tk' }) :
  wpAny (model PySem.Challenge.rw_rw0085_01.prog w) (LA dp un gd L a ccd) (eval lc6.1 (LE L a ccd)) Q E s := by
  revert X; k_fill; intro X
  dsimp only [lc6]
  have hvl : vp.length = ps.length := hpi.length
  with_reducible refine' ListComp_X (h₀ := h₀) (L := L) (m := m) ?clos ?cell ?kind ?names ?_ ?hs
  case hs => intro _; rfl
  case clos => with_unfolding_all rfl
  case cell => decide
  case kind => rfl
  case names => decide
  refine nameX_L F me ?_
  k_dflt (refine' iter_list F N (its := vp.toArray) (.inr ⟨_, hpl, rfl, _, rfl⟩) ?_)
  intro I oI h12 F12 N12 l12 hne12 st12 hfp
  refine ⟨I, oI, _, _, _, _, _, rfl, (src_list (h₀ := h₀) (L := L) (by rfl) hne12).W, st12, hfp, F12, N12, fun p hp => Nat.ne_of_lt (l12 p hp), ?_⟩
  intro D C h1 oC m1 tk1 F13 hC13 N13 off13 ne13 hfD hfC st13 l13 l14
  refine inner_W (oI := oI) (ys₀ := []) (news₀ := news) (m := m) rule_one (src_list (its := vp.toArray) (by rfl) hne12) hfD hfC (by rfl) (by rfl) (fun _ => True) (fun _ _ _ => trivial)
    (fun i zs nw => i ≤ ps.length ∧ news = nw ∧ IntsAre zs ((ps.take i).map figI)) ?hS ?hsz F13 ?N13 ?off13 ne13 hC13 trivial st13 ?inv ?turn ?fin
  case hS => rintro i zs nw ⟨-, rfl, -⟩; exact .inr ⟨_, hpl, rfl, _, rfl⟩
  case hsz =>
    rintro i zs nw ⟨hie, -, hzs⟩
    rw [hzs.length, List.length_map, sizeLine_eq]
    have h2 := List.length_take_le i ps
    omega
  case N13 => exact N13
  case off13 => exact off13
  case inv => exact ⟨by omega, rfl, by rw [List.take_zero]; exact .nil⟩
  case fin =>
    rintro zs nw oC2 m2 h2 tk2 ⟨-, rfl, hzs⟩ hC2 - F14 N14 off14
    refine lend hC2 F14 N14 ne13.2.2 off14 ?_
    intro h' tk' F' N'
    rw [List.size_toArray, hvl, List.take_length] at hzs
    exact ret D _ _ zs zs.length (fun q hq => l13 q (by walk_at "tl")) F' N' hzs
  case turn =>
    rintro i zs nw v oI2 oC2 m2 h2 tk2 E2 hi ⟨hie, rfl, hzs⟩ hv hC2 hx2 - F14 N14 off14
    refine wpAny_tests_nil ?_
    rw [if_pos rfl]
    have hi' : i < ps.length := by rw [List.size_toArray, hvl] at hi; exact hi
    obtain ⟨x, tx, rfl, hx⟩ := hpi.at i v (by simpa using hv)
    obtain ⟨hx0, hx1⟩ := hsm x (List.mem_of_getElem? hx)
    iterate 5 (walk_at "go")
    by_cases hlt : x < 26
    · rw [decide_eq_true hlt]
      iterate 6 (walk_at "go")
      refine EEnd.intro F14 N14 _ (fun _ h => h) off14 ⟨by omega, rfl, ?_⟩
      rw [List.take_add_one, hx, List.map_append]
      refine hzs.append ?_
      show IntsAre _ [figI x]
      unfold figI
      rw [if_pos hlt]
      exact .cons _ _ .nil
    · rw [decide_eq_false hlt]
      iterate 6 (walk_at "go")
      refine EEnd.intro F14 N14 _ (fun _ h => h) off14 ⟨by omega, rfl, ?_⟩
      rw [List.take_add_one, hx, List.map_append]
      refine hzs.append ?_
      show IntsAre _ [figI x]
      unfold figI
      rw [if_neg hlt]
      exact .cons _ _ .nil
end
end

section
open PySem.Calls
open LCg (NsObj lst Off3)
section
variable {w : World} {p : Program} {loose : List Str} {mean : ExcName → Option Value} {mg mb : Str → Option Value}
  {dp un : Nat} {gd : Option (List Code)} {cn : Str} {cs : Scope} {a : Addr} {ccd : Value} {cl : List (Str × Addr)} {outer : List Env} {A₀ : Around} {base h₀ : Heap} {L : Addr} {m : Str → Option Value} {news : List (Addr × Obj)} {s : Shared}
  {Q E : Value → Shared → Prop}

noncomputable def pcs (word : List Nat) (k : Nat) : List Str := (List.range k).map fun i => St (slN word i k)
theorem pieces_spec {a : Addr} {ccd : Value} {word : List Nat} {tw : Tok} {oW : Obj} {Q : Flow → Shared → Prop}
  (B : Below A₀ base [] h₀) (F : Fr h₀ L s.heap m) (X : (KF w.params).In h₀) (N : News h₀ L s.heap news) (T : Top p loose mean mg mb h₀)
  (hW : (L + 1 + 1, oW) ∈ news) (dW : oW.data = .cell (some (.str (St word) tw))) (he : word.length ≤ 20)
  (hd : dp + 300 < recursionLimit) (hu : un + 3000 < cLine)
  (ret : ∀ D h' tk' ws k, (∀ q ∈ news, q.1 < D) → Fr h₀ L h' (fun z => if z = Str.ofString "pieces" then some (.ref D) else m z) → News h₀ L h' ((D, W.listOf (List.toArray ws) k) :: news) → StrsAre ws ((List.range (word.length + 1)).flatMap (pcs word)) → Q .next { s with heap := h', toks := tk' }) :
  wpAny (model PySem.Challenge.rw_rw0085_01.prog w) (LA dp un gd L a ccd) (exec lw9.1 (LE L a ccd)) Q E s := by
  revert X; k_fill; intro X
  dsimp only [lw9]
  with_reducible refine' Assign_X (h₀ := h₀) (L := L) (m := m) ?le ?sw ?clos ?cell ?kind ?names ?ky ?kp ?_ ?hs
  case hs => intro _; rfl
  case le => rfl
  case sw => with_unfolding_all rfl
  case clos => with_unfolding_all rfl
  case cell => decide
  case kind => rfl
  case names => decide
  case ky => rfl
  case kp => rfl
  have hLw : (((St word).length : Nat) : Int) = (word.length : Nat) := by rw [St_len]
  iterate 11 (walk_at "go")
  refine P.len_str (by rw [hLw]; omega) ?_
  rw [hLw]
  iterate 4 (walk_at "go")
  rename IsRange _ _ _ _ _ _ _ _ => hrg
  rename News _ _ _ _ => N11
  rename Fr _ _ _ _ => F11
  k_dflt (refine iter_range (n := word.length + 1) F11 N11 hrg (rsmall (by omega) (by omega) (by omega) (by omega)) (rsize1 (by omega)) ?_)
  intro I oI h12 F12 N12 l12 st12 hfp
  refine ⟨I, oI, _, _, _, _, _, rfl, (src_range (h₀ := h₀) (L := L) (by rfl) 0 1 (word.length + 1)).W, st12, hfp, F12, N12, fun p hp => Nat.ne_of_lt (l12 p hp), ?_⟩
  intro D C h1 oC m1 tk1 F13 hC13 N13 off13 ne13 hfD hfC st13 l13 l14
  have hpl : ∀ k, (pcs word k).length = k := fun k => by unfold pcs; rw [List.length_map, List.length_range]
  have hfl : ∀ j, j ≤ word.length + 1 → ((List.range j).flatMap (pcs word)).length ≤ 20 * j := fun j => by
    induction j with
    | zero => intro _; simp
    | succ j ih =>
      intro hj
      have h1 := ih (by omega)
      rw [List.range_succ, List.flatMap_append, List.length_append]
      have h2 : ([j].flatMap (pcs word)).length = j := by simp [hpl]
      omega
  refine outer_W (oI := oI) (ys₀ := []) (news₀ := news) (m := m) (src_range (by rfl) 0 1 (word.length + 1)) hfC (by rfl) (by rfl)
    (fun i zs nw => news = nw ∧ i ≤ word.length + 1 ∧ StrsAre zs ((List.range i).flatMap (pcs word))) (fun _ _ _ _ => trivial) F13 ?N13 ?off13 ne13 hC13 st13 ?inv ?turn ?fin
  case N13 => exact news_sub N13 (by walk_at "sub")
  case off13 => exact off3_sub off13 (by walk_at "sub")
  case inv => exact ⟨rfl, by omega, .nil⟩
  case fin =>
    rintro zs nw oC2 m2 h2 tk2 ⟨rfl, -, hzs⟩ hC2 F14 N14 off14
    refine lend hC2 F14 N14 ne13.2.2 off14 ?_
    intro h' tk' F' N'
    exact ret D _ _ zs zs.length (fun q hq => l13 q (.tail _ hq)) F' N' hzs
  case turn =>
    rintro k zs nw v oI2 oC2 m2 h2 tk2 E2 hi ⟨rfl, hie, hzs⟩ ⟨t5, rfl⟩ hC2 hx2 F14 N14 off14
    rw [show (0 + (k : Int) * 1) = (k : Int) by omega] at hx2
    iterate 7 (walk_at "go")
    rename IsRange _ _ _ _ _ _ _ _ => hrg2
    rename News _ _ _ _ => N15
    rename Fr _ _ _ _ => F15
    k_dflt (refine iter_range (n := k) F15 N15 hrg2 (rsmall (by omega) (by omega) (by omega) (by omega)) (rsize1 (by omega)) ?_)
    intro J oJ h16 F16 N16 l16 st16 hfp16
    have ne2 : (@Ne Nat J C) ∧ (@Ne Nat J D) ∧ (@Ne Nat C D) := ⟨Nat.ne_of_gt (l16 (C, oC2) (by walk_at "tl")), Nat.ne_of_gt (l16 (D, lst zs) (by walk_at "tl")), ne13.2.2⟩
    have off2 : Off3 J C D ((I, oI2) :: news) := Off3.of fun p hp => by
      rcases List.mem_cons.mp hp with rfl | hp
      · exact ⟨Nat.ne_of_lt (l16 (I, oI2) (by walk_at "tl")), ne13.1, ne13.2.1⟩
      · exact ⟨Nat.ne_of_lt (l16 _ (List.Mem.tail _ (List.Mem.tail _ (List.Mem.tail _ hp)))), (off14.mem p hp).2⟩
    have Z2 := fun (A : Around) (hA : A.handled = none) => src_range (prog := PySem.Challenge.rw_rw0085_01.prog) (w := w) (A := A) (h₀ := h₀) (L := L) (I := J) hA 0 1 k
    refine' start_two (I := J) ?lp (Walks.self (Z2 _ (by rfl)).W 0 _ _ _ st16 ?lp)
    refine' inner_W (prog := PySem.Challenge.rw_rw0085_01.prog) (w := w) (oI := oJ) (ys₀ := zs) (news₀ := (I, oI2) :: news) (m := m)
      ?rule ?Z3 ?fD ?fC ?k1 ?k2 (fun m => m (Str.ofString "k") = some (.int k t5)) ?hG
      (fun j ys' nw => (I, oI2) :: news = nw ∧ j ≤ k ∧ StrsAre ys' (((List.range k).flatMap (pcs word)) ++ (List.range j).map fun i => St (slN word i k))) ?hS2 ?hsz F16 ?N16 off2 ne2 hC2 hx2 ?st3 ?inv2 ?turn2 ?fin2
    case rule => exact rule_two (fun _ => rfl)
    case Z3 => exact Z2 _ rfl
    case st3 => exact st16
    case k1 => rfl
    case k2 => rfl
    case fD =>
      intro hm
      exact ne2.2.1 (List.mem_singleton.mp hm).symm
    case fC =>
      intro hm
      exact ne2.1 (List.mem_singleton.mp hm).symm
    case hG =>
      intro m v g
      show (if Str.ofString "k" = Str.ofString "i" then _ else m (Str.ofString "k")) = _
      rw [if_neg (by decide)]; exact g
    case hS2 => exact fun _ _ _ _ => trivial
    case hsz =>
      rintro j ys' nw ⟨-, hj, hys'⟩
      rw [strsLen hys', List.length_append, List.length_map, List.length_range, sizeLine_eq]
      have := hfl k (by omega)
      omega
    case N16 => exact news_sub N16 (by walk_at "sub")
    case inv2 => exact ⟨rfl, by omega, by simpa using hzs⟩
    case turn2 =>
      rintro i ys' nw v oI3 oC3 m3 h3 tk3 E3 hj ⟨rfl, hjk, hys'⟩ ⟨t6, rfl⟩ hC3 hx3 g3 F17 N17 off17
      rw [show (0 + (i : Int) * 1) = (i : Int) by omega] at hx3
      refine wpAny_tests_nil ?_
      rw [if_pos rfl]
      iterate 8 (walk_at "go")
      k_dflt (refine slice_strN_ss (hsz := ?hsz2) (s := ⟨_, _, _, _, _⟩) F17 N17 ?_)
      case hsz2 => rw [St_len, sizeLine_eq]; omega
      intro h18 t18 k18 F18 N18
      rw [St_slice (by omega) (by omega)]
      refine EEnd.intro F18 N18 _ (fun _ h => h) off17 ⟨rfl, by omega, ?_⟩
      rw [map_range_snoc, ← List.append_assoc]
      exact strsApp hys' (.cons _ _ .nil)
    case fin2 =>
      rintro ys' nw oC3 m3 h3 tk3 ⟨rfl, -, hys'⟩ hC3 g3 F17 N17 off17
      refine ⟨h3, _, oC3, m3, ys', news, rfl, F17, hC3, news_sub N17 (by walk_at "sub"), off14, rfl, by omega, ?_⟩
      rw [List.range_succ, List.flatMap_append]
      simpa [pcs] using hys'
end
end

section
open PySem.Calls
open LCg (NsObj lst Off3)
section
variable {w : World} {p : Program} {loose : List Str} {mean : ExcName → Option Value} {mg mb : Str → Option Value}
  {dp un : Nat} {gd : Option (List Code)} {cn : Str} {cs : Scope} {a : Addr} {ccd : Value} {cl : List (Str × Addr)} {outer : List Env} {A₀ : Around} {base h₀ : Heap} {L : Addr} {m : Str → Option Value} {news : List (Addr × Obj)} {s : Shared}
  {Q E : Value → Shared → Prop}

@[reducible] noncomputable def lc10 : { x : Expr // ∃ l o f g v1 v2 p1 p2 p3 p4, lw10.1 = .Return (some (.Compare l o [.Call f [.Call g [x] v1 p1] v2 p2] p3)) p4 } := ⟨_, _, _, _, _, _, _, _, _, _, _, rfl⟩
theorem pals_spec {a : Addr} {ccd : Value} {pA : Addr} {ps : List (List Nat)} {vp : List Value} {kp : Nat}
  (B : Below A₀ base [] h₀) (F : Fr h₀ L s.heap m) (X : (KF w.params).In h₀) (N : News h₀ L s.heap news) (T : Top p loose mean mg mb h₀)
  (me : m (Str.ofString "pieces") = some (.ref pA)) (hpl : (pA, W.listOf (List.toArray vp) kp) ∈ news) (hpi : StrsAre vp (ps.map St)) (he : ps.length ≤ 1000) (hps : ∀ q ∈ ps, q.length ≤ 100)
  (hd : dp + 300 < recursionLimit) (hu : un + 3000 < cLine)
  (ret : ∀ D h' tk' ws k, (∀ q ∈ news, q.1 < D) → Fr h₀ L h' m → News h₀ L h' ((D, W.listOf (List.toArray ws) k) :: news) → StrsAre ws ((ps.filter fun q => decide (q = q.reverse)).map St) → Q (.ref D) { s with heap := h', toks := tk' }) :
  wpAny (model PySem.Challenge.rw_rw0085_01.prog w) (LA dp un gd L a ccd) (eval lc10.1 (LE L a ccd)) Q E s := by
  revert X; k_fill; intro X
  dsimp only [lc10]
  have hvl : vp.length = ps.length := by rw [strsLen hpi, List.length_map]
  with_reducible refine' ListComp_X (h₀ := h₀) (L := L) (m := m) ?clos ?cell ?kind ?names ?_ ?hs
  case hs => intro _; rfl
  case clos => with_unfolding_all rfl
  case cell => decide
  case kind => rfl
  case names => decide
  refine nameX_L F me ?_
  k_dflt (refine' iter_list F N (its := vp.toArray) (.inr ⟨_, hpl, rfl, _, rfl⟩) ?_)
  intro I oI h12 F12 N12 l12 hne12 st12 hfp
  refine ⟨I, oI, _, _, _, _, _, rfl, (src_list (h₀ := h₀) (L := L) (by rfl) hne12).W, st12, hfp, F12, N12, fun p hp => Nat.ne_of_lt (l12 p hp), ?_⟩
  intro D C h1 oC m1 tk1 F13 hC13 N13 off13 ne13 hfD hfC st13 l13 l14
  refine inner_W (oI := oI) (ys₀ := []) (news₀ := news) (m := m) rule_one (src_list (its := vp.toArray) (by rfl) hne12) hfD hfC (by rfl) (by rfl) (fun _ => True) (fun _ _ _ => trivial)
    (fun i zs nw => i ≤ ps.length ∧ news = nw ∧ StrsAre zs (((ps.take i).filter fun q => decide (q = q.reverse)).map St)) ?hS ?hsz F13 ?N13 ?off13 ne13 hC13 trivial st13 ?inv ?turn ?fin
  case hS => rintro i zs nw ⟨-, rfl, -⟩; exact .inr ⟨_, hpl, rfl, _, rfl⟩
  case hsz =>
    rintro i zs nw ⟨hie, -, hzs⟩
    rw [strsLen hzs, List.length_map, sizeLine_eq]
    have h2 := List.length_take_le i ps
    have h3 := List.length_filter_le (fun q => decide (q = q.reverse)) (ps.take i)
    omega
  case N13 => exact N13
  case off13 => exact off13
  case inv => exact ⟨by omega, rfl, by rw [List.take_zero]; exact .nil⟩
  case fin =>
    rintro zs nw oC2 m2 h2 tk2 ⟨-, rfl, hzs⟩ hC2 - F14 N14 off14
    refine lend hC2 F14 N14 ne13.2.2 off14 ?_
    intro h' tk' F' N'
    rw [List.size_toArray, hvl, List.take_length] at hzs
    exact ret D _ _ zs zs.length (fun q hq => l13 q (by walk_at "tl")) F' N' hzs
  case turn =>
    rintro i zs nw v oI2 oC2 m2 h2 tk2 E2 hi ⟨hie, rfl, hzs⟩ hv hC2 hx2 - F14 N14 off14
    have hi' : i < ps.length := by rw [List.size_toArray, hvl] at hi; exact hi
    obtain ⟨tc, x, rfl, hx⟩ := strs_at hpi i v (by simpa using hv)
    obtain ⟨c, hc, rfl⟩ : ∃ c, ps[i]? = some c ∧ x = St c := by
      rw [List.getElem?_map] at hx
      cases hq : ps[i]? with
      | none => rw [hq] at hx; cases hx
      | some c => rw [hq] at hx; exact ⟨c, rfl, (Option.some.inj hx).symm⟩
    have hcl := hps c (List.mem_of_getElem? hc)
    have hks : ((ps.take (i + 1)).filter fun q => decide (q = q.reverse)) = ((ps.take i).filter fun q => decide (q = q.reverse)) ++ (if decide (c = c.reverse) then [c] else []) := by
      rw [List.take_add_one, hc, List.filter_append]
      congr 1
      show List.filter _ [c] = _
      rw [List.filter_cons]
      rfl
    refine wpAny_tests_one ?_
    iterate 11 (walk_at "go")
    k_dflt (refine slice_strK_nn (hsz := ?hsz2) (s := ⟨_, _, _, _, _⟩) F14 N14 (by decide) ?_)
    case hsz2 => rw [St_len, sizeLine_eq]; omega
    intro h18 t18 k18 F18 N18
    rw [St_rev]
    clear F14 N14
    iterate 1 (walk_at "go")
    rw [St_beq]
    by_cases hp : c = c.reverse
    · rw [decide_eq_true hp] at hks ⊢
      iterate 3 (walk_at "go")
      refine EEnd.intro F18 N18 _ (fun _ h => h) off14 ⟨by omega, rfl, ?_⟩
      rw [hks, List.map_append]
      exact strsApp hzs (.cons _ _ .nil)
    · rw [decide_eq_false hp] at hks ⊢
      iterate 2 (walk_at "go")
      refine EEnd.intro F18 N18 _ (fun _ h => h) off14 ⟨by omega, rfl, ?_⟩
      rw [hks]
      simpa using hzs
end
end

section
open PySem.Calls
open LCg (NsObj lst Off3)
local macro_rules | `(tactic| walk_at "eval Name") => `(tactic| (k_here; (with_reducible show wpAny _ _ (eval (Expr.Name _ _) (envX _ _ _ _ _ _)) _ _ _); k_dflt (refine' nameX_C ?N ?c ?m ?d ?_ ?a ?b; (case a => rfl); (case b => rfl); (case N => k_asm); (case c => rfl); (case m => walk_at "tl"); (case d => k_asm); k_whole)))
section
variable {w : World} {p : Program} {loose : List Str} {mean : ExcName → Option Value} {mg mb : Str → Option Value}
  {dp un : Nat} {gd : Option (List Code)} {cn : Str} {cs : Scope} {a : Addr} {ccd : Value} {cl : List (Str × Addr)} {outer : List Env} {A₀ : Around} {base h₀ : Heap} {L : Addr} {m : Str → Option Value} {news : List (Addr × Obj)} {s : Shared}
  {Q E : Value → Shared → Prop}

noncomputable def palL (word : List Nat) : List (List Nat) := ((List.range (word.length + 1)).flatMap fun k => (List.range k).map fun i => slN word i k).filter fun q => decide (q = q.reverse)
theorem tail_spec {a : Addr} {ccd : Value} {word : List Nat} {tw : Tok} {oW oK : Obj} {kA : Addr} {vk : List Value} {kk : Nat} {Q : Flow → Shared → Prop}
  (B : Below A₀ base [] h₀) (F : Fr h₀ L s.heap m) (X : (KF w.params).In h₀) (N : News h₀ L s.heap news) (T : Top p loose mean mg mb h₀)
  (hW : (L + 1 + 1, oW) ∈ news) (dW : oW.data = .cell (some (.str (St word) tw))) (he : word.length ≤ 12)
  (hKn : (L + 1 + 1 + 1 + 1, oK) ∈ news) (dK : oK.data = .cell (some (.ref kA))) (hkl : (kA, W.listOf (List.toArray vk) kk) ∈ news) (hkm : vk.length = (met ((palL word).map St)).length)
  (hd : dp + 300 < recursionLimit) (hu : un + 3000 < cLine)
  (ret : ∀ h' tk' m', Fr h₀ L h' m' → News h₀ L h' news → Q (.ret (.bool true)) { s with heap := h', toks := tk' }) :
  wpAny (model PySem.Challenge.rw_rw0085_01.prog w) (LA dp un gd L a ccd) (execs [lw9.1, lw10.1] (LE L a ccd)) Q E s := by
  revert X; k_fill; intro X
  have hfl : ∀ j, j ≤ word.length + 1 → ((List.range j).flatMap fun k => (List.range k).map fun i => slN word i k).length ≤ 12 * j := fun j => by
    induction j with
    | zero => intro _; simp
    | succ j ih =>
      intro hj
      have h1 := ih (by omega)
      rw [List.range_succ, List.flatMap_append, List.length_append]
      have h2 : ([j].flatMap fun k => (List.range k).map fun i => slN word i k).length = j := by simp
      omega
  have hpc : ((List.range (word.length + 1)).flatMap (pcs word)) = ((List.range (word.length + 1)).flatMap fun k => (List.range k).map fun i => slN word i k).map St := by
    rw [List.map_flatMap]
    congr 1
    funext k
    unfold pcs
    rw [List.map_map]
    rfl
  have hpl2 : (palL word).length ≤ 200 := by
    have h1 := hfl (word.length + 1) (by omega)
    have h2 := List.length_filter_le (fun q => decide (q = q.reverse)) ((List.range (word.length + 1)).flatMap fun k => (List.range k).map fun i => slN word i k)
    unfold palL
    omega
  have hsz : ∀ q ∈ ((List.range (word.length + 1)).flatMap fun k => (List.range k).map fun i => slN word i k), q.length ≤ 100 := fun q hq => by
    obtain ⟨k, hk, hq⟩ := List.mem_flatMap.mp hq
    obtain ⟨i, hi, rfl⟩ := List.mem_map.mp hq
    unfold slN
    rw [List.length_take, List.length_drop]
    omega
  have hml := met_le ((palL word).map St)
  rw [List.length_map] at hml
  iterate 1 (walk_at "go")
  k_dflt (refine' pieces_spec (word := word) ?zB ?zF ?zX ?zN ?zT hW dW (by omega) ?zd ?zu ?_; (case zB => k_asm); (case zF => k_asm); (case zX => k_asm); (case zN => k_asm); (case zT => k_asm); (case zd => first | exact dlt hd rfl | omega); (case zu => first | exact dlt hu rfl | omega))
  intro D h1 k1 ws1 c1 l1 F1 N1 i1
  rw [hpc] at i1
  iterate 1 (walk_at "go")
  iterate 8 (walk_at "go")
  refine len_list (items := vk.toArray) (by exact News.isList (n := kk) (items := vk.toArray) N1 (.tail _ hkl)) (by rw [List.size_toArray, hkm]; omega) ?_
  rw [List.size_toArray]
  iterate 8 (walk_at "go")
  k_dflt (refine' pals_spec (ps := (List.range (word.length + 1)).flatMap fun k => (List.range k).map fun i => slN word i k) (m := fun z => if z = Str.ofString "pieces" then some (.ref D) else m z) ?yB ?yF ?yX ?yN ?yT ?ym (.head _) i1 ?yl hsz ?yd ?yu ?_; (case yB => k_asm); (case yF => k_asm); (case yX => k_asm); (case yN => k_asm); (case yT => k_asm); (case ym => exact if_pos rfl); (case yl => (have := hfl (word.length + 1) (by omega); omega)); (case yd => first | exact dlt hd rfl | omega); (case yu => first | exact dlt hu rfl | omega))
  intro D2 h2 k2 ws2 c2 l2 F2 N2 i2
  replace i2 : StrsAre ws2 ((palL word).map St) := i2
  have hw2 : ws2.length = (palL word).length := by rw [strsLen i2, List.length_map]
  iterate 1 (walk_at "go")
  k_dflt (refine' set_strs (xs := (palL word).map St) (items := ws2.toArray) F2 N2 (by rfl) ?xl ?xi ?xb ?_; (case xl => exact News.isList (n := c2) (items := ws2.toArray) N2 (.head _)); (case xi => exact i2); (case xb => (rw [List.size_toArray, hw2]; unfold scanBound; omega)))
  intro D3 h3 k3 o3 F3 N3 l3 hso
  iterate 1 (walk_at "go")
  refine len_sl1 (own := []) N3 hso (by omega) ?_
  iterate 1 (walk_at "go")
  rw [hkm, beq_self_eq_true]
  exact ret _ _ _ F3 (news_sub N3 fun q hq => .tail _ (.tail _ (.tail _ hq)))
end
end

section
open PySem.Calls
set_option maxHeartbeats 2000000
/-- the ledger of the law's loop: two tables of nested code, and the rest -/
structure Gd (h₀ : Heap) (L : Addr) (h : Heap) (l30 l23 X : List (Addr × Obj)) : Prop where
  N : News h₀ L h (l30 ++ (l23 ++ X))
  t30 : TbOk 30 29 4 qI l30
  t23 : TbOk 23 14 4 qJ l23
  a30 : Apart l30 (l23 ++ X)
  a23 : Apart l23 X
section
variable {h₀ h h' : Heap} {L D c : Addr} {l30 l23 l X Y : List (Addr × Obj)} {o o' : Obj}
theorem Gd.mono (g : Gd h₀ L h l30 l23 X) (N : News h₀ L h' (l30 ++ (l23 ++ X))) : Gd h₀ L h' l30 l23 X := ⟨N, g.t30, g.t23, g.a30, g.a23⟩
theorem in3 {q : Addr × Obj} (hq : q ∈ X) : q ∈ l30 ++ (l23 ++ X) := List.mem_append_right _ (List.mem_append_right _ hq)
theorem Gd.sub (g : Gd h₀ L h l30 l23 X) (k : ∀ q ∈ Y, q ∈ X) : Gd h₀ L h l30 l23 Y := by
  have k2 : ∀ q ∈ l23 ++ Y, q ∈ l23 ++ X := fun q hq => by
    rcases List.mem_append.mp hq with hq | hq
    · exact List.mem_append_left _ hq
    · exact List.mem_append_right _ (k q hq)
  refine ⟨fun q hq => ?_, g.t30, g.t23, fun q hq => g.a30 q (k2 q hq), fun q hq => g.a23 q (k q hq)⟩
  rcases List.mem_append.mp hq with hq | hq
  · exact g.N q (List.mem_append_left _ hq)
  · exact g.N q (List.mem_append_right _ (k2 q hq))
/-- an object more -/
theorem Gd.add (g : Gd h₀ L h l30 l23 X) (N : News h₀ L h' ((D, o) :: (l30 ++ (l23 ++ X)))) (lt : ∀ q ∈ l30 ++ (l23 ++ X), q.1 < D) : Gd h₀ L h' l30 l23 ((D, o) :: X) := by
  refine ⟨fun q hq => N q ?_, g.t30, g.t23, fun q hq q' hq' => ?_, fun q hq q' hq' => ?_⟩
  · simp only [List.mem_append, List.mem_cons] at hq ⊢
    rcases hq with h | h | h | h <;> simp [h]
  · rcases List.mem_append.mp hq with hq | hq
    · exact g.a30 q (List.mem_append_left _ hq) q' hq'
    · rcases List.mem_cons.mp hq with rfl | hq
      · exact Nat.ne_of_gt (lt q' (List.mem_append_left _ hq'))
      · exact g.a30 q (List.mem_append_right _ hq) q' hq'
  · rcases List.mem_cons.mp hq with rfl | hq
    · exact Nat.ne_of_gt (lt q' (List.mem_append_right _ (List.mem_append_left _ hq')))
    · exact g.a23 q hq q' hq'
/-- objects more, of one kind -/
theorem Gd.adds {Z : List (Addr × Obj)} (g : Gd h₀ L h l30 l23 X) (N : News h₀ L h' (Z ++ (l30 ++ (l23 ++ X)))) (lt : ∀ q ∈ l30 ++ (l23 ++ X), ∀ z ∈ Z, q.1 < z.1) : Gd h₀ L h' l30 l23 (Z ++ X) := by
  refine ⟨fun q hq => N q ?_, g.t30, g.t23, fun q hq q' hq' => ?_, fun q hq q' hq' => ?_⟩
  · simp only [List.mem_append] at hq ⊢
    rcases hq with h | h | h | h <;> simp [h]
  · rcases List.mem_append.mp hq with hq | hq
    · exact g.a30 q (List.mem_append_left _ hq) q' hq'
    · rcases List.mem_append.mp hq with hq | hq
      · exact Nat.ne_of_gt (lt q' (List.mem_append_left _ hq') q hq)
      · exact g.a30 q (List.mem_append_right _ hq) q' hq'
  · rcases List.mem_append.mp hq with hq | hq
    · exact Nat.ne_of_gt (lt q' (List.mem_append_right _ (List.mem_append_left _ hq')) q hq)
    · exact g.a23 q hq q' hq'
/-- after _digits2int -/
theorem Gd.d30 (g : Gd h₀ L h l30 l23 X) (t : TbOk 30 29 4 qI l) (ap : Apart l (l23 ++ X)) (N : News h₀ L h' (l ++ (l23 ++ X))) : Gd h₀ L h' l l23 X := ⟨N, t, g.t23, ap, g.a23⟩
/-- after a list of _digits2int -/
theorem Gd.c30 (g : Gd h₀ L h l30 l23 X) (t : TbOk 30 29 4 qI l) (ap : Apart l (l23 ++ X)) (ne : ∀ q ∈ l, q.1 ≠ D) (lt : ∀ q ∈ l23 ++ X, q.1 < D) (N : News h₀ L h' (l ++ (D, o) :: (l23 ++ X))) : Gd h₀ L h' l l23 ((D, o) :: X) := by
  refine ⟨fun q hq => N q ?_, t, g.t23, fun q hq q' hq' => ?_, fun q hq q' hq' => ?_⟩
  · simp only [List.mem_append, List.mem_cons] at hq ⊢
    rcases hq with h | h | h | h <;> simp [h]
  · rcases List.mem_append.mp hq with hq | hq
    · exact ap q (List.mem_append_left _ hq) q' hq'
    · rcases List.mem_cons.mp hq with rfl | hq
      · exact Ne.symm (ne q' hq')
      · exact ap q (List.mem_append_right _ hq) q' hq'
  · rcases List.mem_cons.mp hq with rfl | hq
    · exact Nat.ne_of_gt (lt q' (List.mem_append_left _ hq'))
    · exact g.a23 q hq q' hq'
/-- ahead of _int2digits -/
theorem Gd.pre23 (g : Gd h₀ L h l30 l23 X) : News h₀ L h (l23 ++ (l30 ++ X)) ∧ Apart l23 (l30 ++ X) := by
  refine ⟨fun q hq => g.N q ?_, fun q hq q' hq' => ?_⟩
  · simp only [List.mem_append] at hq ⊢
    rcases hq with h | h | h <;> simp [h]
  · rcases List.mem_append.mp hq with hq | hq
    · exact Ne.symm (g.a30 q' (List.mem_append_left _ hq') q hq)
    · exact g.a23 q hq q' hq'
/-- after _int2digits -/
theorem Gd.c23 (g : Gd h₀ L h l30 l23 X) (t : TbOk 23 14 4 qJ l) (ap : Apart l (l30 ++ X)) (ne : ∀ q ∈ l, q.1 ≠ D) (lt : ∀ q ∈ l30 ++ X, q.1 < D) (N : News h₀ L h' (l ++ (D, o) :: (l30 ++ X))) : Gd h₀ L h' l30 l ((D, o) :: X) := by
  refine ⟨fun q hq => N q ?_, g.t30, t, fun q hq q' hq' => ?_, fun q hq q' hq' => ?_⟩
  · simp only [List.mem_append, List.mem_cons] at hq ⊢
    rcases hq with h | h | h | h <;> simp [h]
  · rcases List.mem_append.mp hq with hq | hq
    · exact Ne.symm (ap q' (List.mem_append_left _ hq') q hq)
    · rcases List.mem_cons.mp hq with rfl | hq
      · exact Nat.ne_of_gt (lt q' (List.mem_append_left _ hq'))
      · exact g.a30 q (List.mem_append_right _ hq) q' hq'
  · rcases List.mem_cons.mp hq with rfl | hq
    · exact Ne.symm (ne q' hq')
    · exact ap q (List.mem_append_right _ hq) q' hq'
/-- one object changed -/
theorem Gd.set (g : Gd h₀ L h l30 l23 X) (hm : (c, o) ∈ X) (hY : ∀ q ∈ Y, q ∈ X ∧ q.1 ≠ c) (hs : Heap.SameBut c h h') (ho : h'.get? c = some o') : Gd h₀ L h' l30 l23 ((c, o') :: Y) := by
  have hc := g.N (c, o) (in3 hm)
  refine ⟨fun q hq => ?_, g.t30, g.t23, fun q hq q' hq' => ?_, fun q hq q' hq' => ?_⟩
  · rcases List.mem_append.mp hq with hq | hq
    · have z := g.N q (List.mem_append_left _ hq)
      exact ⟨hs.extBut _ _ (Ne.symm (g.a30 (c, o) (List.mem_append_right _ hm) q hq)) z.1, z.2⟩
    · rcases List.mem_append.mp hq with hq | hq
      · have z := g.N q (List.mem_append_right _ (List.mem_append_left _ hq))
        exact ⟨hs.extBut _ _ (Ne.symm (g.a23 (c, o) hm q hq)) z.1, z.2⟩
      · rcases List.mem_cons.mp hq with rfl | hq
        · exact ⟨ho, hc.2⟩
        · have z := g.N q (in3 (hY q hq).1)
          exact ⟨hs.extBut _ _ (hY q hq).2 z.1, z.2⟩
  · rcases List.mem_append.mp hq with hq | hq
    · exact g.a30 q (List.mem_append_left _ hq) q' hq'
    · rcases List.mem_cons.mp hq with rfl | hq
      · exact g.a30 (c, o) (List.mem_append_right _ hm) q' hq'
      · exact g.a30 q (List.mem_append_right _ (hY q hq).1) q' hq'
  · rcases List.mem_cons.mp hq with rfl | hq
    · exact g.a23 (c, o) hm q' hq'
    · exact g.a23 q (hY q hq).1 q' hq'
end
/-- a name of a cell is written -/
theorem cell_store {M : Model} {A : Around} {E : Value → Shared → Prop} {s : Shared} {h₀ : Heap} {L a c : Addr} {m : Str → Option Value} {cn x : Str} {cs : Scope} {ccd v : Value} {cl : List (Str × Addr)} {l30 l23 X Y : List (Addr × Obj)} {o : Obj} {v₀ : Option Value} {Q : Unit → Shared → Prop}
    (F : Fr h₀ L s.heap m) (g : Gd h₀ L s.heap l30 l23 X) (hm : (c, o) ∈ X) (hd : o.data = .cell v₀) (hc : cl.lookup x = some c) (hY : ∀ q ∈ Y, q ∈ X ∧ q.1 ≠ c)
    (h : ∀ h' o', Fr h₀ L h' m → Gd h₀ L h' l30 l23 ((c, o') :: Y) → o'.data = .cell (some v) → Q () { s with heap := h' })
    (hk : (envX cn cs L a ccd cl).scope.kind = .function) (hl : (envX cn cs L a ccd cl).kindOf x = some .cell) :
    wpAny M A (storeName (envX cn cs L a ccd cl) x v) Q E s := by
  have z := g.N (c, o) (in3 hm)
  refine wpAny_storeName_cell hk hl hc ⟨o, z.1, hd⟩ fun h' hv hs => ?_
  obtain ⟨o', ho', hd'⟩ := hv
  refine h h' o' ⟨F.ns.sameBut hs (Ne.symm z.2.1), fun b ob e => (hs.2 b (fun q => ?_)).trans (F.keep b ob e), F.above⟩ (g.set hm hY hs ho') hd'
  rw [q, z.2.2] at e; cases e
end

section
open PySem.SeqAt PySem.Calls
set_option maxHeartbeats 4000000
section
variable {prog : Program} {w : World} {A : Around} {E : Value → Shared → Prop} {s : Shared} {h₀ : Heap} {L D b c d : Addr} {m : Str → Option Value} {l30 l23 X Y news : List (Addr × Obj)} {Q : Value → Shared → Prop}
theorem ext_K {its its2 : Array Value} {n n2 : Nat} (F : Fr h₀ L s.heap m) (g : Gd h₀ L s.heap l30 l23 X) (hm : (D, W.listOf its n) ∈ X) (hb : (b, W.listOf its2 n2) ∈ X) (hY : ∀ q ∈ Y, q ∈ X ∧ q.1 ≠ D)
    (h1 : its.size ≤ 1000) (h2 : its2.size ≤ 1000)
    (h : ∀ h' n', Fr h₀ L h' m → Gd h₀ L h' l30 l23 ((D, W.listOf (its ++ its2) n') :: Y) → Q .none { s with heap := h' }) :
    wpAny (model prog w) A (call (.builtin "list.extend") [.ref D, .ref b]) Q E s := by
  have z := g.N _ (in3 hm)
  have zb := g.N _ (in3 hb)
  have q := PySem.IsL.update z.1 fun x => x ++ its2
  refine call_meets PySem.F.slot_list_extend ⟨_, z.1, rfl⟩ PySem.F.entry_list_extend (PySem.F.args_list_extend_2 _ _) (PySem.AutoSeq1.list_extend_list_list_0 D its n b its2 n2 ?_ ?_ ?_) ⟨z.1, zb.1, h _ _ (F.change (Heap.SameBut.update ..) z.2.1 z.2.2) (g.set hm hY (Heap.SameBut.update ..) q)⟩
  · unfold Builtin.List.listTooLong
    simp only [Bool.and_eq_true, Bool.not_eq_true', decide_eq_true_eq, not_and]
    intro _
    have : sizeLine = 16777216 := sizeLine_eq
    omega
  · rw [sizeLine_eq]; omega
  · rw [sizeLine_eq]; omega
theorem eqg_bool (a b : Bool) : MeetsSeq.EqGives (.bool a) (.bool b) (a == b) := fun prog w A E s Q h => SeqAt.EqAt.bool_bool a b prog w E Q h
theorem idx_true {bs : List Bool} {n j : Nat} (N : News h₀ L s.heap news) (hm : (D, W.listOf (List.toArray (bs.map Value.bool)) n) ∈ news) (hj : bs[j]? = some true) (hno : ∀ i, i < j → bs[i]? = some false) (hl : bs.length ≤ 1000)
    (h : Q (.int j s.toks) { s with toks := s.toks + 1 }) : wpAny (model prog w) A (call (.builtin "list.index") [.ref D, .bool true]) Q E s := by
  have hjl : j < bs.length := (List.getElem?_eq_some_iff.mp hj).1
  refine call_meets PySem.F.slot_list_index ⟨_, (N _ hm).1, rfl⟩ PySem.F.entry_list_index (PySem.F.args_list_index_2 _ _)
    (MeetsSeq.list_index D (bs.map Value.bool).toArray n (.bool true) (fun v => v == .bool true) (fun y hy => ?_) j (by simp; omega) (by omega) ?_ (fun i hi hlt => ?_)) ⟨(N _ hm).1, h⟩
  · have hy' : y ∈ bs.map Value.bool := by simpa using hy
    obtain ⟨b, -, rfl⟩ := List.mem_map.mp hy'
    have := eqg_bool b true
    cases b <;> exact this
  · obtain ⟨_, e⟩ := List.getElem?_eq_some_iff.mp hj
    simp [e]
  · obtain ⟨_, e⟩ := List.getElem?_eq_some_iff.mp (hno i hlt)
    simp [e]
theorem ne_two {P R : Addr} {kp kr : Nat} {va vb vc vd : List Value} {na nb : List Int} {ka kb kc kd : Nat} (N : News h₀ L s.heap news) (hP : (P, W.listOf #[.ref D, .ref b] kp) ∈ news) (hR : (R, W.listOf #[.ref c, .ref d] kr) ∈ news)
    (ha : (D, W.listOf (List.toArray va) ka) ∈ news) (hb : (b, W.listOf (List.toArray vb) kb) ∈ news) (hc : (c, W.listOf (List.toArray vc) kc) ∈ news) (hd : (d, W.listOf (List.toArray vd) kd) ∈ news)
    (ia : IntsAre va na) (ib : IntsAre vb nb) (ic : IntsAre vc na) (id : IntsAre vd nb) (hu : A.units + 64 < cLine) (h : Q (.bool false) s) : wpAny (model prog w) A (compareOp .NotEq (.ref P) (.ref R)) Q E s := by
  have r1 : Reads s.heap (.ref P) (.list [.list (na.map PyData.int), .list (nb.map PyData.int)]) _ := Reads.list (N _ hP).1 rfl rfl (ReadsAll.cons (reads_of_ints (News.isList (n := ka) (items := va.toArray) N ha) ia) (ReadsAll.cons (reads_of_ints (News.isList (n := kb) (items := vb.toArray) N hb) ib) ReadsAll.nil))
  have r2 : Reads s.heap (.ref R) (.list [.list (na.map PyData.int), .list (nb.map PyData.int)]) _ := Reads.list (N _ hR).1 rfl rfl (ReadsAll.cons (reads_of_ints (News.isList (n := kc) (items := vc.toArray) N hc) ic) (ReadsAll.cons (reads_of_ints (News.isList (n := kd) (items := vd.toArray) N hd) id) ReadsAll.nil))
  have h1 := W.depthAll_ints na
  have h2 := W.depthAll_ints nb
  have sh : shaped (.list [.list (na.map PyData.int), .list (nb.map PyData.int)]) = true := by
    have h3 : PyData.depth (.list [.list (na.map PyData.int), .list (nb.map PyData.int)]) ≤ 64 := by simp only [PyData.depth, PyData.depthAll]; omega
    show (PyData.canLay0 _ && decide (PyData.depth _ ≤ 64)) = true
    rw [Bool.and_eq_true]
    exact ⟨by simp only [PyData.canLay0, PyData.canLayAll0, canLayAll0_ints]; rfl, decide_eq_true h3⟩
  refine ne_dataH_same r1 r2 sh sh hu ?_ ?_
  · simp only [noMix, noMixAll, noMix_ints]; rfl
  · simp only [PySem.Spec.same, PySem.Spec.sameAll, same_ints, decide_true]
    exact h
end
end

section

local macro_rules | `(tactic| walk_at "gd") => `(tactic| first | exact List.forall_mem_nil _ | (refine List.forall_mem_cons.mpr ⟨⟨by walk_at "tl", by (refine neN ?_; (try dsimp only); walk_at "nx")⟩, ?_⟩; walk_at "gd"))
local macro_rules | `(tactic| walk_at "eval Name") => `(tactic| (k_here; (with_reducible show wpAny _ _ (eval (Expr.Name _ _) (envX _ _ _ _ _ _)) _ _ _); k_dflt (refine' nameX_C (Gd.N ?N) ?c ?m ?d ?_ ?a ?b; (case a => rfl); (case b => rfl); (case N => k_asm); (case c => rfl); (case m => exact in3 (by walk_at "tl")); (case d => k_asm); k_whole)))

section
open PySem.Calls
open LCg (NsObj lst Off3)
section
variable {w : World} {p : Program} {loose : List Str} {mean : ExcName → Option Value} {mg mb : Str → Option Value}
  {dp un : Nat} {gd : Option (List Code)} {cn : Str} {cs : Scope} {a : Addr} {ccd : Value} {cl : List (Str × Addr)} {outer : List Env} {A₀ : Around} {base h₀ : Heap} {L : Addr} {m : Str → Option Value} {news : List (Addr × Obj)} {s : Shared}
  {Q E : Value → Shared → Prop}

noncomputable def fL (R : List Int) (e : Nat) : List Int := (List.range e).map fun j => vD 6 (sl R j e).reverse
noncomputable def bL (R : List Int) (e : Nat) : List Int := (List.range (e + 1)).map fun j => vD 6 (sl R j e)
noncomputable def tapeI (R : List Int) (e : Nat) : List Int := (List.range e).flatMap fun j => octL (sl R j e)
noncomputable def figs (R : List Int) (e : Nat) : List (List Nat) := (List.range e).map fun j => (sl R j e).map Int.toNat
/-- what the turn wants to know -/
structure TurnP (R : List Int) (word : List Nat) (e : Nat) (known : List Int) : Prop where
  lenR : R.length = word.length
  le : R.length ≤ 9
  e1 : 1 ≤ e
  e2 : e ≤ R.length
  dig : ∀ d ∈ R, 1 ≤ d ∧ d < 64
  kn : known.length ≤ 100
  in8 : KBa.In (tapeI R e)
  tell : TellsA (PySem.byteArr (tapeI R e)) 0 (figs R e)
  fvs : (figs R e).map (fun fs => (fv fs : Int)) = fL R e
  hB1 : ∀ j lo hi, (vD 6 (sl (sl R j e) lo hi)).natAbs < 2 ^ 64
  hB2 : ∀ j lo hi, (vD 6 (sl (sl R j e).reverse lo hi)).natAbs < 2 ^ 64
  hB3 : ∀ lo hi, (vD 12 (sl (pairsL (sl R 0 e).reverse) lo hi)).natAbs < 2 ^ 64
  b0 : ∃ x : Nat, vD 6 (sl R 0 e) = (x : Int) ∧ x < 2 ^ 64 ∧ dgI 6 ((bl x + 6 - 1) / 6) x = sl R 0 e
  f0 : ∃ y : Nat, vD 6 (sl R 0 e).reverse = (y : Int) ∧ y < 2 ^ 64 ∧ dgI 12 ((bl y + 12 - 1) / 12) y = pairsL (sl R 0 e).reverse ∧ vD 12 (pairsL (sl R 0 e).reverse) = (y : Int)
  tape_len : (tapeI R e).length ≤ 1000
  long : ∃ l, l < e ∧ ((fL R e).getD l 0 == (bL R e).getD l 0) = true ∧ (∀ i, i < l → ((fL R e).getD i 0 == (bL R e).getD i 0) = false) ∧
    (frK (fL R e) (bL R e) known e).map (fun k => (fL R e).getD k 0) = if Txt.contains (St (word.take (e - 1))) (St (slN word l e)) then [] else [(fL R e).getD l 0]
theorem intsGet {vs : List Value} {ns : List Int} (h : IntsAre vs ns) {i : Nat} {n : Int} (e : ns[i]? = some n) : ∃ t, vs[i]? = some (.int n t) := by
  have hl : i < ns.length := (List.getElem?_eq_some_iff.mp e).1
  obtain ⟨n', t, e1, e2⟩ := h.at i (vs[i]'(by rw [h.length]; exact hl)) (List.getElem?_eq_getElem _)
  rw [e] at e2
  cases e2
  exact ⟨t, by rw [← e1]; exact List.getElem?_eq_getElem _⟩
theorem fL_get {R : List Int} {e i : Nat} (h : i < e) : (fL R e)[i]? = some (vD 6 (sl R i e).reverse) := by unfold fL; rw [List.getElem?_map, List.getElem?_range h]; rfl
theorem bL_get {R : List Int} {e i : Nat} (h : i < e + 1) : (bL R e)[i]? = some (vD 6 (sl R i e)) := by unfold bL; rw [List.getElem?_map, List.getElem?_range h]; rfl
theorem sl_none (R : List Int) (e : Nat) : sl R e e = [] := by unfold sl; rw [Nat.sub_self, List.take_zero]
theorem mem_swap {α : Type} {x : α} {A B : List α} : ∀ q ∈ x :: (A ++ B), q ∈ x :: (B ++ A) := fun q hq => by
  rcases List.mem_cons.mp hq with rfl | hq
  · exact .head _
  · refine .tail _ ?_
    rcases List.mem_append.mp hq with hq | hq
    · exact List.mem_append_right _ hq
    · exact List.mem_append_left _ hq
end
end

section
open PySem.Calls
open LCg (NsObj lst Off3)
section
variable {w : World} {p : Program} {loose : List Str} {mean : ExcName → Option Value} {mg mb : Str → Option Value}
  {dp un : Nat} {gd : Option (List Code)} {cn : Str} {cs : Scope} {a : Addr} {ccd : Value} {cl : List (Str × Addr)} {outer : List Env} {A₀ : Around} {base h₀ : Heap} {L : Addr} {m : Str → Option Value} {news : List (Addr × Obj)} {s : Shared}
  {Q E : Value → Shared → Prop}

theorem last_spec {a I kA rA rA2 : Addr} {ccd : Value} {oI o8 o7 o6 o5 o4 o3 o2 : Obj} {known nw : List Int} {vsR vk wsR : List Value} {kR kk kR2 : Nat} {l30 l23 : List (Addr × Obj)} {Q : Flow → Shared → Prop}
  (kn : known.length ≤ 100) (knw : nw.length ≤ 100)
  (B : Below A₀ base [] h₀) (F : Fr h₀ L s.heap m) (X : (KF w.params).In h₀) (T : Top p loose mean mg mb h₀)
  (mf : m (Str.ofString "fresh") = some (.ref rA2))
  (g : Gd h₀ L s.heap l30 l23 [(rA2, W.listOf (List.toArray wsR) kR2), (I, oI), (L + 1 + 1 + 1 + 1 + 1, o5), (L + 1 + 1 + 1 + 1 + 1 + 1 + 1 + 1, o8), (L + 1 + 1 + 1 + 1 + 1 + 1 + 1, o7), (L + 1 + 1 + 1 + 1 + 1 + 1, o6), (L + 1 + 1 + 1 + 1, o4), (L + 1 + 1 + 1, o3), (L + 1 + 1, o2), (rA, W.listOf (List.toArray vsR) kR), (kA, W.listOf (List.toArray vk) kk)])
  (d4 : o4.data = .cell (some (.ref kA))) (iK : IntsAre vk known) (iR : IntsAre wsR nw)
  (nI : @LT.lt Nat _ (L + 1 + 1 + 1 + 1 + 1 + 1 + 1 + 1) I) (nr : @LT.lt Nat _ (L + 1 + 1 + 1 + 1 + 1 + 1 + 1 + 1) rA) (nk : @LT.lt Nat _ rA kA) (nkI : @LT.lt Nat _ kA I) (nR2 : @LT.lt Nat _ I rA2)
  (hd : dp + 400 < recursionLimit) (hu : un + 4000 < cLine)
  (ret : ∀ h' tk' m' vk' kk', Fr h₀ L h' m' → Gd h₀ L h' l30 l23 [(I, oI), (L + 1 + 1 + 1 + 1 + 1, o5), (L + 1 + 1 + 1 + 1 + 1 + 1 + 1 + 1, o8), (L + 1 + 1 + 1 + 1 + 1 + 1 + 1, o7), (L + 1 + 1 + 1 + 1 + 1 + 1, o6), (L + 1 + 1 + 1 + 1, o4), (L + 1 + 1 + 1, o3), (L + 1 + 1, o2), (rA, W.listOf (List.toArray vsR) kR), (kA, W.listOf (List.toArray vk') kk')] →
     IntsAre vk' (known ++ nw) → Q .next { s with heap := h', toks := tk' }) :
  wpAny (model PySem.Challenge.rw_rw0085_01.prog w) (LA dp un gd L a ccd) (execs [lf13.1] (LE L a ccd)) Q E s := by
  revert X; k_fill; intro X
  have hvk : vk.length = known.length := iK.length
  have hvr : wsR.length = nw.length := iR.length
  iterate 4 (walk_at "go")
  k_dflt (refine' kf_method g.N (in3 ?mm) PySem.F.slot_list_extend PySem.F.type_list_extend ?_; (case mm => walk_at "tl"))
  iterate 2 (walk_at "go")
  refine nameX_L F mf ?_
  iterate 1 (walk_at "go")
  refine ext_K (Y := [(I, oI), (L + 1 + 1 + 1 + 1 + 1, o5), (L + 1 + 1 + 1 + 1 + 1 + 1 + 1 + 1, o8), (L + 1 + 1 + 1 + 1 + 1 + 1 + 1, o7), (L + 1 + 1 + 1 + 1 + 1 + 1, o6), (L + 1 + 1 + 1 + 1, o4), (L + 1 + 1 + 1, o3), (L + 1 + 1, o2), (rA, W.listOf (List.toArray vsR) kR)]) F g (by walk_at "tl") (by walk_at "tl") (by walk_at "gd") (by rw [List.size_toArray]; omega) (by rw [List.size_toArray]; omega) ?_
  intro h1 n1 F1 g1
  have e : vk.toArray ++ wsR.toArray = (vk ++ wsR).toArray := by simp
  rw [e] at g1
  have g2 := g1.sub (Y := [(I, oI), (L + 1 + 1 + 1 + 1 + 1, o5), (L + 1 + 1 + 1 + 1 + 1 + 1 + 1 + 1, o8), (L + 1 + 1 + 1 + 1 + 1 + 1 + 1, o7), (L + 1 + 1 + 1 + 1 + 1 + 1, o6), (L + 1 + 1 + 1 + 1, o4), (L + 1 + 1 + 1, o3), (L + 1 + 1, o2), (rA, W.listOf (List.toArray vsR) kR), (kA, W.listOf (List.toArray (vk ++ wsR)) n1)]) (by walk_at "sub")
  iterate 1 (walk_at "go")
  exact ret _ _ _ _ _ F1 g2 (iK.append iR)
end
end

section
open PySem.Calls
open LCg (NsObj lst Off3)
section
variable {w : World} {p : Program} {loose : List Str} {mean : ExcName → Option Value} {mg mb : Str → Option Value}
  {dp un : Nat} {gd : Option (List Code)} {cn : Str} {cs : Scope} {a : Addr} {ccd : Value} {cl : List (Str × Addr)} {outer : List Env} {A₀ : Around} {base h₀ : Heap} {L : Addr} {m : Str → Option Value} {news : List (Addr × Obj)} {s : Shared}
  {Q E : Value → Shared → Prop}

theorem turn2_spec {a I kA rA bA fA : Addr} {ccd : Value} {oI o8 o7 o6 o5 o4 o3 o2 : Obj} {v8 : Option Value} {te tw : Tok} {R known : List Int} {word : List Nat} {vsR vk wsB wsF : List Value} {kR kk kB kF e : Nat} {l30 l23 : List (Addr × Obj)} {Q : Flow → Shared → Prop}
  (P : TurnP R word e known)
  (B : Below A₀ base [] h₀) (F : Fr h₀ L s.heap m) (X : (KF w.params).In h₀) (T : Top p loose mean mg mb h₀)
  (g : Gd h₀ L s.heap l30 l23 [(bA, W.listOf (List.toArray wsB) kB), (fA, W.listOf (List.toArray wsF) kF), (I, oI), (L + 1 + 1 + 1 + 1 + 1, o5), (L + 1 + 1 + 1 + 1 + 1 + 1 + 1 + 1, o8), (L + 1 + 1 + 1 + 1 + 1 + 1 + 1, o7), (L + 1 + 1 + 1 + 1 + 1 + 1, o6), (L + 1 + 1 + 1 + 1, o4), (L + 1 + 1 + 1, o3), (L + 1 + 1, o2), (rA, W.listOf (List.toArray vsR) kR), (kA, W.listOf (List.toArray vk) kk)])
  (d8 : o8.data = .cell v8) (d7 : o7.data = .cell (some (.ref bA))) (d6 : o6.data = .cell (some (.ref fA))) (d5 : o5.data = .cell (some (.int (e : Nat) te))) (d4 : o4.data = .cell (some (.ref kA))) (d2 : o2.data = .cell (some (.str (St word) tw)))
  (iF : IntsAre wsF (fL R e)) (iB : IntsAre wsB (bL R e)) (iK : IntsAre vk known)
  (nI : @LT.lt Nat _ (L + 1 + 1 + 1 + 1 + 1 + 1 + 1 + 1) I) (nr : @LT.lt Nat _ (L + 1 + 1 + 1 + 1 + 1 + 1 + 1 + 1) rA) (nk : @LT.lt Nat _ rA kA) (nkI : @LT.lt Nat _ kA I) (nF : @LT.lt Nat _ I fA) (nB : @LT.lt Nat _ I bA)
  (hd : dp + 400 < recursionLimit) (hu : un + 4000 < cLine)
  (ret : ∀ h' tk' m' o8' v8' vk' kk', Fr h₀ L h' m' → Gd h₀ L h' l30 l23 [(I, oI), (L + 1 + 1 + 1 + 1 + 1, o5), (L + 1 + 1 + 1 + 1 + 1 + 1 + 1 + 1, o8'), (L + 1 + 1 + 1 + 1 + 1 + 1 + 1, o7), (L + 1 + 1 + 1 + 1 + 1 + 1, o6), (L + 1 + 1 + 1 + 1, o4), (L + 1 + 1 + 1, o3), (L + 1 + 1, o2), (rA, W.listOf (List.toArray vsR) kR), (kA, W.listOf (List.toArray vk') kk')] →
     o8'.data = .cell v8' → IntsAre vk' (known ++ (frK (fL R e) (bL R e) known e).map fun k => (fL R e).getD k 0) → Q .next { s with heap := h', toks := tk' }) :
  wpAny (model PySem.Challenge.rw_rw0085_01.prog w) (LA dp un gd L a ccd) (execs [lf8.1, lf9.1, lf10.1, lf11.1, lf12.1, lf13.1] (LE L a ccd)) Q E s := by
  revert X; k_fill; intro X
  have lenR := P.lenR
  have le9 := P.le
  have e1 := P.e1
  have e2 := P.e2
  have kn := P.kn
  have lfL : (fL R e).length = e := by unfold fL; rw [List.length_map, List.length_range]
  have lbL : (bL R e).length = e + 1 := by unfold bL; rw [List.length_map, List.length_range]
  iterate 2 (walk_at "go")
  k_dflt (refine' same_spec (fs := fL R e) (bs := bL R e) (e := e) ?sB ?sF ?sX g.N ?sT (in3 ?s1) d5 (in3 ?s2) d6 (in3 ?s3) iF (by omega) (in3 ?s4) d7 (in3 ?s5) iB (by omega) (by omega) ?sd ?su ?_; (case sB => k_asm); (case sF => k_asm); (case sX => k_asm); (case sT => k_asm); (case s1 => walk_at "tl"); (case s2 => walk_at "tl"); (case s3 => walk_at "tl"); (case s4 => walk_at "tl"); (case s5 => walk_at "tl"); (case sd => first | exact dlt hd rfl | omega); (case su => first | exact dlt hu rfl | omega))
  intro sA h1 k1 kS l1 F1 N1
  have g1 := g.add N1 l1
  have nS : @LT.lt Nat _ I sA := ltN (l1 (I, oI) (in3 (by walk_at "tl")))
  clear N1
  k_dflt (refine' cell_store (c := L + 1 + 1 + 1 + 1 + 1 + 1 + 1 + 1) (Y := [(sA, W.listOf (List.toArray ((List.range e).map fun k => Value.bool ((fL R e).getD k 0 == (bL R e).getD k 0))) kS), (bA, W.listOf (List.toArray wsB) kB), (fA, W.listOf (List.toArray wsF) kF), (I, oI), (L + 1 + 1 + 1 + 1 + 1, o5), (L + 1 + 1 + 1 + 1 + 1 + 1 + 1, o7), (L + 1 + 1 + 1 + 1 + 1 + 1, o6), (L + 1 + 1 + 1 + 1, o4), (L + 1 + 1 + 1, o3), (L + 1 + 1, o2), (rA, W.listOf (List.toArray vsR) kR), (kA, W.listOf (List.toArray vk) kk)]) F1 g1 ?cm d8 ?cc ?cY ?_ ?ca ?cb; (case cm => walk_at "tl"); (case cc => rfl); (case ca => rfl); (case cb => rfl); (case cY => walk_at "gd"))
  intro h2 o8' F2 g2 d8'
  clear g1 F1
  iterate 4 (walk_at "go")
  k_dflt (refine' kf_method g2.N (in3 ?mm) PySem.F.slot_list_index PySem.F.type_list_index ?_; (case mm => exact .tail _ (.head _)))
  iterate 4 (walk_at "go")
  obtain ⟨lo, hlo, hl1, hl2, hfr⟩ := P.long
  have ebs : ((List.range e).map fun k => Value.bool ((fL R e).getD k 0 == (bL R e).getD k 0)) = ((List.range e).map fun k => ((fL R e).getD k 0 == (bL R e).getD k 0)).map Value.bool := by rw [List.map_map]; rfl
  k_dflt (refine' idx_true (bs := (List.range e).map fun k => ((fL R e).getD k 0 == (bL R e).getD k 0)) (n := kS) (j := lo) g2.N (in3 ?mi) ?mj ?mn ?ml ?_)
  case mi => rw [← ebs]; exact .tail _ (.head _)
  case mj => rw [List.getElem?_map, List.getElem?_range hlo, ← hl1]; rfl
  case mn => intro i hi; rw [List.getElem?_map, List.getElem?_range (by omega), ← hl2 i hi]; rfl
  case ml => rw [List.length_map, List.length_range]; omega
  refine storeX_L F2 g2.N (fun h3 F3 N3 => ?_)
  have g3 := g2.mono N3
  clear N3 g2 F2
  iterate 1 (walk_at "go")
  k_dflt (refine' fresh_spec (fs := fL R e) (bs := bL R e) (known := known) (e := e) ?uB F3 ?uX g3.N ?uT (in3 ?u1) d5 (in3 ?u2) d6 (in3 ?u3) iF (by omega) (in3 ?u4) d8' (in3 ?u5) (in3 ?u6) d4 (in3 ?u7) iK (by omega) ?ud ?uu ?_; (case uB => k_asm); (case uX => k_asm); (case uT => k_asm); (case u1 => walk_at "tl"); (case u2 => walk_at "tl"); (case u3 => walk_at "tl"); (case u4 => walk_at "tl"); (case u5 => walk_at "tl"); (case u6 => walk_at "tl"); (case u7 => walk_at "tl"); (case ud => first | exact dlt hd rfl | omega); (case uu => first | exact dlt hu rfl | omega))
  intro rA2 h4 k4 wsR kR2 l4 F4 N4 iR
  have g4 := g3.add N4 l4
  have nR2 : @LT.lt Nat _ I rA2 := ltN (l4 (I, oI) (in3 (by walk_at "tl")))
  clear N4 g3 F3
  iterate 11 (walk_at "go")
  k_dflt (refine slice_strN_ss (hsz := ?hsz2) (s := ⟨_, _, _, _, _⟩) F4 g4.N ?_)
  case hsz2 => rw [St_len, sizeLine_eq]; omega
  intro h5 t5 k5 F5 N5
  have g5 := g4.mono N5
  clear N5 g4 F4
  rw [St_slice (by omega) (by omega)]
  iterate 10 (walk_at "go")
  rw [show ((e : Nat) : Int) - 1 = ((e - 1 : Nat) : Int) by omega]
  k_dflt (refine slice_strN_ns (hsz := ?hsz3) (s := ⟨_, _, _, _, _⟩) F5 g5.N ?_)
  case hsz3 => rw [St_len, sizeLine_eq]; omega
  intro h6 t6 k6 F6 N6
  have g6 := g5.mono N6
  clear N6 g5 F5
  rw [St_upto (by omega)]
  iterate 1 (walk_at "go")
  show wpAny _ _ (storeName _ _ (Value.bool (Txt.contains (St (List.take (e - 1) word)) (St (slN word lo e))))) _ _ _
  refine storeX_L F6 g6.N (fun h7 F7 N7 => ?_)
  have g7 := (g6.mono N7).sub (Y := [(rA2, W.listOf (List.toArray wsR) kR2), (fA, W.listOf (List.toArray wsF) kF), (I, oI), (L + 1 + 1 + 1 + 1 + 1, o5), (L + 1 + 1 + 1 + 1 + 1 + 1 + 1 + 1, o8'), (L + 1 + 1 + 1 + 1 + 1 + 1 + 1, o7), (L + 1 + 1 + 1 + 1 + 1 + 1, o6), (L + 1 + 1 + 1 + 1, o4), (L + 1 + 1 + 1, o3), (L + 1 + 1, o2), (rA, W.listOf (List.toArray vsR) kR), (kA, W.listOf (List.toArray vk) kk)]) (by walk_at "sub")
  clear N7 g6 F6
  iterate 6 (walk_at "go")
  have hfk : (frK (fL R e) (bL R e) known e).length ≤ 100 := by
    unfold frK
    have := List.length_filter_le (fun k => ((fL R e).getD k 0 == (bL R e).getD k 0) && !(known.any (· == (fL R e).getD k 0))) (List.range e)
    rw [List.length_range] at this
    omega
  have N7 := g7.N
  cases hc : Txt.contains (St (List.take (e - 1) word)) (St (slN word lo e)) with
  | true =>
    rw [hc, if_pos rfl] at hfr
    iterate 6 (walk_at "go")
    rename News _ _ _ _ => N8
    rename Fr _ _ _ _ => F8
    refine ne_intsK (vs := wsR) (us := []) (News.isList (n := kR2) (items := wsR.toArray) N8 (.tail _ (in3 (by walk_at "tl")))) iR (News.isList (n := 0) (items := #[]) N8 (.head _)) .nil (by show un + 64 < cLine; omega) ?_
    rw [hfr, show (decide (([] : List Int) = [])) = true from rfl]
    iterate 4 (walk_at "go")
    have g8 := (g7.mono (news_sub N8 fun q hq => .tail _ hq)).sub (Y := [(rA2, W.listOf (List.toArray wsR) kR2), (I, oI), (L + 1 + 1 + 1 + 1 + 1, o5), (L + 1 + 1 + 1 + 1 + 1 + 1 + 1 + 1, o8'), (L + 1 + 1 + 1 + 1 + 1 + 1 + 1, o7), (L + 1 + 1 + 1 + 1 + 1 + 1, o6), (L + 1 + 1 + 1 + 1, o4), (L + 1 + 1 + 1, o3), (L + 1 + 1, o2), (rA, W.listOf (List.toArray vsR) kR), (kA, W.listOf (List.toArray vk) kk)]) (by walk_at "sub")
    clear g7 N8
    k_dflt (refine' last_spec (known := known) (nw := (frK (fL R e) (bL R e) known e).map fun k => (fL R e).getD k 0) kn ?van ?vaB F8 ?vaX ?vaT ?vam g8 d4 iK iR nI nr nk nkI nR2 ?vad ?vau ?_; (case van => (rw [List.length_map]; exact hfk)); (case vaB => k_asm); (case vaX => k_asm); (case vaT => k_asm); (case vam => rfl); (case vad => first | exact dlt hd rfl | omega); (case vau => first | exact dlt hu rfl | omega))
    intro h' tk' m' vk' kk' F' g' iK'
    exact ret _ _ _ _ _ _ _ F' g' d8' iK'
  | false =>
    rw [hc, if_neg (by decide)] at hfr
    obtain ⟨tl0, hf0⟩ := intsGet iF (fL_get (R := R) (e := e) (i := lo) hlo)
    have hgl : (fL R e).getD lo 0 = vD 6 (sl R lo e).reverse := by rw [List.getD_eq_getElem?_getD, fL_get hlo]; rfl
    iterate 8 (walk_at "go")
    refine item_at (its := wsF.toArray) (v := .int (vD 6 (sl R lo e).reverse) tl0) (News.isList (n := kF) (items := wsF.toArray) N7 (in3 (by walk_at "tl"))) (by omega) (by omega) (by simpa using hf0) ?_
    iterate 2 (walk_at "go")
    rename News _ _ _ _ => N8
    rename Fr _ _ _ _ => F8
    refine ne_intsK (vs := wsR) (us := [.int (vD 6 (sl R lo e).reverse) tl0]) (News.isList (n := kR2) (items := wsR.toArray) N8 (.tail _ (in3 (by walk_at "tl")))) iR (News.isList (n := 0) (items := #[.int (vD 6 (sl R lo e).reverse) tl0]) N8 (.head _)) (.cons _ _ .nil) (by show un + 64 < cLine; omega) ?_
    rw [hfr, hgl, decide_eq_true rfl]
    iterate 4 (walk_at "go")
    have g8 := (g7.mono (news_sub N8 fun q hq => .tail _ hq)).sub (Y := [(rA2, W.listOf (List.toArray wsR) kR2), (I, oI), (L + 1 + 1 + 1 + 1 + 1, o5), (L + 1 + 1 + 1 + 1 + 1 + 1 + 1 + 1, o8'), (L + 1 + 1 + 1 + 1 + 1 + 1 + 1, o7), (L + 1 + 1 + 1 + 1 + 1 + 1, o6), (L + 1 + 1 + 1 + 1, o4), (L + 1 + 1 + 1, o3), (L + 1 + 1, o2), (rA, W.listOf (List.toArray vsR) kR), (kA, W.listOf (List.toArray vk) kk)]) (by walk_at "sub")
    clear g7 N8
    k_dflt (refine' last_spec (known := known) (nw := (frK (fL R e) (bL R e) known e).map fun k => (fL R e).getD k 0) kn ?vbn ?vbB F8 ?vbX ?vbT ?vbm g8 d4 iK iR nI nr nk nkI nR2 ?vbd ?vbu ?_; (case vbn => (rw [List.length_map]; exact hfk)); (case vbB => k_asm); (case vbX => k_asm); (case vbT => k_asm); (case vbm => rfl); (case vbd => first | exact dlt hd rfl | omega); (case vbu => first | exact dlt hu rfl | omega))
    intro h' tk' m' vk' kk' F' g' iK'
    exact ret _ _ _ _ _ _ _ F' g' d8' iK'
end
end

section
open PySem.Calls
open LCg (NsObj lst Off3)
section
variable {w : World} {p : Program} {loose : List Str} {mean : ExcName → Option Value} {mg mb : Str → Option Value}
  {dp un : Nat} {gd : Option (List Code)} {cn : Str} {cs : Scope} {a : Addr} {ccd : Value} {cl : List (Str × Addr)} {outer : List Env} {A₀ : Around} {base h₀ : Heap} {L : Addr} {m : Str → Option Value} {news : List (Addr × Obj)} {s : Shared}
  {Q E : Value → Shared → Prop}

theorem turn_spec {a I kA rA : Addr} {ccd : Value} {oI o8 o7 o6 o5 o4 o3 o2 : Obj} {v8 v7 v6 : Option Value} {te tw : Tok} {R known : List Int} {word : List Nat} {vsR vk : List Value} {kR kk e : Nat} {l30 l23 : List (Addr × Obj)} {Q : Flow → Shared → Prop}
  (P : TurnP R word e known)
  (B : Below A₀ base [] h₀) (F : Fr h₀ L s.heap m) (X : (KF w.params).In h₀) (T : Top p loose mean mg mb h₀) (XB : (KF w.params).In base) (TB : Top p loose mean mg mb base) (C30 : CodeHd h₀ 34 30) (C23 : CodeHd h₀ 27 23)
  (g : Gd h₀ L s.heap l30 l23 [(I, oI), (L + 1 + 1 + 1 + 1 + 1, o5), (L + 1 + 1 + 1 + 1 + 1 + 1 + 1 + 1, o8), (L + 1 + 1 + 1 + 1 + 1 + 1 + 1, o7), (L + 1 + 1 + 1 + 1 + 1 + 1, o6), (L + 1 + 1 + 1 + 1, o4), (L + 1 + 1 + 1, o3), (L + 1 + 1, o2), (rA, W.listOf (List.toArray vsR) kR), (kA, W.listOf (List.toArray vk) kk)])
  (d8 : o8.data = .cell v8) (d7 : o7.data = .cell v7) (d6 : o6.data = .cell v6) (d5 : o5.data = .cell (some (.int (e : Nat) te))) (d4 : o4.data = .cell (some (.ref kA))) (d3 : o3.data = .cell (some (.ref rA))) (d2 : o2.data = .cell (some (.str (St word) tw)))
  (iR : IntsAre vsR R) (iK : IntsAre vk known)
  (nI : @LT.lt Nat _ (L + 1 + 1 + 1 + 1 + 1 + 1 + 1 + 1) I) (nr : @LT.lt Nat _ (L + 1 + 1 + 1 + 1 + 1 + 1 + 1 + 1) rA) (nk : @LT.lt Nat _ rA kA) (nkI : @LT.lt Nat _ kA I)
  (hd : dp + 400 < recursionLimit) (hu : un + 4000 < cLine)
  (ret : ∀ h' tk' m' l30' l23' o8' o7' o6' v8' v7' v6' vk' kk', Fr h₀ L h' m' → Gd h₀ L h' l30' l23' [(I, oI), (L + 1 + 1 + 1 + 1 + 1, o5), (L + 1 + 1 + 1 + 1 + 1 + 1 + 1 + 1, o8'), (L + 1 + 1 + 1 + 1 + 1 + 1 + 1, o7'), (L + 1 + 1 + 1 + 1 + 1 + 1, o6'), (L + 1 + 1 + 1 + 1, o4), (L + 1 + 1 + 1, o3), (L + 1 + 1, o2), (rA, W.listOf (List.toArray vsR) kR), (kA, W.listOf (List.toArray vk') kk')] →
     o8'.data = .cell v8' → o7'.data = .cell v7' → o6'.data = .cell v6' → IntsAre vk' (known ++ (frK (fL R e) (bL R e) known e).map fun k => (fL R e).getD k 0) → Q .next { s with heap := h', toks := tk' }) :
  wpAny (model PySem.Challenge.rw_rw0085_01.prog w) (LA dp un gd L a ccd) (execs lwF.1.2.2 (LE L a ccd)) Q E s := by
  revert X; k_fill; intro X
  have le9 := P.le
  have e1 := P.e1
  have e2 := P.e2
  have tapl := P.tape_len
  iterate 1 (walk_at "go")
  k_dflt (refine' ends_spec (R := R) (e := e) ?zB ?zF ?zX g.N ?zT (in3 (by walk_at "tl")) d3 (in3 (by walk_at "tl")) iR (by omega) (in3 (by walk_at "tl")) d5 e2 ?zd ?zu ?_; (case zB => k_asm); (case zF => k_asm); (case zX => k_asm); (case zT => k_asm); (case zd => first | exact dlt hd rfl | omega); (case zu => first | exact dlt hu rfl | omega))
  intro eA h1 k1 ysE kE objs F1 N1 l1 lO1 nO1 sE1
  have g1 := Gd.adds g (Z := (eA, W.listOf (List.toArray ysE) kE) :: objs) N1 fun q hq z hz => by
    rcases List.mem_cons.mp hz with rfl | hz
    · exact l1 q hq
    · exact lO1 q hq z hz
  have nE : @LT.lt Nat _ I eA := ltN (l1 (I, oI) (in3 (by walk_at "tl")))
  have nO : ∀ o ∈ objs, @LT.lt Nat _ I o.1 := fun o ho => ltN (lO1 (I, oI) (in3 (by walk_at "tl")) o ho)
  dsimp only [List.cons_append] at g1
  replace g1 := g1.sub mem_swap
  dsimp only [List.cons_append, List.nil_append] at g1
  clear N1
  iterate 1 (walk_at "go")
  k_dflt (refine' tape_spec (R := R) (e := e) (ys := ysE) (kE := kE) (m := fun z => if z = Str.ofString "ends" then some (.ref eA) else m z) ?yB ?yF ?yX g1.N ?yT (in3 ?ye1) d5 ?ym (in3 ?ye2) (sE1.mono ?ye3) (by omega) e2 (by omega) ?yd ?yu ?_; (case yB => k_asm); (case yF => k_asm); (case yX => k_asm); (case yT => k_asm); (case ye1 => walk_at "tl"); (case ym => exact if_pos rfl); (case ye2 => walk_at "tl"); (case ye3 => exact fun q hq => in3 (by walk_at "tl")); (case yd => first | exact dlt hd rfl | omega); (case yu => first | exact dlt hu rfl | omega))
  intro tA h2 k2 wsT kT l2 F2 N2 iT
  replace iT : IntsAre wsT (tapeI R e) := iT
  have g2 := g1.add N2 l2
  have nT : @LT.lt Nat _ I tA := ltN (l2 (I, oI) (in3 (by walk_at "tl")))
  clear N2 g1
  iterate 12 (walk_at "go")
  k_dflt (refine' KBa.make_K (vs := wsT) (ns := tapeI R e) F2 g2.N (by rfl) ?xl iT P.in8 (by omega) ?_; (case xl => exact News.isList (n := kT) (items := wsT.toArray) g2.N (in3 (.head _))))
  intro h3 tb k3 F3 N3 _
  have g3 := g2.mono N3
  clear N3 g2 F2 F1
  iterate 1 (walk_at "go")
  refine ⟨by k_in, ?_⟩
  have hfl : (figs R e).length = e := by unfold figs; rw [List.length_map, List.length_range]
  k_dflt (refine' read_spec (fss := figs R e) ?wB ?wF ?wX g3.N ?wT ?wk XB TB P.tell (by omega) ?wd ?wu ?_; (case wB => k_asm); (case wF => k_asm); (case wX => k_asm); (case wT => k_asm); (case wk => rfl); (case wd => first | exact dlt hd rfl | omega); (case wu => first | exact dlt hu rfl | omega))
  intro fA h4 k4 wsF kF4 F4 N4 l4 iF
  rw [P.fvs] at iF
  have g4 := g3.add N4 l4
  have nF : @LT.lt Nat _ I fA := ltN (l4 (I, oI) (in3 (by walk_at "tl")))
  clear N4 g3 F3
  have nO8 : ∀ o ∈ objs, @LT.lt Nat _ (L + 1 + 1 + 1 + 1 + 1 + 1 + 1 + 1) o.1 := fun o ho => Nat.lt_trans nI (nO o ho)
  k_dflt (refine' cell_store (c := L + 1 + 1 + 1 + 1 + 1 + 1) (Y := [(fA, W.listOf (List.toArray wsF) kF4), (eA, W.listOf (List.toArray ysE) kE), (I, oI), (L + 1 + 1 + 1 + 1 + 1, o5), (L + 1 + 1 + 1 + 1 + 1 + 1 + 1 + 1, o8), (L + 1 + 1 + 1 + 1 + 1 + 1 + 1, o7), (L + 1 + 1 + 1 + 1, o4), (L + 1 + 1 + 1, o3), (L + 1 + 1, o2), (rA, W.listOf (List.toArray vsR) kR), (kA, W.listOf (List.toArray vk) kk)] ++ objs) F4 g4 ?vm d6 ?vc ?vY ?_ ?va ?vb; (case vm => walk_at "tl"); (case vc => rfl); (case va => rfl); (case vb => rfl); (case vY => exact List.forall_mem_append.mpr ⟨by walk_at "gd", fun q hq => ⟨by walk_at "tl", Nat.ne_of_gt (Nat.lt_trans (by omega) (nO8 q hq))⟩⟩))
  intro h5 o6' F5 g5 d6'
  dsimp only [List.cons_append, List.nil_append] at g5
  clear g4 F4
  have in23 : ∀ {X : List (Addr × Obj)} {q : Addr × Obj}, q ∈ X → q ∈ l23 ++ X := fun h => List.mem_append_right _ h
  iterate 4 (walk_at "go")
  k_dflt (refine' f3_spec (led := l30) (news := l23 ++ _) (R := R) (e := e) (ys := ysE) (m := fun z => if z = Str.ofString "tape" then some (.ref tA) else if z = Str.ofString "ends" then some (.ref eA) else m z) ?aB ?aF ?aX g5.t30 g5.N ?aT C30 g5.a30 (in23 ?ae1) d5 ?am (in23 ?ae2) (sE1.mono ?ae3) (by omega) (by omega) P.hB2 ?ad ?au ?_; (case aB => k_asm); (case aF => exact F5); (case aX => k_asm); (case aT => k_asm); (case ae1 => walk_at "tl"); (case am => exact (if_neg (by decide)).trans (if_pos rfl)); (case ae2 => walk_at "tl"); (case ae3 => exact fun q hq => in23 (by walk_at "tl")); (case ad => first | exact dlt hd rfl | omega); (case au => first | exact dlt hu rfl | omega))
  intro cA h6 k6 wsC kC l30b t6 ap6 ne6 lt6 F6 N6 iC
  have g6 := g5.c30 t6 ap6 ne6 lt6 N6
  clear N6 g5 F5
  refine ne_intsK (vs := wsF) (us := wsC) (News.isList (n := kF4) (items := wsF.toArray) g6.N (in3 (by walk_at "tl"))) iF (News.isList (n := kC) (items := wsC.toArray) g6.N (in3 (by walk_at "tl"))) iC (by dsimp only [ktrTop]; show un + 64 < cLine; omega) ?_
  rw [show (decide (fL R e = (List.range e).map fun j => vD 6 (sl R j e).reverse)) = true from decide_eq_true rfl]
  iterate 3 (walk_at "go")
  have g7 := g6.sub (Y := [(fA, W.listOf (List.toArray wsF) kF4), (eA, W.listOf (List.toArray ysE) kE), (I, oI), (L + 1 + 1 + 1 + 1 + 1, o5), (L + 1 + 1 + 1 + 1 + 1 + 1 + 1 + 1, o8), (L + 1 + 1 + 1 + 1 + 1 + 1 + 1, o7), (L + 1 + 1 + 1 + 1 + 1 + 1, o6'), (L + 1 + 1 + 1 + 1, o4), (L + 1 + 1 + 1, o3), (L + 1 + 1, o2), (rA, W.listOf (List.toArray vsR) kR), (kA, W.listOf (List.toArray vk) kk)] ++ objs) (List.forall_mem_append.mpr ⟨by walk_at "sub", fun q hq => by walk_at "tl"⟩)
  dsimp only [List.cons_append, List.nil_append] at g7
  clear g6
  iterate 2 (walk_at "go")
  k_dflt (refine' back_spec (led := l30b) (news := l23 ++ _) (R := R) (e := e) (ys := ysE) (m := fun z => if z = Str.ofString "tape" then some (.ref tA) else if z = Str.ofString "ends" then some (.ref eA) else m z) ?bB ?bF ?bX g7.t30 g7.N ?bT C30 g7.a30 ?bm (in23 ?be2) (sE1.mono ?be3) (by omega) (by omega) P.hB1 ?bd ?bu ?_; (case bB => k_asm); (case bF => exact F6); (case bX => k_asm); (case bT => k_asm); (case bm => exact (if_neg (by decide)).trans (if_pos rfl)); (case be2 => walk_at "tl"); (case be3 => exact fun q hq => in23 (by walk_at "tl")); (case bd => first | exact dlt hd rfl | omega); (case bu => first | exact dlt hu rfl | omega))
  intro bA h8 k8 wsB kB l30c t8 ap8 ne8 lt8 F8 N8 iB
  replace iB : IntsAre wsB (bL R e) := iB
  have g8 := g7.c30 t8 ap8 ne8 lt8 N8
  have nB : @LT.lt Nat _ I bA := ltN (lt8 (I, oI) (in23 (by walk_at "tl")))
  clear N8 g7 F6
  k_dflt (refine' cell_store (c := L + 1 + 1 + 1 + 1 + 1 + 1 + 1) (Y := [(bA, W.listOf (List.toArray wsB) kB), (fA, W.listOf (List.toArray wsF) kF4), (I, oI), (L + 1 + 1 + 1 + 1 + 1, o5), (L + 1 + 1 + 1 + 1 + 1 + 1 + 1 + 1, o8), (L + 1 + 1 + 1 + 1 + 1 + 1, o6'), (L + 1 + 1 + 1 + 1, o4), (L + 1 + 1 + 1, o3), (L + 1 + 1, o2), (rA, W.listOf (List.toArray vsR) kR), (kA, W.listOf (List.toArray vk) kk)]) F8 g8 ?cm d7 ?cc ?cY ?_ ?ca ?cb; (case cm => walk_at "tl"); (case cc => rfl); (case ca => rfl); (case cb => rfl); (case cY => walk_at "gd"))
  intro h9 o7' F9 g9 d7'
  clear g8 F8
  iterate 12 (walk_at "go")
  obtain ⟨x0, hx0, hx64, hxd⟩ := P.b0
  obtain ⟨tx0, hb0⟩ := intsGet iB (bL_get (R := R) (e := e) (i := 0) (by omega))
  rw [hx0] at hb0
  obtain ⟨txe, hbe⟩ := intsGet iB (bL_get (R := R) (e := e) (i := e) (by omega))
  rw [sl_none] at hbe
  replace hbe : wsB[e]? = some (.int ((0 : Nat) : Int) txe) := hbe
  refine item_at (its := wsB.toArray) (v := .int (x0 : Int) tx0) (News.isList (n := kB) (items := wsB.toArray) g9.N (in3 (by walk_at "tl"))) (by omega) (by omega) (by simpa using hb0) ?_
  iterate 3 (walk_at "go")
  refine ⟨by k_in, ?_⟩
  try dsimp only [List.nil_append, List.cons_append]
  k_dflt (refine' i2d_spec (led := l23) (news := l30c ++ _) (n := 6) (x := x0) ?cB ?cF ?cX g9.t23 g9.pre23.1 ?cT ?ck C23 g9.pre23.2 hx64 (by decide) (by decide) ?cd ?cu ?_; (case cB => k_asm); (case cF => exact F9); (case cX => k_asm); (case cT => k_asm); (case ck => rfl); (case cd => first | exact dlt hd rfl | omega); (case cu => first | exact dlt hu rfl | omega))
  intro gA wsG kG h10 k10 l23b t10 ap10 ne10 lt10 F10 N10 iG
  rw [hxd] at iG
  have g10 := g9.c23 t10 ap10 ne10 lt10 N10
  have nG : @LT.lt Nat _ I gA := ltN (lt10 (I, oI) (List.mem_append_right _ (by walk_at "tl")))
  clear N10 g9 F9
  iterate 8 (walk_at "go")
  refine item_at (its := wsB.toArray) (v := .int ((0 : Nat) : Int) txe) (News.isList (n := kB) (items := wsB.toArray) g10.N (in3 (by walk_at "tl"))) (by omega) (by omega) (by simpa using hbe) ?_
  iterate 3 (walk_at "go")
  refine ⟨by k_in, ?_⟩
  try dsimp only [List.nil_append, List.cons_append]
  k_dflt (refine' i2d_spec (led := l23b) (news := l30c ++ _) (n := 6) (x := 0) ?eB ?eF ?eX g10.t23 g10.pre23.1 ?eT ?ek C23 g10.pre23.2 (by decide) (by decide) (by decide) ?ed ?eu ?_; (case eB => k_asm); (case eF => exact F10); (case eX => k_asm); (case eT => k_asm); (case ek => rfl); (case ed => first | exact dlt hd rfl | omega); (case eu => first | exact dlt hu rfl | omega))
  intro zA wsZ kZ h11 k11 l23c t11 ap11 ne11 lt11 F11 N11 iZ
  rw [show dgI 6 ((bl 0 + 6 - 1) / 6) 0 = [] by decide +kernel] at iZ
  have g11 := g10.c23 t11 ap11 ne11 lt11 N11
  have nZ : @LT.lt Nat _ I zA := ltN (lt11 (I, oI) (List.mem_append_right _ (by walk_at "tl")))
  clear N11 g10 F10
  have N11 := g11.N
  iterate 3 (walk_at "go")
  rename_i PA h12 F12 N12 l12
  have g12 := g11.add N12 l12
  have nP : @LT.lt Nat _ I PA := ltN (l12 (I, oI) (in3 (by walk_at "tl")))
  clear g11
  iterate 8 (walk_at "go")
  have hrl : vsR.length = R.length := iR.length
  have etk : ∀ k : Nat, R.take (k : Int).toNat = sl R 0 k := fun k => by unfold sl; simp
  k_dflt (refine' kmk_slice_ints (ns := R) (vs := vsR) F12 g12.N ?fl ?fp ?fq iR ?fm ?fc ?_ ?fs ?ft ?fz; (case fl => exact News.isList (n := kR) (items := vsR.toArray) g12.N (in3 (by walk_at "tl"))); (case fp => kmk_part); (case fq => kmk_part); (case fm => exact kmk_upto iR (by omega)); (case fc => exact rfl); (case fs => with_unfolding_all rfl); (case ft => kmk_pure); (case fz => exact kmk_sz iR (by rw [sizeLine_eq]; omega)))
  intro sA wsS h13 F13 N13 l13 iS _ _
  rw [etk] at iS
  have g13 := g12.add N13 l13
  have nS : @LT.lt Nat _ I sA := ltN (l13 (I, oI) (in3 (by walk_at "tl")))
  clear g12

  iterate 5 (walk_at "go")
  iterate 1 (walk_at "go")
  rename News _ _ _ _ => N15
  rename Fr _ _ _ _ => F15
  refine ne_two (na := sl R 0 e) (nb := []) (va := wsG) (vb := wsZ) (vc := wsS) (vd := []) (ka := kG) (kb := kZ) (kc := 0) (kd := 0) (D := gA) (b := zA) (c := sA) (kp := 0) (kr := 0) N15 (.tail _ (.tail _ (.tail _ (in3 (by walk_at "tl"))))) (.head _) (.tail _ (.tail _ (.tail _ (in3 (by walk_at "tl"))))) (.tail _ (.tail _ (.tail _ (in3 (by walk_at "tl"))))) (.tail _ (.tail _ (.head _))) (.tail _ (.head _)) iG iZ iS .nil (by show un + 64 < cLine; omega) ?_
  iterate 4 (walk_at "go")
  have g15 := ((g13.sub fun q hq => .tail _ hq).mono (news_sub N15 fun q hq => .tail _ (.tail _ (.tail _ hq)))).sub (Y := [(bA, W.listOf (List.toArray wsB) kB), (fA, W.listOf (List.toArray wsF) kF4), (I, oI), (L + 1 + 1 + 1 + 1 + 1, o5), (L + 1 + 1 + 1 + 1 + 1 + 1 + 1 + 1, o8), (L + 1 + 1 + 1 + 1 + 1 + 1 + 1, o7'), (L + 1 + 1 + 1 + 1 + 1 + 1, o6'), (L + 1 + 1 + 1 + 1, o4), (L + 1 + 1 + 1, o3), (L + 1 + 1, o2), (rA, W.listOf (List.toArray vsR) kR), (kA, W.listOf (List.toArray vk) kk)]) (by walk_at "sub")
  clear g13 N15
  iterate 14 (walk_at "go")
  rename Fr _ _ _ _ => F15
  k_dflt (refine' kmk_slice_ints (ns := R) (vs := vsR) F15 g15.N ?gl ?gp ?gq iR ?gm ?gc ?_ ?gs ?gt ?gz; (case gl => exact News.isList (n := kR) (items := vsR.toArray) g15.N (in3 (by walk_at "tl"))); (case gp => kmk_part); (case gq => kmk_part); (case gm => exact kmk_upto iR (by omega)); (case gc => exact rfl); (case gs => with_unfolding_all rfl); (case gt => kmk_pure); (case gz => exact kmk_sz iR (by rw [sizeLine_eq]; omega)))
  intro uA wsU h16 F16 N16 l16 iU _ _
  rw [etk] at iU
  have g16 := g15.add N16 l16
  clear g15 N16 F15
  have hul : wsU.length = (sl R 0 e).length := iU.length
  have hsl0 : (sl R 0 e).length = e := by unfold sl; rw [List.length_take, List.length_drop]; omega
  iterate 7 (walk_at "go")
  refine kba_turn (value' := .Name (Str.ofString "row") ⟨0, 0, 0, 0⟩) (fun _ => rfl) ?_
  k_dflt (refine' krv_ints (ns := sl R 0 e) (vs := wsU) F16 g16.N ?hl ?hk iU ?_ ?hs ?ht ?hz; (case hl => exact News.isList (n := 0) (items := wsU.toArray) g16.N (in3 (.head _))); (case hk => exact IsPart.int _ _); (case hs => with_unfolding_all rfl); (case ht => kmk_pure); (case hz => (rw [List.size_toArray, sizeLine_eq]; omega)))
  intro rvA wsV h17 F17 N17 l17 iV eV
  have g17 := g16.add N17 l17
  clear g16 N17 F16
  iterate 1 (walk_at "go")
  refine ⟨by k_in, ?_⟩
  try dsimp only [List.nil_append, List.cons_append]
  k_dflt (refine' pairs_spec (ds := (sl R 0 e).reverse) (vs := wsV) ?hB ?hF ?hX g17.N ?hT ?hk (in3 (.head _)) iV ?hla ?hsm ?hd ?hu ?_; (case hB => k_asm); (case hF => exact F17); (case hX => k_asm); (case hT => k_asm); (case hk => rfl); (case hla => (rw [List.length_reverse]; omega)); (case hd => first | exact dlt hd rfl | omega); (case hu => first | exact dlt hu rfl | omega))
  case hsm =>
    intro d hd
    have hd' : d ∈ R := by
      have := List.mem_reverse.mp hd
      unfold sl at this
      exact List.mem_of_mem_drop (List.mem_of_mem_take this)
    have := P.dig d hd'
    omega
  intro qA h18 k18 wsQ kQ F18 N18 l18 iQ
  have g18 := g17.add N18 l18
  have nQ : @LT.lt Nat _ I qA := ltN (l18 (I, oI) (in3 (by walk_at "tl")))
  clear g17 N18 F17
  refine storeX_L F18 g18.N (fun h19 F19 N19 => ?_)
  have g19 := (g18.mono N19).sub (Y := [(qA, W.listOf (List.toArray wsQ) kQ), (bA, W.listOf (List.toArray wsB) kB), (fA, W.listOf (List.toArray wsF) kF4), (I, oI), (L + 1 + 1 + 1 + 1 + 1, o5), (L + 1 + 1 + 1 + 1 + 1 + 1 + 1 + 1, o8), (L + 1 + 1 + 1 + 1 + 1 + 1 + 1, o7'), (L + 1 + 1 + 1 + 1 + 1 + 1, o6'), (L + 1 + 1 + 1 + 1, o4), (L + 1 + 1 + 1, o3), (L + 1 + 1, o2), (rA, W.listOf (List.toArray vsR) kR), (kA, W.listOf (List.toArray vk) kk)]) (by walk_at "sub")
  clear g18 N19 F18
  iterate 11 (walk_at "go")
  obtain ⟨y0, hy0, hy64, hyd, hyv⟩ := P.f0
  obtain ⟨ty0, hf0⟩ := intsGet iF (fL_get (R := R) (e := e) (i := 0) (by omega))
  rw [hy0] at hf0
  refine item_at (its := wsF.toArray) (v := .int (y0 : Int) ty0) (News.isList (n := kF4) (items := wsF.toArray) g19.N (in3 (by walk_at "tl"))) (by omega) (by omega) (by simpa using hf0) ?_
  iterate 3 (walk_at "go")
  refine ⟨by k_in, ?_⟩
  try dsimp only [List.nil_append, List.cons_append]
  k_dflt (refine' i2d_spec (led := l23c) (news := l30c ++ _) (n := 12) (x := y0) ?iB ?iF ?iX g19.t23 g19.pre23.1 ?iT ?ik C23 g19.pre23.2 hy64 (by decide) (by decide) ?id ?iu ?_; (case iB => k_asm); (case iF => exact F19); (case iX => k_asm); (case iT => k_asm); (case ik => rfl); (case id => first | exact dlt hd rfl | omega); (case iu => first | exact dlt hu rfl | omega))
  intro jA wsJ kJ h20 k20 l23d t20 ap20 ne20 lt20 F20 N20 iJ
  rw [hyd] at iJ
  have g20 := g19.c23 t20 ap20 ne20 lt20 N20
  clear N20 g19 F19
  iterate 1 (walk_at "go")
  refine ne_intsK (vs := wsJ) (us := wsQ) (News.isList (n := kJ) (items := wsJ.toArray) g20.N (in3 (by walk_at "tl"))) iJ (News.isList (n := kQ) (items := wsQ.toArray) g20.N (in3 (by walk_at "tl"))) iQ (by show un + 64 < cLine; omega) ?_
  rw [show (decide (pairsL (sl R 0 e).reverse = pairsL (sl R 0 e).reverse)) = true from decide_eq_true rfl]
  iterate 12 (walk_at "go")
  refine ⟨by k_in, ?_⟩
  try dsimp only [List.nil_append, List.cons_append]
  have hpl : (pairsL (sl R 0 e).reverse).length < 100 := by unfold pairsL; rw [List.length_map, List.length_range, List.length_reverse]; omega
  k_dflt (refine' d2i_spec (led := l30c) (news := l23d ++ _) (ds := pairsL (sl R 0 e).reverse) (vs := wsQ) (n := 12) ?jB ?jF ?jX g20.t30 g20.N ?jT ?jk C30 (List.mem_append_right _ ?jl) g20.a30 iQ hpl P.hB3 (by decide) ?jd ?ju ?_; (case jB => k_asm); (case jF => exact F20); (case jX => k_asm); (case jT => k_asm); (case jk => rfl); (case jl => walk_at "tl"); (case jd => first | exact dlt hd rfl | omega); (case ju => first | exact dlt hu rfl | omega))
  intro t21 h21 k21 l30d tb21 ap21 F21 N21
  rw [hyv]
  have g21 := g20.d30 tb21 ap21 N21
  clear N21 g20 F20
  iterate 3 (walk_at "go")
  refine item_at (its := wsF.toArray) (v := .int (y0 : Int) ty0) (News.isList (n := kF4) (items := wsF.toArray) g21.N (in3 (by walk_at "tl"))) (by omega) (by omega) (by simpa using hf0) ?_
  iterate 1 (walk_at "go")
  rw [show ((y0 : Int) != (y0 : Int)) = false by simp]
  iterate 6 (walk_at "go")
  have g22 := g21.sub (Y := [(bA, W.listOf (List.toArray wsB) kB), (fA, W.listOf (List.toArray wsF) kF4), (I, oI), (L + 1 + 1 + 1 + 1 + 1, o5), (L + 1 + 1 + 1 + 1 + 1 + 1 + 1 + 1, o8), (L + 1 + 1 + 1 + 1 + 1 + 1 + 1, o7'), (L + 1 + 1 + 1 + 1 + 1 + 1, o6'), (L + 1 + 1 + 1 + 1, o4), (L + 1 + 1 + 1, o3), (L + 1 + 1, o2), (rA, W.listOf (List.toArray vsR) kR), (kA, W.listOf (List.toArray vk) kk)]) (by walk_at "sub")
  clear g21
  k_dflt (refine' turn2_spec (R := R) (word := word) (e := e) (known := known) P ?tB ?tF ?tX ?tT g22 d8 d7' d6' d5 d4 d2 iF iB iK nI nr nk nkI nF nB ?td ?tu ?_; (case tB => k_asm); (case tF => k_asm); (case tX => k_asm); (case tT => k_asm); (case td => first | exact dlt hd rfl | omega); (case tu => first | exact dlt hu rfl | omega))
  intro h' tk' m' o8' v8' vk' kk' F' g' d8' iK'
  exact ret _ _ _ _ _ _ _ _ _ _ _ _ _ F' g' d8' d7' d6' iK'
end
end

section
open PySem.Calls
set_option maxHeartbeats 2000000
theorem vD_bd (n : Nat) : ∀ l : List Int, (∀ d ∈ l, 0 ≤ d ∧ d < 2 ^ n) → 0 ≤ vD n l ∧ vD n l < 2 ^ (n * l.length)
  | [], _ => ⟨Int.le_refl _, by simp [vD]⟩
  | d :: r, h => by
    obtain ⟨h0, h1⟩ := vD_bd n r fun q hq => h q (.tail _ hq)
    obtain ⟨d0, d1⟩ := h d (.head _)
    have hp : (0 : Int) < 2 ^ n := Int.pow_pos (by decide)
    rw [vD, List.length_cons, Nat.mul_succ, Int.pow_add]
    have h2 : 0 ≤ 2 ^ n * vD n r := Int.mul_nonneg (Int.le_of_lt hp) h0
    refine ⟨by omega, ?_⟩
    have h3 : 2 ^ n * vD n r + 2 ^ n ≤ 2 ^ n * 2 ^ (n * r.length) := by
      have : 2 ^ n * (vD n r + 1) ≤ 2 ^ n * 2 ^ (n * r.length) := Int.mul_le_mul_of_nonneg_left (by omega) (Int.le_of_lt hp)
      rw [Int.mul_add, Int.mul_one] at this
      exact this
    rw [Int.mul_comm (2 ^ (n * r.length))]
    omega
theorem vD_abs {n : Nat} {l : List Int} (h : ∀ d ∈ l, 0 ≤ d ∧ d < 2 ^ n) (hl : n * l.length ≤ 63) : (vD n l).natAbs < 2 ^ 64 := by
  obtain ⟨h0, h1⟩ := vD_bd n l h
  have h2 : (2 : Int) ^ (n * l.length) ≤ 2 ^ 63 := by
    have := Nat.pow_le_pow_right (n := 2) (by decide) hl
    exact_mod_cast this
  have h3 : (2 : Int) ^ 63 < 2 ^ 64 := by decide
  omega
/-- the number of a row of digits -/
noncomputable def nD (n : Nat) (l : List Int) : Nat := (vD n l).toNat
theorem nD_eq {n : Nat} {l : List Int} (h : ∀ d ∈ l, 0 ≤ d ∧ d < 2 ^ n) : vD n l = (nD n l : Int) := (Int.toNat_of_nonneg (vD_bd n l h).1).symm
theorem dg_vD (n : Nat) : ∀ l : List Int, (∀ d ∈ l, 0 ≤ d ∧ d < 2 ^ n) → dgI n l.length (nD n l) = l
  | [], _ => rfl
  | d :: r, h => by
    have hr := fun q hq => h q (List.mem_cons_of_mem _ hq)
    obtain ⟨d0, d1⟩ := h d (.head _)
    have ih := dg_vD n r hr
    have hp : (0 : Int) < 2 ^ n := Int.pow_pos (by decide)
    have hpn : 0 < 2 ^ n := Nat.pow_pos (by decide)
    have e : nD n (d :: r) = d.toNat + 2 ^ n * nD n r := by
      have h1 := nD_eq hr
      have h2 := nD_eq h
      rw [vD, h1] at h2
      have : ((nD n (d :: r) : Nat) : Int) = ((d.toNat + 2 ^ n * nD n r : Nat) : Int) := by
        rw [← h2]; push_cast; rw [Int.toNat_of_nonneg d0]
      exact_mod_cast this
    have dn : d.toNat < 2 ^ n := by
      have : (d.toNat : Int) < ((2 ^ n : Nat) : Int) := by rw [Int.toNat_of_nonneg d0]; exact_mod_cast d1
      exact_mod_cast this
    unfold dgI
    rw [List.length_cons, dg, e, Nat.add_mul_mod_self_left, Nat.mod_eq_of_lt dn, Nat.add_mul_div_left _ _ hpn, Nat.div_eq_of_lt dn, Nat.zero_add, List.map_cons]
    unfold dgI at ih
    rw [ih]
    congr 1
    exact Int.toNat_of_nonneg d0
theorem nD_low (n : Nat) : ∀ l : List Int, (∀ d ∈ l, 1 ≤ d ∧ d < 2 ^ n) → l ≠ [] → 2 ^ (n * (l.length - 1)) ≤ nD n l
  | [], _, h => absurd rfl h
  | [d], h, _ => by
    obtain ⟨d0, d1⟩ := h d (.head _)
    have : nD n [d] = d.toNat := by unfold nD; simp [vD]
    rw [this]
    simp
    omega
  | d :: e :: r, h, _ => by
    have hr := fun q hq => h q (List.mem_cons_of_mem _ hq)
    have ih := nD_low n (e :: r) hr (by simp)
    have h0 : ∀ q ∈ d :: e :: r, 0 ≤ q ∧ q < 2 ^ n := fun q hq => ⟨by have := (h q hq).1; omega, (h q hq).2⟩
    have hr0 : ∀ q ∈ e :: r, 0 ≤ q ∧ q < 2 ^ n := fun q hq => h0 q (.tail _ hq)
    obtain ⟨d0, d1⟩ := h d (.head _)
    have e2 : nD n (d :: e :: r) = d.toNat + 2 ^ n * nD n (e :: r) := by
      have h1 := nD_eq hr0
      have h2 := nD_eq h0
      rw [vD, h1] at h2
      have : ((nD n (d :: e :: r) : Nat) : Int) = ((d.toNat + 2 ^ n * nD n (e :: r) : Nat) : Int) := by
        rw [← h2]; push_cast; rw [Int.toNat_of_nonneg (by omega)]
      exact_mod_cast this
    rw [e2]
    have e3 : n * ((d :: e :: r).length - 1) = n + n * ((e :: r).length - 1) := by
      simp only [List.length_cons, Nat.add_sub_cancel]
      rw [Nat.mul_succ, Nat.add_comm]
    rw [e3, Nat.pow_add]
    have := Nat.mul_le_mul_left (2 ^ n) ih
    omega
theorem bl_gt {x k : Nat} (h : 2 ^ k ≤ x) : k < bl x := by
  have h1 := bl_lt x
  have h2 : 2 ^ k < 2 ^ bl x := Nat.lt_of_le_of_lt h h1
  exact (Nat.pow_lt_pow_iff_right (by decide)).mp h2
/-- the digits come back -/
theorem dg_back {n : Nat} (hn : 0 < n) {l : List Int} (h : ∀ d ∈ l, 1 ≤ d ∧ d < 2 ^ n) : dgI n ((bl (nD n l) + n - 1) / n) (nD n l) = l := by
  have h0 : ∀ q ∈ l, 0 ≤ q ∧ q < 2 ^ n := fun q hq => ⟨by have := (h q hq).1; omega, (h q hq).2⟩
  have hk : (bl (nD n l) + n - 1) / n = l.length := by
    cases l with
    | nil =>
      have : nD n [] = 0 := rfl
      rw [this, show bl 0 = 0 from rfl]
      exact Nat.div_eq_of_lt (by simp; omega)
    | cons d r =>
      have h1 := nD_low n (d :: r) h (by simp)
      have h2 := bl_gt h1
      have h3 : nD n (d :: r) < 2 ^ (n * (d :: r).length) := by
        have := (vD_bd n (d :: r) h0).2
        rw [nD_eq h0] at this
        exact_mod_cast this
      have h4 := bl_le h3
      rw [List.length_cons] at *
      rw [Nat.add_sub_cancel] at h2
      rw [Nat.mul_succ] at h4
      have e : bl (nD n (d :: r)) + n - 1 = (bl (nD n (d :: r)) - 1 - n * r.length) + n * (r.length + 1) := by rw [Nat.mul_succ]; omega
      rw [e, Nat.add_mul_div_left _ _ hn, Nat.div_eq_of_lt (by omega), Nat.zero_add]
  rw [hk]
  exact dg_vD n l h0
theorem vD_inj {n : Nat} (hn : 0 < n) {l l' : List Int} (h : ∀ d ∈ l, 1 ≤ d ∧ d < 2 ^ n) (h' : ∀ d ∈ l', 1 ≤ d ∧ d < 2 ^ n) (e : vD n l = vD n l') : l = l' := by
  have e2 : nD n l = nD n l' := by unfold nD; rw [e]
  rw [← dg_back hn h, ← dg_back hn h', e2]
theorem fv_rev0 : ∀ l : List Int, (∀ d ∈ l, 0 ≤ d) → ((fv (l.reverse.map Int.toNat) : Nat) : Int) = vD 6 l
  | [], _ => rfl
  | d :: r, h => by
    rw [List.reverse_cons, List.map_append, List.map_cons, List.map_nil, fv_step, vD]
    push_cast
    rw [fv_rev0 r fun q hq => h q (.tail _ hq), Int.toNat_of_nonneg (h d (.head _))]
    omega
theorem fv_rev (l : List Int) (h : ∀ d ∈ l, 0 ≤ d) : ((fv (l.map Int.toNat) : Nat) : Int) = vD 6 l.reverse := by
  have := fv_rev0 l.reverse fun d hd => h d (List.mem_reverse.mp hd)
  rw [List.reverse_reverse] at this
  exact this
/-! the octets -/
theorem oct_get {ds : List Int} {k : Nat} (hk : k < ds.length) : (octL ds)[k]? = some (ds.getD k 0 + (if k + 1 < ds.length then 64 else 0) + (if k = 0 then 128 else 0)) := by
  have row : ∀ j, j < ds.length → (ds.dropLast.map (· + 64) ++ ds.drop (ds.length - 1))[j]? = some (ds.getD j 0 + (if j + 1 < ds.length then 64 else 0)) := fun j hj => by
    by_cases h : j + 1 < ds.length
    · rw [List.getElem?_append_left (by simp; omega), List.getElem?_map, List.getElem?_dropLast, if_pos (by omega), if_pos h, List.getElem?_eq_getElem hj, List.getD_eq_getElem?_getD, List.getElem?_eq_getElem hj]
      rfl
    · rw [List.getElem?_append_right (by simp; omega), if_neg h, List.getElem?_drop, List.length_map, List.length_dropLast, show ds.length - 1 + (j - (ds.length - 1)) = j by omega, List.getElem?_eq_getElem hj, List.getD_eq_getElem?_getD, List.getElem?_eq_getElem hj]
      simp
  unfold octL
  dsimp only
  cases k with
  | zero =>
    rw [List.getElem?_cons_zero, List.getD_eq_getElem?_getD, row 0 hk, if_pos rfl]
    rfl
  | succ k =>
    rw [List.getElem?_cons_succ, List.getElem?_drop, Nat.add_comm 1 k, row (k + 1) hk, if_neg (show ¬ (k + 1 = 0) by omega)]
    simp
theorem bt_get (xs : List Int) (k : Nat) : (byteArr xs)[k]? = (xs[k]?).map fun n => n.toNat.toUInt8 := by
  unfold byteArr
  simp
theorem oct_byte : ∀ n : Fin 64, ∀ a b : Bool, (Nat.toUInt8 (n.1 + (bif a then 64 else 0) + (bif b then 128 else 0))).toNat % 64 = n.1 ∧ (Nat.toUInt8 (n.1 + (bif a then 64 else 0) + (bif b then 128 else 0))).toNat / 64 % 2 = (bif a then 1 else 0) := by decide +kernel
theorem tells_at {xs : List Int} {i : Nat} {ds : List Int} (hne : ds ≠ []) (hd : ∀ d ∈ ds, 0 ≤ d ∧ d < 64) (h : ∀ k, k < ds.length → xs[i + k]? = (octL ds)[k]?) : Tells (byteArr xs) i (ds.map Int.toNat) := by
  intro k f hf
  have hk : k < ds.length := by
    have := (List.getElem?_eq_some_iff.mp hf).1
    simpa using this
  have hfd : ds[k]? = some (ds.getD k 0) := by rw [List.getD_eq_getElem?_getD, List.getElem?_eq_getElem hk]; rfl
  have hfe : f = (ds.getD k 0).toNat := by
    rw [List.getElem?_map, hfd] at hf
    exact (Option.some.inj hf).symm
  obtain ⟨d0, d1⟩ := hd _ (List.mem_of_getElem? hfd)
  refine ⟨_, by rw [bt_get, h k hk, oct_get hk]; rfl, ?_, ?_⟩
  all_goals
    try rw [hfe]
    generalize ds.getD k 0 = d at *
    obtain ⟨n, rfl⟩ := Int.eq_ofNat_of_zero_le d0
    have hn : n < 64 := Int.ofNat_lt.mp d1
    dsimp only
    rw [show ((n : Int) + (if k + 1 < ds.length then 64 else 0) + (if k = 0 then 128 else 0)).toNat = n + (if k + 1 < ds.length then 64 else 0) + (if k = 0 then 128 else 0) from by split <;> split <;> rfl]
    by_cases h1 : k + 1 < ds.length <;> by_cases h2 : k = 0
  · rw [if_pos h1, if_pos h2]; exact (oct_byte ⟨n, hn⟩ true true).1
  · rw [if_pos h1, if_neg h2]; exact (oct_byte ⟨n, hn⟩ true false).1
  · rw [if_neg h1, if_pos h2]; exact (oct_byte ⟨n, hn⟩ false true).1
  · rw [if_neg h1, if_neg h2]; exact (oct_byte ⟨n, hn⟩ false false).1
  · rw [if_pos h1, if_pos h2, List.length_map, if_pos h1]; exact (oct_byte ⟨n, hn⟩ true true).2
  · rw [if_pos h1, if_neg h2, List.length_map, if_pos h1]; exact (oct_byte ⟨n, hn⟩ true false).2
  · rw [if_neg h1, if_pos h2, List.length_map, if_neg h1]; exact (oct_byte ⟨n, hn⟩ false true).2
  · rw [if_neg h1, if_neg h2, List.length_map, if_neg h1]; exact (oct_byte ⟨n, hn⟩ false false).2
theorem tellsA : ∀ (dss : List (List Int)) (pre : List Int), (∀ ds ∈ dss, ds ≠ [] ∧ ds.length ≤ 9 ∧ ∀ d ∈ ds, 0 ≤ d ∧ d < 64) → TellsA (byteArr (pre ++ dss.flatMap octL)) pre.length (dss.map fun ds => ds.map Int.toNat)
  | [], pre, _ => by
    refine .nil ?_
    rw [bt_get]
    simp
  | ds :: r, pre, h => by
    obtain ⟨h1, h2, h3⟩ := h ds (.head _)
    have ih := tellsA r (pre ++ octL ds) fun q hq => h q (.tail _ hq)
    rw [List.append_assoc, List.length_append, oct_len h1] at ih
    rw [List.map_cons]
    refine .cons (tells_at h1 h3 fun k hk => ?_) (by simpa using h1) (by rw [List.length_map]; exact h2) (by rw [List.length_map]; exact ih)
    rw [List.getElem?_append_right (by omega), Nat.add_sub_cancel_left, List.flatMap_cons, List.getElem?_append_left (by rw [oct_len h1]; exact hk)]
theorem oct_in {ds : List Int} (hd : ∀ d ∈ ds, 0 ≤ d ∧ d < 64) (hne : ds ≠ []) : ∀ x ∈ octL ds, 0 ≤ x ∧ x < 256 := fun x hx => by
  obtain ⟨k, hk⟩ := List.mem_iff_getElem?.mp hx
  have hkl : k < ds.length := by
    have := (List.getElem?_eq_some_iff.mp hk).1
    rw [oct_len hne] at this
    exact this
  rw [oct_get hkl] at hk
  have := Option.some.inj hk
  have hfd : ds[k]? = some (ds.getD k 0) := by rw [List.getD_eq_getElem?_getD, List.getElem?_eq_getElem hkl]; rfl
  obtain ⟨d0, d1⟩ := hd _ (List.mem_of_getElem? hfd)
  subst this
  split <;> split <;> omega
/-! pairs -/
theorem pairs_cons (a b : Int) (r : List Int) : pairsL (a :: b :: r) = (a + 64 * b) :: pairsL r := by
  unfold pairsL
  have e : ((a :: b :: r).length + 1) / 2 = (r.length + 1) / 2 + 1 := by simp only [List.length_cons]; omega
  rw [e, List.range_succ_eq_map, List.map_cons, List.map_map]
  congr 1
theorem pairs_one (a : Int) : pairsL [a] = [a] := by
  unfold pairsL
  rw [show ([a].length + 1) / 2 = 1 by simp]
  simp [List.range_succ]
theorem pairs_vD : ∀ l : List Int, vD 12 (pairsL l) = vD 6 l
  | [] => rfl
  | [a] => by rw [pairs_one]; simp [vD]
  | a :: b :: r => by
    rw [pairs_cons, vD, vD, vD, pairs_vD r]
    have : (2 : Int) ^ 12 = 64 * 64 := by decide
    have h6 : (2 : Int) ^ 6 = 64 := by decide
    rw [this, h6, Int.mul_add, ← Int.mul_assoc]
    omega
theorem pairs_bd : ∀ l : List Int, (∀ d ∈ l, 1 ≤ d ∧ d < 2 ^ 6) → ∀ d ∈ pairsL l, 1 ≤ d ∧ d < 2 ^ 12
  | [], _, d, h => by cases h
  | [a], h, d, hd => by
    rw [pairs_one] at hd
    obtain ⟨a0, a1⟩ := h a (.head _)
    rw [List.mem_singleton.mp hd]
    have h6 : (2 : Int) ^ 6 = 64 := by decide
    have h12 : (2 : Int) ^ 12 = 4096 := by decide
    omega
  | a :: b :: r, h, d, hd => by
    rw [pairs_cons] at hd
    obtain ⟨a0, a1⟩ := h a (.head _)
    obtain ⟨b0, b1⟩ := h b (.tail _ (.head _))
    rcases List.mem_cons.mp hd with rfl | hd
    · have h6 : (2 : Int) ^ 6 = 64 := by decide
      have h12 : (2 : Int) ^ 12 = 4096 := by decide
      omega
    · exact pairs_bd r (fun q hq => h q (.tail _ (.tail _ hq))) d hd
end

section
open PySem.Calls
set_option maxHeartbeats 2000000
noncomputable def rowI (word : List Nat) : List Int := (word.map plI).map figI
noncomputable def fig (c : Nat) : Int := figI (plI c)
theorem rowI_eq (word : List Nat) : rowI word = word.map fig := by unfold rowI; rw [List.map_map]; rfl
theorem fig_bd : ∀ c ∈ alphaN, 1 ≤ fig c ∧ fig c < 2 ^ 6 := by decide +kernel
theorem fig_inj : ∀ a ∈ alphaN, ∀ b ∈ alphaN, fig a = fig b → a = b := by decide +kernel
/-- what is known after e letters -/
structure KnP (word : List Nat) (e : Nat) (known : List Int) : Prop where
  nd : known.Nodup
  mem : ∀ x, x ∈ known ↔ ∃ i j, i < j ∧ j ≤ e ∧ slN word i j = (slN word i j).reverse ∧ x = vD 6 (sl (rowI word) i j)
  len : known.length ≤ e
theorem pl_zero (word : List Nat) : KnP word 0 [] := ⟨.nil, fun x => ⟨fun h => (nomatch h), fun ⟨i, j, h1, h2, _⟩ => (by omega)⟩, Nat.le_refl _⟩
theorem sl_map (word : List Nat) (i j : Nat) : sl (rowI word) i j = (slN word i j).map fig := by
  unfold sl slN
  rw [rowI_eq, ← List.map_drop, ← List.map_take]
theorem sl_rev (word : List Nat) (i j : Nat) : (sl (rowI word) i j).reverse = (slN word i j).reverse.map fig := by rw [sl_map, ← List.map_reverse]
theorem slN_mem {l : List Nat} {i j c : Nat} (h : c ∈ slN l i j) : c ∈ l := List.mem_of_mem_drop (List.mem_of_mem_take h)
theorem map_fig_inj : ∀ {a b : List Nat}, (∀ c ∈ a, c ∈ alphaN) → (∀ c ∈ b, c ∈ alphaN) → a.map fig = b.map fig → a = b
  | [], [], _, _, _ => rfl
  | [], _ :: _, _, _, h => by cases h
  | _ :: _, [], _, _, h => by cases h
  | x :: r, y :: q, ha, hb, h => by
    rw [List.map_cons, List.map_cons] at h
    injection h with h1 h2
    rw [fig_inj x (ha x (.head _)) y (hb y (.head _)) h1, map_fig_inj (fun c hc => ha c (.tail _ hc)) (fun c hc => hb c (.tail _ hc)) h2]
theorem map_fig_bd {a : List Nat} (ha : ∀ c ∈ a, c ∈ alphaN) : ∀ d ∈ a.map fig, 1 ≤ d ∧ d < 2 ^ 6 := fun d hd => by
  obtain ⟨c, hc, rfl⟩ := List.mem_map.mp hd
  exact fig_bd c (ha c hc)
theorem num_inj {a b : List Nat} (ha : ∀ c ∈ a, c ∈ alphaN) (hb : ∀ c ∈ b, c ∈ alphaN) (h : vD 6 (a.map fig) = vD 6 (b.map fig)) : a = b :=
  map_fig_inj ha hb (vD_inj (by decide) (map_fig_bd ha) (map_fig_bd hb) h)
section
variable {word : List Nat} (hal : ∀ c ∈ word, c ∈ alphaN)
include hal
theorem sl_al {i j : Nat} : ∀ c ∈ slN word i j, c ∈ alphaN := fun c hc => hal c (slN_mem hc)
theorem slr_al {i j : Nat} : ∀ c ∈ (slN word i j).reverse, c ∈ alphaN := fun c hc => sl_al hal c (List.mem_reverse.mp hc)
theorem f_get {e k : Nat} (h : k < e) : (fL (rowI word) e).getD k 0 = vD 6 ((slN word k e).reverse.map fig) := by
  rw [List.getD_eq_getElem?_getD, fL_get h, sl_rev]; rfl
theorem b_get {e k : Nat} (h : k < e) : (bL (rowI word) e).getD k 0 = vD 6 ((slN word k e).map fig) := by
  rw [List.getD_eq_getElem?_getD, bL_get (by omega), sl_map]; rfl
theorem same_get {e k : Nat} (h : k < e) : ((fL (rowI word) e).getD k 0 == (bL (rowI word) e).getD k 0) = decide (slN word k e = (slN word k e).reverse) := by
  rw [f_get hal h, b_get hal h, Bool.eq_iff_iff, beq_iff_eq, decide_eq_true_iff]
  refine ⟨fun e => (num_inj (slr_al hal) (sl_al hal) e).symm, fun e => ?_⟩
  rw [← e]
omit hal
theorem suf_pre {l e k : Nat} (h1 : l ≤ k) (h2 : k ≤ e) (h3 : e ≤ word.length) (hp : slN word l e = (slN word l e).reverse) : slN word l (l + (e - k)) = (slN word k e).reverse := by
  have e1 : slN word k e = (slN word l e).drop (k - l) := by
    unfold slN
    rw [List.drop_take, List.drop_drop, Nat.add_sub_cancel' h1, show e - l - (k - l) = e - k by rw [Nat.sub_sub, Nat.add_sub_cancel' h1]]
  have hl : (slN word l e).length = e - l := slN_len h3
  rw [e1, List.reverse_drop, hl, ← hp]
  unfold slN
  rw [List.take_take, Nat.add_sub_cancel_left, show min (e - l - (k - l)) (e - l) = e - k by rw [Nat.min_eq_left (Nat.sub_le _ _), Nat.sub_sub, Nat.add_sub_cancel' h1]]
theorem least {P : Nat → Prop} [DecidablePred P] : ∀ n, P n → ∃ m, m ≤ n ∧ P m ∧ ∀ i, i < m → ¬ P i := fun n => by
  induction n using Nat.strongRecOn with
  | ind n ih =>
    intro h
    by_cases hx : ∃ k, k < n ∧ P k
    · obtain ⟨k, hk, hp⟩ := hx
      obtain ⟨m, h1, h2, h3⟩ := ih k hk hp
      exact ⟨m, by omega, h2, h3⟩
    · exact ⟨n, Nat.le_refl _, h, fun i hi hp => hx ⟨i, hi, hp⟩⟩
theorem filter_one (p : Nat → Bool) (l : Nat) : ∀ n, (∀ k, k < n → k ≠ l → p k = false) → (List.range n).filter p = if l < n ∧ p l = true then [l] else []
  | 0, _ => by simp
  | n + 1, h => by
    rw [List.range_succ, List.filter_append, filter_one p l n fun k hk => h k (by omega), List.filter_cons, List.filter_nil]
    by_cases hn : n = l
    · subst hn
      rw [if_neg (by omega)]
      cases hp : p n <;> simp
    · rw [h n (by omega) hn]
      simp only [Bool.false_eq_true, if_false, List.append_nil]
      by_cases hl : l < n ∧ p l = true
      · rw [if_pos hl, if_pos ⟨by omega, hl.2⟩]
      · rw [if_neg hl, if_neg (fun h' => hl ⟨by omega, h'.2⟩)]
theorem slN_take {e i j : Nat} (h : j ≤ e) : slN (word.take e) i j = slN word i j := by
  unfold slN
  rw [List.drop_take, List.take_take, show min (j - i) (e - i) = j - i by omega]
include hal
/-- the longest ending that is the same both ways, and what is new -/
theorem turn_long {e : Nat} {known : List Int} (e2 : e < word.length) (K : KnP word e known) :
    ∃ l, l < e + 1 ∧ slN word l (e + 1) = (slN word l (e + 1)).reverse ∧ (∀ i, i < l → ¬ slN word i (e + 1) = (slN word i (e + 1)).reverse) ∧
      ((fL (rowI word) (e + 1)).getD l 0 ∈ known ↔ Txt.contains (St (word.take e)) (St (slN word l (e + 1))) = true) ∧
      (frK (fL (rowI word) (e + 1)) (bL (rowI word) (e + 1)) known (e + 1) = if Txt.contains (St (word.take e)) (St (slN word l (e + 1))) then [] else [l]) := by
  have hone : slN word e (e + 1) = (slN word e (e + 1)).reverse := by
    have hl : (slN word e (e + 1)).length = 1 := by rw [slN_len (by omega)]; omega
    match hs : slN word e (e + 1), hl with
    | [c], _ => rfl
  obtain ⟨l, hl1, hl2, hl3⟩ := least (P := fun i => slN word i (e + 1) = (slN word i (e + 1)).reverse) e hone
  have hmem : (fL (rowI word) (e + 1)).getD l 0 ∈ known ↔ Txt.contains (St (word.take e)) (St (slN word l (e + 1))) = true := by
    rw [f_get hal (e := e + 1) (k := l) (by omega), ← hl2, K.mem, St_in]
    refine ⟨fun ⟨i, j, h1, h2, h3, h4⟩ => ?_, fun ⟨i, h1, h2⟩ => ?_⟩
    · rw [sl_map] at h4
      have h5 := num_inj (sl_al hal) (sl_al hal) h4
      have h6 : (slN word i j).length = j - i := slN_len (by omega)
      refine ⟨i, ?_, ?_⟩
      · rw [h5, h6, List.length_take]; omega
      · rw [h5, h6, slN_take (by omega), show i + (j - i) = j by omega]
    · have h6 : (slN word l (e + 1)).length = e + 1 - l := slN_len (by omega)
      rw [List.length_take] at h1
      rw [slN_take (by omega)] at h2
      refine ⟨i, i + (slN word l (e + 1)).length, by omega, by omega, ?_, ?_⟩
      · rw [h2]; exact hl2
      · rw [sl_map, h2]
  refine ⟨l, by omega, hl2, hl3, hmem, ?_⟩
  have inkn : ∀ x, known.any (· == x) = decide (x ∈ known) := fun x => by
    rw [Bool.eq_iff_iff, List.any_eq_true, decide_eq_true_iff]
    exact ⟨fun ⟨y, hy, h⟩ => by rw [← eq_of_beq h]; exact hy, fun h => ⟨x, h, beq_self_eq_true x⟩⟩
  have hq : ∀ k, k < e + 1 → k ≠ l → (((fL (rowI word) (e + 1)).getD k 0 == (bL (rowI word) (e + 1)).getD k 0) && !(known.any (· == (fL (rowI word) (e + 1)).getD k 0))) = false := fun k hk hne => by
    rw [same_get hal hk]
    by_cases hp : slN word k (e + 1) = (slN word k (e + 1)).reverse
    · have hlk : l < k := by
        rcases Nat.lt_or_ge k l with h | h
        · exact absurd hp (hl3 k h)
        · omega
      have hm : (fL (rowI word) (e + 1)).getD k 0 ∈ known := by
        rw [f_get hal hk, K.mem]
        have hsp := suf_pre (word := word) (l := l) (e := e + 1) (k := k) (by omega) (by omega) (by omega) hl2
        refine ⟨l, l + (e + 1 - k), by omega, by omega, ?_, ?_⟩
        · rw [hsp, List.reverse_reverse]; exact hp.symm
        · rw [sl_map, hsp]
      rw [inkn, decide_eq_true hm]
      simp
    · rw [decide_eq_false hp]; rfl
  unfold frK
  rw [filter_one _ l (e + 1) hq]
  have hcond : ((((fL (rowI word) (e + 1)).getD l 0 == (bL (rowI word) (e + 1)).getD l 0) && !(known.any (· == (fL (rowI word) (e + 1)).getD l 0))) = true) ↔ ¬ Txt.contains (St (word.take e)) (St (slN word l (e + 1))) = true := by
    rw [same_get hal (e := e + 1) (k := l) (by omega), decide_eq_true hl2, Bool.true_and, inkn, Bool.not_eq_true', decide_eq_false_iff_not, hmem]
  by_cases hc : Txt.contains (St (word.take e)) (St (slN word l (e + 1))) = true
  · rw [if_pos hc, if_neg (fun h => (hcond.mp h.2) hc)]
  · rw [if_neg hc, if_pos ⟨by omega, hcond.mpr hc⟩]
theorem pl_turn {e : Nat} {known : List Int} (h9 : word.length ≤ 9) (e2 : e < word.length) (K : KnP word e known) :
    TurnP (rowI word) word (e + 1) known ∧ KnP word (e + 1) (known ++ (frK (fL (rowI word) (e + 1)) (bL (rowI word) (e + 1)) known (e + 1)).map fun k => (fL (rowI word) (e + 1)).getD k 0) := by
  obtain ⟨l, hl1, hl2, hl3, hmem, hfr⟩ := turn_long hal e2 K
  have hlen : (rowI word).length = word.length := by rw [rowI_eq, List.length_map]
  have dig : ∀ d ∈ rowI word, 1 ≤ d ∧ d < 2 ^ 6 := by rw [rowI_eq]; exact map_fig_bd hal
  have dig0 : ∀ d ∈ rowI word, 0 ≤ d ∧ d < 64 := fun d hd => ⟨by have := (dig d hd).1; omega, (dig d hd).2⟩
  have slm : ∀ {R : List Int} {i j : Nat}, ∀ d ∈ sl R i j, d ∈ R := fun d hd => List.mem_of_mem_drop (List.mem_of_mem_take hd)
  have slle : ∀ (R : List Int) (i j : Nat), (sl R i j).length ≤ R.length := fun R i j => by unfold sl; rw [List.length_take, List.length_drop]; omega
  have sld : ∀ i j, ∀ d ∈ sl (rowI word) i j, 1 ≤ d ∧ d < 2 ^ 6 := fun i j d hd => dig d (slm d hd)
  have slr : ∀ i j, ∀ d ∈ (sl (rowI word) i j).reverse, 1 ≤ d ∧ d < 2 ^ 6 := fun i j d hd => sld i j d (List.mem_reverse.mp hd)
  have sl9 : ∀ i j, (sl (rowI word) i j).length ≤ 9 := fun i j => by have := slle (rowI word) i j; omega
  have slne : ∀ j, j < e + 1 → sl (rowI word) j (e + 1) ≠ [] := fun j hj h => by
    have := congrArg List.length h
    unfold sl at this
    rw [List.length_take, List.length_drop, hlen] at this
    simp only [List.length_nil] at this
    omega
  have toz : ∀ {l : List Int} {n : Nat}, (∀ d ∈ l, 1 ≤ d ∧ d < 2 ^ n) → ∀ d ∈ l, 0 ≤ d ∧ d < 2 ^ n := fun h d hd => ⟨by have := (h d hd).1; omega, (h d hd).2⟩
  have small : ∀ {l : List Int}, (∀ d ∈ l, 1 ≤ d ∧ d < 2 ^ 6) → l.length ≤ 9 → nD 6 l < 2 ^ 64 := fun {l} h hl => by
    have h1 := vD_abs (toz h) (show 6 * l.length ≤ 63 by omega)
    unfold nD
    omega
  have pl5 : (pairsL (sl (rowI word) 0 (e + 1)).reverse).length ≤ 5 := by
    have := sl9 0 (e + 1)
    unfold pairsL
    rw [List.length_map, List.length_range, List.length_reverse]
    omega
  have pbd := pairs_bd _ (slr 0 (e + 1))
  refine ⟨⟨hlen, by omega, by omega, by omega, fun d hd => ⟨(dig d hd).1, (dig d hd).2⟩, by have := K.len; omega, ?in8, ?tell, ?fvs, ?hB1, ?hB2, ?hB3, ?b0, ?f0, ?tl, ?long⟩, ⟨?nd, ?mem, ?len⟩⟩
  case in8 =>
    intro x hx
    obtain ⟨j, hj, hx⟩ := List.mem_flatMap.mp hx
    exact oct_in (fun d hd => dig0 d (slm d hd)) (slne j (List.mem_range.mp hj)) x hx
  case tell =>
    have := tellsA ((List.range (e + 1)).map fun j => sl (rowI word) j (e + 1)) [] fun ds hds => by
      obtain ⟨j, hj, rfl⟩ := List.mem_map.mp hds
      exact ⟨slne j (List.mem_range.mp hj), sl9 _ _, fun d hd => dig0 d (slm d hd)⟩
    rw [List.nil_append, List.flatMap_map, List.map_map] at this
    exact this
  case fvs =>
    unfold figs fL
    rw [List.map_map]
    refine List.map_congr_left fun j _ => ?_
    exact fv_rev _ fun d hd => (dig0 d (slm d hd)).1
  case hB1 =>
    intro j lo hi
    refine vD_abs (toz fun d hd => sld _ _ d (slm d hd)) ?_
    have h1 := slle (sl (rowI word) j (e + 1)) lo hi
    have h2 := sl9 j (e + 1)
    omega
  case hB2 =>
    intro j lo hi
    refine vD_abs (toz fun d hd => slr _ _ d (slm d hd)) ?_
    have h1 := slle (sl (rowI word) j (e + 1)).reverse lo hi
    rw [List.length_reverse] at h1
    have h2 := sl9 j (e + 1)
    omega
  case hB3 =>
    intro lo hi
    refine vD_abs (toz fun d hd => pbd d (slm d hd)) ?_
    have h1 := slle (pairsL (sl (rowI word) 0 (e + 1)).reverse) lo hi
    omega
  case b0 => exact ⟨nD 6 (sl (rowI word) 0 (e + 1)), nD_eq (toz (sld _ _)), small (sld _ _) (sl9 _ _), dg_back (by decide) (sld _ _)⟩
  case f0 =>
    have e1 : nD 12 (pairsL (sl (rowI word) 0 (e + 1)).reverse) = nD 6 (sl (rowI word) 0 (e + 1)).reverse := by unfold nD; rw [pairs_vD]
    refine ⟨nD 6 (sl (rowI word) 0 (e + 1)).reverse, nD_eq (toz (slr _ _)), small (slr _ _) (by rw [List.length_reverse]; exact sl9 _ _), ?_, ?_⟩
    · rw [← e1]; exact dg_back (by decide) pbd
    · rw [pairs_vD]; exact nD_eq (toz (slr _ _))
  case tl =>
    have : ∀ k, k ≤ e + 1 → ((List.range k).flatMap fun j => octL (sl (rowI word) j (e + 1))).length ≤ 9 * k := fun k => by
      induction k with
      | zero => intro _; simp
      | succ k ih =>
        intro hk
        rw [List.range_succ, List.flatMap_append, List.length_append, List.flatMap_cons, List.flatMap_nil, List.append_nil, oct_len (slne k (by omega))]
        have h1 := ih (by omega)
        have h2 := sl9 k (e + 1)
        omega
    have := this (e + 1) (Nat.le_refl _)
    unfold tapeI
    omega
  case long =>
    refine ⟨l, hl1, ?_, fun i hi => ?_, ?_⟩
    · rw [same_get hal hl1]; exact decide_eq_true hl2
    · rw [same_get hal (by omega)]; exact decide_eq_false (hl3 i hi)
    · rw [hfr, Nat.add_sub_cancel]
      split <;> rfl
  case nd =>
    rw [hfr]
    split
    · rw [List.map_nil, List.append_nil]; exact K.nd
    · rename_i hc
      rw [List.map_cons, List.map_nil]
      refine List.nodup_append.mpr ⟨K.nd, by simp, fun a ha b hb hab => ?_⟩
      rw [List.mem_singleton.mp hb] at hab
      exact hc (hmem.mp (hab ▸ ha))
  case mem =>
    intro x
    have fresh : x ∈ known ++ (frK (fL (rowI word) (e + 1)) (bL (rowI word) (e + 1)) known (e + 1)).map (fun k => (fL (rowI word) (e + 1)).getD k 0) ↔ x ∈ known ∨ x = (fL (rowI word) (e + 1)).getD l 0 := by
      rw [hfr, List.mem_append]
      split
      · rename_i hc
        rw [List.map_nil]
        refine ⟨fun h => .inl (h.resolve_right fun h => nomatch h), fun h => .inl ?_⟩
        rcases h with h | h
        · exact h
        · rw [h]; exact hmem.mpr hc
      · rw [List.map_cons, List.map_nil, List.mem_singleton]
    have hfl : (fL (rowI word) (e + 1)).getD l 0 = vD 6 (sl (rowI word) l (e + 1)) := by rw [f_get hal hl1, sl_map, ← hl2]
    rw [fresh]
    constructor
    · rintro (h | h)
      · obtain ⟨i, j, h1, h2, h3, h4⟩ := (K.mem x).mp h
        exact ⟨i, j, h1, by omega, h3, h4⟩
      · exact ⟨l, e + 1, hl1, Nat.le_refl _, hl2, by rw [h, hfl]⟩
    · rintro ⟨i, j, h1, h2, h3, h4⟩
      by_cases hj : j ≤ e
      · exact .inl ((K.mem x).mpr ⟨i, j, h1, hj, h3, h4⟩)
      · have hje : j = e + 1 := by omega
        subst hje
        rcases Nat.lt_trichotomy i l with h | h | h
        · exact absurd h3 (hl3 i h)
        · subst h; exact .inr (by rw [h4, hfl])
        · refine .inl ((K.mem x).mpr ?_)
          have hsp := suf_pre (word := word) (l := l) (e := e + 1) (k := i) (by omega) (by omega) (by omega) hl2
          refine ⟨l, l + (e + 1 - i), by omega, by omega, ?_, ?_⟩
          · rw [hsp, List.reverse_reverse]; exact h3.symm
          · rw [h4, sl_map, sl_map, hsp, ← h3]
  case len =>
    rw [hfr, List.length_append, List.length_map]
    have := K.len
    split <;> simp <;> omega
omit hal
end
end

section
open PySem.Calls
set_option maxHeartbeats 2000000
theorem nd_le {α : Type} [DecidableEq α] : ∀ {a b : List α}, a.Nodup → (∀ x ∈ a, x ∈ b) → a.length ≤ b.length
  | [], _, _, _ => Nat.zero_le _
  | x :: r, b, h, s => by
    have hn := List.nodup_cons.mp h
    have h1 : r.length ≤ (b.erase x).length := nd_le hn.2 fun y hy => (List.mem_erase_of_ne (fun e : y = x => hn.1 (by rw [← e]; exact hy))).mpr (s y (.tail _ hy))
    have h2 := List.length_erase_of_mem (s x (.head _))
    have h3 : 0 < b.length := List.length_pos_of_mem (s x (.head _))
    rw [List.length_cons]
    omega
theorem sd_mem (σ : List Str) (v x : Str) : x ∈ step_dedup σ v ↔ x ∈ σ ∨ x = v := by
  unfold step_dedup
  split
  · rename_i h
    obtain ⟨y, hy, e⟩ := List.any_eq_true.mp h
    have : y = v := eq_of_beq e
    exact ⟨.inl, fun h => h.elim id fun h => by rw [h, ← this]; exact hy⟩
  · rw [List.mem_append, List.mem_singleton]
theorem sd_nd {σ : List Str} {v : Str} (h : σ.Nodup) : (step_dedup σ v).Nodup := by
  unfold step_dedup
  split
  · exact h
  · rename_i hn
    refine List.nodup_append.mpr ⟨h, by simp, fun a ha b hb hab => hn ?_⟩
    rw [List.mem_singleton.mp hb] at hab
    exact List.any_eq_true.mpr ⟨a, ha, by rw [hab]; exact beq_self_eq_true v⟩
theorem met_go : ∀ (xs σ : List Str), σ.Nodup → (xs.foldl step_dedup σ).Nodup ∧ ∀ x, x ∈ xs.foldl step_dedup σ ↔ x ∈ σ ∨ x ∈ xs
  | [], σ, h => ⟨h, fun x => by simp⟩
  | v :: r, σ, h => by
    obtain ⟨a, b⟩ := met_go r (step_dedup σ v) (sd_nd h)
    refine ⟨a, fun x => ?_⟩
    rw [List.foldl_cons, b, sd_mem, List.mem_cons, or_assoc]
theorem met_nd (xs : List Str) : (met xs).Nodup := (met_go xs [] .nil).1
theorem met_mem (xs : List Str) (x : Str) : x ∈ met xs ↔ x ∈ xs := by
  have := (met_go xs [] .nil).2 x
  simpa [met] using this
theorem pal_mem (word q : List Nat) : q ∈ palL word ↔ ∃ i k, i < k ∧ k ≤ word.length ∧ q = slN word i k ∧ q = q.reverse := by
  unfold palL
  rw [List.mem_filter, List.mem_flatMap]
  simp only [List.mem_map, List.mem_range, decide_eq_true_eq]
  constructor
  · rintro ⟨⟨k, hk, i, hi, rfl⟩, hp⟩
    exact ⟨i, k, hi, by omega, rfl, hp⟩
  · rintro ⟨i, k, h1, h2, rfl, hp⟩
    exact ⟨⟨k, by omega, i, h1, rfl⟩, hp⟩
theorem pl_end {word : List Nat} {known : List Int} (hal : ∀ c ∈ word, c ∈ alphaN) (h9 : word.length ≤ 9) (K : KnP word word.length known) : known.length = (met ((palL word).map St)).length := by
  let g : Str → Int := fun s => vD 6 (s.cps.toList.map fig)
  have hg : ∀ q, g (St q) = vD 6 (q.map fig) := fun q => by show vD 6 (q.toArray.toList.map fig) = _; simp
  have hM : ∀ s ∈ met ((palL word).map St), ∃ i k, i < k ∧ k ≤ word.length ∧ s = St (slN word i k) ∧ slN word i k = (slN word i k).reverse := fun s hs => by
    obtain ⟨q, hq, rfl⟩ := List.mem_map.mp ((met_mem _ _).mp hs)
    obtain ⟨i, k, h1, h2, rfl, h3⟩ := (pal_mem word q).mp hq
    exact ⟨i, k, h1, h2, rfl, h3⟩
  have nd : ((met ((palL word).map St)).map g).Nodup := by
    unfold List.Nodup
    rw [List.pairwise_map]
    refine List.Pairwise.imp_of_mem (fun {a b} ha hb hab e => hab ?_) (met_nd _)
    obtain ⟨i, k, h1, h2, rfl, h3⟩ := hM a ha
    obtain ⟨i', k', h1', h2', rfl, h3'⟩ := hM b hb
    rw [hg, hg] at e
    rw [num_inj (sl_al hal) (sl_al hal) e]
  have m1 : ∀ x ∈ known, x ∈ (met ((palL word).map St)).map g := fun x hx => by
    obtain ⟨i, j, h1, h2, h3, h4⟩ := (K.mem x).mp hx
    refine List.mem_map.mpr ⟨St (slN word i j), (met_mem _ _).mpr (List.mem_map.mpr ⟨_, (pal_mem word _).mpr ⟨i, j, h1, h2, rfl, h3⟩, rfl⟩), ?_⟩
    rw [hg, h4, sl_map]
  have m2 : ∀ x ∈ (met ((palL word).map St)).map g, x ∈ known := fun x hx => by
    obtain ⟨s, hs, rfl⟩ := List.mem_map.mp hx
    obtain ⟨i, k, h1, h2, rfl, h3⟩ := hM s hs
    exact (K.mem _).mpr ⟨i, k, h1, h2, h3, by rw [hg, sl_map]⟩
  have a := nd_le K.nd m1
  have b := nd_le nd m2
  rw [List.length_map] at a b
  omega
end

section
open PySem.Calls
set_option maxHeartbeats 2000000
theorem dbl_ok : ∀ k : Fin 6, hidL.contains (doublesL.getD k.1 (0, [])).1 = false ∧ (b3R (doublesL.getD k.1 (0, [])).1).cps.toList = (doublesL.getD k.1 (0, [])).2 ∧ (doublesL.getD k.1 (0, [])).2.length = 2 := by decide +kernel
theorem spel_0 : ∀ p : Fin 26, hidL.contains (spelL (alphaN.getD p.1 0) (p.1 : Nat) 0) = false ∧ (b3R (spelL (alphaN.getD p.1 0) (p.1 : Nat) 0)).cps.toList = [alphaN.getD p.1 0] := by decide +kernel
theorem spel_1 : ∀ p : Fin 26, hidL.contains (spelL (alphaN.getD p.1 0) (p.1 : Nat) 1) = false ∧ (b3R (spelL (alphaN.getD p.1 0) (p.1 : Nat) 1)).cps.toList = [alphaN.getD p.1 0] := by decide +kernel
theorem spel_2 : ∀ p : Fin 26, hidL.contains (spelL (alphaN.getD p.1 0) (p.1 : Nat) 2) = false ∧ (b3R (spelL (alphaN.getD p.1 0) (p.1 : Nat) 2)).cps.toList = [alphaN.getD p.1 0] := by decide +kernel
theorem spel_3 : ∀ p : Fin 26, hidL.contains (spelL (alphaN.getD p.1 0) (p.1 : Nat) 3) = false ∧ (b3R (spelL (alphaN.getD p.1 0) (p.1 : Nat) 3)).cps.toList = [alphaN.getD p.1 0] := by decide +kernel
theorem spel_4 : ∀ p : Fin 26, hidL.contains (spelL (alphaN.getD p.1 0) (p.1 : Nat) 4) = false ∧ (b3R (spelL (alphaN.getD p.1 0) (p.1 : Nat) 4)).cps.toList = [alphaN.getD p.1 0] := by decide +kernel
theorem spel_5 : ∀ p : Fin 26, hidL.contains (spelL (alphaN.getD p.1 0) (p.1 : Nat) 5) = false ∧ (b3R (spelL (alphaN.getD p.1 0) (p.1 : Nat) 5)).cps.toList = [alphaN.getD p.1 0] := by decide +kernel
theorem spel_6 : ∀ p : Fin 26, hidL.contains (spelL (alphaN.getD p.1 0) (p.1 : Nat) 6) = false ∧ (b3R (spelL (alphaN.getD p.1 0) (p.1 : Nat) 6)).cps.toList = [alphaN.getD p.1 0] := by decide +kernel
theorem spel_7 : ∀ p : Fin 26, hidL.contains (spelL (alphaN.getD p.1 0) (p.1 : Nat) 7) = false ∧ (b3R (spelL (alphaN.getD p.1 0) (p.1 : Nat) 7)).cps.toList = [alphaN.getD p.1 0] := by decide +kernel
theorem spel_8 : ∀ p : Fin 26, hidL.contains (spelL (alphaN.getD p.1 0) (p.1 : Nat) 8) = false ∧ (b3R (spelL (alphaN.getD p.1 0) (p.1 : Nat) 8)).cps.toList = [alphaN.getD p.1 0] := by decide +kernel
theorem spel_9 : ∀ p : Fin 26, hidL.contains (spelL (alphaN.getD p.1 0) (p.1 : Nat) 9) = false ∧ (b3R (spelL (alphaN.getD p.1 0) (p.1 : Nat) 9)).cps.toList = [alphaN.getD p.1 0] := by decide +kernel
theorem spel_10 : ∀ p : Fin 26, hidL.contains (spelL (alphaN.getD p.1 0) (p.1 : Nat) 10) = false ∧ (b3R (spelL (alphaN.getD p.1 0) (p.1 : Nat) 10)).cps.toList = [alphaN.getD p.1 0] := by decide +kernel
theorem spel_11 : ∀ p : Fin 26, hidL.contains (spelL (alphaN.getD p.1 0) (p.1 : Nat) 11) = false ∧ (b3R (spelL (alphaN.getD p.1 0) (p.1 : Nat) 11)).cps.toList = [alphaN.getD p.1 0] := by decide +kernel
theorem spel_12 : ∀ p : Fin 26, hidL.contains (spelL (alphaN.getD p.1 0) (p.1 : Nat) 12) = false ∧ (b3R (spelL (alphaN.getD p.1 0) (p.1 : Nat) 12)).cps.toList = [alphaN.getD p.1 0] := by decide +kernel
theorem spel_13 : ∀ p : Fin 26, hidL.contains (spelL (alphaN.getD p.1 0) (p.1 : Nat) 13) = false ∧ (b3R (spelL (alphaN.getD p.1 0) (p.1 : Nat) 13)).cps.toList = [alphaN.getD p.1 0] := by decide +kernel
theorem spel_14 : ∀ p : Fin 42, hidL.contains (alphaN.getD p.1 0) = false ∧ (b3R (alphaN.getD p.1 0)).cps.toList = [alphaN.getD p.1 0] := by decide +kernel
theorem spel_ok {p : Nat} {f : Int} (hp : p < 42) (h0 : 0 ≤ f) (h1 : f < 15) : hidL.contains (spelL (alphaN.getD p 0) (p : Nat) f) = false ∧ (b3R (spelL (alphaN.getD p 0) (p : Nat) f)).cps.toList = [alphaN.getD p 0] := by
  by_cases h : 25 < (p : Int) ∨ f = 14
  · have e : spelL (alphaN.getD p 0) (p : Nat) f = alphaN.getD p 0 := by unfold spelL; rw [if_pos h]
    rw [e]
    exact spel_14 ⟨p, hp⟩
  · have hp' : p < 26 := by omega
    obtain ⟨k, rfl⟩ := Int.eq_ofNat_of_zero_le h0
    have hk : k < 14 := by omega
    rcases k with _ | _ | _ | _ | _ | _ | _ | _ | _ | _ | _ | _ | _ | _ | k
    · exact spel_0 ⟨p, hp'⟩
    · exact spel_1 ⟨p, hp'⟩
    · exact spel_2 ⟨p, hp'⟩
    · exact spel_3 ⟨p, hp'⟩
    · exact spel_4 ⟨p, hp'⟩
    · exact spel_5 ⟨p, hp'⟩
    · exact spel_6 ⟨p, hp'⟩
    · exact spel_7 ⟨p, hp'⟩
    · exact spel_8 ⟨p, hp'⟩
    · exact spel_9 ⟨p, hp'⟩
    · exact spel_10 ⟨p, hp'⟩
    · exact spel_11 ⟨p, hp'⟩
    · exact spel_12 ⟨p, hp'⟩
    · exact spel_13 ⟨p, hp'⟩
    · omega
theorem hid_ok : ∀ k : Fin 27, hidL.contains (hidL.getD k.1 0) = true := by decide +kernel
theorem glue_nil (xs : List Str) : Txt.join (Str.ofString "") xs = St (xs.flatMap fun x => x.cps.toList) := by
  have h0 : (Str.ofString "").cps = #[] := by decide +kernel
  have go : ∀ (r : List Str) (acc : Array Nat), r.foldl (fun acc p => acc ++ (Str.ofString "").cps ++ p.cps) acc = (acc.toList ++ r.flatMap fun x => x.cps.toList).toArray := fun r => by
    induction r with
    | nil => intro acc; simp
    | cons x r ih =>
      intro acc
      rw [List.foldl_cons, ih, h0, List.flatMap_cons]
      simp
  show (⟨_⟩ : Str) = ⟨_⟩
  congr 1
  cases xs with
  | nil => rfl
  | cons x r =>
    show r.foldl _ x.cps = _
    rw [go, List.flatMap_cons]
theorem cat_step {ns : List Int} {k : Nat} {text word : List Nat} (h : Drawn ns k text word) : (∀ c ∈ word, c ∈ alphaN) → (keptL text).flatMap (fun c => (b3R c).cps.toList) = word := by
  induction h with
  | zero => intro _; rfl
  | @succ i x t w h hx ih =>
    intro hal
    have kapp : ∀ (a b : List Nat), keptL (a ++ b) = keptL a ++ keptL b := fun a b => by unfold keptL; rw [List.filter_append]
    have kdr : keptL (drawT x t) = keptL t := by
      unfold drawT
      split
      · rename_i hlt
        have h0 : 0 ≤ x.fmod 28 := Int.fmod_nonneg_of_pos _ (by decide)
        have := hid_ok ⟨(x.fmod 28).toNat, by omega⟩
        rw [kapp]
        have e : keptL [hidL.getD (x.fmod 28).toNat 0] = [] := by
          unfold keptL
          rw [List.filter_cons, this]
          rfl
        rw [e, List.append_nil]
      · rfl
    have one : ∀ c, hidL.contains c = false → keptL [c] = [c] := fun c hc => by
      unfold keptL
      rw [List.filter_cons, hc]
      rfl
    unfold drawStep at hal ⊢
    by_cases hB : wayI x = 2 ∧ i % 2 = 0
    · rw [if_pos hB] at hal ⊢
      have hw : ∀ c ∈ w, c ∈ alphaN := fun c hc => hal c (List.mem_append_left _ hc)
      have q0 : 0 ≤ (pickI x).fmod 6 := Int.fmod_nonneg_of_pos _ (by decide)
      have q1 : (pickI x).fmod 6 < 6 := Int.fmod_lt_of_pos _ (by decide)
      obtain ⟨a, b, c⟩ := dbl_ok ⟨((pickI x).fmod 6).toNat, by omega⟩
      show (keptL (drawT x t ++ [(dblAt x).1])).flatMap _ = w ++ (dblAt x).2
      have b' : (b3R (dblAt x).1).cps.toList = (dblAt x).2 := b
      rw [kapp, kdr, one (dblAt x).1 a, List.flatMap_append, ih hw, List.flatMap_cons, List.flatMap_nil, List.append_nil, b']
    · rw [if_neg hB] at hal ⊢
      have hw : ∀ c ∈ w, c ∈ alphaN := fun c hc => hal c (List.mem_append_left _ hc)
      have f0 : 0 ≤ faceI x := Int.fmod_nonneg_of_pos _ (by decide)
      have f1 : faceI x < 15 := Int.fmod_lt_of_pos _ (by decide)
      obtain ⟨a, b⟩ := spel_ok (placeN_lt x w hw) f0 f1
      show (keptL (drawT x t ++ [_])).flatMap _ = w ++ [_]
      rw [kapp, kdr, one _ a, List.flatMap_append, ih hw, List.flatMap_cons, List.flatMap_nil, List.append_nil, b]
theorem pl_join {ns : List Int} {k : Nat} {text word : List Nat} (h : Drawn ns k text word) (hal : ∀ c ∈ word, c ∈ alphaN) (hw : word.length ≤ 9) (ht : text.length ≤ 12) : Txt.join (Str.ofString "") ((keptL text).map b3R) = St word ∧ ((((keptL text).map b3R)).map (·.length)).sum + ((keptL text).map b3R).length ≤ 1048576 := by
  have hc := cat_step h hal
  refine ⟨?_, ?_⟩
  · rw [glue_nil, List.flatMap_map, hc]
  · have h1 : ∀ xs : List Nat, ((xs.map b3R).map (·.length)).sum = (xs.flatMap fun c => (b3R c).cps.toList).length := fun xs => by
      induction xs with
      | nil => rfl
      | cons x r ih =>
        rw [List.map_cons, List.map_cons, List.sum_cons, ih, List.flatMap_cons, List.length_append, Array.length_toList]
        rfl
    rw [h1, hc, List.length_map]
    have := List.length_filter_le (fun c => !hidL.contains c) text
    unfold keptL
    omega
theorem drawn_len {ns : List Int} {k : Nat} {text word : List Nat} (h : Drawn ns k text word) : word.length ≤ k + (k + 1) / 2 ∧ text.length ≤ 2 * k := by
  induction h with
  | zero => exact ⟨Nat.zero_le _, Nat.zero_le _⟩
  | @succ i x t w h hx ih =>
    have htl : (drawT x t).length ≤ t.length + 1 := by unfold drawT; split <;> simp
    unfold drawStep
    by_cases hB : wayI x = 2 ∧ i % 2 = 0
    · rw [if_pos hB]
      have q0 : 0 ≤ (pickI x).fmod 6 := Int.fmod_nonneg_of_pos _ (by decide)
      have q1 : (pickI x).fmod 6 < 6 := Int.fmod_lt_of_pos _ (by decide)
      obtain ⟨a, b, c⟩ := dbl_ok ⟨((pickI x).fmod 6).toNat, by omega⟩
      have c' : (dblAt x).2.length = 2 := c
      dsimp only
      rw [List.length_append, List.length_append, c', List.length_singleton]
      omega
    · rw [if_neg hB]
      dsimp only
      rw [List.length_append, List.length_append, List.length_singleton, List.length_singleton]
      omega
theorem pl_len {ns : List Int} {text word : List Nat} (h : Drawn (numsL ns) (numsL ns).length text word) : word.length ≤ 9 ∧ text.length ≤ 12 := by
  have h1 := drawn_len h
  have h2 : (numsL ns).length = 6 := by
    unfold numsL
    rw [List.length_append, List.length_take, List.length_drop]
    have : dfl.length = 6 := rfl
    omega
  rw [h2] at h1
  omega
end

section
open PySem.Calls
open LCg (NsObj lst Off3)
section
variable {w : World} {p : Program} {loose : List Str} {mean : ExcName → Option Value} {mg mb : Str → Option Value}
  {dp un : Nat} {gd : Option (List Code)} {cn : Str} {cs : Scope} {a : Addr} {ccd : Value} {cl : List (Str × Addr)} {outer : List Env} {A₀ : Around} {base h₀ : Heap} {L : Addr} {m : Str → Option Value} {news : List (Addr × Obj)} {s : Shared}
  {Q E : Value → Shared → Prop}

/-- what stands between two turns -/
structure LInv (L I rA kA : Nat) (o4 o3 o2 : Obj) (vsR : List Value) (kR : Nat) (word : List Nat) (i : Nat) (nw : List (Addr × Obj)) : Prop where
  ex : ∃ (q30 q23 : List (Addr × Obj)) (o8 o7 o6 o5 : Obj) (v8 v7 v6 v5 : Option Value) (vk : List Value) (kk : Nat) (known : List Int),
    nw = q30 ++ (q23 ++ [(L + 1 + 1 + 1 + 1 + 1, o5), (L + 1 + 1 + 1 + 1 + 1 + 1 + 1 + 1, o8), (L + 1 + 1 + 1 + 1 + 1 + 1 + 1, o7), (L + 1 + 1 + 1 + 1 + 1 + 1, o6), (L + 1 + 1 + 1 + 1, o4), (L + 1 + 1 + 1, o3), (L + 1 + 1, o2), (rA, W.listOf (List.toArray vsR) kR), (kA, W.listOf (List.toArray vk) kk)]) ∧
    TbOk 30 29 4 qI q30 ∧ TbOk 23 14 4 qJ q23 ∧ Apart q30 (q23 ++ [(L + 1 + 1 + 1 + 1 + 1, o5), (L + 1 + 1 + 1 + 1 + 1 + 1 + 1 + 1, o8), (L + 1 + 1 + 1 + 1 + 1 + 1 + 1, o7), (L + 1 + 1 + 1 + 1 + 1 + 1, o6), (L + 1 + 1 + 1 + 1, o4), (L + 1 + 1 + 1, o3), (L + 1 + 1, o2), (rA, W.listOf (List.toArray vsR) kR), (kA, W.listOf (List.toArray vk) kk)]) ∧
    Apart q23 [(L + 1 + 1 + 1 + 1 + 1, o5), (L + 1 + 1 + 1 + 1 + 1 + 1 + 1 + 1, o8), (L + 1 + 1 + 1 + 1 + 1 + 1 + 1, o7), (L + 1 + 1 + 1 + 1 + 1 + 1, o6), (L + 1 + 1 + 1 + 1, o4), (L + 1 + 1 + 1, o3), (L + 1 + 1, o2), (rA, W.listOf (List.toArray vsR) kR), (kA, W.listOf (List.toArray vk) kk)] ∧
    (∀ q ∈ q30, q.1 ≠ I) ∧ (∀ q ∈ q23, q.1 ≠ I) ∧ o8.data = .cell v8 ∧ o7.data = .cell v7 ∧ o6.data = .cell v6 ∧ o5.data = .cell v5 ∧ IntsAre vk known ∧ KnP word i known
theorem law_body {a sA : Addr} {ccd : Value} {o1 o2 o3 o4 o5 o6 o7 o8 : Obj} {vs : List Value} {ns : List Int} {Q : Flow → Shared → Prop}
  (B : Below A₀ base [] h₀) (F : Fr h₀ L s.heap m) (X : (KF w.params).In h₀) (T : Top p loose mean mg mb h₀) (XB : (KF w.params).In base) (TB : Top p loose mean mg mb base) (C30 : CodeHd h₀ 34 30) (C23 : CodeHd h₀ 27 23)
  (ms : m (Str.ofString "script") = some (.ref sA)) (hs : h₀.IsList sA vs.toArray) (his : IntsAre vs ns) (hnl : ns.length ≤ 63)
  (N : News h₀ L s.heap [(L + 1 + 1 + 1 + 1 + 1 + 1 + 1 + 1, o8), (L + 1 + 1 + 1 + 1 + 1 + 1 + 1, o7), (L + 1 + 1 + 1 + 1 + 1 + 1, o6), (L + 1 + 1 + 1 + 1 + 1, o5), (L + 1 + 1 + 1 + 1, o4), (L + 1 + 1 + 1, o3), (L + 1 + 1, o2), (L + 1, o1), (30, tabObj #[]), (23, tabObj #[])])
  (d8 : o8.data = .cell none) (d7 : o7.data = .cell none) (d6 : o6.data = .cell none) (d5 : o5.data = .cell none) (d4 : o4.data = .cell none) (d3 : o3.data = .cell none) (d2 : o2.data = .cell none) (d1 : o1.data = .cell none)
  (l30 : @LT.lt Nat _ 30 L) (l23 : @LT.lt Nat _ 23 L)
  (hE : PassesOwn (model PySem.Challenge.rw_rw0085_01.prog w) (LA dp un gd L a ccd) (LE L a ccd) E) (hd : dp + 500 < recursionLimit) (hu : un + 5000 < cLine)
  (ret : ∀ h' tk' m' q30 q23, Fr h₀ L h' m' → Gd h₀ L h' q30 q23 [] → Q (.ret (.bool true)) { s with heap := h', toks := tk' }) :
  wpAny (model PySem.Challenge.rw_rw0085_01.prog w) (LA dp un gd L a ccd) (execs ndL.1.2.1 (LE L a ccd)) Q E s := by
  revert X; k_fill; intro X
  have g : Gd h₀ L s.heap [(30, tabObj #[])] [(23, tabObj #[])] [(L + 1 + 1 + 1 + 1 + 1 + 1 + 1 + 1, o8), (L + 1 + 1 + 1 + 1 + 1 + 1 + 1, o7), (L + 1 + 1 + 1 + 1 + 1 + 1, o6), (L + 1 + 1 + 1 + 1 + 1, o5), (L + 1 + 1 + 1 + 1, o4), (L + 1 + 1 + 1, o3), (L + 1 + 1, o2), (L + 1, o1)] := by
    refine ⟨news_sub N (by walk_at "sub"), .inl rfl, .inl rfl, ?_, ?_⟩
    · intro q hq q' hq'
      rw [List.mem_singleton.mp hq']
      simp only [List.mem_append, List.mem_cons, List.not_mem_nil, or_false] at hq
      rcases hq with rfl | rfl | rfl | rfl | rfl | rfl | rfl | rfl | rfl <;> (refine neN ?_; dsimp only; first | decide | exact lo1 (by assumption) | exact lo2 (by assumption) | exact lo3 (by assumption) | exact lo4 (by assumption) | exact lo5 (by assumption) | exact lo6 (by assumption) | exact lo7 (by assumption) | exact lo8 (by assumption) | exact Ne.symm (ge0 (by assumption)) | exact Ne.symm (ge1 (by assumption)) | exact Ne.symm (ge2 (by assumption)) | exact Ne.symm (ge3 (by assumption)) | exact Ne.symm (ge4 (by assumption)) | exact Ne.symm (ge5 (by assumption)) | exact Ne.symm (ge6 (by assumption)) | exact Ne.symm (ge7 (by assumption)) | omega)
    · intro q hq q' hq'
      rw [List.mem_singleton.mp hq']
      simp only [List.mem_cons, List.not_mem_nil, or_false] at hq
      rcases hq with rfl | rfl | rfl | rfl | rfl | rfl | rfl | rfl <;> (refine neN ?_; dsimp only; first | decide | exact lo1 (by assumption) | exact lo2 (by assumption) | exact lo3 (by assumption) | exact lo4 (by assumption) | exact lo5 (by assumption) | exact lo6 (by assumption) | exact lo7 (by assumption) | exact lo8 (by assumption) | omega)
  replace g : ∃ q30 q23, Gd h₀ L s.heap q30 q23 [(L + 1 + 1 + 1 + 1 + 1 + 1 + 1 + 1, o8), (L + 1 + 1 + 1 + 1 + 1 + 1 + 1, o7), (L + 1 + 1 + 1 + 1 + 1 + 1, o6), (L + 1 + 1 + 1 + 1 + 1, o5), (L + 1 + 1 + 1 + 1, o4), (L + 1 + 1 + 1, o3), (L + 1 + 1, o2), (L + 1, o1)] := ⟨_, _, g⟩
  obtain ⟨q30, q23, g⟩ := g
  clear N
  dsimp only [ndL]
  iterate 5 (walk_at "go")
  try dsimp only [List.nil_append]
  k_dflt (refine' hid_spec ?aB F ?aX g.N ?aT ?ak ?ad ?au ?_; (case aB => k_asm); (case aX => k_asm); (case aT => k_asm); (case ak => rfl); (case ad => first | exact dlt hd rfl | omega); (case au => first | exact dlt hu rfl | omega))
  intro hA h1 k1 wsH F1 N1 l1 iH
  have g1 := g.add N1 l1
  have nH : @LT.lt Nat _ (L + 1 + 1 + 1 + 1 + 1 + 1 + 1 + 1) hA := ltN (l1 (L + 1 + 1 + 1 + 1 + 1 + 1 + 1 + 1, o8) (in3 (by walk_at "tl")))
  clear N1 g
  refine storeX_L F1 g1.N (fun h2 F2 N2 => ?_)
  have g2 := g1.mono N2
  clear N2 g1 F1
  iterate 8 (walk_at "go")
  refine ⟨by k_in, ?_⟩
  try dsimp only [List.nil_append, List.cons_append]
  k_dflt (refine' alp_spec (vs := wsH) (kL := 0) (hA := hA) ?bB F2 ?bX g2.N ?bT ?bk (in3 ?bl) iH ?bd ?bu ?_; (case bB => k_asm); (case bX => k_asm); (case bT => k_asm); (case bk => rfl); (case bl => exact .head _); (case bd => first | exact dlt hd rfl | omega); (case bu => first | exact dlt hu rfl | omega))
  intro ta h3 k3 F3 N3
  have g3 := g2.mono N3
  clear N3 g2 F2
  k_dflt (refine' cell_store (c := L + 1) (Y := [(hA, W.listOf (List.toArray wsH) 0), (L + 1 + 1 + 1 + 1 + 1 + 1 + 1 + 1, o8), (L + 1 + 1 + 1 + 1 + 1 + 1 + 1, o7), (L + 1 + 1 + 1 + 1 + 1 + 1, o6), (L + 1 + 1 + 1 + 1 + 1, o5), (L + 1 + 1 + 1 + 1, o4), (L + 1 + 1 + 1, o3), (L + 1 + 1, o2)]) F3 g3 ?cm d1 ?cc ?cY ?_ ?ca ?cb; (case cm => walk_at "tl"); (case cc => rfl); (case ca => rfl); (case cb => rfl); (case cY => walk_at "gd"))
  intro h4 o1' F4 g4 d1'
  clear g3 F3
  iterate 7 (walk_at "go")
  refine nameX_L F4 ((if_neg (by decide)).trans ms) ?_
  iterate 5 (walk_at "go")
  refine ⟨by k_in, ?_⟩
  try dsimp only [List.nil_append, List.cons_append]
  k_dflt (refine' drw_spec (sA := sA) (hA := hA) (vs := vs) (vsH := wsH) (ns := ns) (kH := 0) ?dB F4 ?dX g4.N ?dT ?dk hs his hnl (in3 ?dl) iH ?dd ?du ?_; (case dB => k_asm); (case dX => k_asm); (case dT => k_asm); (case dk => rfl); (case dl => walk_at "tl"); (case dd => first | exact dlt hd rfl | omega); (case du => first | exact dlt hu rfl | omega))
  intro TA h5 k5 text word tt tw hdr hwl htl hal hwn F5 N5 l5
  obtain ⟨hw9, ht12⟩ := pl_len hdr
  obtain ⟨hjn, hjs⟩ := pl_join hdr hal hw9 ht12
  have g5 := g4.add N5 l5
  have nT : @LT.lt Nat _ (L + 1 + 1 + 1 + 1 + 1 + 1 + 1 + 1) TA := ltN (l5 (L + 1 + 1 + 1 + 1 + 1 + 1 + 1 + 1, o8) (in3 (by walk_at "tl")))
  clear N5 g4 F4
  k_dflt (refine' unpackN_ F5 g5.N ?uT ?u1 ?u2 ?u3 ?_; (case uT => exact News.isTup g5.N (in3 (.head _))); (case u1 => exact rfl); (case u2 => exact rfl); (case u3 => exact rfl))
  intro h6 F6 N6
  have g6 := g5.mono N6
  clear N6 g5 F5
  try dsimp only
  iterate 2 (walk_at "go")
  refine storeX_L F6 g6.N (fun h7 F7 N7 => ?_)
  have g7 := g6.mono N7
  clear N7 g6 F6
  iterate 2 (walk_at "go")
  k_dflt (refine' cell_store (c := L + 1 + 1) (Y := [(L + 1, o1'), (L + 1 + 1 + 1 + 1 + 1 + 1 + 1 + 1, o8), (L + 1 + 1 + 1 + 1 + 1 + 1 + 1, o7), (L + 1 + 1 + 1 + 1 + 1 + 1, o6), (L + 1 + 1 + 1 + 1 + 1, o5), (L + 1 + 1 + 1 + 1, o4), (L + 1 + 1 + 1, o3)]) F7 g7 ?em d2 ?ec ?eY ?_ ?ea ?eb; (case em => walk_at "tl"); (case ec => rfl); (case ea => rfl); (case eb => rfl); (case eY => walk_at "gd"))
  intro h8 o2' F8 g8 d2'
  clear g7 F7
  iterate 3 (walk_at "go")
  k_dflt (refine' kept_spec (text := text) (tt := tt) ?fB F8 ?fX g8.N ?fT ?fm (by omega) ?fd ?fu ?_; (case fB => k_asm); (case fX => k_asm); (case fT => k_asm); (case fm => exact if_pos rfl); (case fd => first | exact dlt hd rfl | omega); (case fu => first | exact dlt hu rfl | omega))
  intro kA0 h9 k9 wsK kK l9 F9 N9 iK
  have g9 := g8.add N9 l9
  clear N9 g8 F8
  iterate 8 (walk_at "go")
  have hkl : (keptL text).length ≤ 100 := by
    unfold keptL
    have := List.length_filter_le (fun c => !hidL.contains c) text
    omega
  k_dflt (refine' b3s_spec (cs := keptL text) (m := fun z => if z = Str.ofString "kept" then some (.ref kA0) else if z = Str.ofString "text" then some (.str (St text) tt) else if z = Str.ofString "hidden" then some (.ref hA) else m z) ?gB F9 ?gX g9.N ?gT ?gm (in3 (.head _)) iK hkl ?gd ?gu ?_; (case gB => k_asm); (case gX => k_asm); (case gT => k_asm); (case gm => exact if_pos rfl); (case gd => first | exact dlt hd rfl | omega); (case gu => first | exact dlt hu rfl | omega))
  intro jA h10 k10 wsJ kJ l10 F10 N10 iJ
  iterate 1 (walk_at "go")
  k_dflt (refine' join_listW (items := wsJ.toArray) ?jl iJ ?js hjs ?_)
  case jl => exact ⟨_, (N10 _ (.head _)).1, rfl, _, rfl⟩
  case js => exact Nat.zero_le _
  intro t30 k30
  rw [hjn]
  have g10 := g9.mono (news_sub N10 fun q hq => .tail _ hq)
  clear N10 g9 F9
  iterate 2 (walk_at "go")
  rw [show (St word != St word) = false by simp]
  iterate 4 (walk_at "go")
  k_dflt (refine' places_spec (word := word) ?hB F10 ?hX g10.N ?hT (in3 ?h1) d2' (in3 ?h2) d1' hal (by omega) ?hd ?hu ?_; (case hB => k_asm); (case hX => k_asm); (case hT => k_asm); (case h1 => walk_at "tl"); (case h2 => walk_at "tl"); (case hd => first | exact dlt hd rfl | omega); (case hu => first | exact dlt hu rfl | omega))
  intro pA h11 k11 wsP kP l11 F11 N11 iP
  have g11 := g10.add N11 l11
  clear N11 g10 F10
  iterate 2 (walk_at "go")
  have hpm : ∀ q ∈ word.map plI, 0 ≤ q ∧ q < 42 := fun q hq => by
    obtain ⟨c, hc, rfl⟩ := List.mem_map.mp hq
    have h1 := List.idxOf_lt_length_of_mem (hal c hc)
    have h2 : alphaN.length = 42 := rfl
    unfold plI
    omega
  k_dflt (refine' row_spec (ps := word.map plI) (m := fun z => if z = Str.ofString "places" then some (.ref pA) else if z = Str.ofString "kept" then some (.ref kA0) else if z = Str.ofString "text" then some (.str (St text) tt) else if z = Str.ofString "hidden" then some (.ref hA) else m z) ?iB F11 ?iX g11.N ?iT ?im (in3 (.head _)) iP (by rw [List.length_map]; omega) hpm ?id ?iu ?_; (case iB => k_asm); (case iX => k_asm); (case iT => k_asm); (case im => exact if_pos rfl); (case id => first | exact dlt hd rfl | omega); (case iu => first | exact dlt hu rfl | omega))
  intro rA h12 k12 wsR kR l12 F12 N12 iR
  replace iR : IntsAre wsR (rowI word) := iR
  have g12 := g11.add N12 l12
  have nr : @LT.lt Nat _ (L + 1 + 1 + 1 + 1 + 1 + 1 + 1 + 1) rA := ltN (l12 (L + 1 + 1 + 1 + 1 + 1 + 1 + 1 + 1, o8) (in3 (by walk_at "tl")))
  clear N12 g11 F11
  k_dflt (refine' cell_store (c := L + 1 + 1 + 1) (Y := [(rA, W.listOf (List.toArray wsR) kR), (L + 1 + 1, o2'), (L + 1, o1'), (L + 1 + 1 + 1 + 1 + 1 + 1 + 1 + 1, o8), (L + 1 + 1 + 1 + 1 + 1 + 1 + 1, o7), (L + 1 + 1 + 1 + 1 + 1 + 1, o6), (L + 1 + 1 + 1 + 1 + 1, o5), (L + 1 + 1 + 1 + 1, o4)]) F12 g12 ?jm d3 ?jc ?jY ?_ ?ja ?jb; (case jm => walk_at "tl"); (case jc => rfl); (case ja => rfl); (case jb => rfl); (case jY => walk_at "gd"))
  intro h13 o3' F13 g13 d3'
  clear g12 F12
  have N13 := g13.N
  iterate 5 (walk_at "go")
  rename_i kA h14 F14 N14 l14
  have g14 := g13.add N14 l14
  have nk : @LT.lt Nat _ rA kA := ltN (l14 (rA, _) (in3 (by walk_at "tl")))
  clear N14 g13
  k_dflt (refine' cell_store (c := L + 1 + 1 + 1 + 1) (Y := [(L + 1 + 1 + 1 + 1 + 1, o5), (L + 1 + 1 + 1 + 1 + 1 + 1 + 1 + 1, o8), (L + 1 + 1 + 1 + 1 + 1 + 1 + 1, o7), (L + 1 + 1 + 1 + 1 + 1 + 1, o6), (L + 1 + 1 + 1, o3'), (L + 1 + 1, o2'), (rA, W.listOf (List.toArray wsR) kR), (kA, W.listOf #[] 0)]) F14 g14 ?km d4 ?kc ?kY ?_ ?ka ?kb; (case km => walk_at "tl"); (case kc => rfl); (case ka => rfl); (case kb => rfl); (case kY => walk_at "gd"))
  intro h15 o4' F15 g15 d4'
  clear g14
  iterate 2 (walk_at "go")
  k_dflt (refine' For_turns F15 ?_ ?hs ?hEE)
  case hs => intro _; rfl
  case hEE => exact hE
  have hlr : (rowI word).length = word.length := by unfold rowI; rw [List.length_map, List.length_map]
  have hvr : wsR.length = word.length := by rw [iR.length, hlr]
  iterate 13 (walk_at "go")
  refine len_list (items := wsR.toArray) (by exact News.isList (n := kR) (items := wsR.toArray) g15.N (in3 (by walk_at "tl"))) (by rw [List.size_toArray]; omega) ?_
  rw [List.size_toArray, hvr]
  have N15 := g15.N
  iterate 4 (walk_at "go")
  rename IsRange _ _ _ _ _ _ _ _ => hrg
  rename News _ _ _ _ => N16
  rename Fr _ _ _ _ => F16
  have g16 := (g15.mono N16).sub (Y := [(L + 1 + 1 + 1 + 1 + 1, o5), (L + 1 + 1 + 1 + 1 + 1 + 1 + 1 + 1, o8), (L + 1 + 1 + 1 + 1 + 1 + 1 + 1, o7), (L + 1 + 1 + 1 + 1 + 1 + 1, o6), (L + 1 + 1 + 1 + 1, o4'), (L + 1 + 1 + 1, o3'), (L + 1 + 1, o2'), (rA, W.listOf (List.toArray wsR) kR), (kA, W.listOf (List.toArray []) 0)]) (by walk_at "sub")
  clear N16 g15
  k_dflt (refine' iter_rangeTurns (n := word.length) (fun _ _ => rfl) (by rfl) F16 g16.N hrg (rsmall (by omega) (by omega) (by omega) (by omega)) (rsize1 (by omega)) ?_)
  intro I lI
  have nI : @LT.lt Nat _ (L + 1 + 1 + 1 + 1 + 1 + 1 + 1 + 1) I := ltN (lI (L + 1 + 1 + 1 + 1 + 1 + 1 + 1 + 1, o8) (in3 (by walk_at "tl")))
  have nkI : @LT.lt Nat _ kA I := ltN (lI (kA, _) (in3 (show (kA, W.listOf (List.toArray []) 0) ∈ _ by walk_at "tl")))
  k_dflt (refine' items_inv (fun i m nw => LInv L I rA kA o4' o3' o2' wsR kR word i nw) ?turn ?fin ?start)
  case start =>
    exact ⟨_, _, _, _, _, _, _, _, _, _, _, _, _, rfl, g16.t30, g16.t23, g16.a30, g16.a23, fun q hq => Nat.ne_of_lt (lI q (List.mem_append_left _ hq)), fun q hq => Nat.ne_of_lt (lI q (List.mem_append_right _ (List.mem_append_left _ hq))), d8, d7, d6, d5, .nil, pl_zero word⟩
  case fin =>
    rintro m2 nw h17 k17 ⟨p30, p23, p8, p7, p6, p5, v8, v7, v6, v5, vk, kk, known, rfl, t30, t23, a30, a23, n30, n23, e8, e7, e6, e5, iK, K⟩ F17 N17
    have g17 : Gd h₀ L h17 p30 p23 _ := ⟨N17, t30, t23, a30, a23⟩
    clear N17 g16
    have hri : (rangeItems 1 word.length).length = word.length := by unfold rangeItems; rw [List.length_map, List.length_range]
    rw [hri] at K
    have hkm := pl_end hal hw9 K
    rw [← iK.length] at hkm
    k_dflt (refine' tail_spec (word := word) (vk := vk) ?fB F17 ?fX g17.N ?fT (in3 ?f1) d2' (by omega) (in3 ?f2) d4' (in3 ?f3) hkm ?fd ?fu ?_; (case fB => k_asm); (case fX => k_asm); (case fT => k_asm); (case f1 => walk_at "tl"); (case f2 => walk_at "tl"); (case f3 => walk_at "tl"); (case fd => first | exact dlt hd rfl | omega); (case fu => first | exact dlt hu rfl | omega))
    intro h18 k18 m18 F18 N18
    exact ret _ _ _ _ _ F18 ((g17.mono N18).sub (Y := []) (List.forall_mem_nil _))
  case turn =>
    rintro i it m2 nw v h17 k17 hit ⟨p30, p23, p8, p7, p6, p5, v8, v7, v6, v5, vk, kk, known, rfl, t30, t23, a30, a23, n30, n23, e8, e7, e6, e5, iK, K⟩ hv F17
    have hi : i < word.length := by
      have := (List.getElem?_eq_some_iff.mp hit).1
      unfold rangeItems at this
      rw [List.length_map, List.length_range] at this
      exact this
    obtain ⟨tv, rfl⟩ : ∃ tv, v = .int ((i + 1 : Nat) : Int) tv := by
      unfold rangeItems at hit
      rw [List.getElem?_map, List.getElem?_range hi] at hit
      have hit' := Option.some.inj hit
      subst hit'
      obtain ⟨tv, rfl⟩ := hv
      exact ⟨tv, by show Value.int (1 + (i : Int) * 1) tv = _; rw [show (1 + (i : Int) * 1) = ((i + 1 : Nat) : Int) by omega]⟩
    clear hv hit g16
    intro oI hoI N17
    have g17 : Gd h₀ L h17 p30 p23 ((I, oI) :: [(L + 1 + 1 + 1 + 1 + 1, p5), (L + 1 + 1 + 1 + 1 + 1 + 1 + 1 + 1, p8), (L + 1 + 1 + 1 + 1 + 1 + 1 + 1, p7), (L + 1 + 1 + 1 + 1 + 1 + 1, p6), (L + 1 + 1 + 1 + 1, o4'), (L + 1 + 1 + 1, o3'), (L + 1 + 1, o2'), (rA, W.listOf (List.toArray wsR) kR), (kA, W.listOf (List.toArray vk) kk)]) := by
      refine ⟨fun q hq => N17 q ?_, t30, t23, fun q hq q' hq' => ?_, fun q hq q' hq' => ?_⟩
      · show q ∈ [(I, oI)] ++ _
        rcases List.mem_append.mp hq with hq | hq
        · exact List.mem_append_right _ (List.mem_append_left _ hq)
        · rcases List.mem_append.mp hq with hq | hq
          · exact List.mem_append_right _ (List.mem_append_right _ (List.mem_append_left _ hq))
          · rcases List.mem_cons.mp hq with rfl | hq
            · exact List.mem_append_left _ (.head _)
            · exact List.mem_append_right _ (List.mem_append_right _ (List.mem_append_right _ hq))
      · rcases List.mem_append.mp hq with hq | hq
        · exact a30 q (List.mem_append_left _ hq) q' hq'
        · rcases List.mem_cons.mp hq with rfl | hq
          · exact Ne.symm (n30 q' hq')
          · exact a30 q (List.mem_append_right _ hq) q' hq'
      · rcases List.mem_cons.mp hq with rfl | hq
        · exact Ne.symm (n23 q' hq')
        · exact a23 q hq q' hq'
    clear N17
    obtain ⟨PT, PK⟩ := pl_turn hal hw9 hi K
    refine wpAny_assign_Name ?_
    k_dflt (refine' cell_store (c := L + 1 + 1 + 1 + 1 + 1) (Y := [(I, oI), (L + 1 + 1 + 1 + 1 + 1 + 1 + 1 + 1, p8), (L + 1 + 1 + 1 + 1 + 1 + 1 + 1, p7), (L + 1 + 1 + 1 + 1 + 1 + 1, p6), (L + 1 + 1 + 1 + 1, o4'), (L + 1 + 1 + 1, o3'), (L + 1 + 1, o2'), (rA, W.listOf (List.toArray wsR) kR), (kA, W.listOf (List.toArray vk) kk)]) F17 g17 ?wm e5 ?wc ?wY ?_ ?wa ?wb; (case wm => walk_at "tl"); (case wc => rfl); (case wa => rfl); (case wb => rfl); (case wY => walk_at "gd"))
    intro h18 p5' F18 g18 e5'
    replace g18 := g18.sub (Y := [(I, oI), (L + 1 + 1 + 1 + 1 + 1, p5'), (L + 1 + 1 + 1 + 1 + 1 + 1 + 1 + 1, p8), (L + 1 + 1 + 1 + 1 + 1 + 1 + 1, p7), (L + 1 + 1 + 1 + 1 + 1 + 1, p6), (L + 1 + 1 + 1 + 1, o4'), (L + 1 + 1 + 1, o3'), (L + 1 + 1, o2'), (rA, W.listOf (List.toArray wsR) kR), (kA, W.listOf (List.toArray vk) kk)]) (by walk_at "sub")
    clear g17 F17
    k_dflt (refine' turn_spec (R := rowI word) (word := word) (e := i + 1) (known := known) PT ?tB F18 ?tX ?tT XB TB C30 C23 g18 e8 e7 e6 e5' d4' d3' d2' iR iK nI nr nk nkI ?td ?tu ?_; (case tB => k_asm); (case tX => k_asm); (case tT => k_asm); (case td => first | exact dlt hd rfl | omega); (case tu => first | exact dlt hu rfl | omega))
    intro h19 k19 m19 r30 r23 r8 r7 r6 w8 w7 w6 vk' kk' F19 g19 e8' e7' e6' iK'
    dsimp only [UnrPostW, UnrEndW]
    refine ⟨_, _, _, r30 ++ (r23 ++ [(L + 1 + 1 + 1 + 1 + 1, p5'), (L + 1 + 1 + 1 + 1 + 1 + 1 + 1 + 1, r8), (L + 1 + 1 + 1 + 1 + 1 + 1 + 1, r7), (L + 1 + 1 + 1 + 1 + 1 + 1, r6), (L + 1 + 1 + 1 + 1, o4'), (L + 1 + 1 + 1, o3'), (L + 1 + 1, o2'), (rA, W.listOf (List.toArray wsR) kR), (kA, W.listOf (List.toArray vk') kk')]), rfl, F19, ?oN, ?oO, trivial, ?oI⟩
    case oN =>
      refine fun q hq => g19.N q ?_
      rcases List.mem_append.mp hq with hq | hq
      · rw [List.mem_singleton.mp hq]; exact in3 (.head _)
      · rcases List.mem_append.mp hq with hq | hq
        · exact List.mem_append_left _ hq
        · rcases List.mem_append.mp hq with hq | hq
          · exact List.mem_append_right _ (List.mem_append_left _ hq)
          · exact in3 (.tail _ hq)
    case oO =>
      intro q hq q' hq'
      rw [List.mem_singleton.mp hq']
      rcases List.mem_append.mp hq with hq | hq
      · exact Ne.symm (g19.a30 (I, oI) (List.mem_append_right _ (.head _)) q hq)
      · rcases List.mem_append.mp hq with hq | hq
        · exact Ne.symm (g19.a23 (I, oI) (.head _) q hq)
        · simp only [List.mem_cons, List.not_mem_nil, or_false] at hq
          rcases hq with rfl | rfl | rfl | rfl | rfl | rfl | rfl | rfl | rfl <;> (refine neN ?_; dsimp only; first | exact Ne.symm (ge0 (by assumption)) | exact Ne.symm (ge1 (by assumption)) | exact Ne.symm (ge2 (by assumption)) | exact Ne.symm (ge3 (by assumption)) | exact Ne.symm (ge4 (by assumption)) | exact Ne.symm (ge5 (by assumption)) | exact Ne.symm (ge6 (by assumption)) | exact Ne.symm (ge7 (by assumption)) | omega)
    case oI =>
      have g20 := g19.sub (Y := [(L + 1 + 1 + 1 + 1 + 1, p5'), (L + 1 + 1 + 1 + 1 + 1 + 1 + 1 + 1, r8), (L + 1 + 1 + 1 + 1 + 1 + 1 + 1, r7), (L + 1 + 1 + 1 + 1 + 1 + 1, r6), (L + 1 + 1 + 1 + 1, o4'), (L + 1 + 1 + 1, o3'), (L + 1 + 1, o2'), (rA, W.listOf (List.toArray wsR) kR), (kA, W.listOf (List.toArray vk') kk')]) (by walk_at "sub")
      exact ⟨_, _, _, _, _, _, _, _, _, _, _, _, _, rfl, g20.t30, g20.t23, g20.a30, g20.a23, fun q hq => Ne.symm (g19.a30 (I, oI) (List.mem_append_right _ (.head _)) q hq), fun q hq => Ne.symm (g19.a23 (I, oI) (.head _) q hq), e8', e7', e6', e5', iK', PK⟩
end
end

end

end

end

end Mine
end

open PySem PySem.W PyProof.Rows PySem.Spec PyProof.V PySem.Calls
set_option Elab.async false
set_option maxRecDepth 100000
set_option maxHeartbeats 8000000
open Mine
theorem Mine.TbOk.grown {P l c : Nat} {q : Str} {led : List (Addr × Obj)} (x : TbOk P l c q led) : ∃ ps, (P, tabObj ps) ∈ led := by
  rcases x with rfl | ⟨c', oc, vs, t, rfl, _⟩
  · exact ⟨_, .head _⟩
  · exact ⟨_, .tail _ (.head _)⟩
theorem PySem.Challenge.cw_rw0085_01_holds : PySem.Challenge.rw_rw0085_01.Holds := by
  w_on
  refine holds_law (by kernel_rfl) fun said => ?_
  refine holds_open (q := qV) (loose := looseS) (Xt := XtF) (XP := XL qV []) (Yf := Hook.obs (kmHook KF asF asF_is [30, 23])) (Ya := Hook.val (kmHook KF asF asF_is [30, 23])) (YP := Hook.says (kmHook KF asF asF_is [30, 23])) (N := 30000) left (Hook.of (kmHook KF asF asF_is [30, 23])) (Hook.keeps (kmHook KF asF asF_is [30, 23])) (fun s e => xl_of s (Bool.and_eq_true_iff.mp e).1) XL.keeps (by rfl) (by rfl) (by rfl) (fun s e => recFacts_of (Bool.and_eq_true_iff.mp e).2) (by rfl) (by assumption) (by decide +kernel) ⟨rfl, rfl, rfl, rfl, rfl, by decide +kernel⟩ ?hw ?hc
  case hw => w_witness2
  case hc =>
    k_go0
    rename News _ _ _ _ => N'
    rename Fr _ _ _ _ => F'
    refine' law_body ?B F' ?X ?T ?XB ?TB ?C30 ?C23 ?ms ?hs ?his ?hnl N' ?d8 ?d7 ?d6 ?d5 ?d4 ?d3 ?d2 ?d1 ?l30 ?l23 ?hE ?hd ?hu ?ret
    case B => k_asm
    case X => k_asm
    case T => k_asm
    case XB => k_asm
    case TB => k_asm
    case C30 => assumption
    case C23 => assumption
    case ms => exact rfl
    case hs => assumption
    case his => assumption
    case hnl => omega
    case d8 => exact Eq.trans (by assumption) rfl
    case d7 => exact Eq.trans (by assumption) rfl
    case d6 => exact Eq.trans (by assumption) rfl
    case d5 => exact Eq.trans (by assumption) rfl
    case d4 => exact Eq.trans (by assumption) rfl
    case d3 => exact Eq.trans (by assumption) rfl
    case d2 => exact Eq.trans (by assumption) rfl
    case d1 => exact Eq.trans (by assumption) rfl
    case l30 => exact And.left (by assumption)
    case l23 => exact And.right (by assumption)
    case hE => passes_own
    case hd => decide
    case hu => decide
    case ret =>
      intro h' tk' m' q30 q23 F9 g9
      dsimp only
      obtain ⟨x30, hx30⟩ := g9.t30.grown
      obtain ⟨x23, hx23⟩ := g9.t23.grown
      refine ⟨?_, GrownAt.of g9.N (List.mem_append_left _ hx30), GrownAt.of g9.N (List.mem_append_right _ (List.mem_append_left _ hx23)), trivial⟩
      first
        | wrow_close
        | (refine goodW_bool F9 ?_ ?_ ?_
           · assumption
           · intro _; rfl
           · rfl)
