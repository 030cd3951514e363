import PyProof.Rows.All
import Wide.All
import OpenK.AllK
import Wide.FinOn
import PySem.Challenge.RW_pk0087_02
set_option Elab.async false
section
open PySem PySem.W PyProof.Rows PySem.Calls
namespace Mine

section
variable {prog : Program} {w : World} {n₀ : Nat} {ann : Option Value} {b : List Stmt} {env : Env} {q : Pos}

/-- from (s, p) the tree x comes to a, by n steps of the machine, at (s', p'), whatever is behind it -/
def Go (prog : Program) (w : World) (n₀ : Nat) (ann : Option Value) (b : List Stmt) (env : Env) (q : Pos) {α : Type} (x : Sem α) (s : Shared) (p : Pos) (n : Nat) (a : α) (s' : Shared) (p' : Pos) : Prop :=
  ∀ (K : α → Sem Fin) (H : Value → Sem Fin) (gd : Bool → Bool) (lv : List Value → List Value) (N : Nat) (r : Shared),
    topRun treeTable prog w n₀ ann N s' ⟨K a, .body b env, p', [topFrame q]⟩ = some r →
    topRun treeTable prog w n₀ ann (N + n) s ⟨x.wrap K H gd lv, .body b env, p, [topFrame q]⟩ = some r


variable {α β : Type} {s s' s'' : Shared} {p p' p'' : Pos}

theorem Go.pure (a : α) : Go prog w n₀ ann b env q (Pure.pure a : Sem α) s p 0 a s p := fun _ _ _ _ _ _ h => h
theorem Go.pure' (a : α) : Go prog w n₀ ann b env q (Sem.pure a : Sem α) s p 0 a s p := fun _ _ _ _ _ _ h => h
theorem Go.bind {x : Sem α} {f : α → Sem β} {n m : Nat} {a : α} {c : β} (h : Go prog w n₀ ann b env q x s p n a s' p') (k : Go prog w n₀ ann b env q (f a) s' p' m c s'' p'') :
    Go prog w n₀ ann b env q (x >>= f) s p (m + n) c s'' p'' := fun K H gd lv N r e => by
  rw [Sem.bind_eq_wrap', Sem.wrap_wrap, ← Nat.add_assoc]
  exact h _ _ _ _ _ _ (k K H gd lv N r e)
theorem Go.keep {x : Sem α} {n : Nat} {a : α} {vs : List Value} (h : Go prog w n₀ ann b env q x s p n a s' p') : Go prog w n₀ ann b env q (x.keep vs) s p n a s' p' := fun K H gd lv N r e => by
  rw [Sem.keep_eq_wrap, Sem.wrap_wrap]
  exact h _ _ _ _ _ _ e
theorem Go.holding {x : Sem α} {n : Nat} {a : α} {vs : List Value} (h : Go prog w n₀ ann b env q x s p n a s' p') : Go prog w n₀ ann b env q (PySem.holding vs x) s p n a s' p' := by
  unfold PySem.holding
  split
  · exact h
  · exact h.keep
theorem Go.tryCatch {x : Sem α} {n : Nat} {a : α} {k : Value → Sem α} (h : Go prog w n₀ ann b env q x s p n a s' p') : Go prog w n₀ ann b env q (x.tryCatch k) s p n a s' p' := fun K H gd lv N r e => by
  rw [Sem.tryCatch_eq_wrap, Sem.wrap_wrap]
  exact h _ _ _ _ _ _ e
theorem Go.onRaise {x : Sem α} {n : Nat} {a : α} {k : Value → Sem Unit} (h : Go prog w n₀ ann b env q x s p n a s' p') : Go prog w n₀ ann b env q (x.onRaise k) s p n a s' p' := fun K H gd lv N r e => by
  rw [Sem.onRaise_eq_wrap, Sem.wrap_wrap]
  exact h _ _ _ _ _ _ e
theorem Go.fresh : Go prog w n₀ ann b env q PySem.fresh s p 1 s.toks { s with toks := s.toks + 1 } p := fun _ _ _ _ _ _ h => h
theorem Go.rule {t : String} : Go prog w n₀ ann b env q (PySem.rule t) s p 1 () s p := fun _ _ _ _ _ _ h => h
theorem Go.standAt {p₁ : Pos} : Go prog w n₀ ann b env q (PySem.standAt p₁) s p 1 () s p₁ := fun _ _ _ _ _ _ h => h
theorem Go.ask : Go prog w n₀ ann b env q PySem.ask s p 1 ⟨prog, w.params⟩ s p := fun _ _ _ _ _ _ h => h
theorem Go.point : Go prog w n₀ ann b env q PySem.point s p 1 () s p := fun _ _ _ _ _ _ h => h
theorem Go.alloc {o : Obj} : Go prog w n₀ ann b env q (PySem.alloc o) s p 1 s.heap.objs.size { s with heap := s.heap.push o } p := fun _ _ _ _ _ _ h => h
theorem Go.load {a : Addr} {o : Obj} (ho : s.heap.get? a = some o) : Go prog w n₀ ann b env q (PySem.load a) s p 1 o s p := fun K H gd lv N r h => by
  obtain ⟨heap, gens, drawn, toks, os⟩ := s
  show (match (match heap.get? a with | some o => _ | none => _ : Step) with | .go s' t' => topRun treeTable prog w n₀ ann N s' t' | .halt _ _ => none) = some r
  rw [show heap.get? a = some o from ho]
  exact h
theorem Go.loadPart {a : Addr} {o : Obj} {pt : Option Value} (ho : s.heap.get? a = some o) : Go prog w n₀ ann b env q (PySem.loadPart a pt) s p 1 o s p := fun K H gd lv N r h => by
  obtain ⟨heap, gens, drawn, toks, os⟩ := s
  show (match (match heap.get? a with | some o => _ | none => _ : Step) with | .go s' t' => topRun treeTable prog w n₀ ann N s' t' | .halt _ _ => none) = some r
  rw [show heap.get? a = some o from ho]
  exact h
theorem Go.updatePart {a : Addr} {o : Obj} {pt : Option Value} {f : Obj → Obj} (ho : s.heap.get? a = some o) (ha : Nat.ble n₀ a = true) : Go prog w n₀ ann b env q (PySem.updatePart a pt f) s p 1 () { s with heap := s.heap.update a f } p := fun K H gd lv N r h => by
  obtain ⟨heap, gens, drawn, toks, os⟩ := s
  have ok : stepOk n₀ ann ⟨(PySem.updatePart a pt f).wrap K H gd lv, .body b env, p, [topFrame q]⟩ = true := by
    show (true && (Nat.ble n₀ a || a == mainNs || a == cStatics || ann == some (.ref a))) = true
    rw [ha]; rfl
  show (match stepOk n₀ ann ⟨(PySem.updatePart a pt f).wrap K H gd lv, .body b env, p, [topFrame q]⟩ with | false => none | true => _) = some r
  rw [ok]
  show (match (if (heap.get? a).isSome then _ else _ : Step) with | .go s' t' => topRun treeTable prog w n₀ ann N s' t' | .halt _ _ => none) = some r
  rw [show heap.get? a = some o from ho]
  exact h

theorem Go.of_eq {x : Sem α} {y : Sem α} {n : Nat} {a : α} (e : x = y) (h : Go prog w n₀ ann b env q y s p n a s' p') : Go prog w n₀ ann b env q x s p n a s' p' := e ▸ h
theorem Go.cast {x : Sem α} {n m : Nat} {a : α} (h : Go prog w n₀ ann b env q x s p n a s' p') (e : n = m) : Go prog w n₀ ann b env q x s p m a s' p' := e ▸ h
theorem Go.seq {x : Sem α} {f : α → Sem β} {n m l : Nat} {a : α} {c : β} (h : Go prog w n₀ ann b env q x s p n a s' p') (k : Go prog w n₀ ann b env q (f a) s' p' m c s'' p'') (e : m + n = l) :
    Go prog w n₀ ann b env q (x >>= f) s p l c s'' p'' := e ▸ Go.bind h k
theorem Go.mkInt {i : Int} : Go prog w n₀ ann b env q (PySem.mkInt i) s p 1 (.int i s.toks) { s with toks := s.toks + 1 } p := fun _ _ _ _ _ _ h => h
theorem Go.mkText {x : Str} : Go prog w n₀ ann b env q (PySem.mkText x) s p 1 (.str x s.toks) { s with toks := s.toks + 1 } p := fun _ _ _ _ _ _ h => h

/-- the call of an int's own hash -/
theorem Go.callHash {k : Int} {t : Tok} : Go prog w n₀ ann b env q (PySem.call (.builtin "int.__hash__") [.int k t]) s p 4 (.int (rawHash k) s.toks) { s with toks := s.toks + 1 } p := fun K H gd lv N r h => by
  obtain ⟨heap, gens, drawn, toks, os⟩ := s
  refine Eq.trans (b := topRun treeTable prog w n₀ ann N ⟨heap, gens, drawn, toks + 1, os⟩ ⟨K (.int (rawHash k) toks), .body b env, p, [topFrame q]⟩) ?_ h
  kernel_rfl
end
end Mine
end
section
open PySem PySem.W PyProof.Rows PySem.Calls
namespace Mine

/-- the heap with o at a -/
def hput (h : Heap) (a : Addr) (o : Obj) : Heap := h.update a fun _ => o
theorem hput_get {h : Heap} {a : Addr} {es : List DictEntry} {n : Nat} (ha : a < h.objs.size) : (hput h a (dictOf es n)).get? a = some (dictOf es n) := by
  cases h
  simp only [hput, Heap.update, Heap.get?, Array.getElem?_modify]
  rename_i objs l
  have : objs[a]? = some objs[a] := Array.getElem?_eq_getElem ha
  simp [this]
theorem hput_get_ne {h : Heap} {a c : Addr} {o : Obj} (hc : c ≠ a) : (hput h a o).get? c = h.get? c := Heap.get?_update_ne h c a _ hc
theorem hput_size {h : Heap} {a : Addr} {o : Obj} : (hput h a o).objs.size = h.objs.size := by
  cases h; simp [hput, Heap.update]
theorem update_of_get {h : Heap} {a : Addr} {o : Obj} {f : Obj → Obj} (ho : h.get? a = some o) : h.update a f = hput h a (f o) := by
  cases h
  rename_i objs l
  simp only [hput, Heap.update]
  congr 1
  refine Array.ext (by simp) fun i h1 h2 => ?_
  simp only [Array.getElem_modify]
  split
  · rename_i e
    subst e
    simp only [Heap.get?] at ho
    have h3 : a < objs.size := by simpa using h1
    rw [Array.getElem?_eq_getElem h3] at ho
    split at ho
    · cases ho
    · rename_i x hx; cases ho; rfl
  · rfl
theorem hput_hput {h : Heap} {a : Addr} {o o' : Obj} : hput (hput h a o) a o' = hput h a o' := by
  cases h
  rename_i objs l
  simp only [hput, Heap.update]
  congr 1
  refine Array.ext (by simp) fun i h1 h2 => ?_
  simp only [Array.getElem_modify]
  split <;> rfl

section
variable {prog : Program} {w : World} {n₀ : Nat} {ann : Option Value} {b : List Stmt} {env : Env} {q : Pos} {α β : Type} {s s' s'' : Shared} {p p' p'' : Pos}

theorem Go.pyHash {k : Int} {t : Tok} : Go prog w n₀ ann b env q (PySem.pyHash (.int k t)) s p 5 (hashInt k) { s with toks := s.toks + 1 } p := by
  have hr := rawHash_range k
  show Go prog w n₀ ann b env q (pyHashByItsType (.int k t)) s p 5 _ _ p
  have hv : [Value.int k t].any Value.onHeap = false := rfl
  have e1 : cRoomFor "hash" [Value.int k t] = (Pure.pure () : Sem Unit) := by
    rw [cRoomFor, if_neg (by rw [hv]; exact Bool.false_ne_true)]
  have e2 : specialOf (.int k t) "__hash__" = (Pure.pure (some (.builtin "int.__hash__")) : Sem (Option Value)) := slot_int_hash.lookup
  have e3 : Go prog w n₀ ann b env q (bindSpecialIfBound? (.int k t) "__hash__") s p 1 (some (.builtin "int.__hash__", [.int k t])) s p := by
    unfold bindSpecialIfBound?
    refine Go.cast (n := 0 + 1 + 0) (Go.bind (.of_eq e2 (Go.pure _)) (Go.bind Go.ask ?_)) rfl
    dsimp only
    have e4 : Go prog w n₀ ann b env q (do let x ← bindSpecial (.builtin "int.__hash__") (.int k t); Pure.pure (some x)) s p 0 (some (.builtin "int.__hash__", [.int k t])) s p :=
      Go.seq (.of_eq (slot_int_hash.bind _) (Go.pure _)) (Go.pure _) rfl
    split
    · exact e4
    · exact Go.tryCatch e4
  unfold pyHashByItsType
  refine Go.cast (n := (5 + 0) + 0) (Go.bind (.of_eq e1 (Go.pure _)) (Go.bind (.of_eq e2 (Go.pure _)) ?_)) rfl
  show Go prog w n₀ ann b env q (if (some (Value.builtin "int.__hash__") == some Value.none) = true then _ else _) s p 5 _ _ p
  rw [if_neg (by rw [beq_builtin_none]; exact Bool.false_ne_true)]
  refine Go.cast (n := 5 + 0) (Go.bind (.of_eq e2 (Go.pure _)) ?_) rfl
  show Go prog w n₀ ann b env q (callSpecialIfBoundUnlessNone? (.int k t) "__hash__" _ >>= _) s p 5 _ _ p
  refine Go.cast (n := 0 + 5) (Go.bind (a := some (.int (rawHash k) s.toks)) (s' := { s with toks := s.toks + 1 }) (p' := p) ?_ ?_) rfl
  · unfold callSpecialIfBoundUnlessNone?
    refine Go.holding (Go.cast (n := 4 + 1) (Go.bind e3 ?_) rfl)
    show Go prog w n₀ ann b env q (if (Value.builtin "int.__hash__" == Value.none) = true then _ else _) s p 4 _ _ p
    rw [if_neg (by rw [builtin_beq_none]; exact Bool.false_ne_true)]
    exact Go.seq Go.callHash (Go.pure _) rfl
  · show Go prog w n₀ ann b env q (if (decide (-(2 : Int) ^ 63 ≤ rawHash k) && decide (rawHash k < 2 ^ 63)) = true then _ else _) _ p 0 _ _ p
    rw [if_pos (by rw [decide_eq_true hr.1, decide_eq_true hr.2]; rfl)]
    exact Go.pure _

theorem Go.dictEntries {d : Addr} {es : List DictEntry} {n : Nat} {pt : Option Value} (ho : s.heap.get? d = some (dictOf es n)) : Go prog w n₀ ann b env q (PySem.dictEntries d pt) s p 1 es.toArray s p := by
  unfold PySem.dictEntries
  exact Go.seq (Go.loadPart ho) (Go.pure _) rfl
theorem Go.dictEpoch {d : Addr} {es : List DictEntry} {n : Nat} {pt : Option Value} (ho : s.heap.get? d = some (dictOf es n)) : Go prog w n₀ ann b env q (PySem.dictEpoch d pt) s p 1 n s p := by
  unfold PySem.dictEpoch
  exact Go.seq (Go.loadPart ho) (Go.pure _) rfl
theorem no_places {es : List DictEntry} {h : Int} (hk : ∀ e ∈ es, e.hash ≠ h) : placesWithHash es.toArray.size (fun i => es.toArray[i]?.map (·.hash)) h = [] := by
  unfold placesWithHash
  refine List.filter_eq_nil_iff.mpr fun i _ => ?_
  simp only [List.getElem?_toArray, beq_iff_eq]
  intro e
  obtain ⟨x, hx, hx'⟩ := Option.map_eq_some_iff.mp e
  exact hk x (List.mem_of_getElem? hx) hx'
theorem Go.dictFind {d : Addr} {es : List DictEntry} {n : Nat} {i h : Int} {t : Tok} (ho : s.heap.get? d = some (dictOf es n)) (hk : ∀ e ∈ es, e.hash ≠ h) : Go prog w n₀ ann b env q (PySem.dictFind d (.int i t) h) s p 1 none s p := by
  unfold PySem.dictFind
  refine Go.holding (Go.seq (Go.dictEntries ho) ?_ rfl)
  dsimp only
  rw [no_places hk]
  exact Go.pure _
theorem Go.updateDictKeys {d : Addr} {es : List DictEntry} {n : Nat} {e : DictEntry} {pt : Option Value} (ho : s.heap.get? d = some (dictOf es n)) (hd : Nat.ble n₀ d = true) (hz : es.length ≤ 1000) :
    Go prog w n₀ ann b env q (PySem.updateDictKeys d (·.push e) pt) s p 3 () { s with heap := hput s.heap d (dictOf (es ++ [e]) (n + 1)) } p := by
  have hlt : d < s.heap.objs.size := Heap.lt_size ho
  unfold PySem.updateDictKeys
  refine Go.seq (m := 2) (Go.loadPart ho) ?_ rfl
  refine Go.seq (m := 1) (Go.updatePart ho hd) ?_ rfl
  rw [update_of_get ho]
  have e1 : Obj.mapDictKeys (·.push e) (dictOf es n) = dictOf (es ++ [e]) (n + 1) := by
    show (⟨_, _, Data.dict (es.toArray.push e) (n + 1), _⟩ : Obj) = _
    rw [List.push_toArray]
  rw [e1]
  unfold lookBehind
  refine Go.seq (m := 0) (Go.loadPart (hput_get hlt)) ?_ rfl
  have e2 : (Data.dict (es ++ [e]).toArray (n + 1)).pastItsLine = none := by
    show (if (es ++ [e]).toArray.size > sizeLine + 1 then _ else _) = _
    rw [if_neg]
    have : sizeLine = 16777216 := sizeLine_eq
    simp only [List.size_toArray, List.length_append, List.length_singleton, this]
    omega
  show Go prog w n₀ ann b env q (match (Data.dict (es ++ [e]).toArray (n + 1)).pastItsLine with | some what => unsupported what | _ => Pure.pure PUnit.unit) _ p 0 _ _ p
  rw [e2]
  exact Go.pure _
theorem Go.dictPut {d : Addr} {es : List DictEntry} {n : Nat} {i h : Int} {t : Tok} {v : Value} (ho : s.heap.get? d = some (dictOf es n)) (hd : Nat.ble n₀ d = true) (hk : ∀ e ∈ es, e.hash ≠ h) (hz : es.length ≤ 1000) :
    Go prog w n₀ ann b env q (PySem.dictPut d h (.int i t) v) s p 4 () { s with heap := hput s.heap d (dictOf (es ++ [⟨h, .int i t, v⟩]) (n + 1)) } p := by
  unfold PySem.dictPut
  exact Go.seq (Go.dictFind ho hk) (Go.updateDictKeys ho hd hz) rfl
theorem Go.dictSet {d : Addr} {es : List DictEntry} {n : Nat} {i : Int} {t : Tok} {v : Value} (ho : s.heap.get? d = some (dictOf es n)) (hd : Nat.ble n₀ d = true) (hk : ∀ e ∈ es, e.hash ≠ hashInt i) (hz : es.length ≤ 1000) :
    Go prog w n₀ ann b env q (PySem.dictSet d (.int i t) v) s p 10 () { s with heap := hput s.heap d (dictOf (es ++ [⟨hashInt i, .int i t, v⟩]) (n + 1)), toks := s.toks + 1 } p := by
  unfold PySem.dictSet
  refine Go.holding (Go.seq (m := 5) Go.pyHash ?_ rfl)
  unfold dictSetHashed
  refine Go.holding (Go.seq (m := 4) (Go.dictFind (s := { s with toks := s.toks + 1 }) ho hk) ?_ rfl)
  exact Go.seq Go.rule (Go.updateDictKeys (s := { s with toks := s.toks + 1 }) ho hd hz) rfl
end
end Mine
end
section
open PySem PySem.W PyProof.Rows PySem.Calls
namespace Mine

theorem hput_self {h : Heap} {a : Addr} {o : Obj} (ho : h.get? a = some o) : hput h a o = h := by
  have e := update_of_get (f := id) ho
  rw [show hput h a o = hput h a (id o) from rfl, ← e]
  cases h
  rename_i objs l
  simp only [Heap.update]
  congr 1
  refine Array.ext (by simp) fun i h1 h2 => ?_
  simp only [Array.getElem_modify]
  split <;> rfl

/-- one entry -/
abbrev ent1 (i : Int) (x : Str) (t : Nat) : DictEntry := ⟨hashInt i, .int i t, .str x (t + 1)⟩
/-- a long chunk's entries, the first name bearing the token t -/
def ents : List (Int × Str) → Nat → List DictEntry
  | [], _ => []
  | (i, x) :: r, t => ⟨hashInt i, .int i t, .str x (t + 1)⟩ :: ents r (t + 3)
/-- a short one's: all are evaluated first -/
def entsS : List (Int × Str) → Nat → List DictEntry
  | [], _ => []
  | (i, x) :: r, t => ⟨hashInt i, .int i t, .str x (t + 1)⟩ :: entsS r (t + 2)
theorem ents_length : ∀ (l : List (Int × Str)) (t : Nat), (ents l t).length = l.length
  | [], _ => rfl
  | (_, _) :: r, t => by simp only [ents, List.length_cons, ents_length r]
theorem entsS_length : ∀ (l : List (Int × Str)) (t : Nat), (entsS l t).length = l.length
  | [], _ => rfl
  | (_, _) :: r, t => by simp only [entsS, List.length_cons, entsS_length r]
theorem ents_hash : ∀ (l : List (Int × Str)) (t : Nat), (ents l t).map (·.hash) = l.map fun y => hashInt y.1
  | [], _ => rfl
  | (_, _) :: r, t => by simp only [ents, List.map_cons, ents_hash r]
theorem entsS_hash : ∀ (l : List (Int × Str)) (t : Nat), (entsS l t).map (·.hash) = l.map fun y => hashInt y.1
  | [], _ => rfl
  | (_, _) :: r, t => by simp only [entsS, List.map_cons, entsS_hash r]
def IntKeyed (es : List DictEntry) : Prop := ∀ e ∈ es, ∃ i t, e.key = .int i t
theorem ents_int : ∀ (l : List (Int × Str)) (t : Nat), IntKeyed (ents l t)
  | [], _, _, h => nomatch h
  | (i, _) :: r, t, e, h => by
    rcases List.mem_cons.mp h with rfl | h
    · exact ⟨i, t, rfl⟩
    · exact ents_int r _ e h
theorem entsS_int : ∀ (l : List (Int × Str)) (t : Nat), IntKeyed (entsS l t)
  | [], _, _, h => nomatch h
  | (i, _) :: r, t, e, h => by
    rcases List.mem_cons.mp h with rfl | h
    · exact ⟨i, t, rfl⟩
    · exact entsS_int r _ e h

/-- what the display evaluates for a written int and a written text -/
abbrev pairOf (pos : Pos) (y : Int × Str) : Sem Value × Sem Value := (mkInt y.1, do let x ← mkText y.2; standAt pos; pure x)

theorem nd_head {es : List DictEntry} {h : Int} {r : List Int} (hn : (es.map (·.hash) ++ h :: r).Nodup) : ∀ e ∈ es, e.hash ≠ h := fun e he q => by
  rw [List.nodup_append] at hn
  exact hn.2.2 e.hash (List.mem_map_of_mem he) h (.head _) q
theorem nd_next {es : List DictEntry} {e : DictEntry} {h : Int} {r : List Int} (he : e.hash = h) (hn : (es.map (·.hash) ++ h :: r).Nodup) : ((es ++ [e]).map (·.hash) ++ r).Nodup := by
  rw [List.map_append, List.append_assoc]
  show (es.map (·.hash) ++ e.hash :: r).Nodup
  rw [he]; exact hn

section
variable {prog : Program} {w : World} {n₀ : Nat} {ann : Option Value} {b : List Stmt} {env : Env} {q : Pos} {α β σ : Type} {s s' s'' : Shared} {p p' p'' : Pos}

theorem Go.forNil {x : σ} {f : β → σ → Sem (ForInStep σ)} : Go prog w n₀ ann b env q (forIn ([] : List β) x f) s p 0 x s p := by
  rw [List.forIn_nil]; exact Go.pure _
theorem Go.forCons {y : β} {l : List β} {x x' : σ} {f : β → σ → Sem (ForInStep σ)} {n m k : Nat} {c : σ} (h : Go prog w n₀ ann b env q (f y x) s p n (.yield x') s' p') (g : Go prog w n₀ ann b env q (forIn l x' f) s' p' m c s'' p'') (e : m + n = k) :
    Go prog w n₀ ann b env q (forIn (y :: l) x f) s p k c s'' p'' := by
  rw [List.forIn_cons]
  exact Go.seq h g e

theorem Go.pairV {pos : Pos} {y : Int × Str} : Go prog w n₀ ann b env q (pairOf pos y).2 s p 2 (.str y.2 s.toks) { s with toks := s.toks + 1 } pos :=
  Go.seq Go.mkText (Go.seq Go.standAt (Go.pure _) rfl) rfl

theorem Go.longLoop {pos : Pos} {d : Addr} (hd : Nat.ble n₀ d = true) : ∀ (l : List (Int × Str)) (s : Shared) (es : List DictEntry), s.heap.get? d = some (dictOf es es.length) → (es.map (·.hash) ++ l.map fun y => hashInt y.1).Nodup → es.length + l.length ≤ 1000 →
    Go prog w n₀ ann b env q (forIn (l.map (pairOf pos)) PUnit.unit fun x _ => match x with | (k, v) => do
        let kv ← k
        let vv ← PySem.holding [kv] v
        PySem.holding [kv, vv] (PySem.dictSet d kv vv)
        Pure.pure (ForInStep.yield PUnit.unit)) s pos (13 * l.length) PUnit.unit { s with heap := hput s.heap d (dictOf (es ++ ents l s.toks) (es ++ ents l s.toks).length), toks := s.toks + 3 * l.length } pos
  | [], s, es, ho, _, _ => by
    simp only [ents, List.append_nil, List.length_nil, Nat.mul_zero, Nat.add_zero, hput_self ho]
    exact Go.forNil
  | (i, x) :: r, s, es, ho, hn, hz => by
    have hlt : d < s.heap.objs.size := Heap.lt_size ho
    simp only [List.map_cons] at hn
    simp only [List.length_cons] at hz
    have key := Go.longLoop (pos := pos) hd r { s with heap := hput s.heap d (dictOf (es ++ [ent1 i x s.toks]) (es ++ [ent1 i x s.toks]).length), toks := s.toks + 1 + 1 + 1 }
      (es ++ [ent1 i x s.toks]) (hput_get hlt) (nd_next rfl hn) (by simp only [List.length_append, List.length_singleton]; omega)
    dsimp only at key
    rw [hput_hput, List.append_assoc] at key
    rw [List.map_cons]
    refine Go.forCons (x' := PUnit.unit) (n := 13) (m := 13 * r.length) (s' := { s with heap := hput s.heap d (dictOf (es ++ [ent1 i x s.toks]) (es ++ [ent1 i x s.toks]).length), toks := s.toks + 1 + 1 + 1 }) (p' := pos) ?_ ?_ (by simp only [List.length_cons]; omega)
    · refine Go.seq (m := 12) Go.mkInt (Go.seq (m := 10) (Go.holding Go.pairV) (Go.seq (a := ()) (n := 10) (m := 0) (Go.holding ?_) (Go.pure _) rfl) rfl) rfl
      have := Go.dictSet (prog := prog) (w := w) (ann := ann) (b := b) (env := env) (q := q) (p := pos) (s := { s with toks := s.toks + 1 + 1 }) (i := i) (t := s.toks) (v := .str x (s.toks + 1)) ho hd (nd_head hn) (by omega)
      simpa only [List.length_append, List.length_singleton] using this
    · have e : s.toks + 3 * ((i, x) :: r).length = s.toks + 1 + 1 + 1 + 3 * r.length := by simp only [List.length_cons]; omega
      rw [e]
      exact key

theorem Go.subLong {pos : Pos} {l : List (Int × Str)} (h15 : 15 < l.length) (hn : (l.map fun y => hashInt y.1).Nodup) (hz : l.length ≤ 1000) (h0 : Nat.ble n₀ s.heap.objs.size = true) :
    Go prog w n₀ ann b env q (subDict (l.map (pairOf pos))) s pos (13 * l.length + 2) s.heap.objs.size { s with heap := s.heap.push (dictOf (ents l s.toks) (ents l s.toks).length), toks := s.toks + 3 * l.length } pos := by
  unfold subDict
  have hg : (s.heap.push (dictOf [] 0)).get? s.heap.objs.size = some (dictOf [] ([] : List DictEntry).length) := Heap.get?_push_size _ rfl
  have key := Go.longLoop (prog := prog) (w := w) (ann := ann) (b := b) (env := env) (q := q) (pos := pos) h0 l { s with heap := s.heap.push (dictOf [] 0) } [] hg (by simpa using hn) (by simpa using hz)
  have e1 : hput (s.heap.push (dictOf [] 0)) s.heap.objs.size (dictOf (ents l s.toks) (ents l s.toks).length) = s.heap.push (dictOf (ents l s.toks) (ents l s.toks).length) := by
    cases s.heap
    rename_i objs lf
    simp only [Heap.push, hput, Heap.update]
    congr 1
    refine Array.ext (by simp) fun i h1 h2 => ?_
    simp only [Array.getElem_modify, Array.getElem_push]
    simp only [Array.size_modify, Array.size_push] at h1 h2
    split <;> split <;> first | rfl | omega
  dsimp only at key
  simp only [List.nil_append, e1] at key
  refine Go.seq (m := 13 * l.length + 1) Go.alloc (Go.seq (m := 0) (Go.holding (a := ()) ?_) (Go.pure _) (Nat.zero_add _)) rfl
  rw [if_neg (by rw [List.length_map]; omega)]
  exact Go.seq Go.rule (Go.seq key (Go.pure _) (Nat.zero_add _)) rfl

theorem isSub_dict : isSubtype (.type "dict") (.type "dict") = (Pure.pure true : Sem Bool) := by rw [isSubtype_type]; kernel_rfl
theorem iter_dict : typeLookup (.type "dict") "__iter__" = (Pure.pure (some (.builtin "dict.__iter__")) : Sem (Option Value)) := by rw [typeLookup_type, builtinLookup_eq_fast]; kernel_rfl

theorem Go.isInst {a : Addr} {es : List DictEntry} {n : Nat} (ho : s.heap.get? a = some (dictOf es n)) : Go prog w n₀ ann b env q (isInstance (.ref a) (.type "dict")) s p 1 true s p := by
  unfold isInstance
  exact Go.seq (Go.seq (Go.loadPart ho) (Go.pure _) rfl) (.of_eq isSub_dict (Go.pure _)) rfl
theorem Go.specIter {a : Addr} {es : List DictEntry} {n : Nat} (ho : s.heap.get? a = some (dictOf es n)) : Go prog w n₀ ann b env q (specialOf (.ref a) "__iter__") s p 1 (some (.builtin "dict.__iter__")) s p := by
  unfold specialOf
  exact Go.seq (Go.seq (Go.loadPart ho) (Go.pure _) rfl) (.of_eq iter_dict (Go.pure _)) rfl

theorem take_succ_getElem {xs : List DictEntry} {k : Nat} (hk : k < xs.length) : xs.take (k + 1) = xs.take k ++ [xs[k]] := by
  rw [List.take_add_one, List.getElem?_eq_getElem hk]; rfl

theorem Go.mergeLoop {pos : Pos} {d a : Addr} {xs : List DictEntry} {es : List DictEntry} (hd : Nat.ble n₀ d = true) (hx : IntKeyed xs) (hn : (es.map (·.hash) ++ xs.map (·.hash)).Nodup) (hz : es.length + xs.length ≤ 1000) (had : a ≠ d) :
    ∀ (m k : Nat) (s : Shared), k + m = xs.length → s.heap.get? a = some (dictOf xs xs.length) → s.heap.get? d = some (dictOf (es ++ xs.take k) (es ++ xs.take k).length) →
    Go prog w n₀ ann b env q (forIn (List.range' k m) PUnit.unit fun i (_ : PUnit) => do
                  let lf ← PySem.dictEntries a
                  match lf[i]? with
                    | some e => do
                      PySem.holding [e.key, e.val] (PySem.dictPut d e.hash e.key e.val)
                      let lf ← PySem.dictEpoch a
                      if (lf != xs.length) = true then do
                          unsupported "dict.changed-during-merge"
                          Pure.pure (ForInStep.yield PUnit.unit)
                        else Pure.pure (ForInStep.yield PUnit.unit)
                    | _ => do
                      unsupported "dict.changed-during-merge"
                      Pure.pure (ForInStep.yield PUnit.unit)) s pos (6 * m) PUnit.unit { s with heap := hput s.heap d (dictOf (es ++ xs) (es ++ xs).length) } pos
  | 0, k, s, hk, ha, ho => by
    have e : xs.take k = xs := List.take_of_length_le (by omega)
    rw [e] at ho
    simp only [hput_self ho]
    exact Go.forNil
  | m + 1, k, s, hk, ha, ho => by
    have hlt : d < s.heap.objs.size := Heap.lt_size ho
    have hkx : k < xs.length := by omega
    obtain ⟨i, t, hkey⟩ := hx xs[k] (List.getElem_mem hkx)
    have e1 : es ++ xs.take (k + 1) = (es ++ xs.take k) ++ [xs[k]] := by rw [take_succ_getElem hkx, List.append_assoc]
    have hn' : ((es ++ xs.take k).map (·.hash) ++ xs[k].hash :: (xs.drop (k + 1)).map (·.hash)).Nodup := by
      have : es.map (·.hash) ++ xs.map (·.hash) = (es ++ xs.take k).map (·.hash) ++ xs[k].hash :: (xs.drop (k + 1)).map (·.hash) := by
        rw [List.map_append, List.append_assoc]
        congr 1
        rw [← List.map_cons (f := fun e : DictEntry => e.hash), ← List.map_append]
        congr 1
        rw [← List.drop_eq_getElem_cons hkx, List.take_append_drop]
      rw [← this]; exact hn
    have key := Go.mergeLoop (pos := pos) hd hx hn hz had m (k + 1) { s with heap := hput s.heap d (dictOf (es ++ xs.take (k + 1)) (es ++ xs.take (k + 1)).length) } (by omega) ((hput_get_ne had).trans ha) (hput_get hlt)
    dsimp only at key
    rw [hput_hput] at key
    rw [List.range'_succ]
    refine Go.forCons (x' := PUnit.unit) (n := 6) (m := 6 * m) (s' := { s with heap := hput s.heap d (dictOf (es ++ xs.take (k + 1)) (es ++ xs.take (k + 1)).length) }) (p' := pos) ?_ key (by omega)
    refine Go.seq (m := 5) (Go.dictEntries ha) ?_ rfl
    have hge : (xs.toArray)[k]? = some xs[k] := by rw [List.getElem?_toArray]; exact List.getElem?_eq_getElem hkx
    rw [hge]
    dsimp only
    rw [hkey]
    refine Go.seq (a := ()) (n := 4) (m := 1) (s' := { s with heap := hput s.heap d (dictOf (es ++ xs.take (k + 1)) (es ++ xs.take (k + 1)).length) }) (p' := pos) (Go.holding ?_) (Go.seq (m := 0) (Go.dictEpoch (s := { s with heap := hput s.heap d (dictOf (es ++ xs.take (k + 1)) (es ++ xs.take (k + 1)).length) }) ((hput_get_ne had).trans ha)) ?_ rfl) rfl
    · have := Go.dictPut (prog := prog) (w := w) (ann := ann) (b := b) (env := env) (q := q) (p := pos) (s := s) (i := i) (t := t) (h := xs[k].hash) (v := xs[k].val) ho hd (nd_head hn') (by simp only [List.length_append, List.length_take]; omega)
      have e2 : (⟨xs[k].hash, .int i t, xs[k].val⟩ : DictEntry) = xs[k] := by
        cases hq : xs[k]; rw [hq] at hkey; simp only at hkey; rw [hkey]
      rw [e2, ← e1] at this
      have e3 : (es ++ xs.take k).length + 1 = (es ++ xs.take (k + 1)).length := by rw [e1]; simp only [List.length_append, List.length_singleton]
      rw [e3] at this
      exact this
    · rw [if_neg (by simp)]
      exact Go.pure _

theorem Go.merge {pos : Pos} {d a : Addr} {xs es : List DictEntry} (hd : Nat.ble n₀ d = true) (hx : IntKeyed xs) (hn : (es.map (·.hash) ++ xs.map (·.hash)).Nodup) (hz : es.length + xs.length ≤ 1000) (had : a ≠ d) (hsys : (a == sysModules) = false) (hes : es ≠ [])
    (ha : s.heap.get? a = some (dictOf xs xs.length)) (ho : s.heap.get? d = some (dictOf es es.length)) :
    Go prog w n₀ ann b env q (mergeMapping d (.ref a) false) s pos (6 * xs.length + 5) () { s with heap := hput s.heap d (dictOf (es ++ xs) (es ++ xs).length) } pos := by
  unfold mergeMapping
  refine Go.seq (m := 6 * xs.length + 4) (Go.isInst ha) ?_ rfl
  dsimp only
  rw [if_pos rfl]
  refine Go.seq (m := 6 * xs.length + 3) (Go.specIter ha) (Go.seq (m := 6 * xs.length + 3) (Go.pure _) ?_ rfl) rfl
  have e0 : ((some (Value.builtin "dict.__iter__") : Option Value) == some (.builtin "dict.__iter__")) = true := beq_self_eq_true _
  rw [e0]
  dsimp only
  rw [if_neg (by rw [hsys]; exact Bool.false_ne_true)]
  refine Go.seq (m := 6 * xs.length + 2) (Go.dictEntries ho) ?_ rfl
  have e1 : es.toArray.isEmpty = false := by cases es with | nil => exact absurd rfl hes | cons _ _ => rfl
  rw [if_neg (by rw [e1]; exact Bool.false_ne_true)]
  refine Go.seq (m := 6 * xs.length + 1) (Go.dictEntries ha) (Go.seq (m := 6 * xs.length) (Go.dictEpoch ha) ?_ rfl) rfl
  have key := Go.mergeLoop (prog := prog) (w := w) (ann := ann) (b := b) (env := env) (q := q) (pos := pos) hd hx hn hz had xs.length 0 s (by omega) ha (by simpa using ho)
  rw [List.size_toArray, List.range_eq_range']
  simp only [Bool.false_eq_true, if_false]
  exact Go.seq key (Go.pure _) (Nat.zero_add _)

theorem Go.evalPairs {pos : Pos} : ∀ (l : List (Int × Str)) (s : Shared), Go prog w n₀ ann b env q (PySem.evalPairs (l.map (pairOf pos))) s pos (3 * l.length) ((entsS l s.toks).map fun e => (e.key, e.val)) { s with toks := s.toks + 2 * l.length } pos
  | [], s => Go.pure _
  | (i, x) :: r, s => by
    have key := Go.evalPairs (pos := pos) r { s with toks := s.toks + 1 + 1 }
    have e : s.toks + 2 * ((i, x) :: r).length = s.toks + 1 + 1 + 2 * r.length := by simp only [List.length_cons]; omega
    rw [e]
    show Go prog w n₀ ann b env q (PySem.mkInt i >>= fun kv => PySem.holding [kv] (pairOf pos (i, x)).2 >>= fun vv => PySem.holding [kv, vv] (PySem.evalPairs (r.map (pairOf pos))) >>= fun t => Pure.pure ((kv, vv) :: t)) s pos _ _ _ pos
    refine Go.seq (m := 3 * r.length + 2) Go.mkInt (Go.seq (m := 3 * r.length) (Go.holding Go.pairV) (Go.seq (Go.holding key) (Go.pure _) (Nat.zero_add _)) rfl) (by simp only [List.length_cons]; omega)
end
end Mine
end
section
open PySem PySem.W PyProof.Rows PySem.Calls
namespace Mine

theorem push_put {h : Heap} {es : List DictEntry} {n : Nat} : hput (h.push (dictOf [] 0)) h.objs.size (dictOf es n) = h.push (dictOf es n) := by
  cases h
  rename_i objs lf
  simp only [Heap.push, hput, Heap.update]
  congr 1
  refine Array.ext (by simp) fun i h1 h2 => ?_
  simp only [Array.getElem_modify, Array.getElem_push]
  simp only [Array.size_modify, Array.size_push] at h1 h2
  split <;> split <;> first | rfl | omega

theorem push_size {h : Heap} {o : Obj} : (h.push o).objs.size = h.objs.size + 1 := by cases h; simp [Heap.push]

def HashKeyed (es : List DictEntry) : Prop := ∀ e ∈ es, ∃ i t, e.key = .int i t ∧ e.hash = hashInt i
theorem entsS_keyed : ∀ (l : List (Int × Str)) (t : Nat), HashKeyed (entsS l t)
  | [], _, _, h => nomatch h
  | (i, _) :: r, t, e, h => by
    rcases List.mem_cons.mp h with rfl | h
    · exact ⟨i, t, rfl, rfl⟩
    · exact entsS_keyed r _ e h

abbrev Runs' := List (Sem Value × Sem Value)
/-- the display's own flush -/
abbrev dFlush (run : Runs') (main : Option Addr) : Sem (Option Addr) :=
  if run.isEmpty = true then pure main
  else match main with
    | none => do
      let a ← subDict run
      pure (some a)
    | some d => do
      let sub ← holding [Value.ref d] (subDict run)
      (holding [Value.ref d, Value.ref sub] (mergeMapping d (Value.ref sub) false)).onRaise fun x => do
          let _ ← holding [Value.ref d, x] (runValue (Code.builtin "proto.let_go" { }))
          pure ()
      pure (some d)
/-- one item of the display: the int's tree and the text's -/
abbrev itemOf' (pos : Pos) (y : Int × Str) : Option (Sem Value) × Sem Value := (some (pairOf pos y).1, (pairOf pos y).2)

/-- one more long chunk: the heap, the entries so far, the next token -/
def grow (d : Addr) (st : Heap × List DictEntry × Nat) (l : List (Int × Str)) : Heap × List DictEntry × Nat :=
  (hput (st.1.push (dictOf (ents l st.2.2) (ents l st.2.2).length)) d (dictOf (st.2.1 ++ ents l st.2.2) (st.2.1 ++ ents l st.2.2).length), st.2.1 ++ ents l st.2.2, st.2.2 + 3 * l.length)
/-- the last, short one -/
def growS (d : Addr) (st : Heap × List DictEntry × Nat) (l : List (Int × Str)) : Heap × List DictEntry × Nat :=
  (hput (st.1.push (dictOf (entsS l st.2.2) (entsS l st.2.2).length)) d (dictOf (st.2.1 ++ entsS l st.2.2) (st.2.1 ++ entsS l st.2.2).length), st.2.1 ++ entsS l st.2.2, st.2.2 + 3 * l.length)

section
variable {prog : Program} {w : World} {n₀ : Nat} {ann : Option Value} {b : List Stmt} {env : Env} {q : Pos} {α β σ : Type} {s s' s'' : Shared} {p p' p'' : Pos}

theorem Go.shortLoop {pos : Pos} {d : Addr} (hd : Nat.ble n₀ d = true) : ∀ (xs : List DictEntry) (s : Shared) (es : List DictEntry), HashKeyed xs → s.heap.get? d = some (dictOf es es.length) → (es.map (·.hash) ++ xs.map (·.hash)).Nodup → es.length + xs.length ≤ 1000 →
    Go prog w n₀ ann b env q (forIn (xs.map fun e => (e.key, e.val)) PUnit.unit fun x (_ : PUnit) => match x with | (k, v) => do
        PySem.dictSet d k v
        Pure.pure (ForInStep.yield PUnit.unit)) s pos (10 * xs.length) PUnit.unit { s with heap := hput s.heap d (dictOf (es ++ xs) (es ++ xs).length), toks := s.toks + xs.length } pos
  | [], s, es, _, ho, _, _ => by
    simp only [List.append_nil, List.length_nil, Nat.add_zero, hput_self ho]
    exact Go.forNil
  | e :: r, s, es, hx, ho, hn, hz => by
    have hlt : d < s.heap.objs.size := Heap.lt_size ho
    obtain ⟨i, t, hkey, hh⟩ := hx e (.head _)
    simp only [List.map_cons] at hn
    simp only [List.length_cons] at hz
    have key := Go.shortLoop (pos := pos) hd r { s with heap := hput s.heap d (dictOf (es ++ [e]) (es ++ [e]).length), toks := s.toks + 1 }
      (es ++ [e]) (fun y hy => hx y (.tail _ hy)) (hput_get hlt) (nd_next rfl hn) (by simp only [List.length_append, List.length_singleton]; omega)
    dsimp only at key
    rw [hput_hput, List.append_assoc] at key
    rw [List.map_cons]
    refine Go.forCons (x' := PUnit.unit) (n := 10) (m := 10 * r.length) (s' := { s with heap := hput s.heap d (dictOf (es ++ [e]) (es ++ [e]).length), toks := s.toks + 1 }) (p' := pos) ?_ ?_ (by simp only [List.length_cons]; omega)
    · dsimp only
      rw [hkey]
      refine Go.seq (a := ()) (n := 10) (m := 0) ?_ (Go.pure _) rfl
      have := Go.dictSet (prog := prog) (w := w) (ann := ann) (b := b) (env := env) (q := q) (p := pos) (s := s) (i := i) (t := t) (v := e.val) ho hd (by rw [← hh]; exact nd_head hn) (by omega)
      have e2 : (⟨hashInt i, .int i t, e.val⟩ : DictEntry) = e := by cases e; simp only at hkey hh; rw [hkey, hh]
      rw [e2] at this
      simpa only [List.length_append, List.length_singleton] using this
    · have e : s.toks + (e :: r).length = s.toks + 1 + r.length := by simp only [List.length_cons]; omega
      rw [e]
      exact key

theorem Go.subShort {pos : Pos} {l : List (Int × Str)} (h15 : l.length ≤ 15) (hn : (l.map fun y => hashInt y.1).Nodup) (h0 : Nat.ble n₀ s.heap.objs.size = true) :
    Go prog w n₀ ann b env q (subDict (l.map (pairOf pos))) s pos (13 * l.length + 1) s.heap.objs.size { s with heap := s.heap.push (dictOf (entsS l s.toks) (entsS l s.toks).length), toks := s.toks + 3 * l.length } pos := by
  unfold subDict
  have hg : (s.heap.push (dictOf [] 0)).get? s.heap.objs.size = some (dictOf [] ([] : List DictEntry).length) := Heap.get?_push_size _ rfl
  have k1 := Go.evalPairs (prog := prog) (w := w) (n₀ := n₀) (ann := ann) (b := b) (env := env) (q := q) (pos := pos) l { s with heap := s.heap.push (dictOf [] 0) }
  have k2 := Go.shortLoop (prog := prog) (w := w) (ann := ann) (b := b) (env := env) (q := q) (pos := pos) h0 (entsS l s.toks) { s with heap := s.heap.push (dictOf [] 0), toks := s.toks + 2 * l.length } [] (entsS_keyed _ _) hg (by simpa [entsS_hash] using hn) (by simp only [List.length_nil, entsS_length]; omega)
  dsimp only at k2
  simp only [List.nil_append, push_put] at k2
  have e : s.toks + 2 * l.length + (entsS l s.toks).length = s.toks + 3 * l.length := by rw [entsS_length]; omega
  rw [e] at k2
  refine Go.seq (m := 13 * l.length) Go.alloc (Go.seq (m := 0) (Go.holding (a := ()) ?_) (Go.pure _) (Nat.zero_add _)) rfl
  rw [if_pos (by rw [List.length_map]; omega)]
  refine Go.seq k1 (Go.holding (Go.seq k2 (Go.pure _) (Nat.zero_add _))) (by rw [entsS_length]; omega)

theorem Go.flushLong {pos : Pos} {d : Addr} {l : List (Int × Str)} {es : List DictEntry} (h15 : 15 < l.length) (hd : Nat.ble n₀ d = true) (hes : es ≠ []) (ho : s.heap.get? d = some (dictOf es es.length)) (hn : (es.map (·.hash) ++ l.map fun y => hashInt y.1).Nodup) (hz : es.length + l.length ≤ 1000) (hsys : sysModules < s.heap.objs.size) :
    Go prog w n₀ ann b env q (dFlush (l.map (pairOf pos)) (some d)) s pos (19 * l.length + 7) (some d) { s with heap := (grow d (s.heap, es, s.toks) l).1, toks := (grow d (s.heap, es, s.toks) l).2.2 } pos := by
  have hlt : d < s.heap.objs.size := Heap.lt_size ho
  have hnl : (l.map fun y => hashInt y.1).Nodup := (List.nodup_append.mp hn).2.1
  unfold dFlush
  rw [if_neg (by cases l with | nil => simp at h15 | cons _ _ => simp)]
  dsimp only
  refine Go.seq (m := 6 * l.length + 5) (Go.holding (Go.subLong h15 hnl (by omega) (Nat.ble_eq.mpr (Nat.le_of_lt (Nat.lt_of_le_of_lt (Nat.le_of_ble_eq_true hd) hlt))))) (Go.seq (a := ()) (m := 0) (Go.onRaise (Go.holding ?_)) (Go.pure _) (Nat.zero_add _)) (by omega)
  have key := Go.merge (prog := prog) (w := w) (ann := ann) (b := b) (env := env) (q := q) (pos := pos) (d := d) (a := s.heap.objs.size) (xs := ents l s.toks) (es := es) (s := { s with heap := s.heap.push (dictOf (ents l s.toks) (ents l s.toks).length), toks := s.toks + 3 * l.length }) hd (ents_int _ _) (by rw [ents_hash]; exact hn) (by rw [ents_length]; exact hz) (Nat.ne_of_gt hlt) (beq_eq_false_iff_ne.mpr (Nat.ne_of_gt hsys)) hes (Heap.get?_push_size _ rfl) (Heap.get?_push_of_some _ ho)
  exact key.cast (by rw [ents_length])
theorem Go.flushShort {pos : Pos} {d : Addr} {l : List (Int × Str)} {es : List DictEntry} (h15 : l.length ≤ 15) (hl : l ≠ []) (hd : Nat.ble n₀ d = true) (hes : es ≠ []) (ho : s.heap.get? d = some (dictOf es es.length)) (hn : (es.map (·.hash) ++ l.map fun y => hashInt y.1).Nodup) (hz : es.length + l.length ≤ 1000) (hsys : sysModules < s.heap.objs.size) :
    Go prog w n₀ ann b env q (dFlush (l.map (pairOf pos)) (some d)) s pos (19 * l.length + 6) (some d) { s with heap := (growS d (s.heap, es, s.toks) l).1, toks := (growS d (s.heap, es, s.toks) l).2.2 } pos := by
  have hlt : d < s.heap.objs.size := Heap.lt_size ho
  have hnl : (l.map fun y => hashInt y.1).Nodup := (List.nodup_append.mp hn).2.1
  unfold dFlush
  rw [if_neg (by cases l with | nil => exact absurd rfl hl | cons _ _ => simp)]
  dsimp only
  refine Go.seq (m := 6 * l.length + 5) (Go.holding (Go.subShort h15 hnl (Nat.ble_eq.mpr (Nat.le_of_lt (Nat.lt_of_le_of_lt (Nat.le_of_ble_eq_true hd) hlt))))) (Go.seq (a := ()) (m := 0) (Go.onRaise (Go.holding ?_)) (Go.pure _) (Nat.zero_add _)) (by omega)
  have key := Go.merge (prog := prog) (w := w) (ann := ann) (b := b) (env := env) (q := q) (pos := pos) (d := d) (a := s.heap.objs.size) (xs := entsS l s.toks) (es := es) (s := { s with heap := s.heap.push (dictOf (entsS l s.toks) (entsS l s.toks).length), toks := s.toks + 3 * l.length }) hd (entsS_int _ _) (by rw [entsS_hash]; exact hn) (by rw [entsS_length]; exact hz) (Nat.ne_of_gt hlt) (beq_eq_false_iff_ne.mpr (Nat.ne_of_gt hsys)) hes (Heap.get?_push_size _ rfl) (Heap.get?_push_of_some _ ho)
  exact key.cast (by rw [entsS_length])
theorem Go.flushFirst {pos : Pos} {l : List (Int × Str)} (h15 : 15 < l.length) (hn : (l.map fun y => hashInt y.1).Nodup) (hz : l.length ≤ 1000) (h0 : Nat.ble n₀ s.heap.objs.size = true) :
    Go prog w n₀ ann b env q (dFlush (l.map (pairOf pos)) none) s pos (13 * l.length + 2) (some s.heap.objs.size) { s with heap := s.heap.push (dictOf (ents l s.toks) (ents l s.toks).length), toks := s.toks + 3 * l.length } pos := by
  unfold dFlush
  rw [if_neg (by cases l with | nil => simp at h15 | cons _ _ => simp)]
  exact Go.seq (Go.subLong h15 hn hz h0) (Go.pure _) (Nat.zero_add _)

variable {F : Option (Sem Value) × Sem Value → Option Addr × Runs' → Sem (ForInStep (Option Addr × Runs'))}
/-- what the display's loop does with an item that bears a key -/
def IsBody (F : Option (Sem Value) × Sem Value → Option Addr × Runs' → Sem (ForInStep (Option Addr × Runs'))) : Prop :=
  ∀ k v main run, F (some k, v) (main, run) = if ((run ++ [(k, v)]).length == 17) = true then (do let m ← dFlush (run ++ [(k, v)]) main; pure (ForInStep.yield (m, []))) else pure (ForInStep.yield (main, run ++ [(k, v)]))

theorem loop_short (hF : IsBody F) {pos : Pos} {rest : List (Option (Sem Value) × Sem Value)} {main : Option Addr} : ∀ (l : List (Int × Str)) (run : Runs'), run.length + l.length < 17 →
    forIn (l.map (itemOf' pos) ++ rest) (main, run) F = forIn rest (main, run ++ l.map (pairOf pos)) F
  | [], run, _ => by simp
  | y :: r, run, h => by
    simp only [List.length_cons] at h
    rw [List.map_cons, List.cons_append, List.forIn_cons, hF, if_neg (by simp; omega)]
    show forIn (r.map (itemOf' pos) ++ rest) (main, run ++ [((pairOf pos y).1, (pairOf pos y).2)]) F = _
    rw [loop_short hF r _ (by simp; omega), List.append_assoc]
    rfl
theorem Go.chunk (hF : IsBody F) {pos : Pos} {rest : List (Option (Sem Value) × Sem Value)} {main m' : Option Addr} {l : List (Int × Str)} {n m k : Nat} {c : Option Addr × Runs'} (hl : l.length = 17) (h : Go prog w n₀ ann b env q (dFlush (l.map (pairOf pos)) main) s p n m' s' p')
    (g : Go prog w n₀ ann b env q (forIn rest (m', []) F) s' p' m c s'' p'') (e : m + n = k) : Go prog w n₀ ann b env q (forIn (l.map (itemOf' pos) ++ rest) (main, []) F) s p k c s'' p'' := by
  obtain ⟨l', y, rfl⟩ : ∃ l' y, l = l' ++ [y] := ⟨l.dropLast, l.getLast (by intro q; subst q; simp at hl), (List.dropLast_concat_getLast _).symm⟩
  simp only [List.length_append, List.length_singleton] at hl
  have hr : forIn ((l' ++ [y]).map (itemOf' pos) ++ rest) (main, []) F = (dFlush ((l' ++ [y]).map (pairOf pos)) main >>= fun m => forIn rest (m, []) F) := by
    rw [List.map_append, List.append_assoc, loop_short hF l' [] (by simp; omega)]
    rw [List.map_cons, List.map_nil, List.singleton_append, List.forIn_cons, hF, if_pos (by simp; omega)]
    simp only [List.nil_append]
    rw [List.map_append]
    rw [bind_assoc]
    rfl
  rw [hr]
  exact Go.seq h g e

theorem Go.chunks (hF : IsBody F) {pos : Pos} {rest : List (Option (Sem Value) × Sem Value)} {d : Addr} (hd : Nat.ble n₀ d = true) : ∀ (ls : List (List (Int × Str))) (s : Shared) (es : List DictEntry) {m k : Nat} {c : Option Addr × Runs'} {s'' : Shared} {p'' : Pos},
    (∀ l ∈ ls, l.length = 17) → es ≠ [] → s.heap.get? d = some (dictOf es es.length) → (es.map (·.hash) ++ ls.flatten.map fun y => hashInt y.1).Nodup → es.length + ls.flatten.length ≤ 1000 → sysModules < s.heap.objs.size →
    Go prog w n₀ ann b env q (forIn rest (some d, []) F) { s with heap := (ls.foldl (grow d) (s.heap, es, s.toks)).1, toks := (ls.foldl (grow d) (s.heap, es, s.toks)).2.2 } pos m c s'' p'' → m + 330 * ls.length = k →
    Go prog w n₀ ann b env q (forIn (ls.flatten.map (itemOf' pos) ++ rest) (some d, []) F) s pos k c s'' p''
  | [], s, es, m, k, c, s'', p'', _, _, _, _, _, _, g, e => by
    simp only [List.flatten_nil, List.map_nil, List.nil_append]
    exact g.cast e
  | l :: ls, s, es, m, k, c, s'', p'', hl, hes, ho, hn, hz, hsys, g, e => by
    have h17 : l.length = 17 := hl l (.head _)
    have hlt : d < s.heap.objs.size := Heap.lt_size ho
    simp only [List.flatten_cons, List.length_append] at hz
    rw [List.flatten_cons, List.map_append, ← List.append_assoc] at hn
    have hn1 : (es.map (·.hash) ++ l.map fun y => hashInt y.1).Nodup := (List.nodup_append.mp hn).1
    rw [List.flatten_cons, List.map_append, List.append_assoc]
    have hgs : (grow d (s.heap, es, s.toks) l).1.objs.size = s.heap.objs.size + 1 := by
      simp only [grow, hput_size, push_size]
    have e' : m + 330 * ls.length + (19 * l.length + 7) = k := by have e1 := List.length_cons (a := l) (as := ls); omega
    refine Go.chunk hF (m := m + 330 * ls.length) h17 (Go.flushLong (by omega) hd hes ho hn1 (by omega) hsys) ?_ e'
    refine Go.chunks hF hd ls { s with heap := (grow d (s.heap, es, s.toks) l).1, toks := (grow d (s.heap, es, s.toks) l).2.2 } (grow d (s.heap, es, s.toks) l).2.1 (fun x hx => hl x (.tail _ hx)) ?_ ?_ ?_ ?_ ?_ g rfl
    · intro q; exact hes (List.append_eq_nil_iff.mp q).1
    · refine hput_get ?_
      rw [push_size]; exact Nat.lt_succ_of_lt hlt
    · show ((es ++ ents l s.toks).map (·.hash) ++ _).Nodup
      rw [List.map_append, ents_hash]; exact hn
    · show (es ++ ents l s.toks).length + _ ≤ 1000
      rw [List.length_append, ents_length]; omega
    · show sysModules < (grow d (s.heap, es, s.toks) l).1.objs.size
      rw [hgs]; exact Nat.lt_succ_of_lt hsys

/-- the heap and the next token behind the whole display -/
def dispEnd (h : Heap) (t : Nat) (l0 : List (Int × Str)) (ls : List (List (Int × Str))) (lz : List (Int × Str)) : Heap × List DictEntry × Nat :=
  growS h.objs.size (ls.foldl (grow h.objs.size) (h.push (dictOf (ents l0 t) (ents l0 t).length), ents l0 t, t + 3 * l0.length)) lz

theorem grow_inv {d : Addr} : ∀ (ls : List (List (Int × Str))) (h : Heap) (es : List DictEntry) (t : Nat), es ≠ [] → h.get? d = some (dictOf es es.length) →
    (ls.foldl (grow d) (h, es, t)).2.1 ≠ [] ∧ (ls.foldl (grow d) (h, es, t)).1.get? d = some (dictOf (ls.foldl (grow d) (h, es, t)).2.1 (ls.foldl (grow d) (h, es, t)).2.1.length) ∧
    (ls.foldl (grow d) (h, es, t)).2.1.map (·.hash) = es.map (·.hash) ++ ls.flatten.map (fun y => hashInt y.1) ∧ h.objs.size ≤ (ls.foldl (grow d) (h, es, t)).1.objs.size
  | [], h, es, t, hes, ho => ⟨hes, ho, by simp, Nat.le_refl _⟩
  | l :: ls, h, es, t, hes, ho => by
    have hlt : d < h.objs.size := Heap.lt_size ho
    have e : (l :: ls).foldl (grow d) (h, es, t) = ls.foldl (grow d) (grow d (h, es, t) l) := rfl
    obtain ⟨a1, a2, a3, a4⟩ := grow_inv ls (grow d (h, es, t) l).1 (grow d (h, es, t) l).2.1 (grow d (h, es, t) l).2.2 (fun q => hes (List.append_eq_nil_iff.mp q).1) (by
      refine hput_get ?_
      rw [push_size]; exact Nat.lt_succ_of_lt hlt)
    rw [e]
    refine ⟨a1, a2, a3.trans ?_, Nat.le_trans ?_ a4⟩
    · show (es ++ ents l t).map (·.hash) ++ _ = _
      rw [List.map_append, ents_hash, List.flatten_cons, List.map_append, List.append_assoc]
    · simp only [grow, hput_size, push_size]; exact Nat.le_succ _

theorem Go.display {pos : Pos} {l0 lz : List (Int × Str)} {ls : List (List (Int × Str))} {items : List (Option (Sem Value) × Sem Value)} (hi : items = l0.map (itemOf' pos) ++ (ls.flatten.map (itemOf' pos) ++ lz.map (itemOf' pos)))
    (h0 : l0.length = 17) (hls : ∀ l ∈ ls, l.length = 17) (hz : lz.length ≤ 15) (hz0 : lz ≠ []) (hn : ((l0 ++ ls.flatten ++ lz).map fun y => hashInt y.1).Nodup) (hlen : (l0 ++ ls.flatten ++ lz).length ≤ 1000) (hn0 : Nat.ble n₀ s.heap.objs.size = true) (hsys : sysModules < s.heap.objs.size) {k : Nat} (hk : 223 + 330 * ls.length + (19 * lz.length + 6) = k) :
    Go prog w n₀ ann b env q (dictDisplay items) s pos k (.ref s.heap.objs.size) { s with heap := (dispEnd s.heap s.toks l0 ls lz).1, toks := (dispEnd s.heap s.toks l0 ls lz).2.2 } pos := by
  subst hi
  rw [List.map_append, List.map_append] at hn
  simp only [List.length_append] at hlen
  have hn1 := List.nodup_append.mp hn
  have hn2 := List.nodup_append.mp hn1.1
  have e0 : (ents l0 s.toks) ≠ [] := by
    intro q
    have := congrArg List.length q
    rw [ents_length, h0] at this; cases this
  have hg : (s.heap.push (dictOf (ents l0 s.toks) (ents l0 s.toks).length)).get? s.heap.objs.size = some (dictOf (ents l0 s.toks) (ents l0 s.toks).length) := Heap.get?_push_size _ rfl
  obtain ⟨i1, i2, i3, i4⟩ := grow_inv ls (s.heap.push (dictOf (ents l0 s.toks) (ents l0 s.toks).length)) (ents l0 s.toks) (s.toks + 3 * l0.length) e0 hg
  have hsz : (s.heap.push (dictOf (ents l0 s.toks) (ents l0 s.toks).length)).objs.size = s.heap.objs.size + 1 := push_size
  unfold dictDisplay
  dsimp only
  refine Go.seq (a := (some s.heap.objs.size, lz.map (pairOf pos))) (n := 223 + 330 * ls.length) (m := 19 * lz.length + 6) (s' := { s with heap := (ls.foldl (grow s.heap.objs.size) (s.heap.push (dictOf (ents l0 s.toks) (ents l0 s.toks).length), ents l0 s.toks, s.toks + 3 * l0.length)).1, toks := (ls.foldl (grow s.heap.objs.size) (s.heap.push (dictOf (ents l0 s.toks) (ents l0 s.toks).length), ents l0 s.toks, s.toks + 3 * l0.length)).2.2 }) (p' := pos) ?_ ?_ (by omega)
  · refine Go.chunk (fun _ _ _ _ => rfl) (m := 330 * ls.length) h0 (Go.flushFirst (by omega) hn2.1 (by omega) hn0) ?_ (by rw [h0]; omega)
    refine Go.chunks (fun _ _ _ _ => rfl) hn0 ls { s with heap := s.heap.push (dictOf (ents l0 s.toks) (ents l0 s.toks).length), toks := s.toks + 3 * l0.length } (ents l0 s.toks) (m := 0) hls e0 hg ?_ ?_ ?_ ?_ (Nat.zero_add _)
    · rw [ents_hash]; exact hn1.1
    · rw [ents_length]; omega
    · show sysModules < (s.heap.push _).objs.size
      rw [hsz]; exact Nat.lt_succ_of_lt hsys
    · refine Go.of_eq ((congrArg (fun l => forIn l _ _) (List.append_nil _).symm).trans (loop_short (fun _ _ _ _ => rfl) lz [] (by simp; omega))) ?_
      exact Go.forNil
  · refine Go.seq (m := 0) (n := 19 * lz.length + 6) (a := some s.heap.objs.size) ?_ (Go.pure _) (Nat.zero_add _)
    refine Go.flushShort (es := (ls.foldl (grow s.heap.objs.size) (s.heap.push (dictOf (ents l0 s.toks) (ents l0 s.toks).length), ents l0 s.toks, s.toks + 3 * l0.length)).2.1) hz hz0 hn0 i1 i2 ?_ ?_ ?_
    · rw [i3, ents_hash]; exact hn
    · have := congrArg List.length i3
      rw [List.length_map, List.length_append, List.length_map, List.length_map] at this
      have e5 := ents_length l0 s.toks
      rw [this]
      omega
    · show sysModules < _
      refine Nat.lt_of_lt_of_le ?_ i4
      rw [hsz]; exact Nat.lt_succ_of_lt hsys
end
end Mine
end
section
open PySem PySem.W PyProof.Rows PySem.Calls
set_option maxRecDepth 100000
namespace Mine
abbrev pw : Program := PySem.Challenge.pw_pk0087_02
def noStmt : Stmt := .Pass ⟨0, 0, 0, 0⟩
/-- the text's statements, by their place -/
def stAt (i : Nat) : Stmt := pw.main.body.getD i noStmt
def noArgs : Arguments := { posonlyargs := [], args := [], vararg := none, kwonlyargs := [], kw_defaults := [], kwarg := none, defaults := [] }
def fPar (i : Nat) : Arguments := match stAt i with | .FunctionDef _ a _ _ _ _ _ _ _ _ => a | _ => noArgs
def fBod (i : Nat) : List Stmt := match stAt i with | .FunctionDef _ _ b _ _ _ _ _ _ _ => b | _ => []
def fSco (i : Nat) : Scope := match stAt i with | .FunctionDef _ _ _ _ _ _ s _ _ _ => s | _ => pw.main.scope
/-- the display's names and values -/
def dExpr : Expr := match stAt 5 with | .Assign _ v _ => v | _ => .Constant .none 0 ⟨0, 0, 0, 0⟩
def dKeys : List (Option Expr) := match dExpr with | .Dict ks _ _ => ks | _ => []
def dVals : List Expr := match dExpr with | .Dict _ vs _ => vs | _ => []
def dPos : Pos := match dExpr with | .Dict _ _ p => p | _ => ⟨0, 0, 0, 0⟩
def keyInt : Option Expr → Int
  | some (.Constant (.int i) _ _) => i
  | _ => 0
def valStr : Expr → Str
  | .Constant (.str x) _ _ => x
  | _ => Str.ofString ""
/-- the table as data -/
def tab : List (Option Expr) → List Expr → List (Int × Str)
  | k :: ks, v :: vs => (keyInt k, valStr v) :: tab ks vs
  | _, _ => []
def tabAll : List (Int × Str) := tab dKeys dVals
def ch0 : List (Int × Str) := tabAll.take 17
def chs : List (List (Int × Str)) := (List.range 37).map fun j => (tabAll.drop (17 * j + 17)).take 17
def chz : List (Int × Str) := tabAll.drop 646
/-- the whole dict's entries -/
def entsAll : List DictEntry := ents (tabAll.take 646) 268 ++ entsS chz 2206
def obd_40 : Params → Obj := fun _ => dictOf entsAll 650
def obd_41 : Params → Obj := fun _ => dictOf (ents ((tabAll.drop 17).take 17) 319) 17
def obd_42 : Params → Obj := fun _ => dictOf (ents ((tabAll.drop 34).take 17) 370) 17
def obd_43 : Params → Obj := fun _ => dictOf (ents ((tabAll.drop 51).take 17) 421) 17
def obd_44 : Params → Obj := fun _ => dictOf (ents ((tabAll.drop 68).take 17) 472) 17
def obd_45 : Params → Obj := fun _ => dictOf (ents ((tabAll.drop 85).take 17) 523) 17
def obd_46 : Params → Obj := fun _ => dictOf (ents ((tabAll.drop 102).take 17) 574) 17
def obd_47 : Params → Obj := fun _ => dictOf (ents ((tabAll.drop 119).take 17) 625) 17
def obd_48 : Params → Obj := fun _ => dictOf (ents ((tabAll.drop 136).take 17) 676) 17
def obd_49 : Params → Obj := fun _ => dictOf (ents ((tabAll.drop 153).take 17) 727) 17
def obd_50 : Params → Obj := fun _ => dictOf (ents ((tabAll.drop 170).take 17) 778) 17
def obd_51 : Params → Obj := fun _ => dictOf (ents ((tabAll.drop 187).take 17) 829) 17
def obd_52 : Params → Obj := fun _ => dictOf (ents ((tabAll.drop 204).take 17) 880) 17
def obd_53 : Params → Obj := fun _ => dictOf (ents ((tabAll.drop 221).take 17) 931) 17
def obd_54 : Params → Obj := fun _ => dictOf (ents ((tabAll.drop 238).take 17) 982) 17
def obd_55 : Params → Obj := fun _ => dictOf (ents ((tabAll.drop 255).take 17) 1033) 17
def obd_56 : Params → Obj := fun _ => dictOf (ents ((tabAll.drop 272).take 17) 1084) 17
def obd_57 : Params → Obj := fun _ => dictOf (ents ((tabAll.drop 289).take 17) 1135) 17
def obd_58 : Params → Obj := fun _ => dictOf (ents ((tabAll.drop 306).take 17) 1186) 17
def obd_59 : Params → Obj := fun _ => dictOf (ents ((tabAll.drop 323).take 17) 1237) 17
def obd_60 : Params → Obj := fun _ => dictOf (ents ((tabAll.drop 340).take 17) 1288) 17
def obd_61 : Params → Obj := fun _ => dictOf (ents ((tabAll.drop 357).take 17) 1339) 17
def obd_62 : Params → Obj := fun _ => dictOf (ents ((tabAll.drop 374).take 17) 1390) 17
def obd_63 : Params → Obj := fun _ => dictOf (ents ((tabAll.drop 391).take 17) 1441) 17
def obd_64 : Params → Obj := fun _ => dictOf (ents ((tabAll.drop 408).take 17) 1492) 17
def obd_65 : Params → Obj := fun _ => dictOf (ents ((tabAll.drop 425).take 17) 1543) 17
def obd_66 : Params → Obj := fun _ => dictOf (ents ((tabAll.drop 442).take 17) 1594) 17
def obd_67 : Params → Obj := fun _ => dictOf (ents ((tabAll.drop 459).take 17) 1645) 17
def obd_68 : Params → Obj := fun _ => dictOf (ents ((tabAll.drop 476).take 17) 1696) 17
def obd_69 : Params → Obj := fun _ => dictOf (ents ((tabAll.drop 493).take 17) 1747) 17
def obd_70 : Params → Obj := fun _ => dictOf (ents ((tabAll.drop 510).take 17) 1798) 17
def obd_71 : Params → Obj := fun _ => dictOf (ents ((tabAll.drop 527).take 17) 1849) 17
def obd_72 : Params → Obj := fun _ => dictOf (ents ((tabAll.drop 544).take 17) 1900) 17
def obd_73 : Params → Obj := fun _ => dictOf (ents ((tabAll.drop 561).take 17) 1951) 17
def obd_74 : Params → Obj := fun _ => dictOf (ents ((tabAll.drop 578).take 17) 2002) 17
def obd_75 : Params → Obj := fun _ => dictOf (ents ((tabAll.drop 595).take 17) 2053) 17
def obd_76 : Params → Obj := fun _ => dictOf (ents ((tabAll.drop 612).take 17) 2104) 17
def obd_77 : Params → Obj := fun _ => dictOf (ents ((tabAll.drop 629).take 17) 2155) 17
def obd_78 : Params → Obj := fun _ => dictOf (entsS chz 2206) 4
def ob_11 : Params → Obj := fun _ => ⟨(.type "tuple"), none, (.seq #[] 0), #[]⟩
def ob_12_SA : Params → Obj := fun _ => ⟨.none, none, (.fields #[]), #[]⟩
def ob_13 : Params → Obj := fun _ => ⟨(.type "code"), none, (.fields #[(.str (Str.ofString "<module>") 182), (.str (Str.ofString "<module>") 183), (.str (Str.ofString "/claim/cut.py") 184), (.int 1 0), (.int 0 0), (.int 0 0), (.int 0 0), (.int 0 0), (.ref 11), (.bool false), (.int 181 0), (.ref 12), .none, .none, .none, .none, (.int 185 0), (.int 1 0), (.str (Str.ofString "/claim/cut.py") 186)]), #[]⟩
def ob_14 : Params → Obj := fun _ => ⟨(.type "frame"), none, .plain, #[(some (.ref 13)), (some (.ref 3)), (some (.ref 3)), none, (some (.str (Str.ofString "__main__") 164)), none, (some (.ref 0))]⟩
noncomputable def tr_SA : Params → BT := fun P => (.node (boot_o_0 P) (.node (boot_o_1 P) (.node (boot_o_3 P) (.node (boot_o_7 P) .nil .nil) (.node (ob_11 P) .nil .nil)) (.node (boot_o_5 P) (.node (boot_o_9 P) .nil .nil) (.node (ob_13 P) .nil .nil))) (.node (boot_o_2 P) (.node (boot_o_4 P) (.node (boot_o_8 P) .nil .nil) (.node (ob_12_SA P) .nil .nil)) (.node (boot_o_6 P) (.node (boot_o_10 P) .nil .nil) (.node (ob_14 P) .nil .nil))))
noncomputable abbrev st_SA (w : World) (os : OsState) : SharedT := ⟨tr_SA w.params, 15, {}, #[], boot_drawn, 187, os⟩
def ob_12_S2 : Params → Obj := fun _ => ⟨.none, none, (.fields #[(.int 2 0), (.int 0 0), (.ref 20)]), #[]⟩
def ob_15 : Params → Obj := fun _ => ⟨(.type "tuple"), none, (.seq #[] 0), #[]⟩
def ob_16 : Params → Obj := fun _ => ⟨.none, none, (.fields #[]), #[]⟩
def ob_17 : Params → Obj := fun _ => ⟨(.type "tuple"), none, (.seq #[(.str (Str.ofString "num") 192), (.str (Str.ofString "val") 193), (.str (Str.ofString "AP") 194), (.str (Str.ofString "mod") 195)] 0), #[]⟩
def ob_18 : Params → Obj := fun _ => ⟨(.type "tuple"), none, (.seq #[] 0), #[]⟩
def ob_19 : Params → Obj := fun _ => ⟨.none, none, (.func { name := (Str.ofString "Int2AP"), qualname := (Str.ofString "Int2AP"), params := fPar 1, body := .stmts (fBod 1), scope := fSco 1, globals := 0, closure := [], defaults := .none, kwdefaults := .none, doc := .none, pyModule := .none, annotations := none, code := .none, closureTuple := .none, builtins := 0 }), #[]⟩
def ob_20 : Params → Obj := fun _ => ⟨(.type "code"), none, (.fields #[(.str (Str.ofString "Int2AP") 189), (.str (Str.ofString "Int2AP") 190), (.str (Str.ofString "/claim/cut.py") 191), (.int 2 0), (.int 1 0), (.int 0 0), (.int 0 0), (.int 3 0), (.ref 15), (.bool true), (.int 181 0), (.ref 16), .none, (.ref 17), (.ref 18), (.ref 19), (.int 196 0), (.int 2 0), (.str (Str.ofString "/claim/cut.py") 197)]), #[]⟩
def ob_21 : Params → Obj := fun _ => ⟨(.type "function"), none, (.func { name := (Str.ofString "Int2AP"), qualname := (Str.ofString "Int2AP"), params := fPar 1, body := .stmts (fBod 1), scope := fSco 1, globals := 3, closure := [], defaults := .none, kwdefaults := .none, doc := .none, pyModule := (.str (Str.ofString "cpy313.imaplib") 187), annotations := none, code := (.ref 20), closureTuple := .none, builtins := 0 }), #[]⟩
def ob_3_S3 : Params → Obj := fun P => ⟨(.type "dict"), none, (.dict #[⟨PyData.keyHash P (Str.ofString "__name__"), (.str (Str.ofString "__name__") 165), (.str (Str.ofString "cpy313.stringprep") 199)⟩, ⟨PyData.keyHash P (Str.ofString "__doc__"), (.str (Str.ofString "__doc__") 166), .none⟩, ⟨PyData.keyHash P (Str.ofString "__package__"), (.str (Str.ofString "__package__") 167), .none⟩, ⟨PyData.keyHash P (Str.ofString "__loader__"), (.str (Str.ofString "__loader__") 168), (.builtin "__main__.__loader__#opaque")⟩, ⟨PyData.keyHash P (Str.ofString "__spec__"), (.str (Str.ofString "__spec__") 169), .none⟩, ⟨PyData.keyHash P (Str.ofString "__annotations__"), (.str (Str.ofString "__annotations__") 170), (.ref 6)⟩, ⟨PyData.keyHash P (Str.ofString "__builtins__"), (.str (Str.ofString "__builtins__") 171), (.ref 4)⟩, ⟨PyData.keyHash P (Str.ofString "__file__"), (.str (Str.ofString "__file__") 173), (.str (Str.ofString "/claim/cut.py") 172)⟩, ⟨PyData.keyHash P (Str.ofString "__cached__"), (.str (Str.ofString "__cached__") 174), .none⟩, ⟨PyData.keyHash P (Str.ofString "Int2AP"), (.str (Str.ofString "Int2AP") 198), (.ref 21)⟩] 10), #[]⟩
noncomputable def tr_S3 : Params → BT := fun P => (.node (boot_o_0 P) (.node (boot_o_1 P) (.node (ob_3_S3 P) (.node (boot_o_7 P) (.node (ob_15 P) .nil .nil) .nil) (.node (ob_11 P) (.node (ob_19 P) .nil .nil) .nil)) (.node (boot_o_5 P) (.node (boot_o_9 P) (.node (ob_17 P) .nil .nil) .nil) (.node (ob_13 P) (.node (ob_21 P) .nil .nil) .nil))) (.node (boot_o_2 P) (.node (boot_o_4 P) (.node (boot_o_8 P) (.node (ob_16 P) .nil .nil) .nil) (.node (ob_12_S2 P) (.node (ob_20 P) .nil .nil) .nil)) (.node (boot_o_6 P) (.node (boot_o_10 P) (.node (ob_18 P) .nil .nil) .nil) (.node (ob_14 P) .nil .nil))))
noncomputable abbrev st_S3 (w : World) (os : OsState) : SharedT := ⟨tr_S3 w.params, 22, {}, #[], boot_drawn, 201, os⟩
def ob_3_S4 : Params → Obj := fun P => ⟨(.type "dict"), none, (.dict #[⟨PyData.keyHash P (Str.ofString "__name__"), (.str (Str.ofString "__name__") 165), (.str (Str.ofString "cpy313.stringprep") 199)⟩, ⟨PyData.keyHash P (Str.ofString "__doc__"), (.str (Str.ofString "__doc__") 166), .none⟩, ⟨PyData.keyHash P (Str.ofString "__package__"), (.str (Str.ofString "__package__") 167), .none⟩, ⟨PyData.keyHash P (Str.ofString "__loader__"), (.str (Str.ofString "__loader__") 168), (.builtin "__main__.__loader__#opaque")⟩, ⟨PyData.keyHash P (Str.ofString "__spec__"), (.str (Str.ofString "__spec__") 169), .none⟩, ⟨PyData.keyHash P (Str.ofString "__annotations__"), (.str (Str.ofString "__annotations__") 170), (.ref 6)⟩, ⟨PyData.keyHash P (Str.ofString "__builtins__"), (.str (Str.ofString "__builtins__") 171), (.ref 4)⟩, ⟨PyData.keyHash P (Str.ofString "__file__"), (.str (Str.ofString "__file__") 173), (.str (Str.ofString "/claim/cut.py") 172)⟩, ⟨PyData.keyHash P (Str.ofString "__cached__"), (.str (Str.ofString "__cached__") 174), .none⟩, ⟨PyData.keyHash P (Str.ofString "Int2AP"), (.str (Str.ofString "Int2AP") 198), (.ref 21)⟩, ⟨PyData.keyHash P (Str.ofString "b1_set"), (.str (Str.ofString "b1_set") 260), (.ref 29)⟩] 11), #[]⟩
def ob_22 : Params → Obj := fun _ => ⟨(.type "list"), none, (.seq #[(.int 173 201), (.int 847 202), (.int 6150 203), (.int 6155 204), (.int 6156 205), (.int 6157 206), (.int 8203 207), (.int 8204 208), (.int 8205 209), (.int 8288 210), (.int 65279 211)] 0), #[]⟩
def ob_23 : Params → Obj := fun _ => ⟨(.type "range"), none, (.fields #[(.int 65024 212), (.int 65040 213), (.int 1 214)]), #[]⟩
def ob_24 : Params → Obj := fun _ => ⟨(.type "list"), none, (.seq #[(.int 65024 217), (.int 65025 218), (.int 65026 219), (.int 65027 220), (.int 65028 221), (.int 65029 222), (.int 65030 223), (.int 65031 224), (.int 65032 225), (.int 65033 226), (.int 65034 227), (.int 65035 228), (.int 65036 229), (.int 65037 230), (.int 65038 231), (.int 65039 232)] 18), #[]⟩
def ob_25 : Params → Obj := fun _ => ⟨(.type "range_iterator"), none, (.fields #[(.int 65040 0), (.int 0 0), (.int 1 0)]), #[]⟩
def ob_26 : Params → Obj := fun _ => ⟨(.type "tuple"), none, (.seq #[] 0), #[]⟩
def ob_27 : Params → Obj := fun _ => ⟨(.type "StopIteration"), none, (.fields #[(.ref 26), .none, .none, .none, (.bool false), .none]), #[]⟩
def ob_28 : Params → Obj := fun _ => ⟨(.type "list"), none, (.seq #[(.int 173 201), (.int 847 202), (.int 6150 203), (.int 6155 204), (.int 6156 205), (.int 6157 206), (.int 8203 207), (.int 8204 208), (.int 8205 209), (.int 8288 210), (.int 65279 211), (.int 65024 217), (.int 65025 218), (.int 65026 219), (.int 65027 220), (.int 65028 221), (.int 65029 222), (.int 65030 223), (.int 65031 224), (.int 65032 225), (.int 65033 226), (.int 65034 227), (.int 65035 228), (.int 65036 229), (.int 65037 230), (.int 65038 231), (.int 65039 232)] 0), #[]⟩
def ob_29 : Params → Obj := fun P => ⟨(.type "set"), none, (.set #[(65024, (.int 65024 217)), (65025, (.int 65025 218)), (65026, (.int 65026 219)), (65027, (.int 65027 220)), (65028, (.int 65028 221)), (65029, (.int 65029 222)), (6150, (.int 6150 203)), (65030, (.int 65030 223)), (65031, (.int 65031 224)), (65032, (.int 65032 225)), (65033, (.int 65033 226)), (6155, (.int 6155 204)), (6156, (.int 6156 205)), (6157, (.int 6157 206)), (8203, (.int 8203 207)), (8204, (.int 8204 208)), (8205, (.int 8205 209)), (65034, (.int 65034 227)), (65035, (.int 65035 228)), (65036, (.int 65036 229)), (65037, (.int 65037 230)), (65038, (.int 65038 231)), (65039, (.int 65039 232)), (173, (.int 173 201)), (847, (.int 847 202)), (8288, (.int 8288 210)), (65279, (.int 65279 211))] 29 { mask := 127, place := #[0, 1, 2, 3, 4, 5, 6, 7, 8, 9, 10, 11, 12, 13, 14, 15, 16, 17, 18, 19, 20, 21, 22, 45, 79, 96, 127], dummies := #[], finger := 0, led := !P.followText "set-order", moves := 2, plain := true }), #[]⟩
def ob_30 : Params → Obj := fun _ => ⟨(.type "list_iterator"), none, (.fields #[.none, (.int 27 0)]), #[]⟩
def ob_31 : Params → Obj := fun _ => ⟨(.type "tuple"), none, (.seq #[] 0), #[]⟩
def ob_32 : Params → Obj := fun _ => ⟨(.type "StopIteration"), none, (.fields #[(.ref 31), .none, .none, .none, (.bool false), .none]), #[]⟩
noncomputable def tr_S4 : Params → BT := fun P => (.node (boot_o_0 P) (.node (boot_o_1 P) (.node (ob_3_S4 P) (.node (boot_o_7 P) (.node (ob_15 P) (.node (ob_31 P) .nil .nil) .nil) (.node (ob_23 P) .nil .nil)) (.node (ob_11 P) (.node (ob_19 P) .nil .nil) (.node (ob_27 P) .nil .nil))) (.node (boot_o_5 P) (.node (boot_o_9 P) (.node (ob_17 P) .nil .nil) (.node (ob_25 P) .nil .nil)) (.node (ob_13 P) (.node (ob_21 P) .nil .nil) (.node (ob_29 P) .nil .nil)))) (.node (boot_o_2 P) (.node (boot_o_4 P) (.node (boot_o_8 P) (.node (ob_16 P) (.node (ob_32 P) .nil .nil) .nil) (.node (ob_24 P) .nil .nil)) (.node (ob_12_S2 P) (.node (ob_20 P) .nil .nil) (.node (ob_28 P) .nil .nil))) (.node (boot_o_6 P) (.node (boot_o_10 P) (.node (ob_18 P) .nil .nil) (.node (ob_26 P) .nil .nil)) (.node (ob_14 P) (.node (ob_22 P) .nil .nil) (.node (ob_30 P) .nil .nil)))))
noncomputable abbrev st_S4 (w : World) (os : OsState) : SharedT := ⟨tr_S4 w.params, 33, {}, #[], boot_drawn, 261, os⟩
def ob_3_S5 : Params → Obj := fun P => ⟨(.type "dict"), none, (.dict #[⟨PyData.keyHash P (Str.ofString "__name__"), (.str (Str.ofString "__name__") 165), (.str (Str.ofString "cpy313.stringprep") 199)⟩, ⟨PyData.keyHash P (Str.ofString "__doc__"), (.str (Str.ofString "__doc__") 166), .none⟩, ⟨PyData.keyHash P (Str.ofString "__package__"), (.str (Str.ofString "__package__") 167), .none⟩, ⟨PyData.keyHash P (Str.ofString "__loader__"), (.str (Str.ofString "__loader__") 168), (.builtin "__main__.__loader__#opaque")⟩, ⟨PyData.keyHash P (Str.ofString "__spec__"), (.str (Str.ofString "__spec__") 169), .none⟩, ⟨PyData.keyHash P (Str.ofString "__annotations__"), (.str (Str.ofString "__annotations__") 170), (.ref 6)⟩, ⟨PyData.keyHash P (Str.ofString "__builtins__"), (.str (Str.ofString "__builtins__") 171), (.ref 4)⟩, ⟨PyData.keyHash P (Str.ofString "__file__"), (.str (Str.ofString "__file__") 173), (.str (Str.ofString "/claim/cut.py") 172)⟩, ⟨PyData.keyHash P (Str.ofString "__cached__"), (.str (Str.ofString "__cached__") 174), .none⟩, ⟨PyData.keyHash P (Str.ofString "Int2AP"), (.str (Str.ofString "Int2AP") 198), (.ref 21)⟩, ⟨PyData.keyHash P (Str.ofString "b1_set"), (.str (Str.ofString "b1_set") 260), (.ref 29)⟩, ⟨PyData.keyHash P (Str.ofString "in_table_b1"), (.str (Str.ofString "in_table_b1") 267), (.ref 39)⟩] 12), #[]⟩
def ob_12_S5 : Params → Obj := fun _ => ⟨.none, none, (.fields #[(.int 2 0), (.int 0 0), (.ref 20), (.int 12 0), (.int 0 0), (.ref 38)]), #[]⟩
def ob_33 : Params → Obj := fun _ => ⟨(.type "tuple"), none, (.seq #[] 0), #[]⟩
def ob_34 : Params → Obj := fun _ => ⟨.none, none, (.fields #[]), #[]⟩
def ob_35 : Params → Obj := fun _ => ⟨(.type "tuple"), none, (.seq #[(.str (Str.ofString "code") 264)] 0), #[]⟩
def ob_36 : Params → Obj := fun _ => ⟨(.type "tuple"), none, (.seq #[] 0), #[]⟩
def ob_37 : Params → Obj := fun _ => ⟨.none, none, (.func { name := (Str.ofString "in_table_b1"), qualname := (Str.ofString "in_table_b1"), params := fPar 4, body := .stmts (fBod 4), scope := fSco 4, globals := 0, closure := [], defaults := .none, kwdefaults := .none, doc := .none, pyModule := .none, annotations := none, code := .none, closureTuple := .none, builtins := 0 }), #[]⟩
def ob_38 : Params → Obj := fun _ => ⟨(.type "code"), none, (.fields #[(.str (Str.ofString "in_table_b1") 261), (.str (Str.ofString "in_table_b1") 262), (.str (Str.ofString "/claim/cut.py") 263), (.int 12 0), (.int 1 0), (.int 0 0), (.int 0 0), (.int 3 0), (.ref 33), (.bool true), (.int 181 0), (.ref 34), .none, (.ref 35), (.ref 36), (.ref 37), (.int 265 0), (.int 12 0), (.str (Str.ofString "/claim/cut.py") 266)]), #[]⟩
def ob_39 : Params → Obj := fun _ => ⟨(.type "function"), none, (.func { name := (Str.ofString "in_table_b1"), qualname := (Str.ofString "in_table_b1"), params := fPar 4, body := .stmts (fBod 4), scope := fSco 4, globals := 3, closure := [], defaults := .none, kwdefaults := .none, doc := .none, pyModule := (.str (Str.ofString "cpy313.stringprep") 199), annotations := none, code := (.ref 38), closureTuple := .none, builtins := 0 }), #[]⟩
noncomputable def tr_S5 : Params → BT := fun P => (.node (boot_o_0 P) (.node (boot_o_1 P) (.node (ob_3_S5 P) (.node (boot_o_7 P) (.node (ob_15 P) (.node (ob_31 P) .nil .nil) .nil) (.node (ob_23 P) (.node (ob_39 P) .nil .nil) .nil)) (.node (ob_11 P) (.node (ob_19 P) (.node (ob_35 P) .nil .nil) .nil) (.node (ob_27 P) .nil .nil))) (.node (boot_o_5 P) (.node (boot_o_9 P) (.node (ob_17 P) (.node (ob_33 P) .nil .nil) .nil) (.node (ob_25 P) .nil .nil)) (.node (ob_13 P) (.node (ob_21 P) (.node (ob_37 P) .nil .nil) .nil) (.node (ob_29 P) .nil .nil)))) (.node (boot_o_2 P) (.node (boot_o_4 P) (.node (boot_o_8 P) (.node (ob_16 P) (.node (ob_32 P) .nil .nil) .nil) (.node (ob_24 P) .nil .nil)) (.node (ob_12_S5 P) (.node (ob_20 P) (.node (ob_36 P) .nil .nil) .nil) (.node (ob_28 P) .nil .nil))) (.node (boot_o_6 P) (.node (boot_o_10 P) (.node (ob_18 P) (.node (ob_34 P) .nil .nil) .nil) (.node (ob_26 P) .nil .nil)) (.node (ob_14 P) (.node (ob_22 P) (.node (ob_38 P) .nil .nil) .nil) (.node (ob_30 P) .nil .nil)))))
noncomputable abbrev st_S5 (w : World) (os : OsState) : SharedT := ⟨tr_S5 w.params, 40, {}, #[], boot_drawn, 268, os⟩
def ob_3_S6 : Params → Obj := fun P => ⟨(.type "dict"), none, (.dict #[⟨PyData.keyHash P (Str.ofString "__name__"), (.str (Str.ofString "__name__") 165), (.str (Str.ofString "cpy313.stringprep") 199)⟩, ⟨PyData.keyHash P (Str.ofString "__doc__"), (.str (Str.ofString "__doc__") 166), .none⟩, ⟨PyData.keyHash P (Str.ofString "__package__"), (.str (Str.ofString "__package__") 167), .none⟩, ⟨PyData.keyHash P (Str.ofString "__loader__"), (.str (Str.ofString "__loader__") 168), (.builtin "__main__.__loader__#opaque")⟩, ⟨PyData.keyHash P (Str.ofString "__spec__"), (.str (Str.ofString "__spec__") 169), .none⟩, ⟨PyData.keyHash P (Str.ofString "__annotations__"), (.str (Str.ofString "__annotations__") 170), (.ref 6)⟩, ⟨PyData.keyHash P (Str.ofString "__builtins__"), (.str (Str.ofString "__builtins__") 171), (.ref 4)⟩, ⟨PyData.keyHash P (Str.ofString "__file__"), (.str (Str.ofString "__file__") 173), (.str (Str.ofString "/claim/cut.py") 172)⟩, ⟨PyData.keyHash P (Str.ofString "__cached__"), (.str (Str.ofString "__cached__") 174), .none⟩, ⟨PyData.keyHash P (Str.ofString "Int2AP"), (.str (Str.ofString "Int2AP") 198), (.ref 21)⟩, ⟨PyData.keyHash P (Str.ofString "b1_set"), (.str (Str.ofString "b1_set") 260), (.ref 29)⟩, ⟨PyData.keyHash P (Str.ofString "in_table_b1"), (.str (Str.ofString "in_table_b1") 267), (.ref 39)⟩, ⟨PyData.keyHash P (Str.ofString "b3_exceptions"), (.str (Str.ofString "b3_exceptions") 2218), (.ref 40)⟩] 13), #[]⟩
noncomputable def tr_S6 : Params → BT := fun P => (.node (boot_o_0 P) (.node (boot_o_1 P) (.node (ob_3_S6 P) (.node (boot_o_7 P) (.node (ob_15 P) (.node (ob_31 P) (.node (obd_63 P) .nil .nil) .nil) (.node (obd_47 P) .nil .nil)) (.node (ob_23 P) (.node (ob_39 P) (.node (obd_71 P) .nil .nil) .nil) (.node (obd_55 P) .nil .nil))) (.node (ob_11 P) (.node (ob_19 P) (.node (ob_35 P) (.node (obd_67 P) .nil .nil) .nil) (.node (obd_51 P) .nil .nil)) (.node (ob_27 P) (.node (obd_43 P) (.node (obd_75 P) .nil .nil) .nil) (.node (obd_59 P) .nil .nil)))) (.node (boot_o_5 P) (.node (boot_o_9 P) (.node (ob_17 P) (.node (ob_33 P) (.node (obd_65 P) .nil .nil) .nil) (.node (obd_49 P) .nil .nil)) (.node (ob_25 P) (.node (obd_41 P) (.node (obd_73 P) .nil .nil) .nil) (.node (obd_57 P) .nil .nil))) (.node (ob_13 P) (.node (ob_21 P) (.node (ob_37 P) (.node (obd_69 P) .nil .nil) .nil) (.node (obd_53 P) .nil .nil)) (.node (ob_29 P) (.node (obd_45 P) (.node (obd_77 P) .nil .nil) .nil) (.node (obd_61 P) .nil .nil))))) (.node (boot_o_2 P) (.node (boot_o_4 P) (.node (boot_o_8 P) (.node (ob_16 P) (.node (ob_32 P) (.node (obd_64 P) .nil .nil) .nil) (.node (obd_48 P) .nil .nil)) (.node (ob_24 P) (.node (obd_40 P) (.node (obd_72 P) .nil .nil) .nil) (.node (obd_56 P) .nil .nil))) (.node (ob_12_S5 P) (.node (ob_20 P) (.node (ob_36 P) (.node (obd_68 P) .nil .nil) .nil) (.node (obd_52 P) .nil .nil)) (.node (ob_28 P) (.node (obd_44 P) (.node (obd_76 P) .nil .nil) .nil) (.node (obd_60 P) .nil .nil)))) (.node (boot_o_6 P) (.node (boot_o_10 P) (.node (ob_18 P) (.node (ob_34 P) (.node (obd_66 P) .nil .nil) .nil) (.node (obd_50 P) .nil .nil)) (.node (ob_26 P) (.node (obd_42 P) (.node (obd_74 P) .nil .nil) .nil) (.node (obd_58 P) .nil .nil))) (.node (ob_14 P) (.node (ob_22 P) (.node (ob_38 P) (.node (obd_70 P) .nil .nil) .nil) (.node (obd_54 P) .nil .nil)) (.node (ob_30 P) (.node (obd_46 P) (.node (obd_78 P) .nil .nil) .nil) (.node (obd_62 P) .nil .nil))))))
noncomputable abbrev st_S6 (w : World) (os : OsState) : SharedT := ⟨tr_S6 w.params, 79, {}, #[], boot_drawn, 2219, os⟩
def ob_79 : Params → Obj := fun _ => ⟨(.type "tuple"), none, (.seq #[] 0), #[]⟩
def ob_80 : Params → Obj := fun _ => ⟨.none, none, (.fields #[]), #[]⟩
def ob_81 : Params → Obj := fun _ => ⟨(.type "tuple"), none, (.seq #[(.str (Str.ofString "code") 2222), (.str (Str.ofString "r") 2223)] 0), #[]⟩
def ob_82 : Params → Obj := fun _ => ⟨(.type "tuple"), none, (.seq #[] 0), #[]⟩
def ob_83 : Params → Obj := fun _ => ⟨.none, none, (.func { name := (Str.ofString "map_table_b3"), qualname := (Str.ofString "map_table_b3"), params := fPar 6, body := .stmts (fBod 6), scope := fSco 6, globals := 0, closure := [], defaults := .none, kwdefaults := .none, doc := .none, pyModule := .none, annotations := none, code := .none, closureTuple := .none, builtins := 0 }), #[]⟩
def ob_84 : Params → Obj := fun _ => ⟨(.type "code"), none, (.fields #[(.str (Str.ofString "map_table_b3") 2219), (.str (Str.ofString "map_table_b3") 2220), (.str (Str.ofString "/claim/cut.py") 2221), (.int 15 0), (.int 1 0), (.int 0 0), (.int 0 0), (.int 3 0), (.ref 79), (.bool true), (.int 181 0), (.ref 80), .none, (.ref 81), (.ref 82), (.ref 83), (.int 2224 0), (.int 15 0), (.str (Str.ofString "/claim/cut.py") 2225)]), #[]⟩
def ob_85 : Params → Obj := fun _ => ⟨(.type "function"), none, (.func { name := (Str.ofString "map_table_b3"), qualname := (Str.ofString "map_table_b3"), params := fPar 6, body := .stmts (fBod 6), scope := fSco 6, globals := 3, closure := [], defaults := .none, kwdefaults := .none, doc := .none, pyModule := (.str (Str.ofString "cpy313.stringprep") 199), annotations := none, code := (.ref 84), closureTuple := .none, builtins := 0 }), #[]⟩
def ob_86 : Params → Obj := fun _ => ⟨(.type "tuple"), none, (.seq #[] 0), #[]⟩
def ob_87 : Params → Obj := fun _ => ⟨.none, none, (.fields #[]), #[]⟩
def ob_88 : Params → Obj := fun _ => ⟨(.type "tuple"), none, (.seq #[(.str (Str.ofString "word") 2232), (.str (Str.ofString "told") 2233), (.str (Str.ofString "starts") 2234), (.str (Str.ofString "veils") 2235), (.str (Str.ofString "text") 2236), (.str (Str.ofString "place") 2237), (.str (Str.ofString "octet") 2238)] 0), #[]⟩
def ob_89 : Params → Obj := fun _ => ⟨(.type "tuple"), none, (.seq #[] 0), #[]⟩
def ob_90 : Params → Obj := fun _ => ⟨.none, none, (.func { name := (Str.ofString "_law_careless"), qualname := (Str.ofString "_law_careless"), params := fPar 8, body := .stmts (fBod 8), scope := fSco 8, globals := 0, closure := [], defaults := .none, kwdefaults := .none, doc := .none, pyModule := .none, annotations := none, code := .none, closureTuple := .none, builtins := 0 }), #[]⟩
def ob_91 : Params → Obj := fun _ => ⟨(.type "code"), none, (.fields #[(.str (Str.ofString "_law_careless") 2229), (.str (Str.ofString "_law_careless") 2230), (.str (Str.ofString "/claim/cut.py") 2231), (.int 21 0), (.int 2 0), (.int 0 0), (.int 0 0), (.int 3 0), (.ref 86), (.bool true), (.int 181 0), (.ref 87), .none, (.ref 88), (.ref 89), (.ref 90), (.int 2239 0), (.int 21 0), (.str (Str.ofString "/claim/cut.py") 2240)]), #[]⟩
def ob_92 : Params → Obj := fun _ => ⟨(.type "function"), none, (.func { name := (Str.ofString "_law_careless"), qualname := (Str.ofString "_law_careless"), params := fPar 8, body := .stmts (fBod 8), scope := fSco 8, globals := 3, closure := [], defaults := .none, kwdefaults := .none, doc := .none, pyModule := (.str (Str.ofString "law_pk0087_02") 2227), annotations := none, code := (.ref 91), closureTuple := .none, builtins := 0 }), #[]⟩
def ob_93 : Params → Obj := fun _ => ⟨(.type "tuple"), none, (.seq #[] 0), #[]⟩
def ob_94 : Params → Obj := fun _ => ⟨.none, none, (.fields #[]), #[]⟩
def ob_95 : Params → Obj := fun _ => ⟨.none, none, (.func { name := (Str.ofString "_law_codes"), qualname := (Str.ofString "_law_codes"), params := fPar 9, body := .stmts (fBod 9), scope := fSco 9, globals := 0, closure := [], defaults := .none, kwdefaults := .none, doc := .none, pyModule := .none, annotations := none, code := .none, closureTuple := .none, builtins := 0 }), #[]⟩
def ob_96 : Params → Obj := fun _ => ⟨(.type "code"), none, (.fields #[(.str (Str.ofString "_law_codes") 2242), (.str (Str.ofString "_law_codes") 2243), (.str (Str.ofString "/claim/cut.py") 2244), (.int 30 0), (.int 2 0), (.int 0 0), (.int 0 0), (.int 3 0), (.ref 93), (.bool true), (.int 181 0), (.ref 94), .none, .none, .none, (.ref 95), (.int 2245 0), (.int 30 0), (.str (Str.ofString "/claim/cut.py") 2246)]), #[]⟩
def ob_97 : Params → Obj := fun _ => ⟨(.type "function"), none, (.func { name := (Str.ofString "_law_codes"), qualname := (Str.ofString "_law_codes"), params := fPar 9, body := .stmts (fBod 9), scope := fSco 9, globals := 3, closure := [], defaults := .none, kwdefaults := .none, doc := .none, pyModule := (.str (Str.ofString "law_pk0087_02") 2227), annotations := none, code := (.ref 96), closureTuple := .none, builtins := 0 }), #[]⟩
def ob_98 : Params → Obj := fun _ => ⟨(.type "tuple"), none, (.seq #[] 0), #[]⟩
def ob_99 : Params → Obj := fun _ => ⟨.none, none, (.fields #[]), #[]⟩
def ob_100 : Params → Obj := fun _ => ⟨.none, none, (.func { name := (Str.ofString "_law_ruler"), qualname := (Str.ofString "_law_ruler"), params := fPar 10, body := .stmts (fBod 10), scope := fSco 10, globals := 0, closure := [], defaults := .none, kwdefaults := .none, doc := .none, pyModule := .none, annotations := none, code := .none, closureTuple := .none, builtins := 0 }), #[]⟩
def ob_101 : Params → Obj := fun _ => ⟨(.type "code"), none, (.fields #[(.str (Str.ofString "_law_ruler") 2248), (.str (Str.ofString "_law_ruler") 2249), (.str (Str.ofString "/claim/cut.py") 2250), (.int 41 0), (.int 2 0), (.int 0 0), (.int 0 0), (.int 3 0), (.ref 98), (.bool true), (.int 181 0), (.ref 99), .none, .none, .none, (.ref 100), (.int 2251 0), (.int 41 0), (.str (Str.ofString "/claim/cut.py") 2252)]), #[]⟩
def ob_102 : Params → Obj := fun _ => ⟨(.type "function"), none, (.func { name := (Str.ofString "_law_ruler"), qualname := (Str.ofString "_law_ruler"), params := fPar 10, body := .stmts (fBod 10), scope := fSco 10, globals := 3, closure := [], defaults := .none, kwdefaults := .none, doc := .none, pyModule := (.str (Str.ofString "law_pk0087_02") 2227), annotations := none, code := (.ref 101), closureTuple := .none, builtins := 0 }), #[]⟩
def ob_3_S12 : Params → Obj := fun P => ⟨(.type "dict"), none, (.dict #[⟨PyData.keyHash P (Str.ofString "__name__"), (.str (Str.ofString "__name__") 165), (.str (Str.ofString "law_pk0087_02") 2227)⟩, ⟨PyData.keyHash P (Str.ofString "__doc__"), (.str (Str.ofString "__doc__") 166), .none⟩, ⟨PyData.keyHash P (Str.ofString "__package__"), (.str (Str.ofString "__package__") 167), .none⟩, ⟨PyData.keyHash P (Str.ofString "__loader__"), (.str (Str.ofString "__loader__") 168), (.builtin "__main__.__loader__#opaque")⟩, ⟨PyData.keyHash P (Str.ofString "__spec__"), (.str (Str.ofString "__spec__") 169), .none⟩, ⟨PyData.keyHash P (Str.ofString "__annotations__"), (.str (Str.ofString "__annotations__") 170), (.ref 6)⟩, ⟨PyData.keyHash P (Str.ofString "__builtins__"), (.str (Str.ofString "__builtins__") 171), (.ref 4)⟩, ⟨PyData.keyHash P (Str.ofString "__file__"), (.str (Str.ofString "__file__") 173), (.str (Str.ofString "/claim/cut.py") 172)⟩, ⟨PyData.keyHash P (Str.ofString "__cached__"), (.str (Str.ofString "__cached__") 174), .none⟩, ⟨PyData.keyHash P (Str.ofString "Int2AP"), (.str (Str.ofString "Int2AP") 198), (.ref 21)⟩, ⟨PyData.keyHash P (Str.ofString "b1_set"), (.str (Str.ofString "b1_set") 260), (.ref 29)⟩, ⟨PyData.keyHash P (Str.ofString "in_table_b1"), (.str (Str.ofString "in_table_b1") 267), (.ref 39)⟩, ⟨PyData.keyHash P (Str.ofString "b3_exceptions"), (.str (Str.ofString "b3_exceptions") 2218), (.ref 40)⟩, ⟨PyData.keyHash P (Str.ofString "map_table_b3"), (.str (Str.ofString "map_table_b3") 2226), (.ref 85)⟩, ⟨PyData.keyHash P (Str.ofString "_law_careless"), (.str (Str.ofString "_law_careless") 2241), (.ref 92)⟩, ⟨PyData.keyHash P (Str.ofString "_law_codes"), (.str (Str.ofString "_law_codes") 2247), (.ref 97)⟩, ⟨PyData.keyHash P (Str.ofString "_law_ruler"), (.str (Str.ofString "_law_ruler") 2253), (.ref 102)⟩, ⟨PyData.keyHash P (Str.ofString "law"), (.str (Str.ofString "law") 2259), (.ref 107)⟩] 18), #[]⟩
def ob_12_S12 : Params → Obj := fun _ => ⟨.none, none, (.fields #[(.int 2 0), (.int 0 0), (.ref 20), (.int 12 0), (.int 0 0), (.ref 38), (.int 15 0), (.int 0 0), (.ref 84), (.int 21 0), (.int 0 0), (.ref 91), (.int 30 0), (.int 0 0), (.ref 96), (.int 41 0), (.int 0 0), (.ref 101), (.int 55 0), (.int 0 0), (.ref 106)]), #[]⟩
def ob_103 : Params → Obj := fun _ => ⟨(.type "tuple"), none, (.seq #[] 0), #[]⟩
def ob_104 : Params → Obj := fun _ => ⟨.none, none, (.fields #[]), #[]⟩
def ob_105 : Params → Obj := fun _ => ⟨.none, none, (.func { name := (Str.ofString "law"), qualname := (Str.ofString "law"), params := fPar 11, body := .stmts (fBod 11), scope := fSco 11, globals := 0, closure := [], defaults := .none, kwdefaults := .none, doc := .none, pyModule := .none, annotations := none, code := .none, closureTuple := .none, builtins := 0 }), #[]⟩
def ob_106 : Params → Obj := fun _ => ⟨(.type "code"), none, (.fields #[(.str (Str.ofString "law") 2254), (.str (Str.ofString "law") 2255), (.str (Str.ofString "/claim/cut.py") 2256), (.int 55 0), (.int 1 0), (.int 0 0), (.int 0 0), (.int 3 0), (.ref 103), (.bool true), (.int 181 0), (.ref 104), .none, .none, .none, (.ref 105), (.int 2257 0), (.int 55 0), (.str (Str.ofString "/claim/cut.py") 2258)]), #[]⟩
def ob_107 : Params → Obj := fun _ => ⟨(.type "function"), none, (.func { name := (Str.ofString "law"), qualname := (Str.ofString "law"), params := fPar 11, body := .stmts (fBod 11), scope := fSco 11, globals := 3, closure := [], defaults := .none, kwdefaults := .none, doc := .none, pyModule := (.str (Str.ofString "law_pk0087_02") 2227), annotations := none, code := (.ref 106), closureTuple := .none, builtins := 0 }), #[]⟩
noncomputable def tr_S12 : Params → BT := fun P => (.node (boot_o_0 P) (.node (boot_o_1 P) (.node (ob_3_S12 P) (.node (boot_o_7 P) (.node (ob_15 P) (.node (ob_31 P) (.node (obd_63 P) .nil .nil) (.node (ob_95 P) .nil .nil)) (.node (obd_47 P) (.node (ob_79 P) .nil .nil) .nil)) (.node (ob_23 P) (.node (ob_39 P) (.node (obd_71 P) .nil .nil) (.node (ob_103 P) .nil .nil)) (.node (obd_55 P) (.node (ob_87 P) .nil .nil) .nil))) (.node (ob_11 P) (.node (ob_19 P) (.node (ob_35 P) (.node (obd_67 P) .nil .nil) (.node (ob_99 P) .nil .nil)) (.node (obd_51 P) (.node (ob_83 P) .nil .nil) .nil)) (.node (ob_27 P) (.node (obd_43 P) (.node (obd_75 P) .nil .nil) (.node (ob_107 P) .nil .nil)) (.node (obd_59 P) (.node (ob_91 P) .nil .nil) .nil)))) (.node (boot_o_5 P) (.node (boot_o_9 P) (.node (ob_17 P) (.node (ob_33 P) (.node (obd_65 P) .nil .nil) (.node (ob_97 P) .nil .nil)) (.node (obd_49 P) (.node (ob_81 P) .nil .nil) .nil)) (.node (ob_25 P) (.node (obd_41 P) (.node (obd_73 P) .nil .nil) (.node (ob_105 P) .nil .nil)) (.node (obd_57 P) (.node (ob_89 P) .nil .nil) .nil))) (.node (ob_13 P) (.node (ob_21 P) (.node (ob_37 P) (.node (obd_69 P) .nil .nil) (.node (ob_101 P) .nil .nil)) (.node (obd_53 P) (.node (ob_85 P) .nil .nil) .nil)) (.node (ob_29 P) (.node (obd_45 P) (.node (obd_77 P) .nil .nil) .nil) (.node (obd_61 P) (.node (ob_93 P) .nil .nil) .nil))))) (.node (boot_o_2 P) (.node (boot_o_4 P) (.node (boot_o_8 P) (.node (ob_16 P) (.node (ob_32 P) (.node (obd_64 P) .nil .nil) (.node (ob_96 P) .nil .nil)) (.node (obd_48 P) (.node (ob_80 P) .nil .nil) .nil)) (.node (ob_24 P) (.node (obd_40 P) (.node (obd_72 P) .nil .nil) (.node (ob_104 P) .nil .nil)) (.node (obd_56 P) (.node (ob_88 P) .nil .nil) .nil))) (.node (ob_12_S12 P) (.node (ob_20 P) (.node (ob_36 P) (.node (obd_68 P) .nil .nil) (.node (ob_100 P) .nil .nil)) (.node (obd_52 P) (.node (ob_84 P) .nil .nil) .nil)) (.node (ob_28 P) (.node (obd_44 P) (.node (obd_76 P) .nil .nil) .nil) (.node (obd_60 P) (.node (ob_92 P) .nil .nil) .nil)))) (.node (boot_o_6 P) (.node (boot_o_10 P) (.node (ob_18 P) (.node (ob_34 P) (.node (obd_66 P) .nil .nil) (.node (ob_98 P) .nil .nil)) (.node (obd_50 P) (.node (ob_82 P) .nil .nil) .nil)) (.node (ob_26 P) (.node (obd_42 P) (.node (obd_74 P) .nil .nil) (.node (ob_106 P) .nil .nil)) (.node (obd_58 P) (.node (ob_90 P) .nil .nil) .nil))) (.node (ob_14 P) (.node (ob_22 P) (.node (ob_38 P) (.node (obd_70 P) .nil .nil) (.node (ob_102 P) .nil .nil)) (.node (obd_54 P) (.node (ob_86 P) .nil .nil) .nil)) (.node (ob_30 P) (.node (obd_46 P) (.node (obd_78 P) .nil .nil) .nil) (.node (obd_62 P) (.node (ob_94 P) .nil .nil) .nil))))))
noncomputable abbrev st_S12 (w : World) (os : OsState) : SharedT := ⟨tr_S12 w.params, 108, {}, #[], boot_drawn, 2260, os⟩

noncomputable def tr_D : Params → BT := fun P => (.node (boot_o_0 P) (.node (boot_o_1 P) (.node (ob_3_S5 P) (.node (boot_o_7 P) (.node (ob_15 P) (.node (ob_31 P) (.node (obd_63 P) .nil .nil) .nil) (.node (obd_47 P) .nil .nil)) (.node (ob_23 P) (.node (ob_39 P) (.node (obd_71 P) .nil .nil) .nil) (.node (obd_55 P) .nil .nil))) (.node (ob_11 P) (.node (ob_19 P) (.node (ob_35 P) (.node (obd_67 P) .nil .nil) .nil) (.node (obd_51 P) .nil .nil)) (.node (ob_27 P) (.node (obd_43 P) (.node (obd_75 P) .nil .nil) .nil) (.node (obd_59 P) .nil .nil)))) (.node (boot_o_5 P) (.node (boot_o_9 P) (.node (ob_17 P) (.node (ob_33 P) (.node (obd_65 P) .nil .nil) .nil) (.node (obd_49 P) .nil .nil)) (.node (ob_25 P) (.node (obd_41 P) (.node (obd_73 P) .nil .nil) .nil) (.node (obd_57 P) .nil .nil))) (.node (ob_13 P) (.node (ob_21 P) (.node (ob_37 P) (.node (obd_69 P) .nil .nil) .nil) (.node (obd_53 P) .nil .nil)) (.node (ob_29 P) (.node (obd_45 P) (.node (obd_77 P) .nil .nil) .nil) (.node (obd_61 P) .nil .nil))))) (.node (boot_o_2 P) (.node (boot_o_4 P) (.node (boot_o_8 P) (.node (ob_16 P) (.node (ob_32 P) (.node (obd_64 P) .nil .nil) .nil) (.node (obd_48 P) .nil .nil)) (.node (ob_24 P) (.node (obd_40 P) (.node (obd_72 P) .nil .nil) .nil) (.node (obd_56 P) .nil .nil))) (.node (ob_12_S5 P) (.node (ob_20 P) (.node (ob_36 P) (.node (obd_68 P) .nil .nil) .nil) (.node (obd_52 P) .nil .nil)) (.node (ob_28 P) (.node (obd_44 P) (.node (obd_76 P) .nil .nil) .nil) (.node (obd_60 P) .nil .nil)))) (.node (boot_o_6 P) (.node (boot_o_10 P) (.node (ob_18 P) (.node (ob_34 P) (.node (obd_66 P) .nil .nil) .nil) (.node (obd_50 P) .nil .nil)) (.node (ob_26 P) (.node (obd_42 P) (.node (obd_74 P) .nil .nil) .nil) (.node (obd_58 P) .nil .nil))) (.node (ob_14 P) (.node (ob_22 P) (.node (ob_38 P) (.node (obd_70 P) .nil .nil) .nil) (.node (obd_54 P) .nil .nil)) (.node (ob_30 P) (.node (obd_46 P) (.node (obd_78 P) .nil .nil) .nil) (.node (obd_62 P) .nil .nil))))))
noncomputable abbrev st_D (w : World) (os : OsState) : SharedT := ⟨tr_D w.params, 79, {}, #[], boot_drawn, 2218, os⟩

def env0 : Env := { scope := pw.main.scope, locals := mainNs, globals := mainNs, cells := [], code := .ref 13, frame := some 14 }
abbrev bd : List Stmt := behindTheImports pw
abbrev cd0 : Code := .body bd env0
abbrev po0 : Pos := ⟨0, 0, 0, 0⟩
abbrev ann0 : Option Value := some (.ref 6)
abbrev B0 : List Frame := [topFrame po0]
end Mine
end
section
open PySem PySem.W PyProof.Rows PySem.Calls
set_option maxRecDepth 100000
namespace Mine
theorem run_pre (w : World) (os : OsState) : topGo treeTable pw w 11 ann0 12 ⟨boot_heap w.params, Array.mk [], boot_drawn, boot_toks, os⟩ (topStub pw) = some ((st_SA w os).abs, ⟨denote treeTable cd0, cd0, po0, B0⟩) := by kernel_rfl
theorem run_block (w : World) (os : OsState) : segRun treeTable pw w 11 ann0 1 1 (st_SA w os).abs (blockOf bd env0 cd0 po0 B0) = some (.next, (st_SA w os).abs, cd0, po0) := by kernel_rfl
theorem run_A (w : World) (os : OsState) : segRunT treeTable pw w 11 ann0 1 51 (st_SA w os) (piecesOf [stAt 0, stAt 1, stAt 2] env0 cd0 po0 B0) = some (.next, st_S3 w os, cd0, ⟨10, 0, 10, 8⟩) := by kernel_rfl
end Mine
end
section
open PySem PySem.W PyProof.Rows PySem.Calls
set_option maxRecDepth 100000
namespace Mine
theorem run_C (w : World) (os : OsState) : segRunT treeTable pw w 11 ann0 1 30 (st_S4 w os) (piecesOf [stAt 4] env0 cd0 ⟨11, 0, 11, 6⟩ B0) = some (.next, st_S5 w os, cd0, ⟨12, 0, 13, 30⟩) := by kernel_rfl
theorem run_E (w : World) (os : OsState) : segRunT treeTable pw w 11 ann0 1 153 (st_S6 w os) (piecesOf [stAt 6, stAt 7, stAt 8, stAt 9, stAt 10, stAt 11] env0 cd0 ⟨14, 0, 14, 13⟩ B0) = some (.next, st_S12 w os, cd0, ⟨55, 0, 68, 71⟩) := by kernel_rfl
theorem run_fin (w : World) (os : OsState) : topRun treeTable pw w 11 ann0 2 (st_S12 w os).abs ⟨doneF .next, cd0, ⟨55, 0, 68, 71⟩, B0⟩ = some (st_S12 w os).abs := by kernel_rfl
abbrev PB (w : World) : Prop := (fun os => segRunT treeTable pw w 11 ann0 1 999 (st_S3 w os) (piecesOf [stAt 3] env0 cd0 ⟨10, 0, 10, 8⟩ B0)) = fun os => some (.next, st_S4 w os, cd0, ⟨11, 0, 11, 6⟩)
theorem run_B1 (w : World) : PB ((w.withFollow "special-get-raises" false).withFollow "set-order" false) := by
  unfold PB piecesOf; rw [Fast.te10110043849684766642, Fast.te14364793385576792824, Fast.te12563942051412417395]; kernel_rfl
theorem run_B2 (w : World) : PB ((w.withFollow "special-get-raises" true).withFollow "set-order" false) := by
  unfold PB piecesOf; rw [Fast.te10110043849684766642, Fast.te14364793385576792824, Fast.te12563942051412417395]; kernel_rfl
theorem run_B3 (w : World) : PB ((w.withFollow "special-get-raises" false).withFollow "set-order" true) := by
  unfold PB piecesOf; rw [Fast.te10110043849684766642, Fast.te14364793385576792824, Fast.te12563942051412417395]; kernel_rfl
theorem run_B4 (w : World) : PB ((w.withFollow "special-get-raises" true).withFollow "set-order" true) := by
  unfold PB piecesOf; rw [Fast.te10110043849684766642, Fast.te14364793385576792824, Fast.te12563942051412417395]; kernel_rfl
theorem run_B (w : World) : (fun os => segRunT treeTable pw w 11 ann0 1 999 (st_S3 w os) (piecesOf [stAt 3] env0 cd0 ⟨10, 0, 10, 8⟩ B0)) = fun os => some (.next, st_S4 w os, cd0, ⟨11, 0, 11, 6⟩) := by
  refine byRow2 "set-order" (P := PB) (fun w => ?_) (fun w => ?_) w
  · exact byRow2 "special-get-raises" (P := fun w => PB (w.withFollow "set-order" false)) run_B1 run_B2 w
  · exact byRow2 "special-get-raises" (P := fun w => PB (w.withFollow "set-order" true)) run_B3 run_B4 w
end Mine
end
section
open PySem PySem.W PyProof.Rows PySem.Calls
set_option maxRecDepth 100000
namespace Mine
/-- written ints and texts, as many of the ones as of the others -/
def okPairs : List (Option Expr) → List Expr → Bool
  | [], [] => true
  | some (.Constant (.int _) _ _) :: ks, .Constant (.str _) _ _ :: vs => okPairs ks vs
  | _, _ => false
theorem items_eq (env : Env) (pos : Pos) : ∀ (ks : List (Option Expr)) (vs : List Expr), okPairs ks vs = true →
    (evalEachOpt ks env).zip ((evalEach vs env).map fun v => (do let x ← v; standAt pos; pure x : Sem Value)) = (tab ks vs).map (itemOf' pos)
  | [], [], _ => rfl
  | some (.Constant (.int i) a b) :: ks, .Constant (.str x) c d :: vs, h => by
    exact congrArg (fun l => itemOf' pos (i, x) :: l) (items_eq env pos ks vs h)
  | [], _ :: _, h => by simp [okPairs] at h
  | none :: _, _, h => by simp [okPairs] at h
  | some (.Constant (.int _) _ _) :: _, [], h => by simp [okPairs] at h
theorem ok_tab : okPairs dKeys dVals = true := by kernel_rfl
theorem tab_parts : tabAll = ch0 ++ (chs.flatten ++ chz) := by kernel_rfl
theorem ch0_len : ch0.length = 17 := by kernel_rfl
theorem chs_len : chs.length = 37 := by kernel_rfl
theorem chz_len : chz.length = 4 := by kernel_rfl
theorem tab_len : tabAll.length = 650 := by kernel_rfl
theorem chs_17b : chs.all (fun l => l.length == 17) = true := by kernel_rfl
theorem chs_17 : ∀ l ∈ chs, l.length = 17 := fun l hl => by simpa using List.all_eq_true.mp chs_17b l hl
/-- rising, from 0 on -/
def rising : Int → List Int → Bool
  | _, [] => true
  | a, b :: r => decide (a < b) && rising b r
theorem rising_nodup : ∀ (a : Int) (l : List Int), rising a l = true → (∀ x ∈ l, a < x) ∧ l.Nodup
  | _, [], _ => ⟨(fun _ h => nomatch h), List.nodup_nil⟩
  | a, b :: r, h => by
    obtain ⟨h1, h2⟩ := Bool.and_eq_true_iff.mp h
    obtain ⟨i1, i2⟩ := rising_nodup b r h2
    have h1 := of_decide_eq_true h1
    refine ⟨fun x hx => ?_, List.nodup_cons.mpr ⟨fun q => absurd (i1 b q) (Int.lt_irrefl b), i2⟩⟩
    rcases List.mem_cons.mp hx with rfl | hx
    · exact h1
    · exact Int.lt_trans h1 (i1 x hx)
theorem tab_risingb : rising 112 (tabAll.map fun y => hashInt y.1) = true := by kernel_rfl
theorem tab_nodup : (tabAll.map fun y => hashInt y.1).Nodup := (rising_nodup _ _ tab_risingb).2
theorem disp_heap (w : World) (os : OsState) : dispEnd (st_S5 w os).abs.heap 268 ch0 chs chz = ((st_D w os).abs.heap, entsAll, 2218) := by kernel_rfl

theorem exec_assign (ts : List Expr) (v : Expr) (p : Pos) (env : Env) : exec (.Assign ts v p) env = (do
    standAt p
    if ← swapsWithSole ts v p.line env then do
      evalThenUse v env fun x => assignAll x ((assignEach ts env).map (·.2))
      pure .next
    else do
      let x ← eval v env
      assignStores env x (← swappedStores ts v env) ((assignEach ts env).map (·.2))) := by kernel_rfl
theorem eval_dict (ks : List (Option Expr)) (vs : List Expr) (p : Pos) (env : Env) : eval (.Dict ks vs p) env = (do
    standAt p
    dictDisplay ((evalEachOpt ks env).zip ((evalEach vs env).map fun v => do let x ← v; standAt p; pure x))) := by kernel_rfl
def dTg : List Expr := match stAt 5 with | .Assign ts _ _ => ts | _ => []
def dStP : Pos := match stAt 5 with | .Assign _ _ p => p | _ => ⟨0, 0, 0, 0⟩
theorem d_st : stAt 5 = .Assign dTg (.Dict dKeys dVals dPos) dStP := by kernel_rfl
theorem d_swap : swapsWithSole dTg (.Dict dKeys dVals dPos) dStP.line env0 = (pure false : Sem Bool) := by kernel_rfl
theorem go_tail (w : World) (os : OsState) : Go pw w 11 ann0 bd env0 po0 (do
      let sw ← swappedStores dTg (.Dict dKeys dVals dPos) env0
      assignStores env0 (.ref 40) sw ((assignEach dTg env0).map (·.2))) (st_D w os).abs dPos 7 .next (st_S6 w os).abs ⟨14, 0, 14, 13⟩ := fun K H gd lv N r h => by
  refine Eq.trans (b := topRun treeTable pw w 11 ann0 N (st_S6 w os).abs ⟨K .next, .body bd env0, ⟨14, 0, 14, 13⟩, [topFrame po0]⟩) ?_ h
  kernel_rfl
theorem go_D (w : World) (os : OsState) : Go pw w 11 ann0 bd env0 po0 (exec (stAt 5) env0) (st_S5 w os).abs ⟨12, 0, 13, 30⟩ 12524 .next (st_S6 w os).abs ⟨14, 0, 14, 13⟩ := by
  have key := Go.display (prog := pw) (w := w) (n₀ := 11) (ann := ann0) (b := bd) (env := env0) (q := po0) (s := (st_S5 w os).abs) (pos := dPos) (l0 := ch0) (ls := chs) (lz := chz) (k := 12515)
    (items := (evalEachOpt dKeys env0).zip ((evalEach dVals env0).map fun v => (do let x ← v; standAt dPos; pure x : Sem Value)))
    (by rw [items_eq env0 dPos _ _ ok_tab, ← List.map_append, ← List.map_append]; exact congrArg _ tab_parts) ch0_len chs_17 (by rw [chz_len]; decide) (by intro q; have := chz_len; rw [q] at this; cases this)
    (by rw [List.append_assoc, ← tab_parts]; exact tab_nodup) (by rw [List.append_assoc, ← tab_parts, tab_len]; decide) (by kernel_rfl) (by show sysModules < (absHeap _ 40 _).objs.size; rw [absHeap_size]; decide) (by rw [chs_len, chz_len])
  rw [show (st_S5 w os).abs.toks = 268 from rfl, disp_heap w os] at key
  rw [d_st, exec_assign]
  refine Go.seq (m := 12523) Go.standAt (Go.seq (m := 12523) (.of_eq d_swap (Go.pure _)) ?_ rfl) rfl
  rw [if_neg Bool.false_ne_true]
  refine Go.seq (n := 12516) (m := 7) (a := .ref 40) (s' := (st_D w os).abs) (p' := dPos) ?_ (go_tail w os) rfl
  rw [eval_dict]
  exact Go.seq Go.standAt key rfl
end Mine
end
section
open PySem PySem.W PyProof.Rows PySem.Calls
set_option maxRecDepth 100000
namespace Mine
theorem bd_parts : bd = [stAt 0, stAt 1, stAt 2] ++ ([stAt 3] ++ ([stAt 4] ++ (stAt 5 :: ([stAt 6, stAt 7, stAt 8, stAt 9, stAt 10, stAt 11] ++ [])))) := by kernel_rfl
theorem run_all (w : World) (os : OsState) : topRun treeTable pw w 11 ann0 (12 + (1 + (51 + (999 + (30 + ((153 + 2) + 12524)))))) ⟨boot_heap w.params, Array.mk [], boot_drawn, boot_toks, os⟩ (topStub pw) = some (st_S12 w os).abs := by
  have e := piece_app (env := env0) (q := po0) (c := cd0) (segRun_of (run_E w os)) (piece_nil (run_fin w os))
  have d := go_D w os (fun f => match f with | .next => (execs ([stAt 6, stAt 7, stAt 8, stAt 9, stAt 10, stAt 11] ++ []) env0).wrap doneF (leaveH env0) id id | f => doneF f) (leaveH env0) id id (153 + 2) _ e
  have d' : topRun treeTable pw w 11 ann0 ((153 + 2) + 12524) (st_S5 w os).abs (restOf (stAt 5 :: ([stAt 6, stAt 7, stAt 8, stAt 9, stAt 10, stAt 11] ++ [])) env0 cd0 ⟨12, 0, 13, 30⟩ [topFrame po0]) = some (st_S12 w os).abs := by
    unfold restOf
    rw [execs_cons_wrap]
    exact d
  have c := piece_app (env := env0) (q := po0) (c := cd0) (segRun_of (run_C w os)) d'
  have b := piece_app (env := env0) (q := po0) (c := cd0) (segRun_of (congrFun (run_B w) os)) c
  have a := piece_app (env := env0) (q := po0) (c := cd0) (segRun_of (run_A w os)) b
  rw [← bd_parts] at a
  exact go_top (run_pre w os) (piece_block (run_block w os) a)
end Mine
end
section
open PySem PySem.W PyProof.Rows PySem.Calls
set_option maxRecDepth 100000
namespace Mine
noncomputable def myK : Params → Frag :=
  (fun (x1 : Stmt) (y1 : List Stmt) (ka1 : ScopeKind) (kb1 : List (Str × NameKind)) (kc1 kd1 : Bool) (ke1 : List (Str × Const)) (pa1 pb1 : List Arg) (pc1 : Option Arg) (pd1 : List Arg) (pe1 : List (Option Expr)) (pf1 : Option Arg) (pg1 : List Expr) (x4 : Stmt) (y4 : List Stmt) (ka4 : ScopeKind) (kb4 : List (Str × NameKind)) (kc4 kd4 : Bool) (ke4 : List (Str × Const)) (pa4 pb4 : List Arg) (pc4 : Option Arg) (pd4 : List Arg) (pe4 : List (Option Expr)) (pf4 : Option Arg) (pg4 : List Expr) (x6 : Stmt) (y6 : List Stmt) (ka6 : ScopeKind) (kb6 : List (Str × NameKind)) (kc6 kd6 : Bool) (ke6 : List (Str × Const)) (pa6 pb6 : List Arg) (pc6 : Option Arg) (pd6 : List Arg) (pe6 : List (Option Expr)) (pf6 : Option Arg) (pg6 : List Expr) (x8 : Stmt) (y8 : List Stmt) (ka8 : ScopeKind) (kb8 : List (Str × NameKind)) (kc8 kd8 : Bool) (ke8 : List (Str × Const)) (pa8 pb8 : List Arg) (pc8 : Option Arg) (pd8 : List Arg) (pe8 : List (Option Expr)) (pf8 : Option Arg) (pg8 : List Expr) (x9 : Stmt) (y9 : List Stmt) (ka9 : ScopeKind) (kb9 : List (Str × NameKind)) (kc9 kd9 : Bool) (ke9 : List (Str × Const)) (pa9 pb9 : List Arg) (pc9 : Option Arg) (pd9 : List Arg) (pe9 : List (Option Expr)) (pf9 : Option Arg) (pg9 : List Expr) (x10 : Stmt) (y10 : List Stmt) (ka10 : ScopeKind) (kb10 : List (Str × NameKind)) (kc10 kd10 : Bool) (ke10 : List (Str × Const)) (pa10 pb10 : List Arg) (pc10 : Option Arg) (pd10 : List Arg) (pe10 : List (Option Expr)) (pf10 : Option Arg) (pg10 : List Expr) (x11 : Stmt) (y11 : List Stmt) (ka11 : ScopeKind) (kb11 : List (Str × NameKind)) (kc11 kd11 : Bool) (ke11 : List (Str × Const)) (pa11 pb11 : List Arg) (pc11 : Option Arg) (pd11 : List Arg) (pe11 : List (Option Expr)) (pf11 : Option Arg) (pg11 : List Expr) (_ : fBod 1 = x1 :: y1) (_ : fSco 1 = ⟨ka1, kb1, kc1, kd1, ke1⟩) (_ : fPar 1 = ⟨pa1, pb1, pc1, pd1, pe1, pf1, pg1⟩) (_ : fBod 4 = x4 :: y4) (_ : fSco 4 = ⟨ka4, kb4, kc4, kd4, ke4⟩) (_ : fPar 4 = ⟨pa4, pb4, pc4, pd4, pe4, pf4, pg4⟩) (_ : fBod 6 = x6 :: y6) (_ : fSco 6 = ⟨ka6, kb6, kc6, kd6, ke6⟩) (_ : fPar 6 = ⟨pa6, pb6, pc6, pd6, pe6, pf6, pg6⟩) (_ : fBod 8 = x8 :: y8) (_ : fSco 8 = ⟨ka8, kb8, kc8, kd8, ke8⟩) (_ : fPar 8 = ⟨pa8, pb8, pc8, pd8, pe8, pf8, pg8⟩) (_ : fBod 9 = x9 :: y9) (_ : fSco 9 = ⟨ka9, kb9, kc9, kd9, ke9⟩) (_ : fPar 9 = ⟨pa9, pb9, pc9, pd9, pe9, pf9, pg9⟩) (_ : fBod 10 = x10 :: y10) (_ : fSco 10 = ⟨ka10, kb10, kc10, kd10, ke10⟩) (_ : fPar 10 = ⟨pa10, pb10, pc10, pd10, pe10, pf10, pg10⟩) (_ : fBod 11 = x11 :: y11) (_ : fSco 11 = ⟨ka11, kb11, kc11, kd11, ke11⟩) (_ : fPar 11 = ⟨pa11, pb11, pc11, pd11, pe11, pf11, pg11⟩) => fun (P : Params) => ((
    (nat_lit 2, (boot_o_2 P : Obj)) ::
    (nat_lit 3, (ob_3_S12 P : Obj)) ::
    (nat_lit 6, (boot_o_6 P : Obj)) ::
    (nat_lit 15, (ob_15 P : Obj)) ::
    (nat_lit 17, (ob_17 P : Obj)) ::
    (nat_lit 18, (ob_18 P : Obj)) ::
    (nat_lit 20, (ob_20 P : Obj)) ::
    (nat_lit 21, (⟨(.type "function"), none, (.func { name := (Str.ofString "Int2AP"), qualname := (Str.ofString "Int2AP"), params := ⟨pa1, pb1, pc1, pd1, pe1, pf1, pg1⟩, body := .stmts (x1 :: y1), scope := ⟨ka1, kb1, kc1, kd1, ke1⟩, globals := 3, closure := [], defaults := .none, kwdefaults := .none, doc := .none, pyModule := (.str (Str.ofString "cpy313.imaplib") 187), annotations := none, code := (.ref 20), closureTuple := .none, builtins := 0 }), #[]⟩ : Obj)) ::
    (nat_lit 29, (ob_29 P : Obj)) ::
    (nat_lit 33, (ob_33 P : Obj)) ::
    (nat_lit 35, (ob_35 P : Obj)) ::
    (nat_lit 36, (ob_36 P : Obj)) ::
    (nat_lit 38, (ob_38 P : Obj)) ::
    (nat_lit 39, (⟨(.type "function"), none, (.func { name := (Str.ofString "in_table_b1"), qualname := (Str.ofString "in_table_b1"), params := ⟨pa4, pb4, pc4, pd4, pe4, pf4, pg4⟩, body := .stmts (x4 :: y4), scope := ⟨ka4, kb4, kc4, kd4, ke4⟩, globals := 3, closure := [], defaults := .none, kwdefaults := .none, doc := .none, pyModule := (.str (Str.ofString "cpy313.stringprep") 199), annotations := none, code := (.ref 38), closureTuple := .none, builtins := 0 }), #[]⟩ : Obj)) ::
    (nat_lit 40, (obd_40 P : Obj)) ::
    (nat_lit 79, (ob_79 P : Obj)) ::
    (nat_lit 81, (ob_81 P : Obj)) ::
    (nat_lit 82, (ob_82 P : Obj)) ::
    (nat_lit 84, (ob_84 P : Obj)) ::
    (nat_lit 85, (⟨(.type "function"), none, (.func { name := (Str.ofString "map_table_b3"), qualname := (Str.ofString "map_table_b3"), params := ⟨pa6, pb6, pc6, pd6, pe6, pf6, pg6⟩, body := .stmts (x6 :: y6), scope := ⟨ka6, kb6, kc6, kd6, ke6⟩, globals := 3, closure := [], defaults := .none, kwdefaults := .none, doc := .none, pyModule := (.str (Str.ofString "cpy313.stringprep") 199), annotations := none, code := (.ref 84), closureTuple := .none, builtins := 0 }), #[]⟩ : Obj)) ::
    (nat_lit 86, (ob_86 P : Obj)) ::
    (nat_lit 88, (ob_88 P : Obj)) ::
    (nat_lit 89, (ob_89 P : Obj)) ::
    (nat_lit 91, (ob_91 P : Obj)) ::
    (nat_lit 92, (⟨(.type "function"), none, (.func { name := (Str.ofString "_law_careless"), qualname := (Str.ofString "_law_careless"), params := ⟨pa8, pb8, pc8, pd8, pe8, pf8, pg8⟩, body := .stmts (x8 :: y8), scope := ⟨ka8, kb8, kc8, kd8, ke8⟩, globals := 3, closure := [], defaults := .none, kwdefaults := .none, doc := .none, pyModule := (.str (Str.ofString "law_pk0087_02") 2227), annotations := none, code := (.ref 91), closureTuple := .none, builtins := 0 }), #[]⟩ : Obj)) ::
    (nat_lit 93, (ob_93 P : Obj)) ::
    (nat_lit 96, (ob_96 P : Obj)) ::
    (nat_lit 97, (⟨(.type "function"), none, (.func { name := (Str.ofString "_law_codes"), qualname := (Str.ofString "_law_codes"), params := ⟨pa9, pb9, pc9, pd9, pe9, pf9, pg9⟩, body := .stmts (x9 :: y9), scope := ⟨ka9, kb9, kc9, kd9, ke9⟩, globals := 3, closure := [], defaults := .none, kwdefaults := .none, doc := .none, pyModule := (.str (Str.ofString "law_pk0087_02") 2227), annotations := none, code := (.ref 96), closureTuple := .none, builtins := 0 }), #[]⟩ : Obj)) ::
    (nat_lit 98, (ob_98 P : Obj)) ::
    (nat_lit 101, (ob_101 P : Obj)) ::
    (nat_lit 102, (⟨(.type "function"), none, (.func { name := (Str.ofString "_law_ruler"), qualname := (Str.ofString "_law_ruler"), params := ⟨pa10, pb10, pc10, pd10, pe10, pf10, pg10⟩, body := .stmts (x10 :: y10), scope := ⟨ka10, kb10, kc10, kd10, ke10⟩, globals := 3, closure := [], defaults := .none, kwdefaults := .none, doc := .none, pyModule := (.str (Str.ofString "law_pk0087_02") 2227), annotations := none, code := (.ref 101), closureTuple := .none, builtins := 0 }), #[]⟩ : Obj)) ::
    (nat_lit 103, (ob_103 P : Obj)) ::
    (nat_lit 106, (ob_106 P : Obj)) ::
    (nat_lit 107, (⟨(.type "function"), none, (.func { name := (Str.ofString "law"), qualname := (Str.ofString "law"), params := ⟨pa11, pb11, pc11, pd11, pe11, pf11, pg11⟩, body := .stmts (x11 :: y11), scope := ⟨ka11, kb11, kc11, kd11, ke11⟩, globals := 3, closure := [], defaults := .none, kwdefaults := .none, doc := .none, pyModule := (.str (Str.ofString "law_pk0087_02") 2227), annotations := none, code := (.ref 106), closureTuple := .none, builtins := 0 }), #[]⟩ : Obj)) :: []) : Frag)) _ _ _ _ _ _ _ _ _ _ _ _ _ _ _ _ _ _ _ _ _ _ _ _ _ _ _ _ _ _ _ _ _ _ _ _ _ _ _ _ _ _ _ _ _ _ _ _ _ _ _ _ _ _ _ _ _ _ _ _ _ _ _ _ _ _ _ _ _ _ _ _ _ _ _ _ _ _ _ _ _ _ _ _ _ _ _ _ _ _ _ _ _ _ _ _ _ _ rfl rfl rfl rfl rfl rfl rfl rfl rfl rfl rfl rfl rfl rfl rfl rfl rfl rfl rfl rfl rfl
def kAt : List Addr := [nat_lit 2, nat_lit 3, nat_lit 6, nat_lit 15, nat_lit 17, nat_lit 18, nat_lit 20, nat_lit 21, nat_lit 29, nat_lit 33, nat_lit 35, nat_lit 36, nat_lit 38, nat_lit 39, nat_lit 40, nat_lit 79, nat_lit 81, nat_lit 82, nat_lit 84, nat_lit 85, nat_lit 86, nat_lit 88, nat_lit 89, nat_lit 91, nat_lit 92, nat_lit 93, nat_lit 96, nat_lit 97, nat_lit 98, nat_lit 101, nat_lit 102, nat_lit 103, nat_lit 106, nat_lit 107]
theorem kAt_eq (P : Params) : kAt = (myK P).map (·.1) := by kernel_rfl
end Mine
end
section
open PySem PySem.W PyProof.Rows PySem.Calls
set_option maxRecDepth 100000
namespace Mine
/-- the text without its assignments: what the walk reads of the top beside myK -/
def qv : Program := { pw with main := { pw.main with body := [stAt 1, stAt 4, stAt 6, stAt 8, stAt 9, stAt 10, stAt 11] } }
abbrev rw0 : OpenLaw := PySem.Challenge.rw_pk0087_02
abbrev loose0 : List Str := [Str.ofString "b1_set", Str.ofString "b3_exceptions"]
noncomputable abbrev hk : Hook := kHook myK kAt kAt_eq
noncomputable abbrev H1 : Params → Heap := fun P => absHeap (tr_S12 P) 108 {}
abbrev xt0 : Shared → Bool := fun s => xlAt qv [] s && recOk (RowW.records rw0.row.toRowW) s
theorem l_open : ∀ w : World, (fencedOpening treeTable pw w 20000).map (fun s => (s.heap, s.gens, s.drawn, s.toks)) = some (boot_heap w.params, Array.mk [], boot_drawn, boot_toks) :=
  boot_open (by kernel_rfl) (by kernel_rfl) (fun _ => by kernel_rfl)
theorem l_size : ∀ w : World, ((boot_heap w.params).isNs mainGlobals && (Array.mk [] : Array GenState).size == 0, (boot_heap w.params).objs.size, (boot_heap w.params).nsMap mainGlobals "__annotations__") = (true, 11, ann0) := fun w => by kernel_rfl
theorem l_statics (w : World) : staticsOk (importedModules pw.main.body) (boot_heap w.params) (H1 w.params) = true := by kernel_rfl
theorem l_names (w : World) : namesBound pw (H1 w.params) = true := by kernel_rfl
theorem l_laid (w : World) : laidKept (boot_heap w.params) (H1 w.params) = true := by kernel_rfl
theorem l_Y (w : World) (os : OsState) : hk.obs (st_S12 w os).abs = hk.val w := by kernel_rfl
end Mine
end
section
open PySem PySem.W PyProof.Rows PySem.Calls
set_option maxRecDepth 100000
namespace Mine
theorem l_seen (w : World) (os : OsState) : openSeen qv loose0 (importedModules pw.main.body) xt0 true (st_S12 w os).abs = openGood qv loose0 := by
  unfold openSeen openGood
  refine looks_pair ?_ (looks_pair ?_ (looks_pair ?_ (looks_pair ?_ (looks_pair ?_ (looks_pair ?_ (looks_pair ?_ (looks_pair ?_ ?_)))))))
  · kernel_rfl
  · kernel_rfl
  · kernel_rfl
  · kernel_rfl
  · kernel_rfl
  · kernel_rfl
  · kernel_rfl
  · kernel_rfl
  · kernel_rfl
theorem left0 : LeftO pw qv loose0 xt0 hk.obs hk.val 20000 := by
  refine LeftO.of_pieces (H₀ := boot_heap) (H₁ := H1) (m₀ := 11) (ann := ann0) (gs₁ := #[]) (d₁ := boot_drawn) (k₁ := 2260) l_open l_size run_all (by kernel_rfl) (fun w => funext fun os => ?_)
  refine looks_pair ?_ (looks_pair (l_seen w os) (l_Y w os))
  rw [l_statics w, l_names w, l_laid w]
  rfl
end Mine
end
section
open PySem PySem.W PyProof.Rows PySem.Calls
set_option maxRecDepth 100000
namespace Mine
set_option maxHeartbeats 4000000 in
theorem head {d : DefRec} {kwd : List (Str × Expr)} (h1 : defOf qv rw0.row.name = some (d, kwd)) (h2 : rw0.row.prog.theDef rw0.row.name = some (d.params, d.body, d.scope)) (h3 : kwWritten? d.params.kwonlyargs d.params.kw_defaults = some kwd)
    (hw : rw0.row.toRowW.promised) (hc : WalkO qv loose0 (XL qv []) hk.says rw0.row.toRowW d kwd fun f vs => PySem.call f vs) : rw0.Holds := by
  o_law
  exact W.holds_open (q := qv) (loose := loose0) (Xt := xt0) (XP := XL qv []) (Yf := hk.obs) (Ya := hk.val) (YP := hk.says) (N := 20000) left0 hk.of hk.keeps (fun s e => xl_of s (Bool.and_eq_true_iff.mp e).1) XL.keeps h1 h2 h3 (fun s e => recFacts_of (Bool.and_eq_true_iff.mp e).2) (by rfl) (by assumption) (by decide +kernel) ⟨rfl, rfl, rfl, rfl, rfl, by decide +kernel⟩ hw hc
end Mine
end
section
open PySem PySem.W PyProof.Rows PySem.Calls
set_option maxRecDepth 100000
namespace Mine
/-- the letters of a number, the greatest figure first -/
def ap (n : Nat) : List UInt8 := if h : n = 0 then [] else ap (n / 16) ++ [UInt8.ofNat (65 + n % 16)]
termination_by n
decreasing_by omega
theorem ap_zero : ap 0 = [] := by rw [ap]; rfl
theorem ap_pos {n : Nat} (h : n ≠ 0) : ap n = ap (n / 16) ++ [UInt8.ofNat (65 + n % 16)] := by rw [ap, dif_neg h]
theorem ap_start (v : Int) : 0 ≤ (if v < 0 then -v else v) ∧ ap (if v < 0 then -v else v).toNat ++ (#[] : Array UInt8).toList = ap v.natAbs := by
  have e : (if v < 0 then -v else v).toNat = v.natAbs := by split <;> omega
  rw [e]
  exact ⟨by split <;> omega, by simp⟩
abbrev apB : Array UInt8 := #[65, 66, 67, 68, 69, 70, 71, 72, 73, 74, 75, 76, 77, 78, 79, 80]
theorem picked_ap : ∀ k : Fin 16, KBy.picked apB (some (k.val : Int)) (some ((k.val : Int) + 1)) = #[UInt8.ofNat (65 + k.val)] := by decide +kernel
theorem fmod16 (n : Int) : 0 ≤ n.fmod 16 ∧ n.fmod 16 < 16 := ⟨Int.fmod_nonneg_of_pos _ (by decide), Int.fmod_lt_of_pos _ (by decide)⟩
theorem ap_cut {prog : Program} {w : World} {A : Around} {E : Value → Shared → Prop} {s : Shared} {value slice : Expr} {t t1 t2 : Tok} {h₀ : Heap} {L : Addr} {m : Str → Option Value} {news : List (Addr × Obj)} {n : Int} {Q : Value → Shared → Prop}
    (hF : Fr h₀ L s.heap m) (hN : News h₀ L s.heap news)
    (h : ∀ h' t' k, Fr h₀ L h' m → News h₀ L h' news → Q (.bytes #[UInt8.ofNat (65 + (n.fmod 16).toNat)] t') { s with heap := h', toks := k })
    (hs : subscripted slice false (.bytes apB t) (.ref s.heap.objs.size) = operate [.ref s.heap.objs.size, .bytes apB t] (getItem (.bytes apB t) (.ref s.heap.objs.size)) := by with_unfolding_all rfl)
    (ht : ∀ r, letTemporaryGo value (.bytes apB t) r = pure () := by intro _; with_unfolding_all rfl) :
    wpAny (model prog w) A (subscriptTail value slice (.bytes apB t) (.ref s.heap.objs.size)) Q E { s with heap := s.heap.push { cls := .type "slice", data := .fields #[.int (n.fmod 16) t1, .int (n.fmod 16 + 1) t2, .none] } } := by
  have hb := fmod16 n
  refine KBc.slice_K (lo := some (n.fmod 16)) (hi := some (n.fmod 16 + 1)) hF hN rfl (.int _ _) (.int _ _) (by decide) (fun h' t' k F N _ => ?_) hs ht
  have e := picked_ap ⟨(n.fmod 16).toNat, by omega⟩
  have e2 : (((n.fmod 16).toNat : Nat) : Int) = n.fmod 16 := Int.toNat_of_nonneg hb.1
  simp only [e2] at e
  rw [e]
  exact h h' t' k F N
theorem ap_add {prog : Program} {w : World} {A : Around} {E : Value → Shared → Prop} {s : Shared} {x : UInt8} {b : Array UInt8} {t u : Tok} {Q : Value → Shared → Prop} (hz : b.size ≤ 1000)
    (h : ∀ t' k, Q (.bytes (#[x] ++ b) t') { s with toks := k }) : wpAny (model prog w) A (binaryOp .Add (.bytes #[x] t) (.bytes b u)) Q E s :=
  KBy.add_bytes (by simp only [List.size_toArray, List.length_cons, List.length_nil]; omega) h
theorem ap_turn {N : List UInt8} {n : Int} {b : Array UInt8} (h : 0 ≤ n ∧ ap n.toNat ++ b.toList = N) (hn : ¬ n = 0) : 0 ≤ n.fdiv 16 ∧ ap (n.fdiv 16).toNat ++ (#[UInt8.ofNat (65 + (n.fmod 16).toNat)] ++ b).toList = N := by
  obtain ⟨h0, h1⟩ := h
  have e1 : n.fdiv 16 = n / 16 := Int.fdiv_eq_ediv_of_nonneg _ (by decide)
  have e2 : n.fmod 16 = n % 16 := Int.fmod_eq_emod_of_nonneg _ (by decide)
  refine ⟨by rw [e1]; omega, ?_⟩
  rw [← h1, ap_pos (n := n.toNat) (by omega), e1, e2]
  have e3 : (n / 16).toNat = n.toNat / 16 := by omega
  have e4 : (n % 16).toNat = n.toNat % 16 := by omega
  rw [e3, e4]
  simp
theorem ap_less {n : Int} (h : 0 ≤ n) (hn : n ≠ 0) : (n.fdiv 16).toNat < n.toNat := by
  have e1 : n.fdiv 16 = n / 16 := Int.fdiv_eq_ediv_of_nonneg _ (by decide)
  rw [e1]; omega
theorem ap_size {N : List UInt8} {n : Int} {b : Array UInt8} (h : 0 ≤ n ∧ ap n.toNat ++ b.toList = N) (hN : N.length ≤ 1000) : b.size ≤ 1000 := by
  have := congrArg List.length h.2
  rw [List.length_append] at this
  have e : b.toList.length = b.size := Array.length_toList
  omega
theorem ap_end {N : List UInt8} {n : Int} {b : Array UInt8} (h : 0 ≤ n ∧ ap n.toNat ++ b.toList = N) (hn : n = 0) : b = N.toArray := by
  rw [hn] at h
  rw [← h.2, Int.toNat_zero, ap_zero]; simp
local macro_rules | `(tactic| walk_at "exec While") => `(tactic| k_extra "my while")
local macro_rules | `(tactic| walk_at "exec While Name") => `(tactic| k_extra "my while")
local macro_rules | `(tactic| walk_at "subscriptTail") => `(tactic| (k_here; (with_reducible show wpAny _ _ (subscriptTail _ (Expr.Slice _ _ none _) (Value.bytes _ _) (Value.ref _)) _ _ _); (with_reducible rename Fr _ _ _ _ => F'); (with_reducible rename News _ _ _ _ => N'); (refine ap_cut (s := ⟨_, _, _, _, _⟩) F' N' ?_); intro _ _ _ F' N'))
local macro_rules | `(tactic| walk_at "binaryOp Add bytes bytes") => `(tactic| (k_here; refine ap_add (ap_size ⟨by assumption, by assumption⟩ (by assumption)) ?_; intro _ _))
set_option maxHeartbeats 8000000 in
theorem c_int2ap (w : World) (mean : ExcName → Option Value) (mg mb : Str → Option Value) (v : Int) (tv : Tok) (news : List (Addr × Obj)) :
    CbClaim rw0.row.prog w (myK w.params) qv loose0 mean mg mb 21 news [] ((ap v.natAbs).length ≤ 1000) [.int v tv] (fun t => .bytes (ap v.natAbs).toArray t) := by
  k_fill
  dsimp only [CbClaim, CbLists, CbRet]
  intros
  rename_i hret
  have cbI : CbIn 21 := CbIn.mk
  k_with "state" => first | exact ap_start _ | exact ap_turn ⟨by assumption, by assumption⟩ (by assumption)
  k_with "measure" => exact ap_less (by assumption) (by assumption)
  k_with "my while" => k_while (fun _ n b => 0 ≤ n ∧ ap n.toNat ++ b.toList = ap v.natAbs) (fun _ n _ => n.toNat) "num" "val"
  refine wpAny_call ?_
  k_dflt cell_enter
  k_steps
  all_goals first
    | (have e := ap_end ⟨by assumption, by assumption⟩ (by assumption); rw [e]; exact hret _ _ _ (by assumption) (by assumption))
    | ksw_close
end Mine
end
section
open PySem PySem.W PyProof.Rows PySem.Calls
set_option maxRecDepth 100000
namespace Mine
/-- the signs of the set b1_set, with their tokens -/
def b1P : List (Int × Nat) := [(65024, 217), (65025, 218), (65026, 219), (65027, 220), (65028, 221), (65029, 222), (6150, 203), (65030, 223), (65031, 224), (65032, 225), (65033, 226), (6155, 204), (6156, 205), (6157, 206), (8203, 207), (8204, 208), (8205, 209), (65034, 227), (65035, 228), (65036, 229), (65037, 230), (65038, 231), (65039, 232), (173, 201), (847, 202), (8288, 210), (65279, 211)]
def b1Has (k : Int) : Bool := b1P.any fun p => p.1 == k
def b1E : List (Int × Value) := b1P.map fun p => (p.1, .int p.1 p.2)
theorem b1_hash : ∀ p ∈ b1P, p.1 = hashInt p.1 := by decide +kernel
theorem b1_set {prog : Program} {w : World} {h : Heap} (X : (myK w.params).In h) : h.SetOf (intKind prog w) 29 b1Has 27 := by
  have X29 := X 29 (ob_29 w.params) rfl
  refine ⟨ob_29 w.params, b1E.toArray, _, _, X29, ⟨rfl, rfl, rfl⟩, rfl, ?_, fun k => ?_, by decide +kernel, by kernel_rfl, by decide +kernel⟩
  · intro e he
    obtain ⟨p, hp, rfl⟩ := List.mem_map.mp he
    exact ⟨⟨p.1, intKind_is prog w _ _, b1_hash p hp⟩, rfl⟩
  · unfold b1Has
    rw [List.any_eq_true]
    constructor
    · rintro ⟨p, hp, hk⟩
      exact ⟨_, List.mem_map.mpr ⟨p, hp, rfl⟩, by rw [← beq_iff_eq.mp hk]; exact intKind_is prog w _ _⟩
    · rintro ⟨e, he, hk⟩
      obtain ⟨p, hp, rfl⟩ := List.mem_map.mp he
      refine ⟨p, hp, ?_⟩
      have hk' : Value.isInt k (.int p.1 p.2) = true := hk
      simpa [Value.isInt] using hk'
theorem in_b1 {prog : Program} {w : World} {A : Around} {E : Value → Shared → Prop} {s : Shared} {h₀ : Heap} {L : Addr} {m : Str → Option Value} {k : Int} {t : Tok} {Q : Value → Shared → Prop} (F : Fr h₀ L s.heap m) (X : (myK w.params).In h₀)
    (h : Q (.bool (b1Has k)) { s with toks := s.toks + 1 }) : wpAny (model prog w) A (compareOp .In (.int k t) (.ref 29)) Q E s :=
  wpAny_inSet_of (knd := intKind prog w) (intKind_is prog w k t) rfl (b1_set (X.keeps F.keep)) h

/-- one sign as a text -/
abbrev sg (c : Nat) : Str := ⟨#[c]⟩
local macro_rules | `(tactic| walk_at "compareOp In int ref") => `(tactic| (k_here; k_dflt (refine in_b1 (by k_asm) (by k_asm) ?_)))
set_option maxHeartbeats 8000000 in
theorem c_b1 (w : World) (mean : ExcName → Option Value) (mg mb : Str → Option Value) (c : Nat) (tv : Tok) (news : List (Addr × Obj)) :
    CbClaim rw0.row.prog w (myK w.params) qv loose0 mean mg mb 39 news [] True [.str (sg c) tv] (fun _ => .bool (b1Has c)) := by
  k_fill
  dsimp only [CbClaim, CbLists, CbRet]
  intros
  rename_i hret
  have cbI : CbIn 39 := CbIn.mk
  refine wpAny_call ?_
  k_dflt cell_enter
  k_steps
  all_goals exact hret 0 _ _ (by assumption) (by assumption)

/-- what the table b3_exceptions holds under k -/
def b3Find (k : Int) : Option Value := findBy Value.isInt entsAll.toArray k
theorem ents_keyed : ∀ (l : List (Int × Str)) (t : Nat), ∀ e ∈ ents l t, ∃ k, Value.isInt k e.key = true ∧ e.hash = hashInt k
  | [], _, _, h => nomatch h
  | (i, _) :: r, t, e, h => by
    rcases List.mem_cons.mp h with rfl | h
    · exact ⟨i, by simp [Value.isInt], rfl⟩
    · exact ents_keyed r _ e h
theorem entsS_keyed' : ∀ (l : List (Int × Str)) (t : Nat), ∀ e ∈ entsS l t, ∃ k, Value.isInt k e.key = true ∧ e.hash = hashInt k
  | [], _, _, h => nomatch h
  | (i, _) :: r, t, e, h => by
    rcases List.mem_cons.mp h with rfl | h
    · exact ⟨i, by simp [Value.isInt], rfl⟩
    · exact entsS_keyed' r _ e h
theorem b3_map {prog : Program} {w : World} {h : Heap} (X : (myK w.params).In h) : h.MapOf (intKind prog w) 40 b3Find := by
  have X40 := X 40 (obd_40 w.params) rfl
  refine ⟨obd_40 w.params, entsAll.toArray, 650, X40, ⟨rfl, rfl, rfl⟩, rfl, ?_, fun k => rfl⟩
  intro e he
  rcases List.mem_append.mp (List.mem_toArray.mp he) with he | he
  · exact ents_keyed _ _ e he
  · exact entsS_keyed' _ _ e he
theorem get_b3 {prog : Program} {w : World} {A : Around} {E : Value → Shared → Prop} {s : Shared} {h₀ : Heap} {L : Addr} {m : Str → Option Value} {k : Int} {t : Tok} {Q : Value → Shared → Prop} (F : Fr h₀ L s.heap m) (X : (myK w.params).In h₀)
    {r : Option Value} (hr : b3Find k = r) (h : Q (r.getD .none) { s with toks := s.toks + 1 }) : wpAny (model prog w) A (call (.builtin "dict.get") [.ref 40, .int k t]) Q E s :=
  have hm := b3_map (prog := prog) (X.keeps F.keep)
  call_meetsIn PySem.F.slot_dict_get hm.typeIs PySem.F.entry_dict_get (PySem.F.args_dict_get_2 _ _) (meets_dict_get (intKind prog w) 40 (intKind_is prog w k t) (by decide)) ⟨_, hm, by rw [hr]; exact h⟩
theorem method_b3 {prog : Program} {w : World} {A : Around} {E : Value → Shared → Prop} {s : Shared} {h₀ : Heap} {L : Addr} {m : Str → Option Value} {pl : Sem Bool} {Q : Value × List Value → Shared → Prop} (F : Fr h₀ L s.heap m) (X : (myK w.params).In h₀)
    (h : Q (.builtin "dict.get", [.ref 40]) s) : wpAny (model prog w) A (getMethod (.ref 40) "get" pl) Q E s :=
  have hm := b3_map (prog := prog) (X.keeps F.keep)
  getMethod_builtin hm.typeIs PySem.F.plainAttrs_dict PySem.F.slot_dict_get PySem.F.type_dict_get hm.noDict h
/-- where the twelve alphabets begin -/
def alph : List Nat := [97, 65, 119808, 119860, 119912, 120016, 120172, 120224, 120276, 120328, 120380, 120432]
/-- what is asked of the table, rising: the ten alphabets' sixteen letters -/
def req : List (Int × Nat) := (List.range 10).flatMap fun i => (List.range 16).map fun j => (((alph.getD (i + 2) 0 + j : Nat) : Int), j)
def subT : List (Int × Nat) → List (Int × Str) → Bool
  | [], _ => true
  | _, [] => false
  | (k, j) :: r, (k', x) :: t => if k == k' then decide (x = sg (97 + j)) && subT r t else subT ((k, j) :: r) t
theorem subT_mem : ∀ (t : List (Int × Str)) (r : List (Int × Nat)), subT r t = true → ∀ p ∈ r, (p.1, sg (97 + p.2)) ∈ t
  | [], r, h, p, hp => by cases r with | nil => cases hp | cons _ _ => simp [subT] at h
  | (k', x) :: t, r, h, p, hp => by
    cases r with
    | nil => cases hp
    | cons q r =>
      obtain ⟨k, j⟩ := q
      unfold subT at h
      by_cases hk : (k == k') = true
      · rw [if_pos hk] at h
        obtain ⟨h1, h2⟩ := Bool.and_eq_true_iff.mp h
        rcases List.mem_cons.mp hp with rfl | hp
        · rw [of_decide_eq_true h1, beq_iff_eq.mp hk]; exact .head _
        · exact .tail _ (subT_mem t r h2 p hp)
      · rw [if_neg hk] at h
        exact .tail _ (subT_mem t ((k, j) :: r) h p hp)
theorem tab_sub : subT req tabAll = true := by kernel_rfl
theorem find_ents {x : Str} {k : Int} : ∀ (l : List (Int × Str)) (t : Nat), (l.map (·.1)).Nodup → (k, x) ∈ l → ∃ tok, ((ents l t).find? fun e => Value.isInt k e.key).map (·.val) = some (.str x tok)
  | [], _, _, h => nomatch h
  | (i, y) :: r, t, hn, h => by
    rw [List.map_cons, List.nodup_cons] at hn
    rcases List.mem_cons.mp h with e | h
    · cases e; exact ⟨t + 1, by simp [ents, Value.isInt]⟩
    · have hne : i ≠ k := fun q => hn.1 (q ▸ List.mem_map_of_mem (f := (·.1)) h)
      obtain ⟨tok, e⟩ := find_ents r (t + 3) hn.2 h
      exact ⟨tok, by rw [← e, ents, List.find?_cons_of_neg (by simpa [Value.isInt] using hne)]⟩
theorem find_entsS {x : Str} {k : Int} : ∀ (l : List (Int × Str)) (t : Nat), (l.map (·.1)).Nodup → (k, x) ∈ l → ∃ tok, ((entsS l t).find? fun e => Value.isInt k e.key).map (·.val) = some (.str x tok)
  | [], _, _, h => nomatch h
  | (i, y) :: r, t, hn, h => by
    rw [List.map_cons, List.nodup_cons] at hn
    rcases List.mem_cons.mp h with e | h
    · cases e; exact ⟨t + 1, by simp [entsS, Value.isInt]⟩
    · have hne : i ≠ k := fun q => hn.1 (q ▸ List.mem_map_of_mem (f := (·.1)) h)
      obtain ⟨tok, e⟩ := find_entsS r (t + 2) hn.2 h
      exact ⟨tok, by rw [← e, entsS, List.find?_cons_of_neg (by simpa [Value.isInt] using hne)]⟩
theorem nofind_ents {k : Int} : ∀ (l : List (Int × Str)) (t : Nat), (∀ y ∈ l, y.1 ≠ k) → ((ents l t).find? fun e => Value.isInt k e.key) = none
  | [], _, _ => rfl
  | (i, y) :: r, t, h => by
    rw [ents, List.find?_cons_of_neg (by simpa [Value.isInt] using h _ (.head _))]
    exact nofind_ents r _ fun y hy => h y (.tail _ hy)
theorem nofind_entsS {k : Int} : ∀ (l : List (Int × Str)) (t : Nat), (∀ y ∈ l, y.1 ≠ k) → ((entsS l t).find? fun e => Value.isInt k e.key) = none
  | [], _, _ => rfl
  | (i, y) :: r, t, h => by
    rw [entsS, List.find?_cons_of_neg (by simpa [Value.isInt] using h _ (.head _))]
    exact nofind_entsS r _ fun y hy => h y (.tail _ hy)
theorem tab_keys : (tabAll.map (·.1)).Nodup := by
  have h := tab_nodup
  rw [show (tabAll.map fun y => hashInt y.1) = (tabAll.map (·.1)).map hashInt from by rw [List.map_map]; rfl] at h
  exact List.Pairwise.imp (fun h q => h (congrArg hashInt q)) (List.pairwise_map.mp h)
theorem b3_split : tabAll = tabAll.take 646 ++ chz := (List.take_append_drop 646 tabAll).symm
theorem b3_some {k : Int} {x : Str} (h : (k, x) ∈ tabAll) : ∃ tok, b3Find k = some (.str x tok) := by
  have hn := tab_keys
  rw [b3_split, List.map_append] at hn
  obtain ⟨n1, n2, n3⟩ := List.nodup_append.mp hn
  unfold b3Find findBy entsAll
  rw [List.find?_toArray, List.find?_append]
  rw [b3_split] at h
  rcases List.mem_append.mp h with h | h
  · obtain ⟨tok, e⟩ := find_ents _ 268 n1 h
    refine ⟨tok, ?_⟩
    cases hf : (ents (tabAll.take 646) 268).find? fun e => Value.isInt k e.key with
    | none => rw [hf] at e; cases e
    | some y => rw [hf] at e; exact e
  · have hno := nofind_ents (k := k) (tabAll.take 646) 268 fun y hy q => n3 _ (List.mem_map_of_mem hy) k (List.mem_map_of_mem (f := (·.1)) h) q
    rw [hno]
    exact find_entsS _ 2206 n2 h
theorem b3_none {k : Int} (h0 : 0 ≤ k) (h1 : k ≤ 112) : b3Find k = none := by
  have hr := (rising_nodup _ _ tab_risingb).1
  have ne : ∀ y ∈ tabAll, y.1 ≠ k := fun y hy q => by
    have := hr _ (List.mem_map_of_mem (f := fun y : Int × Str => hashInt y.1) hy)
    rw [q] at this
    have e : hashInt k = k := by
      have e1 : rawHash k = k := by
        have hm : (k.natAbs : Int) % ((2 ^ 61 - 1 : Nat) : Int) = k := by
          rw [Int.emod_eq_of_lt (by omega) (by omega)]; omega
        unfold rawHash
        dsimp only
        rw [if_neg (show ¬ k < 0 by omega), hm, if_neg (by simp; omega)]
      unfold hashInt
      rw [e1, if_neg (by simp; omega)]
    rw [e] at this
    omega
  rw [b3_split] at ne
  unfold b3Find findBy entsAll
  rw [List.find?_toArray, List.find?_append, nofind_ents _ _ fun y hy => ne y (List.mem_append_left _ hy), nofind_entsS _ _ fun y hy => ne y (List.mem_append_right _ hy)]
  rfl
theorem b3_alph {i j : Nat} (hi : i < 12) (hj : j < 16) (h2 : 2 ≤ i) : ∃ tok, b3Find ((alph.getD i 0 + j : Nat) : Int) = some (.str (sg (97 + j)) tok) := by
  refine b3_some (subT_mem tabAll req tab_sub (((alph.getD i 0 + j : Nat) : Int), j) ?_)
  refine List.mem_flatMap.mpr ⟨i - 2, List.mem_range.mpr (by omega), List.mem_map.mpr ⟨j, List.mem_range.mpr hj, ?_⟩⟩
  rw [show i - 2 + 2 = i by omega]
local macro_rules | `(tactic| walk_at "getMethod ref") => `(tactic| (k_here; k_dflt (refine method_b3 (by k_asm) (by k_asm) ?_)))
local macro_rules | `(tactic| walk_at "call builtin:dict.get") => `(tactic| (k_here; k_dflt (refine get_b3 (by k_asm) (by k_asm) (by assumption) ?_); dsimp only [Option.getD]))
theorem len_sg (c : Nat) : (sg c).length ≤ 5592405 := by show (1 : Nat) ≤ 5592405; decide
local macro_rules | `(tactic| walk_at "call builtin:str.lower") => `(tactic| (k_here; (show wpAny _ _ (call (Value.builtin "str.lower") [Value.str (sg _) _]) _ _ _); (refine SCL.lower (len_sg _) ?_); intro _))
theorem low_sg : ∀ j : Fin 16, Txt.lower (sg (97 + j.val)) = sg (97 + j.val) ∧ Txt.lower (sg (65 + j.val)) = sg (97 + j.val) := by decide +kernel
set_option maxHeartbeats 8000000 in
theorem c_b3a (w : World) (mean : ExcName → Option Value) (mg mb : Str → Option Value) (c : Nat) (x : Str) (tx : Tok) (hB3 : b3Find (c : Int) = some (.str x tx)) (tv : Tok) (news : List (Addr × Obj)) :
    CbClaim rw0.row.prog w (myK w.params) qv loose0 mean mg mb 85 news [] True [.str (sg c) tv] (fun _ => .str x tx) := by
  k_fill
  dsimp only [CbClaim, CbLists, CbRet]
  intros
  rename_i hret
  have cbI : CbIn 85 := CbIn.mk
  refine wpAny_call ?_
  k_dflt cell_enter
  k_steps
  all_goals exact hret 0 _ _ (by assumption) (by assumption)
set_option maxHeartbeats 8000000 in
theorem c_b3b (w : World) (mean : ExcName → Option Value) (mg mb : Str → Option Value) (c : Nat) (hB3 : b3Find (c : Int) = none) (tv : Tok) (news : List (Addr × Obj)) :
    CbClaim rw0.row.prog w (myK w.params) qv loose0 mean mg mb 85 news [] True [.str (sg c) tv] (fun t => .str (Txt.lower (sg c)) t) := by
  k_fill
  dsimp only [CbClaim, CbLists, CbRet]
  intros
  rename_i hret
  have cbI : CbIn 85 := CbIn.mk
  refine wpAny_call ?_
  k_dflt cell_enter
  k_steps
  all_goals exact hret _ _ _ (by assumption) (by assumption)
/-- the folding of a letter in one of its twelve dresses -/
theorem c_b3 (w : World) (mean : ExcName → Option Value) (mg mb : Str → Option Value) {i j : Nat} (hi : i < 12) (hj : j < 16) (tv : Tok) (news : List (Addr × Obj)) {dp un : Nat} {gd : Option (List Code)} {cn : Str} {cs : Scope} {a : Addr} {ccd : Value} {cl : List (Str × Addr)} {outer : List Env} {A₀ : Around} {base h₀ : Heap} {L : Addr} {m : Str → Option Value} {s : Shared} {Q E : Value → Shared → Prop}
    (B : Below A₀ base outer h₀) (F : Fr h₀ L s.heap m) (X : (myK w.params).In h₀) (N : News h₀ L s.heap news) (T : Top qv loose0 mean mg mb h₀) (hk : cs.kind = .function) (hd : dp + 1 < recursionLimit) (hu : un + 8 < cLine)
    (hret : ∀ (t : Tok) (h' : Heap) (tk' : Nat), Fr h₀ L h' m → News h₀ L h' news → Q (.str (sg (97 + j)) t) { s with heap := h', toks := tk' }) :
    wpAny (model rw0.row.prog w) (ktrTop dp un gd cn cs L a ccd cl outer) (call (.ref 85) [.str (sg (alph.getD i 0 + j)) tv]) Q E s := by
  by_cases h2 : 2 ≤ i
  · obtain ⟨tok, e⟩ := b3_alph hi hj h2
    exact c_b3a w mean mg mb _ _ tok e tv news dp un gd cn cs a ccd cl outer A₀ base h₀ L m s Q E B F X N T hk trivial hd hu (fun _ h' tk' F' N' => hret tok h' tk' F' N')
  · have hlow : Txt.lower (sg (alph.getD i 0 + j)) = sg (97 + j) := by
      have := low_sg ⟨j, hj⟩
      rcases (show i = 0 ∨ i = 1 by omega) with rfl | rfl
      · exact this.1
      · exact this.2
    have hno : b3Find ((alph.getD i 0 + j : Nat) : Int) = none := by
      refine b3_none (by omega) ?_
      rcases (show i = 0 ∨ i = 1 by omega) with rfl | rfl
      · show ((97 + j : Nat) : Int) ≤ 112; omega
      · show ((65 + j : Nat) : Int) ≤ 112; omega
    have key := c_b3b w mean mg mb _ hno tv news dp un gd cn cs a ccd cl outer A₀ base h₀ L m s Q E B F X N T hk trivial hd hu
    rw [hlow] at key
    exact key hret
end Mine
end
section
open PySem PySem.W PyProof.Rows PySem.Calls Builtin
set_option maxRecDepth 100000
namespace Mine
section
variable {prog : Program} {w : World} {A : Around} {E : Value → Shared → Prop} {s : Shared}
theorem nextOf_item {it : Addr} {b : Array UInt8} {t : Tok} {i : Nat} {c : UInt8} {Q : Value → Shared → Prop} (hit : KBw.IsBytesIter s.heap it b t i) (hx : b[i]? = some c)
    (hQ : ∀ h', KBw.IsBytesIter h' it b t (i + 1) → Heap.SameBut it s.heap h' → Q (.int (c.toNat : Int) s.toks) { s with heap := h', toks := s.toks + 1 }) :
    wpAny (model prog w) A (Builtin.SmallTypes.nextOf (.ref it)) Q E s := by
  obtain ⟨o, ho, hc, hd⟩ := id hit
  unfold Builtin.SmallTypes.nextOf
  refine wpAny_bind (wpAny_callSpecial?_slot (name := Str.ofString "__next__") (KBw.iter_typeIs hit) KBw.slot_next
    (wpAny_call_entry KBw.slot_next (KBw.iter_typeIs hit) KBw.entry_next ?_ (KBw.args_next _)))
  show wpAny _ _ (field (.ref it) 0 >>= _) _ _ s
  refine wpAny_bind (wpAny_field ho hd (x := .bytes b t) rfl ?_)
  show wpAny _ _ (if (Value.bytes b t == Value.none) = true then _ else _) _ _ s
  rw [if_neg (show ¬ ((Value.bytes b t == Value.none) = true) from Bool.false_ne_true)]
  show wpAny _ _ (field (.ref it) 1 >>= _) _ _ s
  refine wpAny_bind (wpAny_field ho hd (x := .int i 0) rfl ?_)
  refine wpAny_bind (wpAny_of_eq (a := b) rfl ?_)
  simp only [Int.toNat_natCast, hx]
  refine wpAny_bind (wpAny_setField ho hd (by simp) (wpAny_bind (wpAny_mkInt (wpAny_pure ⟨_, rfl, wpAny_pure (hQ _ ?_ (Heap.SameBut.update ..))⟩))))
  exact ⟨_, Heap.get?_update_self _ ho (Obj.isFreed_of_fields (Obj.data_mapFields hd _)), (Obj.cls_mapFields ..).trans hc, by
    rw [Obj.data_mapFields hd]; simp [rawInt]⟩
theorem nextOf_end {it : Addr} {b : Array UInt8} {t : Tok} {i : Nat} {Q : Value → Shared → Prop} (hh : A.handled = none) (hit : KBw.IsBytesIter s.heap it b t i) (hx : b[i]? = none)
    (hE : ∀ h' e, Heap.ExtBut it s.heap h' → (∃ o, h'.get? e = some o ∧ o.cls = .type "StopIteration") → E (.ref e) { s with heap := h' }) :
    wpAny (model prog w) A (Builtin.SmallTypes.nextOf (.ref it)) Q E s := by
  obtain ⟨o, ho, hc, hd⟩ := id hit
  unfold Builtin.SmallTypes.nextOf
  refine wpAny_bind (wpAny_callSpecial?_slot (name := Str.ofString "__next__") (KBw.iter_typeIs hit) KBw.slot_next
    (wpAny_call_entry KBw.slot_next (KBw.iter_typeIs hit) KBw.entry_next ?_ (KBw.args_next _)))
  show wpAny _ _ (field (.ref it) 0 >>= _) _ _ s
  refine wpAny_bind (wpAny_field ho hd (x := .bytes b t) rfl ?_)
  show wpAny _ _ (if (Value.bytes b t == Value.none) = true then _ else _) _ _ s
  rw [if_neg (show ¬ ((Value.bytes b t == Value.none) = true) from Bool.false_ne_true)]
  show wpAny _ _ (field (.ref it) 1 >>= _) _ _ s
  refine wpAny_bind (wpAny_field ho hd (x := .int i 0) rfl ?_)
  refine wpAny_bind (wpAny_of_eq (a := b) rfl ?_)
  simp only [Int.toNat_natCast, hx]
  refine wpAny_bind (wpAny_rule (wpAny_bind (wpAny_setField ho hd (by simp) ?_)))
  show wpAny _ _ (newExc (.type "StopIteration") [] >>= _) _ _ _
  refine wpAny_bind ?_
  simp only [newExc, newTuple]
  refine wpAny_bind (wpAny_newObj_type ?_ (by size_fits))
  refine wpAny_bind (m := firstArgMember _ _) (wpAny_of_eq (a := Value.none) (by first | rfl | (simp only [firstArgMember]; rfl)) ?_)
  refine wpAny_newObj_type ?_ (by size_fits)
  simp only [raiseNew]
  refine wpAny_bind (wpAny_handled ?_)
  rw [show A.in1.handled = none from hh]
  refine wpAny_bind (wpAny_pure (wpAny_throw ?_))
  exact hE _ _ (((Heap.SameBut.update ..).extBut.push _).push _) ⟨_, Heap.get?_push_size _ rfl, rfl⟩
end
theorem drawsBytes {prog : Program} {w : World} {A : Around} (hh : A.handled = none) (it : Addr) (b : Array UInt8) (t : Tok) :
    Draws prog w A it [it] b.size (fun i v => ∃ c u, b[i]? = some c ∧ v = .int (c.toNat : Int) u) (fun i h => KBw.IsBytesIter h it b t i) where
  live := fun _ _ st => let ⟨o, ho, _⟩ := st; ⟨o, ho⟩
  frame := fun _ _ _ st hk => let ⟨o, ho, r⟩ := st; ⟨o, hk it (by simp) o ho, r⟩
  item := fun i s Q E hi st hQ => by
    refine nextOf_item st (c := b[i]) (by simp [hi]) fun h' hit' hs' => ?_
    exact hQ _ h' (s.toks + 1) ⟨_, _, by simp [hi], rfl⟩ hit' hs'
  done := fun s Q E st hE => nextOf_end hh st (by simp) hE
set_option maxHeartbeats 1000000 in
theorem meets_enum_bytes (x : Array UInt8) (t : Tok) :
    Meets (Builtin.«enumerate.__new__» ⟨[.type "enumerate", .bytes x t], []⟩) (fun _ R s =>
      R (.ok (.ret (.ref (s.heap.push { cls := .type "bytes_iterator", data := .fields #[.bytes x t, .int 0 0] }).objs.size)))
        { s with heap := (s.heap.push { cls := .type "bytes_iterator", data := .fields #[.bytes x t, .int 0 0] }).push { cls := .type "enumerate", data := .fields #[.none, .bool false, .ref s.heap.objs.size, rawInt 0, .none, .none] } }) :=
  .of_wp fun prog w A R s h => by
    obtain ⟨hp, g, d, tk, os⟩ := s
    have hsub := sub_enumerate
    wp_walk
    refine wpAny_stack_any fun st => wpAny_pure ?_
    split
    · rename_i c _ _ _ _ _
      cases (c == Value.type "enumerate")
      · wp_walk using KBw.pyIter_bytes
        exact ⟨_, rfl, h⟩
      · wp_walk using KBw.pyIter_bytes
        exact ⟨_, rfl, h⟩
    · wp_walk using KBw.pyIter_bytes
      exact ⟨_, rfl, h⟩
section
variable {prog : Program} {w : World} {A : Around} {E : Value → Shared → Prop} {s : Shared} {h₀ : Heap} {L : Addr} {m : Str → Option Value} {news : List (Addr × Obj)}
theorem bytes_iter_call {x : Array UInt8} {t : Tok} {Q : Value → Shared → Prop}
    (h : ∀ h', IsEnum h' (s.heap.objs.size + 1) s.heap.objs.size 0 .none → KBw.IsBytesIter h' s.heap.objs.size x t 0 → h'.objs.size = s.heap.objs.size + 2 →
      (∀ b o, s.heap.get? b = some o → h'.get? b = some o) → Q (.ref (s.heap.objs.size + 1)) { s with heap := h' }) :
    wpAny (model prog w) A (call (.type "enumerate") [.bytes x t]) Q E s := by
  refine callType_new PySem.F.called_enumerate (by decide) (PySem.F.typeCall_enumerate_1 _) (PySem.F.newCall_enumerate_1 _) (fun obj => PySem.F.args_object_init_2 obj _) PySem.F.entry_enumerate_new
    (meets_enum_bytes x t) ?_
  have hz : (s.heap.push { cls := .type "bytes_iterator", data := .fields #[.bytes x t, .int 0 0] }).objs.size = s.heap.objs.size + 1 := Heap.size_push ..
  show _ ∧ _
  rw [hz]
  have he : IsEnum ((s.heap.push { cls := .type "bytes_iterator", data := .fields #[.bytes x t, .int 0 0] }).push
      { cls := .type "enumerate", data := .fields #[.none, .bool false, .ref s.heap.objs.size, rawInt 0, .none, .none] }) (s.heap.objs.size + 1) s.heap.objs.size 0 .none := by
    have := Heap.get?_push_size (s.heap.push { cls := .type "bytes_iterator", data := .fields #[.bytes x t, .int 0 0] })
      (o := { cls := .type "enumerate", data := .fields #[.none, .bool false, .ref s.heap.objs.size, rawInt 0, .none, .none] }) rfl
    rw [hz] at this; exact this
  refine ⟨⟨_, he, rfl⟩, h _ he ⟨_, Heap.get?_push_of_some _ (Heap.get?_push_size _ rfl), rfl, rfl⟩ (by rw [Heap.size_push, hz]) fun b o y => Heap.get?_push_of_some _ (Heap.get?_push_of_some _ y)⟩
theorem call_enum_bytes {x : Array UInt8} {t : Tok} {Q : Value → Shared → Prop} (hh : A.handled = none) (F : Fr h₀ L s.heap m) (N : News h₀ L s.heap news)
    (h : ∀ h' e, Fr h₀ L h' m → News h₀ L h' news → PairSrcL prog w A E h₀ L ItemKind.int (KBw.bInts x) (.ref e) { s with heap := h' } m news → Q (.ref e) { s with heap := h' }) :
    wpAny (model prog w) A (call (.type "enumerate") [.bytes x t]) Q E s := by
  have hLs : L < s.heap.objs.size := F.ns.lt
  have hab : h₀.objs.size ≤ L := F.above
  refine bytes_iter_call fun h' he hit hsz hk => ?_
  have F' : Fr h₀ L h' m := ⟨F.ns.keeps hk, fun b o e => hk b o (F.keep b o e), F.above⟩
  have N' : News h₀ L h' news := fun p hp => ⟨hk _ _ (N p hp).1, (N p hp).2⟩
  refine h h' _ F' N' fun env hL => ?_
  subst hL
  have side1 : s.heap.objs.size + 1 ∉ [s.heap.objs.size] := fun hm => Nat.succ_ne_self _ (List.mem_singleton.mp hm)
  have side2 : env.locals ∉ [s.heap.objs.size + 1, s.heap.objs.size] := fun hm => by
    rcases List.mem_cons.mp hm with e | hm
    · exact Nat.ne_of_lt (Nat.lt_succ_of_lt hLs) e
    · exact Nat.ne_of_lt hLs (List.mem_singleton.mp hm)
  have side3 : ∀ b ∈ [s.heap.objs.size + 1, s.heap.objs.size], ∀ q ∈ news, b ≠ q.1 := fun b hb q hq e => by
    have hq1 : q.1 < s.heap.objs.size := Heap.lt_size (N q hq).1
    rcases List.mem_cons.mp hb with e1 | hb
    · exact Nat.ne_of_gt (Nat.lt_succ_of_lt hq1) (e1.symm.trans e)
    · exact Nat.ne_of_gt hq1 ((List.mem_singleton.mp hb).symm.trans e)
  have hP : ∀ (i : Nat) v, (∃ (c : UInt8) (u : Tok), x[i]? = some c ∧ v = Value.int (c.toNat : Int) u) → ∃ a, (KBw.bInts x)[i]? = some a ∧ ItemKind.int.is a v := fun i v hv => by
    obtain ⟨c, u, hc, rfl⟩ := hv
    exact ⟨_, KBw.ints_get hc, ItemKind.int_mk _ _⟩
  exact enumSrc (drawsBytes (A := A.in1) hh s.heap.objs.size x t) he hit (Nat.succ_ne_self _) side1 (by simp) side2 (Heap.get?_none_of_le (Nat.le_trans hab (Nat.le_of_lt (Nat.lt_succ_of_lt hLs)))) (Heap.get?_none_of_le (Nat.le_trans hab (Nat.le_of_lt hLs))) side3 (KBw.ints_length x).symm hP F' N'
end
end Mine
end
section
open PySem PySem.W PyProof.Rows PySem.Calls
set_option maxRecDepth 100000
namespace Mine
/-- the frame's names in a loop over pairs that turns one text -/
abbrev mapPT (m : Str → Option Value) (xi xc x : Str) (u v : Option Value) (T : Str) (tx : Tok) : Str → Option Value :=
  fun y => if y = xc then v else if y = xi then u else if y = x then some (.str T tx) else m y
/-- the end of one of its turns -/
def PTEnd (h₀ : Heap) (L : Addr) (own news : List (Addr × Obj)) (m : Str → Option Value) (xi xc x : Str) (T : Str) (s : Shared) (f : Flow) (s₂ : Shared) : Prop :=
  f = .next ∧ ∃ h' tk' m' tx news', s₂ = { s with heap := h', toks := tk' } ∧ Fr h₀ L h' m' ∧ News h₀ L h' news' ∧ (∀ p ∈ news ++ own, p ∈ news') ∧ m' x = some (.str T tx) ∧ ∀ y, y ≠ x → y ≠ xi → y ≠ xc → m' y = m y
theorem PTEnd.intro {h₀ : Heap} {L : Addr} {own news news' : List (Addr × Obj)} {m m' : Str → Option Value} {xi xc x : Str} {T : Str} {s : Shared} {h' : Heap} {tk' : Nat} {tx : Tok} (F : Fr h₀ L h' m') (N : News h₀ L h' news') (hn : ∀ p ∈ news ++ own, p ∈ news') (hx : m' x = some (.str T tx)) (hm : ∀ y, y ≠ x → y ≠ xi → y ≠ xc → m' y = m y) :
    PTEnd h₀ L own news m xi xc x T s .next { s with heap := h', toks := tk' } := ⟨rfl, h', tk', m', tx, news', rfl, F, N, hn, hx, hm⟩
section
variable {prog : Program} {w : World} {A : Around} {E : Value → Shared → Prop} {s : Shared} {h₀ : Heap} {m : Str → Option Value} {news : List (Addr × Obj)} {env : Env}
theorem pairs_text {ks : List Int} {e : Addr} {xi xc x : Str} {body : List Stmt} {Q : Flow → Shared → Prop} {t0 : Tok} (T : Nat → Str) (S : PairSrcL prog w A E h₀ env.locals ItemKind.int ks (.ref e) s m news)
    (hx : m x = some (.str (T 0) t0))
    (turn : ∀ (i : Nat) k ti tc tx h tk own, ks[i]? = some k → Fr h₀ env.locals h (mapPT m xi xc x (some (.int i ti)) (some (.int k tc)) (T i) tx) → News h₀ env.locals h (news ++ own) →
      wpAny (model prog w) A (execs body env) (PTEnd h₀ env.locals own news m xi xc x (T (i + 1)) { s with heap := h, toks := tk }) E { s with heap := h, toks := tk })
    (done : ∀ h' tk tx u v, Fr h₀ env.locals h' (mapPT m xi xc x u v (T ks.length) tx) → News h₀ env.locals h' news → Q .next { s with heap := h', toks := tk }) :
    wpAny (model prog w) A (pyIter (.ref e)) (fun it s₂ => PairAt3 prog w A h₀ env xi xc body Q E it s₂) E s := by
  refine S env rfl xi xc body Q (fun i m₁ news₁ => news₁ = news ∧ ∃ tx u v, m₁ = mapPT m xi xc x u v (T i) tx) ⟨rfl, t0, m xi, m xc, ?_⟩ ?_ ?_
  · funext y
    simp only [mapPT]
    by_cases y1 : y = xc
    · rw [if_pos y1, y1]
    · rw [if_neg y1]
      by_cases y2 : y = xi
      · rw [if_pos y2, y2]
      · rw [if_neg y2]
        by_cases y3 : y = x
        · rw [if_pos y3, y3, hx]
        · rw [if_neg y3]
  · rintro i k ti v m₁ news₁ s₁ own ⟨h, tk, rfl⟩ hk hv ⟨rfl, tx, u0, v0, rfl⟩ _ _ F N
    obtain ⟨tc, rfl⟩ := ItemKind.int_is hv
    have e1 : (fun y => if y = xc then some (Value.int k tc) else if y = xi then some (Value.int i ti) else mapPT m xi xc x u0 v0 (T i) tx y) = mapPT m xi xc x (some (.int i ti)) (some (.int k tc)) (T i) tx := by
      funext y
      simp only [mapPT]
      by_cases y1 : y = xc
      · simp only [if_pos y1]
      · simp only [if_neg y1]
        by_cases y2 : y = xi
        · simp only [if_pos y2]
        · simp only [if_neg y2]
    rw [e1] at F
    refine wpAny_mono (turn i k ti tc tx h tk own hk F fun p hp => N p (by rcases List.mem_append.mp hp with q | q; exact List.mem_append_right _ q; exact List.mem_append_left _ q)) (fun f s₂ hE => ?_) fun _ _ q => q
    obtain ⟨rfl, h', tk', m', tx', news', rfl, F', N', hn, hx', hm'⟩ := hE
    refine ⟨rfl, h', tk', m', _, rfl, F', fun p hp => N' p (hn p (by rcases List.mem_append.mp hp with q | q; exact List.mem_append_right _ q; exact List.mem_append_left _ q)), rfl, rfl, tx', m' xi, m' xc, ?_⟩
    funext y
    simp only [mapPT]
    by_cases y1 : y = xc
    · rw [if_pos y1, y1]
    · rw [if_neg y1]
      by_cases y2 : y = xi
      · rw [if_pos y2, y2]
      · rw [if_neg y2]
        by_cases y3 : y = x
        · rw [if_pos y3, y3, hx']
        · rw [if_neg y3, hm' y y3 y2 y1]
  · rintro h' tk m' news' F N _ ⟨rfl, tx, u, v, rfl⟩
    exact done h' tk tx u v F N
end
end Mine
end
section
open PySem PySem.W PyProof.Rows PySem.Calls
set_option maxRecDepth 100000
namespace Mine
def veils : List Nat := [173, 847, 6150, 6155, 6156, 6157, 8203, 8204, 8205, 8288, 65024, 65025, 65026, 65027, 65028, 65029, 65030, 65031, 65032, 65033, 65034, 65035, 65036, 65037, 65038, 65039, 65279]
/-- what one letter, the k-th, is written out as -/
def dress (told k : Nat) (o : Nat) : List Nat := (alph.getD ((told + k) % 12) 0 + (o - 65)) :: (if (told / 12 + k) % 2 = 0 then [veils.getD ((told / 24 + k) % 27) 0] else [])
def carel (told : Nat) : Nat → List Nat → List Nat
  | _, [] => []
  | k, o :: r => dress told k o ++ carel told (k + 1) r
/-- all bytes are letters A to P -/
def Letters (b : Array UInt8) : Prop := ∀ c ∈ b.toList, 65 ≤ c.toNat ∧ c.toNat ≤ 80
def nats (b : Array UInt8) : List Nat := b.toList.map (·.toNat)
abbrev alphZ : List Int := [97, 65, 119808, 119860, 119912, 120016, 120172, 120224, 120276, 120328, 120380, 120432]
abbrev veilsZ : List Int := [173, 847, 6150, 6155, 6156, 6157, 8203, 8204, 8205, 8288, 65024, 65025, 65026, 65027, 65028, 65029, 65030, 65031, 65032, 65033, 65034, 65035, 65036, 65037, 65038, 65039, 65279]
theorem alphZ_at : ∀ j : Fin 12, alphZ.getD j.val 0 = ((alph.getD j.val 0 : Nat) : Int) ∧ 65 ≤ alph.getD j.val 0 ∧ alph.getD j.val 0 ≤ 120432 := by decide +kernel
theorem veilsZ_at : ∀ j : Fin 27, veilsZ.getD j.val 0 = ((veils.getD j.val 0 : Nat) : Int) ∧ veils.getD j.val 0 ≤ 65279 := by decide +kernel
theorem idx12 (told i : Nat) : (((told : Int) + (i : Int)).fmod 12).toNat = (told + i) % 12 := by
  rw [Int.fmod_eq_emod_of_nonneg _ (by decide)]; omega
theorem idx27 (told i : Nat) : (((told : Int).fdiv 24 + (i : Int)).fmod 27).toNat = (told / 24 + i) % 27 := by
  rw [Int.fmod_eq_emod_of_nonneg _ (by decide), Int.fdiv_eq_ediv_of_nonneg _ (by decide)]; omega
theorem par2 (told i : Nat) : (((told : Int).fdiv 12 + (i : Int)).fmod 2 = 0) ↔ (told / 12 + i) % 2 = 0 := by
  rw [Int.fmod_eq_emod_of_nonneg _ (by decide), Int.fdiv_eq_ediv_of_nonneg _ (by decide)]; omega
section
variable {prog : Program} {w : World} {A : Around} {E : Value → Shared → Prop} {s : Shared} {Q : Value → Shared → Prop} {t u : Tok}
theorem chr_start {told i : Nat} {k : Int} (hk : 65 ≤ k ∧ k ≤ 80) (h : ∀ t' k', Q (.str (sg (alph.getD ((told + i) % 12) 0 + (k.toNat - 65))) t') { s with toks := k' }) :
    wpAny (model prog w) A (call (.builtin "chr") [.int (alphZ.getD (((told : Int) + (i : Int)).fmod 12).toNat 0 + k - 65) t]) Q E s := by
  have hj := alphZ_at ⟨(told + i) % 12, Nat.mod_lt _ (by decide)⟩
  simp only at hj
  rw [idx12, hj.1]
  have e : (((alph.getD ((told + i) % 12) 0 : Nat) : Int) + k - 65).toNat = alph.getD ((told + i) % 12) 0 + (k.toNat - 65) := by omega
  have key := chr_of_range (prog := prog) (w := w) (A := A) (E := E) (s := s) (Q := Q) (t := t) (i := ((alph.getD ((told + i) % 12) 0 : Nat) : Int) + k - 65) (by omega) (by omega)
  rw [e] at key
  exact key (h _ _)
theorem chr_veil {told i : Nat} (h : ∀ t' k', Q (.str (sg (veils.getD ((told / 24 + i) % 27) 0)) t') { s with toks := k' }) :
    wpAny (model prog w) A (call (.builtin "chr") [.int (veilsZ.getD (((told : Int).fdiv 24 + (i : Int)).fmod 27).toNat 0) t]) Q E s := by
  have hj := veilsZ_at ⟨(told / 24 + i) % 27, Nat.mod_lt _ (by decide)⟩
  simp only at hj
  rw [idx27, hj.1]
  have key := chr_of_range (prog := prog) (w := w) (A := A) (E := E) (s := s) (Q := Q) (t := t) (i := ((veils.getD ((told / 24 + i) % 27) 0 : Nat) : Int)) (by omega) (by omega)
  rw [Int.toNat_natCast] at key
  exact key (h _ _)
theorem add_sg {x : Str} {c : Nat} (hz : x.length ≤ 1000) (h : (x ++ sg c).length ≤ x.length + 1 → ∀ t' k', Q (.str (x ++ sg c) t') { s with toks := k' }) :
    wpAny (model prog w) A (binaryOp .Add (.str x t) (.str (sg c) u)) Q E s := by
  have e : (x ++ sg c).length = x.length + 1 := by rw [Str.length_append]; rfl
  have e1 : (sg c).length = 1 := rfl
  exact add_str (h (by omega)) (by rw [sizeLine_eq, e1]; omega)
end
theorem dress_len (told k o : Nat) : (dress told k o).length ≤ 2 := by unfold dress; split <;> simp
theorem carel_len (told : Nat) : ∀ (l : List Nat) (k : Nat), (carel told k l).length ≤ 2 * l.length
  | [], _ => by simp [carel]
  | o :: r, k => by
    have := carel_len told r (k + 1)
    have := dress_len told k o
    simp only [carel, List.length_append, List.length_cons]; omega
theorem carel_snoc (told : Nat) (o : Nat) : ∀ (l : List Nat) (k : Nat), carel told k (l ++ [o]) = carel told k l ++ dress told (k + l.length) o
  | [], k => by simp [carel]
  | x :: r, k => by
    simp only [List.cons_append, carel, carel_snoc told o r (k + 1), List.append_assoc, List.length_cons]
    congr 3; omega
theorem text_step {told i : Nat} {b : Array UInt8} {k : Int} (hk : (KBw.bInts b)[i]? = some k) : carel told 0 ((nats b).take (i + 1)) = carel told 0 ((nats b).take i) ++ dress told i k.toNat := by
  obtain ⟨c, hc, rfl⟩ : ∃ c : UInt8, b.toList[i]? = some c ∧ (c.toNat : Int) = k := by
    unfold KBw.bInts at hk
    rw [List.getElem?_map] at hk
    exact Option.map_eq_some_iff.mp hk
  have hn : (nats b)[i]? = some c.toNat := by unfold nats; rw [List.getElem?_map, hc]; rfl
  obtain ⟨hi, _⟩ := List.getElem?_eq_some_iff.mp hn
  rw [List.take_add_one, hn]
  show carel told 0 ((nats b).take i ++ [c.toNat]) = _
  rw [carel_snoc, List.length_take, Nat.min_eq_left (Nat.le_of_lt hi), Nat.zero_add, Int.toNat_natCast]
theorem str_add (x y : List Nat) : (⟨x.toArray⟩ : Str) ++ (⟨y.toArray⟩ : Str) = ⟨(x ++ y).toArray⟩ := by
  show (⟨x.toArray ++ y.toArray⟩ : Str) = _
  rw [List.append_toArray]
theorem text_yes {told i : Nat} {b : Array UInt8} {k : Int} (hk : (KBw.bInts b)[i]? = some k) (h : ((told : Int).fdiv 12 + (i : Int)).fmod 2 = 0) :
    (⟨(carel told 0 ((nats b).take i)).toArray⟩ : Str) ++ sg (alph.getD ((told + i) % 12) 0 + (k.toNat - 65)) ++ sg (veils.getD ((told / 24 + i) % 27) 0) = ⟨(carel told 0 ((nats b).take (i + 1))).toArray⟩ := by
  rw [text_step hk]
  unfold dress
  rw [if_pos ((par2 told i).mp h)]
  have e1 := str_add (carel told 0 ((nats b).take i)) [alph.getD ((told + i) % 12) 0 + (k.toNat - 65)]
  have e2 := str_add (carel told 0 ((nats b).take i) ++ [alph.getD ((told + i) % 12) 0 + (k.toNat - 65)]) [veils.getD ((told / 24 + i) % 27) 0]
  refine (congrArg (fun z : Str => z ++ sg (veils.getD ((told / 24 + i) % 27) 0)) e1).trans (e2.trans ?_)
  rw [List.append_assoc]; rfl
theorem text_no {told i : Nat} {b : Array UInt8} {k : Int} (hk : (KBw.bInts b)[i]? = some k) (h : ¬ ((told : Int).fdiv 12 + (i : Int)).fmod 2 = 0) :
    (⟨(carel told 0 ((nats b).take i)).toArray⟩ : Str) ++ sg (alph.getD ((told + i) % 12) 0 + (k.toNat - 65)) = ⟨(carel told 0 ((nats b).take (i + 1))).toArray⟩ := by
  rw [text_step hk]
  unfold dress
  rw [if_neg fun q => h ((par2 told i).mpr q)]
  exact str_add (carel told 0 ((nats b).take i)) [alph.getD ((told + i) % 12) 0 + (k.toNat - 65)]
local macro_rules | `(tactic| walk_at "my none") => `(tactic| skip)
local macro_rules | `(tactic| walk_at "call type:enumerate") => `(tactic| ((with_reducible show wpAny _ _ (call (Value.type _) [Value.bytes _ _]) _ _ _); (with_unfolding_all refine call_enum_bytes rfl (by assumption) (by assumption) ?_); intro _ _ _ _ _))
local macro_rules | `(tactic| walk_at "pyIter ref") => `(tactic| ((with_reducible show wpAny _ _ _ (fun it s₂ => PairAt3 _ _ _ _ _ _ _ _ _ _ it s₂) _ _); k_extra "my pairs"))
local macro_rules | `(tactic| walk_at "call builtin:chr") => `(tactic| first | (refine chr_start (by assumption) ?_; intro _ _) | (refine chr_veil ?_; intro _ _))
local macro_rules | `(tactic| walk_at "binaryOp Add str str") => `(tactic| (refine add_sg (by omega) ?_; intro _ _ _))
set_option maxHeartbeats 8000000 in
theorem c_careless (w : World) (mean : ExcName → Option Value) (mg mb : Str → Option Value) (b : Array UInt8) (tb : Tok) (told : Nat) (tt : Tok) (news : List (Addr × Obj)) :
    CbClaim rw0.row.prog w (myK w.params) qv loose0 mean mg mb 92 news [] (Letters b ∧ b.size ≤ 64 ∧ told < 2592) [.bytes b tb, .int told tt] (fun t => .str ⟨(carel told 0 (nats b)).toArray⟩ t) := by
  k_fill
  dsimp only [CbClaim, CbLists, CbRet]
  intros
  rename_i hpre hdp hun hret
  obtain ⟨hLet, hbz, htd⟩ := hpre
  have cbI : CbIn 92 := CbIn.mk
  refine wpAny_call ?_
  k_dflt cell_enter
  k_steps
  refine pairs_text (x := Str.ofString "text") (fun i => ⟨(carel told 0 ((nats b).take i)).toArray⟩) (by assumption) (by exact congrArg (fun x => some (Value.str x _)) (show Str.ofString "" = ⟨#[]⟩ by decide +kernel)) ?pT ?pD
  case pT =>
    intro i' k' ti' tc' tx' h' tk' own' hk' F' N'
    have hkL : 65 ≤ k' ∧ k' ≤ 80 := by
      obtain ⟨c, hc, rfl⟩ := List.mem_map.mp (List.mem_of_getElem? hk')
      have := hLet c hc
      omega
    have hTl : (⟨(carel told 0 ((nats b).take i')).toArray⟩ : Str).length ≤ 128 := by
      have h1 := carel_len told ((nats b).take i') 0
      have h2 : ((nats b).take i').length ≤ 64 := by
        rw [List.length_take]; simp only [nats, List.length_map, Array.length_toList]; omega
      show (carel told 0 ((nats b).take i')).toArray.size ≤ 128
      simp only [List.size_toArray]; omega
    k_steps
    all_goals (refine' PTEnd.intro (by assumption) (by assumption) ?_ ?_ ?_)
    all_goals first
      | (intro p hp; exact hp)
      | exact congrArg (fun x => some (Value.str x _)) (text_yes hk' (by assumption))
      | exact congrArg (fun x => some (Value.str x _)) (text_no hk' (by assumption))
      | (intro y y1 y2 y3; simp only [mapPT, y1, y2, y3, if_false]; done)
      | (intro y y1 y2 y3; simp [mapPT, y1, y2, y3]; done)
      | skip
  case pD =>
    intro h' tk' tx' u' v' F' N'
    have eT : (nats b).take (KBw.bInts b).length = nats b := List.take_of_length_le (by simp [nats, KBw.bInts])
    k_steps
    rw [eT]
    refine hret _ _ _ (by assumption) (cb_drop (by assumption) ?_)
    intro p hp
    exact List.mem_cons_of_mem _ (List.mem_cons_of_mem _ hp)
end Mine
end
section
open PySem PySem.W PyProof.Rows PySem.Calls
set_option maxRecDepth 100000
namespace Mine
/-- the i-th item that a bytes' iterator hands on -/
def ByteAt (b : Array UInt8) (i : Nat) (v : Value) : Prop := ∃ c u, b[i]? = some c ∧ v = .int (c.toNat : Int) u
section
variable {prog : Program} {w : World} {A : Around} {E : Value → Shared → Prop} {s : Shared}
theorem extend_bytes {R : Result → Shared → Prop} (hh : A.handled = none) (x : Array UInt8) (t : Tok) (S : Addr) (res : Value) (c₀ : Nat) (hS : s.heap.get? S = some { cls := .type "list", data := .seq #[] c₀ })
    (hR : ∀ h' tk acc' c', (∀ b o, b ≠ S → s.heap.get? b = some o → h'.get? b = some o) → h'.get? S = some { cls := .type "list", dict := none, data := .seq acc' c', slots := #[] } →
      ItemsOf (ByteAt x) acc' x.size → R (.ok (.ret res)) { s with heap := h', toks := tk }) (hn : x.size ≤ sizeLine) :
    wpAny (model prog w) A.in1 (Builtin.List.listExtendWith (.ref S) (.bytes x t) res)
      (fun fin s' => match fin with | .done f => R (.ok f) s' | .again c' => c'.quiet = true ∧ codeAny (model prog w) A c' R s') (fun e s' => R (.error e) s') s := by
  have hSI : S ≠ s.heap.objs.size := Nat.ne_of_lt (Heap.lt_size hS)
  have hSf : S ∉ [s.heap.objs.size] := fun hm => hSI (List.mem_singleton.mp hm)
  unfold Builtin.List.listExtendWith
  refine wpAny_bind (wpAny_typeOf (T := "bytes") (v := .bytes x t) rfl ?_)
  have h1 : Builtin.List.listSameRef (.ref S) (.bytes x t) = false := rfl
  have h2 : (Value.type "bytes" == Value.type "list") = false := by decide
  have h3 : (Value.type "bytes" == Value.type "tuple") = false := by decide
  simp only [h1, h2, h3, Bool.or_false, Bool.false_eq_true, if_false]
  refine wpAny_bind (KBw.pyIter_bytes ?_)
  refine wpAny_bind (wpAny_holding ?_)
  unfold Builtin.List.listLengthHint
  refine wpAny_bind (wpAny_specialOf (T := "bytes") (v := .bytes x t) rfl FB.slot_bytes_len.lookup ?_)
  wp_delta
  refine wpAny_bind (wpAny_isInstance (T := "bytes") (v := .bytes x t) (b := true) rfl (by rw [isSubtype_type]; kernel_rfl) ?_)
  show wpAny _ _ (typeOf (Value.bytes x t) >>= _) _ _ _
  refine wpAny_bind (wpAny_typeOf (T := "bytes") (v := .bytes x t) rfl ?_)
  refine wpAny_pure ?_
  rw [if_neg (by decide)]
  have W := KBw.walks (prog := prog) (w := w) (A := A.in1) hh s.heap.objs.size x t
  refine wpAny_pure ⟨plainId_quiet PySem.F.plain_extend_loop _, codeAny_extend_loopS W.toS hn _ hSf _ x.size 0 _ _ _ rfl (Nat.zero_le _) ⟨_, Heap.get?_push_size _ rfl, rfl, rfl⟩ (Heap.get?_push_of_some _ hS) (ItemsOf.nil _) fun s' acc' c' hm hS' hacc => ?_⟩
  rw [Moved.eq_with hm]
  refine hR s'.heap s'.toks acc' c' (fun b ob hb e => hm.heap b ob (fun hmem => ?_) (Heap.get?_push_of_some _ e)) hS' hacc
  rcases List.mem_cons.mp hmem with e' | hmem
  · exact hb e'
  · exact absurd (Heap.lt_size e) (by rw [List.mem_singleton.mp hmem]; exact Nat.lt_irrefl _)
theorem init_bytes {R : Result → Shared → Prop} (hh : A.handled = none) (x : Array UInt8) (t : Tok) (S : Addr) (hS : s.heap.get? S = some { cls := .type "list", data := .seq #[] })
    (hR : ∀ h' tk acc' c', (∀ b o, b ≠ S → s.heap.get? b = some o → h'.get? b = some o) → h'.get? S = some { cls := .type "list", dict := none, data := .seq acc' c', slots := #[] } →
      ItemsOf (ByteAt x) acc' x.size → R (.ok (.ret .none)) { s with heap := h', toks := tk }) (hn : x.size ≤ sizeLine) :
    wpAny (model prog w) A.in1 (Builtin.«list.__init__» ⟨[.ref S, .bytes x t], []⟩)
      (fun fin s' => match fin with | .done f => R (.ok f) s' | .again c' => c'.quiet = true ∧ codeAny (model prog w) A c' R s') (fun e s' => R (.error e) s') s := by
  show wpAny _ _ (do let old ← Builtin.List.listItems (.ref S); Builtin.List.listUpdate (.ref S) (fun _ => #[]); letGo old.toList.reverse; Builtin.List.listExtendWith (.ref S) (.bytes x t) .none) _ _ s
  refine wpAny_bind ?_
  unfold Builtin.List.listItems
  refine wpAny_bind (wpAny_seqItems hS rfl (wpAny_pure ?_))
  show wpAny _ _ (updateSeq S (fun _ => #[]) >>= fun _ => letGo (#[] : Array Value).toList.reverse >>= fun _ => Builtin.List.listExtendWith (.ref S) (.bytes x t) .none) _ _ s
  refine wpAny_bind (wpAny_updateSeq hS rfl ?_)
  have hS₂ := Heap.get?_update_self (Obj.mapSeq (fun _ => (#[] : Array Value))) hS rfl
  have oth : ∀ b o, b ≠ S → s.heap.get? b = some o → (s.heap.update S (Obj.mapSeq (fun _ => (#[] : Array Value)))).get? b = some o :=
    fun b o hb e => (Heap.get?_update_other _ _ (Ne.symm hb)).trans e
  refine wpAny_bind (wpAny_letGo ?_)
  refine extend_bytes (hn := hn) hh x t S .none _ hS₂ fun h' tk acc' c' hk hS' hacc => ?_
  exact hR h' tk acc' c' (fun b o hb e => hk b o hb (oth b o hb e)) hS' hacc
theorem call_list_bytes {Q : Value → Shared → Prop} (hh : A.handled = none) (x : Array UInt8) (t : Tok)
    (hQ : ∀ h' tk acc' c', (∀ b o, s.heap.get? b = some o → h'.get? b = some o) →
      h'.get? s.heap.objs.size = some { cls := .type "list", dict := none, data := .seq acc' c', slots := #[] } → ItemsOf (ByteAt x) acc' x.size → Q (.ref s.heap.objs.size) { s with heap := h', toks := tk }) (hn : x.size ≤ sizeLine) :
    wpAny (model prog w) A (call (.type "list") [.bytes x t]) Q E s := by
  refine callType_codes (Q₁ := fun obj s₁ => obj = .ref s.heap.objs.size ∧ s₁ = { s with heap := s.heap.push { cls := .type "list", data := .seq #[] } }) PySem.F.called_list (PySem.F.typeCall_list_1 _) PySem.F.entry_list_init
    (code_list_new _ ⟨rfl, rfl⟩) fun obj s₁ h₁ => ?_
  obtain ⟨rfl, rfl⟩ := h₁
  have hS : (s.heap.push { cls := .type "list", data := .seq #[] }).get? s.heap.objs.size = some { cls := .type "list", data := .seq #[] } := Heap.get?_push_size _ rfl
  refine ⟨⟨_, hS, rfl⟩, PySem.F.args_list_init_2 _ _, init_bytes (A := A.in1) (hn := hn) hh x t _ hS fun h' tk acc' c' hk hS' hacc => ?_⟩
  exact ⟨rfl, hQ h' tk acc' c' (fun b o e => hk b o (Nat.ne_of_lt (Heap.lt_size e)) (Heap.get?_push_of_some _ e)) hS' hacc⟩
variable {h₀ : Heap} {L : Addr} {m : Str → Option Value} {news : List (Addr × Obj)}
theorem ints_items (x : Array UInt8) : ∀ (acc : List Value), (∀ (j : Nat) (v : Value), acc[j]? = some v → ByteAt x j v) → acc.length = x.size → IntsAre acc (KBw.bInts x) := by
  intro acc h hl
  have key : ∀ (l : List Value) (r : List UInt8), l.length = r.length → (∀ (j : Nat) (v : Value), l[j]? = some v → ∃ (c : UInt8) (u : Tok), r[j]? = some c ∧ v = Value.int (c.toNat : Int) u) → IntsAre l (r.map fun c : UInt8 => (c.toNat : Int)) := by
    intro l
    induction l with
    | nil => intro r hr _; cases r with | nil => exact .nil | cons _ _ => cases hr
    | cons v l ih =>
      intro r hr hv
      cases r with
      | nil => cases hr
      | cons c r =>
        obtain ⟨c', u, hc, rfl⟩ := hv 0 v rfl
        obtain rfl : c = c' := by simpa using hc
        exact .cons _ _ (ih r (by simpa using hr) fun j v hj => hv (j + 1) v (by simpa using hj))
  refine key acc x.toList (by simpa using hl) fun j v hj => ?_
  obtain ⟨c, u, hc, e⟩ := h j v hj
  exact ⟨c, u, by simpa using hc, e⟩
theorem list_bytes {x : Array UInt8} {t : Tok} {Q : Value → Shared → Prop} (hh : A.handled = none) (F : Fr h₀ L s.heap m) (N : News h₀ L s.heap news) (hn : x.size ≤ 1000)
    (hQ : ∀ r vs n h' tk, Fr h₀ L h' m → News h₀ L h' ((r, W.listOf (List.toArray vs) n) :: news) → IntsAre vs (KBw.bInts x) → (∀ p ∈ news, p.1 < r) → Q (.ref r) { s with heap := h', toks := tk }) :
    wpAny (model prog w) A (call (.type "list") [.bytes x t]) Q E s := by
  refine call_list_bytes hh x t (hn := by rw [sizeLine_eq]; omega) fun h' tk acc c hk hS hI => ?_
  refine hQ s.heap.objs.size acc.toList c h' tk (F.keeps hk) ?_ (ints_items x acc.toList (fun j v hj => hI.2 j v (by simpa using hj)) (by simpa using hI.1)) (fun p hp => Heap.lt_size (N p hp).1)
  intro p hp
  rcases List.mem_cons.mp hp with rfl | hp
  · refine ⟨by simpa using hS, fun e => Nat.lt_irrefl _ (e ▸ F.ns.lt), next_is_new F⟩
  · exact ⟨hk _ _ (N p hp).1, (N p hp).2⟩
end
end Mine
end
section
open PySem PySem.W PyProof.Rows PySem.Calls PySem.Spec
set_option maxRecDepth 100000
namespace Mine
/-- what a comprehension over a text's signs wants -/
def SignPack (P : Prop) : Prop := P
theorem SignPack.intro {P : Prop} (h : P) : SignPack P := h
theorem ints_of_signs : ∀ (l : List Nat) (vs ys : List Value), vs.length = l.length → (∀ (j : Nat) v, vs[j]? = some v → ∃ c u, l[j]? = some c ∧ v = Value.str ⟨#[c]⟩ u) →
    Paired (fun v r => ∃ (c : Nat) (u : Tok), v = Value.str ⟨#[c]⟩ u ∧ Carried r (.int (c : Int))) vs ys → IntsAre ys (l.map fun c : Nat => (c : Int))
  | [], [], _, _, _, .nil => .nil
  | [], _ :: _, _, h, _, _ => by simp at h
  | _ :: _, [], _, h, _, _ => by simp at h
  | a :: l, v :: vs, _, hl, hP, .cons (b := b) hF hR => by
    obtain ⟨c, u, hc, e⟩ := hP 0 v rfl
    obtain ⟨c', u', e', hcar⟩ := hF
    cases (Option.some.inj hc)
    rw [e] at e'
    injection e' with e1 e2
    injection e1 with e1
    have e3 : a = c' := by simpa using e1
    subst e3
    cases hcar
    exact .cons _ _ (ints_of_signs l vs _ (by simpa using hl) (fun j v hv => hP (j + 1) v hv) hR)
section
variable {prog : Program} {w : World} {A : Around} {E : Value → Shared → Prop} {s : Shared} {h₀ : Heap} {L : Addr} {m : Str → Option Value} {env : Env}
theorem comp_signs {elt iter : Expr} {x : Str} {px : Pos} {scope : Scope} {cl : List (Str × Addr)} {pos : Pos} {Q : Value → Shared → Prop}
    (_F₀ : Fr h₀ L s.heap m) (hh : A.handled = none) (hclos : closureFor scope env = pure cl) (hcell : ∀ y ∈ scope.names, y.2 ≠ .cell) (hkind : scope.kind = .function)
    (hnames : ∀ y ∈ scope.names, y.2 = .local → scope.names.lookup y.1 = some .local) (hx : scope.names.lookup x = some .local)
    (hs : ∀ x, foldedSetIterable iter env x = pure x)
    (h : wpAny (model prog w) A (eval iter env) (fun xv s₁ => SignPack (∃ news : List (Addr × Obj), ∃ y t, xv = .str y t ∧ y.length ≤ sizeLine ∧ Fr h₀ L s₁.heap m ∧ News h₀ L s₁.heap news ∧
      (∀ C (c : Nat) u s₂ m₂ E', s₁.heap.objs.size ≤ C → s₂.heap.Ns (compEnvC scope cl C env).locals m₂ → m₂ x = some (.str ⟨#[c]⟩ u) → (∀ b o, s₁.heap.get? b = some o → s₂.heap.get? b = some o) →
        wpAny (model prog w) A (eval elt (compEnvC scope cl C env)) (fun y s₃ => Carried y (.int (c : Int)) ∧ Keeps s₂ s₃) E' s₂) ∧
      (∀ D (ys : List Value) n h' tk, Fr h₀ L h' m → News h₀ L h' ((D, W.listOf ys.toArray n) :: news) → (∀ p ∈ news, p.1 ≠ D) → IntsAre ys (KStt.codes y) → Q (.ref D) { s₁ with heap := h', toks := tk }))) E s) :
    wpAny (model prog w) A (eval (.ListComp elt [⟨.Name x px, iter, [], 0⟩] scope pos) env) Q E s := by
  refine wpAny_ListComp_free (fun _ => true) (fun v r => ∃ c u, v = Value.str ⟨#[c]⟩ u ∧ Carried r (.int (c : Int))) hclos hcell hkind hnames hx (wpAny_mono h (fun xv s₁ h₁ => ?_) fun _ _ e => e) hs
  obtain ⟨news, y, t, rfl, hsz, F, N, helt, hQ⟩ := h₁
  refine wpAny_pyIter_str fun o St W hst => ?_
  have up : ∀ (h' : Heap), (∀ b o', b ∉ [s₁.heap.objs.size] → (s₁.heap.push o).get? b = some o' → h'.get? b = some o') → ∀ b o', s₁.heap.get? b = some o' → h'.get? b = some o' :=
    fun h' hk b o' e => hk b o' (old_not_new e) (Heap.get?_push_of_some _ e)
  refine ⟨s₁.heap.objs.size, [s₁.heap.objs.size], [s₁.heap.objs.size], y.cps.size, SignAt y, St, rfl, W A hh, hsz, hst, ?_, ⟨?_, ?_⟩, ?_⟩
  · intro b hb
    show b < (s₁.heap.push o).objs.size
    rw [Heap.size_push, List.mem_singleton.mp hb]
    exact Nat.lt_succ_self _
  · intro C i v s₃ m₃ E' _ hP hn hm _ _
    exact wpAny_pure ⟨rfl, _, _, rfl, fun _ _ e => e⟩
  · intro C i v s₃ m₃ E' hC hP hp hn hm hk _
    obtain ⟨c, u, _, rfl⟩ := hP
    exact wpAny_mono (helt C c u s₃ m₃ E' (Nat.le_of_succ_le (by simpa [Heap.size_push] using hC)) hn hm (up s₃.heap hk)) (fun r s₄ h₄ => ⟨⟨c, u, rfl, h₄.1⟩, h₄.2⟩) fun _ _ e => e
  · intro D h' tk ys vs hnew hlD hplD hlen hP hF hk
    have hD : h₀.get? D = none := by
      cases e : h₀.get? D with
      | none => rfl
      | some o' => rw [Heap.get?_push_of_some _ (F.keep _ _ e)] at hnew; cases hnew
    have hP' : NewPlain h' news D ys.toList.toArray := ⟨by rw [Array.toArray_toList]; exact hplD, fun p hp e => by rw [← e, Heap.get?_push_of_some _ (N p hp).1] at hnew; cases hnew⟩
    obtain ⟨nn, N'⟩ := made_enters hP' (F.keeps (up h' hk)) (N.grown (up h' hk)) hD
    refine hQ D ys.toList nn h' tk (F.keeps (up h' hk)) N' hP'.2 ?_
    · refine ints_of_signs y.cps.toList vs ys.toList (by rw [hlen]; rfl) (fun j v hv => ?_) (by rw [List.filter_eq_self.mpr (fun _ _ => rfl)] at hF; exact hF)
      obtain ⟨c, u, hc, e⟩ := hP j v hv
      exact ⟨c, u, by simpa using hc, e⟩
end
section
variable {prog : Program} {w : World} {A : Around} {E : Value → Shared → Prop} {s : Shared} {h₀ : Heap} {L l D : Addr} {m : Str → Option Value} {news own : List (Addr × Obj)} {vs : List Value} {n n2 : Nat} {adr : List Addr}
theorem too_long {b : Bool} {k : Nat} (h : k ≤ sizeLine) : ¬((b && Builtin.List.listTooLong k) = true) := by
  have e : Builtin.List.listTooLong k = false := by unfold Builtin.List.listTooLong; simpa using h
  rw [e, Bool.and_false]
  exact Bool.false_ne_true
theorem upd_two {v2 : Array Value} {o : Obj} (hD : ∀ p ∈ ((l, W.listOf vs.toArray n) :: news ++ own), p.1 ≠ D) (l1 : ∀ p ∈ news, p.1 < l) (ho : OwnOff own (l :: adr)) :
    Upd l (W.listOf vs.toArray n) o ((D, W.listOf v2 n2) :: ((l, W.listOf vs.toArray n) :: news ++ own)) ((D, W.listOf v2 n2) :: ((l, o) :: news ++ own)) :=
  .tail (fun e => hD _ (.head _) e.symm) (.head fun p hp => by
    rcases List.mem_append.mp hp with q | q
    · exact Nat.ne_of_lt (l1 p q)
    · exact ho p q l (.head _))
theorem ext_nil {Q : Value → Shared → Prop} (F : Fr h₀ L s.heap m) (N : News h₀ L s.heap ((D, W.listOf #[] n2) :: ((l, W.listOf vs.toArray n) :: news ++ own))) (hD : ∀ p ∈ ((l, W.listOf vs.toArray n) :: news ++ own), p.1 ≠ D) (l1 : ∀ p ∈ news, p.1 < l) (ho : OwnOff own (l :: adr)) (hv : vs.length ≤ 1000)
    (h : ∀ h', Fr h₀ L h' m → News h₀ L h' ((l, W.listOf vs.toArray n) :: news ++ own) → Q .none { s with heap := h' }) : wpAny (model prog w) A (call (.builtin "list.extend") [.ref l, .ref D]) Q E s := by
  have hs : vs.toArray.size = vs.length := List.size_toArray
  refine kxn_extend F N (.head _) rfl (upd_two hD l1 ho) (too_long (by rw [sizeLine_eq]; simp; omega)) (by rw [sizeLine_eq]; simp; omega) (by rw [sizeLine_eq]; simp; omega) fun h' F' N' => h h' F' fun p hp => N' p (.tail _ hp)
theorem ext_one {v : Value} {Q : Value → Shared → Prop} (F : Fr h₀ L s.heap m) (N : News h₀ L s.heap ((D, W.listOf [v].toArray n2) :: ((l, W.listOf vs.toArray n) :: news ++ own))) (hD : ∀ p ∈ ((l, W.listOf vs.toArray n) :: news ++ own), p.1 ≠ D) (l1 : ∀ p ∈ news, p.1 < l) (ho : OwnOff own (l :: adr)) (hv : vs.length ≤ 1000)
    (h : ∀ h', Fr h₀ L h' m → News h₀ L h' ((l, W.listOf (vs ++ [v]).toArray (n + 1)) :: news ++ own) → Q .none { s with heap := h' }) : wpAny (model prog w) A (call (.builtin "list.extend") [.ref l, .ref D]) Q E s := by
  have hs : vs.toArray.size = vs.length := List.size_toArray
  refine kl_extend (l := vs ++ [v]) F N (.head _) (by simp) (by simp) (upd_two hD l1 ho) (too_long (by rw [sizeLine_eq]; simp; omega)) (by rw [sizeLine_eq]; simp; omega) (by rw [sizeLine_eq]; simp; omega) fun h' F' N' => h h' F' fun p hp => N' p (.tail _ hp)
end
theorem ints_nil {ys : List Value} (h : IntsAre ys (KStt.codes (Str.ofString ""))) : ys = [] := by
  have e : KStt.codes (Str.ofString "") = [] := by decide +kernel
  rw [e] at h
  cases h
  rfl
theorem ints_one {ys : List Value} {c : Nat} (h : IntsAre ys (KStt.codes ⟨#[c]⟩)) : ∃ t, ys = [.int c t] := by
  have e : KStt.codes ⟨#[c]⟩ = [(c : Int)] := rfl
  rw [e] at h
  cases h with
  | cons n t h => cases h; exact ⟨t, rfl⟩
end Mine
end
section
open PySem PySem.W PyProof.Rows PySem.Calls
set_option maxRecDepth 100000
namespace Mine
section
variable {w : World} {mean : ExcName → Option Value} {mg mb : Str → Option Value} {news : List (Addr × Obj)} {dp un : Nat} {gd : Option (List Code)} {cn : Str} {cs : Scope} {a : Addr} {ccd : Value} {cl : List (Str × Addr)} {outer : List Env} {A₀ : Around} {base h₀ : Heap} {L : Addr} {m : Str → Option Value} {s : Shared} {Q E : Value → Shared → Prop}
theorem k_b1 {c : Nat} {tv : Tok} (B : Below A₀ base outer h₀) (F : Fr h₀ L s.heap m) (X : (myK w.params).In h₀) (N : News h₀ L s.heap news) (T : Top qv loose0 mean mg mb h₀) (hk : cs.kind = .function) (hd : dp + 1 < recursionLimit) (hu : un + 8 < cLine)
    (hret : ∀ (h' : Heap) (tk' : Nat), Fr h₀ L h' m → News h₀ L h' news → Q (.bool (b1Has c)) { s with heap := h', toks := tk' }) :
    wpAny (model rw0.row.prog w) (ktrTop dp un gd cn cs L a ccd cl outer) (call (.ref 39) [.str (sg c) tv]) Q E s :=
  c_b1 w mean mg mb c tv news dp un gd cn cs a ccd cl outer A₀ base h₀ L m s Q E B F X N T hk trivial hd hu fun _ h' tk' F' N' => hret h' tk' F' N'
theorem k_b1t {c : Nat} {tv : Tok} (hb : b1Has (c : Int) = true) (B : Below A₀ base outer h₀) (F : Fr h₀ L s.heap m) (X : (myK w.params).In h₀) (N : News h₀ L s.heap news) (T : Top qv loose0 mean mg mb h₀) (hk : cs.kind = .function) (hd : dp + 1 < recursionLimit) (hu : un + 8 < cLine)
    (hret : ∀ (h' : Heap) (tk' : Nat), Fr h₀ L h' m → News h₀ L h' news → Q (.bool true) { s with heap := h', toks := tk' }) :
    wpAny (model rw0.row.prog w) (ktrTop dp un gd cn cs L a ccd cl outer) (call (.ref 39) [.str ⟨#[c]⟩ tv]) Q E s :=
  k_b1 B F X N T hk hd hu (by rw [hb]; exact hret)
theorem k_b1f {c : Nat} {tv : Tok} (hb : b1Has (c : Int) = false) (B : Below A₀ base outer h₀) (F : Fr h₀ L s.heap m) (X : (myK w.params).In h₀) (N : News h₀ L s.heap news) (T : Top qv loose0 mean mg mb h₀) (hk : cs.kind = .function) (hd : dp + 1 < recursionLimit) (hu : un + 8 < cLine)
    (hret : ∀ (h' : Heap) (tk' : Nat), Fr h₀ L h' m → News h₀ L h' news → Q (.bool false) { s with heap := h', toks := tk' }) :
    wpAny (model rw0.row.prog w) (ktrTop dp un gd cn cs L a ccd cl outer) (call (.ref 39) [.str ⟨#[c]⟩ tv]) Q E s :=
  k_b1 B F X N T hk hd hu (by rw [hb]; exact hret)
theorem k_b3 {c : Nat} {tv : Tok} (hb : ∃ i j : Nat, i < 12 ∧ j < 16 ∧ (c : Int) = ((alph.getD i 0 + j : Nat) : Int)) (B : Below A₀ base outer h₀) (F : Fr h₀ L s.heap m) (X : (myK w.params).In h₀) (N : News h₀ L s.heap news) (T : Top qv loose0 mean mg mb h₀) (hk : cs.kind = .function) (hd : dp + 1 < recursionLimit) (hu : un + 8 < cLine)
    (hret : ∀ (j : Nat) (t : Tok) (h' : Heap) (tk' : Nat), j < 16 → (∃ i : Nat, i < 12 ∧ c = alph.getD i 0 + j) → Fr h₀ L h' m → News h₀ L h' news → Q (.str ⟨#[97 + j]⟩ t) { s with heap := h', toks := tk' }) :
    wpAny (model rw0.row.prog w) (ktrTop dp un gd cn cs L a ccd cl outer) (call (.ref 85) [.str ⟨#[c]⟩ tv]) Q E s := by
  obtain ⟨i, j, hi, hj, e⟩ := hb
  have e' : c = alph.getD i 0 + j := Int.ofNat.inj e
  subst e'
  exact c_b3 w mean mg mb hi hj tv news B F X N T hk hd hu fun t h' tk' F' N' => hret j t h' tk' hj ⟨i, hi, rfl⟩ F' N'
theorem k_careless {b : Array UInt8} {tb : Tok} {told : Nat} {tt : Tok} (hp : Letters b ∧ b.size ≤ 64 ∧ told < 2592) (B : Below A₀ base outer h₀) (F : Fr h₀ L s.heap m) (X : (myK w.params).In h₀) (N : News h₀ L s.heap news) (T : Top qv loose0 mean mg mb h₀) (hk : cs.kind = .function) (hd : dp + 1 < recursionLimit) (hu : un + 8 < cLine)
    (hret : ∀ (t : Tok) (h' : Heap) (tk' : Nat), Fr h₀ L h' m → News h₀ L h' news → Q (.str ⟨(carel told 0 (nats b)).toArray⟩ t) { s with heap := h', toks := tk' }) :
    wpAny (model rw0.row.prog w) (ktrTop dp un gd cn cs L a ccd cl outer) (call (.ref 92) [.bytes b tb, .int told tt]) Q E s :=
  c_careless w mean mg mb b tb told tt news dp un gd cn cs a ccd cl outer A₀ base h₀ L m s Q E B F X N T hk hp hd hu hret
end
/-- the letter that a sign of one of the alphabets bears -/
def letOf (c : Nat) : Nat := 97 + (c - (alph.find? (fun a => a ≤ c && c < a + 16)).getD 0)
/-- what is left of one sign -/
def unf (c : Int) : List Int := if b1Has c then [] else [((letOf c.toNat : Nat) : Int)]
/-- a sign that the law itself makes -/
def SignOk (c : Int) : Prop := b1Has c = true ∨ (b1Has c = false ∧ ∃ i j : Nat, i < 12 ∧ j < 16 ∧ c = ((alph.getD i 0 + j : Nat) : Int))
theorem letOf_alph : ∀ (i : Fin 12) (j : Fin 16), letOf (alph.getD i.val 0 + j.val) = 97 + j.val ∧ b1Has ((alph.getD i.val 0 + j.val : Nat) : Int) = false := by decide +kernel
theorem veil_b1 : ∀ j : Fin 27, b1Has ((veils.getD j.val 0 : Nat) : Int) = true := by decide +kernel
theorem dress_ok {told k o : Nat} (h : 65 ≤ o ∧ o ≤ 80) : (∀ c ∈ dress told k o, SignOk (c : Int)) ∧ (dress told k o).flatMap (fun c : Nat => unf (c : Int)) = [((o + 32 : Nat) : Int)] := by
  have h1 := letOf_alph ⟨(told + k) % 12, Nat.mod_lt _ (by decide)⟩ ⟨o - 65, by omega⟩
  have h2 := veil_b1 ⟨(told / 24 + k) % 27, Nat.mod_lt _ (by decide)⟩
  simp only at h1 h2
  have e1 : unf ((alph.getD ((told + k) % 12) 0 + (o - 65) : Nat) : Int) = [((o + 32 : Nat) : Int)] := by
    unfold unf
    rw [h1.2, if_neg Bool.false_ne_true, Int.toNat_natCast, h1.1, show 97 + (o - 65) = o + 32 by omega]
  have e2 : unf ((veils.getD ((told / 24 + k) % 27) 0 : Nat) : Int) = [] := by
    unfold unf
    rw [h2, if_pos rfl]
  have s1 : SignOk ((alph.getD ((told + k) % 12) 0 + (o - 65) : Nat) : Int) := .inr ⟨h1.2, _, _, Nat.mod_lt _ (by decide), by omega, rfl⟩
  unfold dress
  by_cases hp : (told / 12 + k) % 2 = 0
  · rw [if_pos hp]
    refine ⟨fun c hc => ?_, ?_⟩
    · rcases List.mem_cons.mp hc with rfl | hc
      · exact s1
      · rw [List.mem_singleton.mp hc]; exact .inl h2
    · simp only [List.flatMap_cons, List.flatMap_nil, e1, e2, List.append_nil]
  · rw [if_neg hp]
    refine ⟨fun c hc => ?_, ?_⟩
    · rw [List.mem_singleton.mp hc]; exact s1
    · simp only [List.flatMap_cons, List.flatMap_nil, e1, List.append_nil]
theorem carel_ok (told : Nat) : ∀ (l : List Nat) (k : Nat), (∀ o ∈ l, 65 ≤ o ∧ o ≤ 80) → (∀ c ∈ carel told k l, SignOk (c : Int)) ∧ (carel told k l).flatMap (fun c : Nat => unf (c : Int)) = l.map fun o : Nat => ((o + 32 : Nat) : Int)
  | [], _, _ => ⟨(fun _ h => nomatch h), rfl⟩
  | o :: r, k, h => by
    obtain ⟨a1, a2⟩ := dress_ok (told := told) (k := k) (h o (.head _))
    obtain ⟨b1, b2⟩ := carel_ok told r (k + 1) fun x hx => h x (.tail _ hx)
    refine ⟨fun c hc => ?_, ?_⟩
    · rcases List.mem_append.mp hc with q | q
      · exact a1 c q
      · exact b1 c q
    · simp only [carel, List.flatMap_append, a2, b2, List.map_cons, List.singleton_append]
/-- what _law_codes hands back -/
def codesOf (b : Array UInt8) (told : Nat) : List Int := (nats b).map fun o : Nat => if told / 648 = 3 then (o : Int) else ((o + 32 : Nat) : Int)
local macro_rules | `(tactic| walk_at "call ref") => `(tactic| (k_here; k_dflt (first
  | (refine' k_b1t (by assumption) ?k1 ?k2 ?k3 ?k4 ?k5 ?k6 ?k7 ?k8 ?_; (case k1 => k_asm); (case k2 => k_asm); (case k3 => k_asm); (case k4 => k_asm); (case k5 => k_asm); (case k6 => first | exact rfl | assumption); (case k7 => ktr_room); (case k8 => ktr_units); intro h9 tk9 F9 N9; (try dsimp only); (try k_fold))
  | (refine' k_b1f (by assumption) ?k1 ?k2 ?k3 ?k4 ?k5 ?k6 ?k7 ?k8 ?_; (case k1 => k_asm); (case k2 => k_asm); (case k3 => k_asm); (case k4 => k_asm); (case k5 => k_asm); (case k6 => first | exact rfl | assumption); (case k7 => ktr_room); (case k8 => ktr_units); intro h9 tk9 F9 N9; (try dsimp only); (try k_fold))
  | (refine' k_b3 (by assumption) ?k1 ?k2 ?k3 ?k4 ?k5 ?k6 ?k7 ?k8 ?_; (case k1 => k_asm); (case k2 => k_asm); (case k3 => k_asm); (case k4 => k_asm); (case k5 => k_asm); (case k6 => first | exact rfl | assumption); (case k7 => ktr_room); (case k8 => ktr_units); intro j9 t9 h9 tk9 hj9 he9 F9 N9; (try dsimp only); (try k_fold))
  | (refine' k_careless (by assumption) ?k1 ?k2 ?k3 ?k4 ?k5 ?k6 ?k7 ?k8 ?_; (case k1 => k_asm); (case k2 => k_asm); (case k3 => k_asm); (case k4 => k_asm); (case k5 => k_asm); (case k6 => first | exact rfl | assumption); (case k7 => ktr_room); (case k8 => ktr_units); intro t9 h9 tk9 F9 N9; (try dsimp only); (try k_fold)))))
local macro_rules | `(tactic| walk_at "call type:list") => `(tactic| (k_here; (with_reducible show wpAny _ _ (call (Value.type _) [Value.bytes _ _]) _ _ _); k_dflt (refine' list_bytes rfl ?k1 ?k2 ?k3 ?_; (case k1 => k_asm); (case k2 => k_asm); (case k3 => omega)); intro r' vs' n' h' tk' F' N' hI' l1))
local macro_rules | `(tactic| walk_at "exec For Name Call cons nil") => `(tactic| (k_here; (rename Fr _ _ _ _ => lF'); (with_unfolding_all refine' For_invVF lF' ?k1 ?k2 ?_; (case k1 => exact rfl); (case k2 => exact rfl); k_whole)))
theorem nil_le : (Str.ofString "").length ≤ sizeLine := by
  rw [sizeLine_eq]
  have e : (Str.ofString "").length = 0 := by decide +kernel
  rw [e]
  exact Nat.zero_le _
theorem one_le {c : Nat} : (⟨#[c]⟩ : Str).length ≤ sizeLine := by
  rw [sizeLine_eq]
  show 1 ≤ _
  decide
theorem nats_letters {b : Array UInt8} (h : Letters b) : ∀ o ∈ nats b, 65 ≤ o ∧ o ≤ 80 := by
  intro o ho
  obtain ⟨c, hc, rfl⟩ := List.mem_map.mp ho
  exact h c hc
theorem nats_len (b : Array UInt8) : (nats b).length = b.size := by simp [nats]
theorem pre_len {told : Nat} {b : Array UInt8} {pre post : List Int} {n : Int} (hb : b.size ≤ 64) (e : KStt.codes ⟨(carel told 0 (nats b)).toArray⟩ = pre ++ n :: post) : pre.length ≤ 128 := by
  have h1 := congrArg List.length e
  rw [KStt.codes_length] at h1
  have h2 : (⟨(carel told 0 (nats b)).toArray⟩ : Str).length = (carel told 0 (nats b)).length := List.size_toArray
  have h3 := carel_len told (nats b) 0
  rw [nats_len] at h3
  simp only [List.length_append, List.length_cons] at h1
  omega
theorem codes_end {told : Nat} {b : Array UInt8} (h3 : (told : Int).fdiv 648 ≠ 3) (hfl : (carel told 0 (nats b)).flatMap (fun c : Nat => unf (c : Int)) = (nats b).map fun o : Nat => ((o + 32 : Nat) : Int)) :
    (KStt.codes ⟨(carel told 0 (nats b)).toArray⟩).flatMap unf = codesOf b told := by
  have e3 : told / 648 ≠ 3 := by
    rw [Int.fdiv_eq_ediv_of_nonneg _ (by decide)] at h3
    omega
  have e1 : KStt.codes ⟨(carel told 0 (nats b)).toArray⟩ = (carel told 0 (nats b)).map (fun c : Nat => (c : Int)) := rfl
  rw [e1, List.flatMap_map, hfl]
  unfold codesOf
  refine List.map_congr_left fun o _ => ?_
  rw [if_neg e3]
theorem same_map {m₀ u : Str → Option Value} {a b c : Option Value} : ∀ z, z ≠ Str.ofString "typed" → (∀ p ∈ ([] : List (Str × Value)), z ≠ p.1) → [Str.ofString "veiled", Str.ofString "text"].contains z = false →
    (if z = Str.ofString "text" then a else if z = Str.ofString "veiled" then b else if z = Str.ofString "typed" then c else kstB (fun z => if [Str.ofString "veiled", Str.ofString "text"].contains z then u z else m₀ z) [] z) = m₀ z := by
  intro z h1 _ h3
  have h3' := h3
  simp only [List.contains_cons, List.contains_nil, Bool.or_false, Bool.or_eq_false_iff, beq_eq_false_iff_ne] at h3'
  rw [if_neg h3'.2, if_neg h3'.1, if_neg h1]
  show (if [Str.ofString "veiled", Str.ofString "text"].contains z = true then u z else m₀ z) = m₀ z
  rw [h3]
  rfl
theorem ints_snoc {k : Int} {t : Tok} : ∀ {vs : List Value} {ns : List Int}, IntsAre vs ns → IntsAre (vs ++ [.int k t]) (ns ++ [k])
  | _, _, .nil => .cons _ _ .nil
  | _, _, .cons _ _ h => .cons _ _ (ints_snoc h)
theorem unf_alph {n i j : Nat} (hi : i < 12) (hj : j < 16) (hn : b1Has (n : Int) = false) (he : n = alph.getD i 0 + j) : unf (n : Int) = [((97 + j : Nat) : Int)] := by
  have hl := letOf_alph ⟨i, hi⟩ ⟨j, hj⟩
  simp only at hl
  rw [unf, if_neg (by rw [hn]; exact Bool.false_ne_true), Int.toNat_natCast, he, hl.1]
local macro_rules | `(tactic| walk_at "eval ListComp") => `(tactic| (k_here; k_dflt (refine' comp_signs ?k0 ?k1 ?k2 ?k3 ?k4 ?k5 ?k6 ?k7 ?_; (case k0 => k_asm); (case k1 => with_unfolding_all rfl); (case k2 => with_unfolding_all rfl); (case k3 => decide); (case k4 => with_unfolding_all rfl); (case k5 => decide); (case k6 => with_unfolding_all rfl); (case k7 => intro _; with_unfolding_all rfl))))
local macro_rules | `(tactic| walk_at "SignPack") => `(tactic| (k_here; (rename Fr _ _ _ _ => F'); (rename News _ _ _ _ => N'); (with_unfolding_all refine' SignPack.intro ⟨_, _, _, rfl, ?kz, F', N', ?kl, ?_⟩); (case kz => with_reducible first | exact nil_le | exact one_le); (case' kl => (intro C' c' u' s2' m2' E' hC' hn' hx' hk')); rotate_left 1; (intro D' ys' nD' h' tk' F' N' hD' hI'); (with_reducible first | (have eI' := ints_nil hI'; subst eI') | (obtain ⟨tI', eI'⟩ := ints_one hI'; subst eI')); rotate_right 1))
local macro_rules | `(tactic| walk_at "call builtin:list.extend") => `(tactic| (k_here; k_dflt (first
  | (refine' ext_nil ?k1 ?k2 (by assumption) (by assumption) (by assumption) (by assumption) ?_; (case k1 => k_asm); (case k2 => k_asm); intro h' F' N')
  | (refine' ext_one ?k1 ?k2 (by assumption) (by assumption) (by assumption) (by assumption) ?_; (case k1 => k_asm); (case k2 => k_asm); intro h' F' N'))))
theorem fr_as {h₀ : Heap} {L : Addr} {h : Heap} {m : Str → Option Value} (m' : Str → Option Value) (F : Fr h₀ L h m) (e : m = m') : Fr h₀ L h m' := e ▸ F
theorem sign_in {l : List Nat} {pre post : List Int} {n : Nat} (h : ∀ c ∈ l, SignOk (c : Int)) (e : KStt.codes ⟨l.toArray⟩ = pre ++ (n : Int) :: post) : SignOk (n : Int) := by
  have h1 : (n : Int) ∈ KStt.codes ⟨l.toArray⟩ := by rw [e]; exact List.mem_append_right _ (.head _)
  unfold KStt.codes at h1
  obtain ⟨c, hc, e2⟩ := List.mem_map.mp h1
  rw [← e2]
  exact h c hc
set_option maxHeartbeats 8000000 in
theorem c_codes {w : World} {mean : ExcName → Option Value} {mg mb : Str → Option Value} {b : Array UInt8} {tb : Tok} {told : Nat} {tt : Tok} {news : List (Addr × Obj)} {dp un : Nat} {gd : Option (List Code)} {cn : Str} {cs : Scope} {a : Addr} {ccd : Value} {cl : List (Str × Addr)} {outer : List Env} {A₀ : Around} {base h₀ : Heap} {L : Addr} {m : Str → Option Value} {s : Shared} {Q E : Value → Shared → Prop}
    (hp : Letters b ∧ b.size ≤ 64 ∧ told < 2592) (B : Below A₀ base outer h₀) (F : Fr h₀ L s.heap m) (X : (myK w.params).In h₀) (N : News h₀ L s.heap news) (T : Top qv loose0 mean mg mb h₀) (hk : cs.kind = .function) (hd : dp + 2 < recursionLimit) (hu : un + 16 < cLine)
    (hret : ∀ (r : Addr) (vs : List Value) (n : Nat) (h' : Heap) (tk' : Nat), Fr h₀ L h' m → News h₀ L h' ((r, W.listOf vs.toArray n) :: news) → IntsAre vs (codesOf b told) → (∀ p ∈ news, p.1 < r) → Q (.ref r) { s with heap := h', toks := tk' }) :
    wpAny (model rw0.row.prog w) (ktrTop dp un gd cn cs L a ccd cl outer) (call (.ref 97) [.bytes b tb, .int told tt]) Q E s := by
  revert X
  k_fill
  intro X
  obtain ⟨hLet, hbz, htd⟩ := id hp
  have hLetN := nats_letters hLet
  refine wpAny_call ?_
  k_dflt cell_enter
  k_steps
  · have e3 : told / 648 = 3 := by
      have h3 : (told : Int).fdiv 648 = 3 := by assumption
      rw [Int.fdiv_eq_ediv_of_nonneg _ (by decide)] at h3
      omega
    have e : KBw.bInts b = codesOf b told := by
      simp only [KBw.bInts, codesOf, nats, List.map_map, e3]
      rfl
    exact hret _ _ _ _ _ (by assumption) (by assumption) (by rw [← e]; assumption) (by assumption)
  · rename_i l' h1 l1 h2 lF' N' t9 h9 tk9 F9 N9
    clear lF' N'
    replace F9 := fr_as (fun y => if y = Str.ofString "codes" then some (Value.ref l') else List.lookup y [(Str.ofString "told", Value.int told tt), (Str.ofString "word", Value.bytes b tb)]) F9 (by with_unfolding_all rfl)
    obtain ⟨hok, hfl⟩ := carel_ok told (nats b) 0 hLetN
    refine KStt.kst_text (σ := List Value × Nat × List Int) (fun c => (l', W.listOf c.1.toArray c.2.1) :: news) (fun _ => []) (fun c => IntsAre c.1 c.2.2) [Str.ofString "veiled", Str.ofString "text"] (fun pre c => c.2.2 = pre.flatMap unf ∧ c.2.2.length ≤ pre.length) ([], 0, []) rfl F9 N9 .nil (List.forall_mem_nil _) ⟨rfl, Nat.le_refl _⟩ ?_ ?_
    · rintro ⟨vs, nn, ns⟩ pre post n t u h tk own e ho hI ⟨hc, hl⟩ F1 N1
      dsimp only at hI hc hl F1 N1 ⊢
      have hn : SignOk (n : Int) := sign_in hok e
      have hpl := pre_len hbz e
      have hv : vs.length ≤ 1000 := by rw [hI.length]; omega
      replace ho : OwnOff own (l' :: news.map (·.1)) := ho
      clear F9 N9 hok hfl e
      rcases hn with hn | ⟨hn, hm⟩
      · k_steps
        case kl.refine_1 => exact Carried.int _ _
        case kl.refine_2 => exact ⟨_, _, rfl, fun _ _ e => e⟩
        rename Fr _ _ _ _ => Fz
        rename News _ _ _ _ => Nz
        refine kst_end (vs, nn, ns) Fz Nz (fun p hp => List.mem_append_left _ hp) (fun p hp => List.mem_append_right _ hp) rfl hI (List.forall_mem_nil _) same_map ⟨?_, ?_⟩
        · show ns = _
          rw [List.flatMap_append, ← hc, List.flatMap_cons, unf, if_pos hn]
          simp
        · show ns.length ≤ _
          simp only [List.length_append, List.length_cons]
          omega
      · k_steps
        (rename Fr _ _ _ _ => F'); (rename News _ _ _ _ => N')
        with_unfolding_all refine' SignPack.intro ⟨_, _, _, rfl, ?kz, F', N', ?kl, ?_⟩
        case kz => exact one_le
        case' kl => (intro C' c' u' s2' m2' E' hC' hn' hx' hk')
        rotate_left 1
        (intro D' ys' nD' h' tk' F' N' hD' hI')
        obtain ⟨tI', eI'⟩ := ints_one hI'; subst eI'
        k_steps
        case kl.refine_1 => exact Carried.int _ _
        case kl.refine_2 => exact ⟨_, _, rfl, fun _ _ e => e⟩
        rename Fr _ _ _ _ => Fz
        rename News _ _ _ _ => Nz
        rename ∃ i : Nat, i < 12 ∧ n = _ => he
        rename _ < 16 => hj
        obtain ⟨i, hi, he⟩ := he
        refine kst_end (_, nn + 1, ns ++ unf (n : Int)) Fz Nz (fun p hp => List.mem_append_left _ hp) (fun p hp => List.mem_append_right _ hp) rfl ?_ (List.forall_mem_nil _) same_map ⟨?_, ?_⟩
        · show IntsAre _ (ns ++ unf (n : Int))
          rw [unf_alph hi hj hn he]
          exact ints_snoc hI
        · show ns ++ unf (n : Int) = _
          rw [List.flatMap_append, ← hc, List.flatMap_cons]
          simp
        · show (ns ++ unf (n : Int)).length ≤ _
          have : (unf (n : Int)).length ≤ 1 := by unfold unf; split <;> simp
          simp only [List.length_append, List.length_cons]
          omega
    · rintro ⟨vs, nn, ns⟩ u h tk hI ⟨hc, hl⟩ F1 N1
      dsimp only at hI hc hl F1 N1 ⊢
      k_steps
      refine hret _ _ _ _ _ (by assumption) (by assumption) ?_ (by assumption)
      rw [← codes_end (by assumption) hfl, ← hc]
      exact hI
end Mine
end
section
open PySem PySem.W PyProof.Rows PySem.Calls PySem.Spec
set_option maxRecDepth 100000
namespace Mine
section
variable {prog : Program} {w : World} {A : Around} {E : Value → Shared → Prop} {s : Shared} {env : Env} {h₀ : Heap} {body : List Stmt} {Q : Flow → Shared → Prop}
/-- a loop over a range whose target is any name (a cell too) -/
theorem range_turns {x : Str} {px : Pos} {r : Addr} {t₀ u₀ v₀ : Tok} {n : Nat} {m₀ : Str → Option Value} {news : List (Addr × Obj)} (J : Nat → (Str → Option Value) → List (Addr × Obj) → Prop)
    (hh : A.handled = none) (hr : IsRange s.heap r 0 n 1 t₀ u₀ v₀) (hsmall : Builtin.Range.small 0 n 1 = true) (hn : Builtin.Range.rangeSize 0 n 1 = (n : Int)) (F : Fr h₀ env.locals s.heap m₀) (N : News h₀ env.locals s.heap news) (hj : J 0 m₀ news)
    (turn : ∀ (i : Nat) t m₁ news₁ h tk own, i < n → news₁.map (·.1) = news.map (·.1) → OwnOff own (news.map (·.1)) → J i m₁ news₁ → Fr h₀ env.locals h m₁ → News h₀ env.locals h (news₁ ++ own) →
      wpAny (model prog w) A (assign (.Name x px) env (.int i t)) (fun _ s₃ => wpAny (model prog w) A (execs body env) (InvPostN h₀ env.locals (J (i + 1)) own (news.map (·.1)) { s with heap := h, toks := tk } Q) E s₃) E { s with heap := h, toks := tk })
    (done : ∀ m₁ news₁ h tk, news₁.map (·.1) = news.map (·.1) → J n m₁ news₁ → Fr h₀ env.locals h m₁ → News h₀ env.locals h news₁ → Q .next { s with heap := h, toks := tk }) :
    wpAny (model prog w) A (pyIter (.ref r)) (fun it s₂ => TurnsAt prog w A h₀ env (.Name x px) body Q E it s₂) E s := by
  refine wpAny_pyIter_range hr hsmall ?_
  have W : Walks prog w A s.heap.objs.size [s.heap.objs.size] [s.heap.objs.size] n (fun i v => i < n ∧ ∃ t, v = .int (0 + i * 1) t)
      (fun i h => IsRangeIter h s.heap.objs.size (0 + (i : Nat) * 1) ((n : Int) - (i : Nat)) 1) := (Walks.range hh _ 0 1 n).bound
  have WT := KTurns.ofWalks (target := .Name x px) W (fun i v s Q E _ hQ => by exact wpAny_pure hQ)
  let J' : Nat → (Str → Option Value) → List (Addr × Obj) → Prop := fun i m₁ news₁ => news₁.map (·.1) = news.map (·.1) ∧ J i m₁ news₁
  refine ⟨_, _, _, n, _, _, _, m₀, news, J', rfl, WT, ?_, ?_, ?_, (by show IsRangeIter _ _ _ _ _; rw [hn]; simpa using Heap.get?_push_size _ rfl), F.push _, (fun p hp => ⟨Heap.get?_push_of_some _ (N p hp).1, (N p hp).2⟩), ⟨rfl, hj⟩, ?_, ?_⟩
  · intro hm
    exact absurd F.ns.lt ((List.mem_singleton.mp hm) ▸ Nat.lt_irrefl _)
  · intro b hb
    rw [List.mem_singleton.mp hb]
    exact next_is_new F
  · intro p hp hI
    exact absurd (Heap.lt_size (N p hp).1) ((List.mem_singleton.mp hI) ▸ Nat.lt_irrefl _)
  · rintro i v m₁ news₁ h₁ tk₁ own hi ⟨_, t, rfl⟩ ⟨hadr, hJ⟩ hoff hown _ _ _ F₁ N₁
    have e1 : (0 : Int) + (i : Int) * 1 = (i : Int) := by omega
    rw [e1]
    have hsep : OwnOff own (news.map (·.1)) := by
      intro p hp b hb e
      obtain ⟨q, hq, rfl⟩ := List.mem_map.mp hb
      have h1 := List.mem_singleton.mp (hown p hp)
      exact absurd (Heap.lt_size (N q hq).1) (by rw [← e, h1]; exact Nat.lt_irrefl _)
    have N₂ : News h₀ env.locals h₁ (news₁ ++ own) := fun p hp => N₁ p ((List.mem_append.mp hp).elim (fun h => List.mem_append.mpr (.inr h)) fun h => List.mem_append.mpr (.inl h))
    refine wpAny_mono (turn i t m₁ news₁ h₁ tk₁ own hi hadr hsep hJ F₁ N₂) (fun _ s₃ q => wpAny_mono q (fun f s₂ p => ?_) fun _ _ e => e) fun _ _ e => e
    have fin : InvEndN h₀ env.locals (J (i + 1)) own (news.map (·.1)) { s with heap := h₁, toks := tk₁ } s₂ → LoopStepU h₀ env.locals [s.heap.objs.size] own (J' (i + 1)) { s with heap := h₁, toks := tk₁ } .next s₂ := by
      rintro ⟨h', tk, m', news', nx, e, F', N', hn, ho, ha, hm⟩
      refine ⟨rfl, h', tk, m', nx, e, F', fun p hp => N' p ((List.mem_append.mp hp).elim (ho p) (hn p)), fun p hp hq => ?_, ha, hm⟩
      have h1 : p.1 ∈ nx.map (·.1) := List.mem_map.mpr ⟨p, hp, rfl⟩
      rw [ha, ← hadr] at h1
      obtain ⟨q, hq1, hq2⟩ := List.mem_map.mp h1
      exact hoff q hq1 (by rw [hq2]; exact hq)
    cases f with
    | ret v => exact .ret p
    | brk => exact .brk p
    | next => exact .next (fin p)
    | cont => exact .cont (fin p)
  · rintro h' tk m' news' F' N' _ ⟨hadr, hJ⟩
    exact done m' news' h' tk hadr hJ F' N'
end
end Mine
end
section
open PySem PySem.W PyProof.Rows PySem.Calls PySem.Spec
set_option maxRecDepth 100000
namespace Mine
theorem kf_ints_of {vs : List Value} {ns : List Int} (h : IntsAre vs ns) : kf_ints vs = true := by
  induction h with
  | nil => rfl
  | cons n t _ ih => exact ih
theorem kf_at_of : ∀ {ns : List Int} {vs : List Value}, IntsAre vs (ns ++ [0]) → kf_at 0 vs = some (ns.findIdx (· == 0))
  | [], _, .cons _ _ h => rfl
  | n :: ns, _, .cons _ t h => by
    have ih := kf_at_of h
    unfold kf_at
    by_cases e : n = 0
    · subst e; rfl
    · have e1 : isInt 0 (.int n t) = false := by unfold isInt; simpa using e
      rw [e1, ih]
      have e2 : (n == 0) = false := by simpa using e
      rw [List.findIdx_cons, e2]
      rfl
section
variable {prog : Program} {w : World} {A : Around} {E : Value → Shared → Prop} {s : Shared} {h₀ : Heap} {L D : Addr} {news : List (Addr × Obj)} {vs : List Value} {ns : List Int} {n : Nat}
theorem index_zero {t : Tok} {Q : Value → Shared → Prop} (N : News h₀ L s.heap news) (hm : (D, W.listOf vs.toArray n) ∈ news) (hI : IntsAre vs (ns ++ [0])) (hz : ns.length ≤ 1000)
    (h : Q (.int ((ns.findIdx (· == 0) : Nat) : Int) s.toks) { s with toks := s.toks + 1 }) : wpAny (model prog w) A (call (.builtin "list.index") [.ref D, .int 0 t]) Q E s := by
  refine kf_index N hm (kf_ints_of hI) (kf_at_of hI) rfl ?_ h
  have := hI.length
  simp only [List.length_append, List.length_cons, List.length_nil] at this
  rw [sizeLine_eq]
  show vs.length ≤ _
  omega
end
end Mine
end
section
open PySem PySem.W PyProof.Rows PySem.Calls PySem.Spec
set_option maxRecDepth 100000
namespace Mine
/-- where a walk is to rest -/
def Stop (P : Prop) : Prop := P
theorem Stop.intro {P : Prop} (h : P) : Stop P := h
theorem Stop.go {P : Prop} (h : Stop P) : P := h
/-- how many ones stand ahead of the first nought -/
def onesOf (l : List Int) : Nat := (l.findIdx (· == 0))
theorem onesOf_le (l : List Int) : onesOf l ≤ l.length := List.findIdx_le_length
section
variable {prog : Program} {w : World} {A : Around} {E : Value → Shared → Prop} {s : Shared} {h₀ : Heap} {L D : Addr} {m : Str → Option Value} {news rest : List (Addr × Obj)} {vs : List Value} {ns : List Int} {n : Nat}
theorem index_o {t : Tok} {r : Nat} {Q : Value → Shared → Prop} (N : News h₀ L s.heap news) (hm : (D, W.listOf vs.toArray n) ∈ news) (hI : IntsAre vs (ns ++ [0])) (hl : ns.length = r) (hz : r ≤ 1000)
    (h : ∀ o : Nat, o = onesOf ns → o ≤ r → Q (.int (o : Int) s.toks) { s with toks := s.toks + 1 }) : wpAny (model prog w) A (call (.builtin "list.index") [.ref D, .int 0 t]) Q E s :=
  index_zero N hm hI (by omega) (h _ rfl (hl ▸ onesOf_le ns))
theorem due_append {x : Value} {Q : Value → Shared → Prop} (F : Fr h₀ L s.heap m) (N : News h₀ L s.heap news) (hs : ∀ p ∈ (D, W.listOf vs.toArray n) :: rest, p ∈ news) (hd : ∀ p ∈ rest, p.1 ≠ D) (hz : vs.length ≤ 1000)
    (h : ∀ h', Fr h₀ L h' m → News h₀ L h' ((D, W.listOf (vs ++ [x]).toArray (n + 1)) :: rest) → Q .none { s with heap := h' }) : wpAny (model prog w) A (call (.builtin "list.append") [.ref D, x]) Q E s := by
  refine append_K F (fun p hp => N p (hs p hp)) (.head hd) (fun h' F' N' => h h' F' ?_) (by rw [List.size_toArray, sizeLine_eq]; omega)
  simpa using N'
end
theorem size_of_ints {vs : List Value} {ns : List Int} (h : IntsAre vs ns) (hz : ns.length ≤ 1000) : vs.toArray.size ≤ sizeLine := by
  rw [List.size_toArray, h.length, sizeLine_eq]
  omega
section
variable {prog : Program} {w : World} {A : Around} {E : Value → Shared → Prop} {s : Shared} {h₀ : Heap} {L l : Addr} {m : Str → Option Value} {news : List (Addr × Obj)} {value slice : PySem.Expr} {Q : Value → Shared → Prop}
theorem sl_upto {vs : List Value} {ns : List Int} {y : Int} {ty : Tok} (F : Fr h₀ L s.heap m) (N : News h₀ L s.heap news) (hl : s.heap.IsList l vs.toArray) (hi : IntsAre vs ns) (h0 : 0 ≤ y) (hz : vs.toArray.size ≤ sizeLine)
    (h : ∀ D ws h', Fr h₀ L h' m → News h₀ L h' ((D, W.listOf (List.toArray ws) 0) :: news) → (∀ p ∈ news, p.1 < D) → IntsAre ws (ns.take y.toNat) → Q (.ref D) { s with heap := h' })
    (hs : subscripted slice false (.ref l) (.ref s.heap.objs.size) = operate [.ref s.heap.objs.size, .ref l] (getItem (.ref l) (.ref s.heap.objs.size))) (ht : ∀ r, letTemporaryGo value (.ref l) r = pure ()) :
    wpAny (model prog w) A (subscriptTail value slice (.ref l) (.ref s.heap.objs.size)) Q E { s with heap := s.heap.push { cls := .type "slice", data := .fields #[.none, .int y ty, .none] } } :=
  kmk_slice_ints F N hl .none (.int _ _) hi (kmk_upto hi h0) rfl (fun D ws h' F' N' l1 hI' _ _ => h D ws h' F' N' l1 hI') hs ht hz
theorem sl_from {vs : List Value} {ns : List Int} {x : Int} {tx : Tok} (F : Fr h₀ L s.heap m) (N : News h₀ L s.heap news) (hl : s.heap.IsList l vs.toArray) (hi : IntsAre vs ns) (h0 : 0 ≤ x) (hz : vs.toArray.size ≤ sizeLine)
    (h : ∀ D ws h', Fr h₀ L h' m → News h₀ L h' ((D, W.listOf (List.toArray ws) 0) :: news) → (∀ p ∈ news, p.1 < D) → IntsAre ws (ns.drop x.toNat) → Q (.ref D) { s with heap := h' })
    (hs : subscripted slice false (.ref l) (.ref s.heap.objs.size) = operate [.ref s.heap.objs.size, .ref l] (getItem (.ref l) (.ref s.heap.objs.size))) (ht : ∀ r, letTemporaryGo value (.ref l) r = pure ()) :
    wpAny (model prog w) A (subscriptTail value slice (.ref l) (.ref s.heap.objs.size)) Q E { s with heap := s.heap.push { cls := .type "slice", data := .fields #[.int x tx, .none, .none] } } :=
  kmk_slice_ints F N hl (.int _ _) .none hi (kmk_from hi h0) rfl (fun D ws h' F' N' l1 hI' _ _ => h D ws h' F' N' l1 hI') hs ht hz
end
end Mine
end
section
open PySem PySem.W PyProof.Rows PySem.Calls PySem.Spec
set_option maxRecDepth 100000
namespace Mine
/-- the figures of a place, the last one first -/
abbrev wfig (r i : Nat) : List Int := List.map (fun k' : Int => ((i : Int).fdiv (2 ^ k'.toNat)).fmod 2) (rangeKs 0 ((r : Int) - 0).toNat)
abbrev rst (fs ks : List Int) (i : Nat) : Int := fs.getD ((i : Int).fdiv (2 ^ (ks.length : Int).toNat)).toNat 0
abbrev rahd (r i o : Nat) : List Int := List.drop ((o : Int) + 1).toNat (wfig r i)
/-- one code of the ruler -/
def rcode (fs ks : List Int) (i : Nat) : Int :=
  if (onesOf (wfig ks.length i) : Int) = (ks.length : Int) then 65 + (rst fs ks i + (ks.length : Int)).fmod 16
  else (if ks.getD ((ks.length : Int) - 1 - (onesOf (wfig ks.length i) : Int)).toNat 0 = 3 then 69 else 71) + (onesOf (wfig ks.length i) : Int)
    + (if ((rahd ks.length i (onesOf (wfig ks.length i))).any fun x => x == 0) = false ∧ (rst fs ks i + ((rahd ks.length i (onesOf (wfig ks.length i))).length : Int)).fmod 16 = 15 then 1 else 0)
theorem rc_all {fs ks : List Int} {i o : Nat} (ho : o = onesOf (wfig ks.length i)) (h : (o : Int) = (ks.length : Int)) : 65 + (rst fs ks i + (ks.length : Int)).fmod 16 = rcode fs ks i := by
  subst ho
  exact (if_pos h).symm
theorem rc_else {fs ks : List Int} {i o : Nat} {K c : Int} (ho : o = onesOf (wfig ks.length i)) (h : (o : Int) ≠ (ks.length : Int)) (hK : K = if ks.getD ((ks.length : Int) - 1 - (o : Int)).toNat 0 = 3 then 69 else 71)
    (hc : c = if ((rahd ks.length i o).any fun x => x == 0) = false ∧ (rst fs ks i + ((rahd ks.length i o).length : Int)).fmod 16 = 15 then 1 else 0) : K + (o : Int) + c = rcode fs ks i := by
  subst ho
  rw [hK, hc]
  exact (if_neg h).symm
def rcodes (fs ks : List Int) (n : Nat) : List Int := (List.range n).map (rcode fs ks)
theorem rcodes_len (fs ks : List Int) (n : Nat) : (rcodes fs ks n).length = n := by simp [rcodes]
theorem rcodes_snoc (fs ks : List Int) (n : Nat) : rcodes fs ks (n + 1) = rcodes fs ks n ++ [rcode fs ks n] := by simp [rcodes, List.range_succ]
theorem rcode_bnd {fs ks : List Int} (hk : ks.length ≤ 4) (i : Nat) : 0 ≤ rcode fs ks i ∧ rcode fs ks i < 256 := by
  have h1 : 0 ≤ (rst fs ks i + (ks.length : Int)).fmod 16 ∧ (rst fs ks i + (ks.length : Int)).fmod 16 < 16 := ⟨Int.fmod_nonneg_of_pos _ (by decide), Int.fmod_lt_of_pos _ (by decide)⟩
  have h2 : onesOf (wfig ks.length i) ≤ ks.length := by
    have := onesOf_le (wfig ks.length i)
    rw [List.length_map, rangeKs_length] at this
    omega
  unfold rcode
  generalize onesOf (wfig ks.length i) = o at *
  split
  · omega
  · split <;> split <;> omega
theorem rcodes_bnd {fs ks : List Int} (hk : ks.length ≤ 4) (n : Nat) : ∀ c ∈ rcodes fs ks n, 0 ≤ c ∧ c < 256 := by
  intro c hc
  obtain ⟨i, _, rfl⟩ := List.mem_map.mp hc
  exact rcode_bnd hk i
abbrev rStored : List Str := [Str.ofString "start", Str.ofString "figures", Str.ofString "ones", Str.ofString "ahead", Str.ofString "comes"]
/-- the loop's state -/
def RJ (fs ks : List Int) (l' c : Addr) (rest : List (Addr × Obj)) (m₀ : Str → Option Value) (i : Nat) (m₁ : Str → Option Value) (nx : List (Addr × Obj)) : Prop :=
  ∃ vs nn oc v₀, nx = (l', W.listOf vs.toArray nn) :: (c, oc) :: rest ∧ oc.data = .cell v₀ ∧ IntsAre vs (rcodes fs ks i) ∧ ∀ z, rStored.contains z = false → m₁ z = m₀ z
theorem RJ.fr {h₀ : Heap} {L : Addr} {h : Heap} {m₀ m₁ : Str → Option Value} (F : Fr h₀ L h m₁) (hz : ∀ z, rStored.contains z = false → m₁ z = m₀ z) : Fr h₀ L h (fun y => if rStored.contains y then m₁ y else m₀ y) := by
  refine fr_as _ F (funext fun y => ?_)
  by_cases e : rStored.contains y = true
  · rw [if_pos e]
  · rw [if_neg e]
    exact hz y (by simpa using e)
theorem upd_cell {l' c f g : Addr} {o1 oc of' og : Obj} {news own : List (Addr × Obj)} {adr : List Addr} (h1 : l' ≠ c) (h2 : f ≠ c) (h3 : g ≠ c) (h4 : ∀ p ∈ news, p.1 ≠ c) (ho : OwnOff own adr) (hc : c ∈ adr) :
    UpdF c oc (((l', o1) :: (c, oc) :: (f, of') :: (g, og) :: news) ++ own) (fun o' => ((l', o1) :: (c, o') :: (f, of') :: (g, og) :: news) ++ own) :=
  .tail h1 (.head fun p hp => by
    rcases List.mem_cons.mp hp with rfl | hp
    · exact h2
    · rcases List.mem_cons.mp hp with rfl | hp
      · exact h3
      · rcases List.mem_append.mp hp with q | q
        · exact h4 p q
        · exact ho p q c hc)
theorem due_off {l' c f g : Addr} {oc of' og : Obj} {news own : List (Addr × Obj)} {adr : List Addr} (h1 : c < l') (h2 : f < l') (h3 : g < l') (h4 : ∀ p ∈ news, p.1 < l') (ho : OwnOff own adr) (hc : l' ∈ adr) :
    ∀ p ∈ (c, oc) :: (f, of') :: (g, og) :: (news ++ own), p.1 ≠ l' := by
  intro p hp
  rcases List.mem_cons.mp hp with rfl | hp
  · exact Nat.ne_of_lt h1
  rcases List.mem_cons.mp hp with rfl | hp
  · exact Nat.ne_of_lt h2
  rcases List.mem_cons.mp hp with rfl | hp
  · exact Nat.ne_of_lt h3
  rcases List.mem_append.mp hp with q | q
  · exact Nat.ne_of_lt (h4 p q)
  · exact ho p q l' hc
theorem RJ.end_ {fs ks : List Int} {l' c : Addr} {rest own : List (Addr × Obj)} {m₀ m' : Str → Option Value} {i nn : Nat} {vs : List Value} {x : Int} {t : Tok} {oc : Obj} {v : Option Value} {h₀ h' : Heap} {L : Addr} {adr : List Addr} {s₀ : Shared} {tk : Nat}
    (F : Fr h₀ L h' m') (N : News h₀ L h' ((l', W.listOf (vs ++ [Value.int x t]).toArray (nn + 1)) :: (c, oc) :: (rest ++ own))) (hd : oc.data = .cell v) (hI : IntsAre vs (rcodes fs ks i)) (hx : x = rcode fs ks i)
    (ha : (l' :: c :: rest.map (·.1)) = adr) (hm : ∀ z, rStored.contains z = false → m' z = m₀ z) : InvEndN h₀ L (RJ fs ks l' c rest m₀ (i + 1)) own adr s₀ { s₀ with heap := h', toks := tk } := by
  refine ⟨h', tk, m', _, (l', W.listOf (vs ++ [Value.int x t]).toArray (nn + 1)) :: (c, oc) :: rest, rfl, F, N, ?_, ?_, ha, _, nn + 1, oc, v, rfl, hd, ?_, hm⟩
  · intro p hp
    rcases List.mem_cons.mp hp with rfl | hp
    · exact .head _
    rcases List.mem_cons.mp hp with rfl | hp
    · exact .tail _ (.head _)
    exact .tail _ (.tail _ (List.mem_append_left _ hp))
  · intro p hp
    exact .tail _ (.tail _ (List.mem_append_right _ hp))
  · rw [rcodes_snoc, ← hx]
    exact ints_snoc hI
theorem pow_bnd {n r : Nat} (hn : n ≤ 4) (hr : r ≤ 4) : n * 2 ^ r ≤ 64 := Nat.mul_le_mul hn (Nat.pow_le_pow_right (by decide) hr)
theorem first_bnd {i n r : Nat} (hi : i < n * 2 ^ r) (hn : n ≤ 4) : 0 ≤ (i : Int).fdiv (2 ^ ((r : Int)).toNat) ∧ (i : Int).fdiv (2 ^ ((r : Int)).toNat) < n ∧ (i : Int).fdiv (2 ^ ((r : Int)).toNat) < 2 ^ 63 := by
  have e : (i : Int).fdiv (2 ^ ((r : Int)).toNat) = ((i / 2 ^ r : Nat) : Int) := by
    rw [Int.toNat_natCast, Int.fdiv_eq_ediv_of_nonneg _ (Int.le_of_lt (Int.pow_pos (by decide)))]
    push_cast
    rfl
  have h1 : i / 2 ^ r < n := Nat.div_lt_of_lt_mul (by rw [Nat.mul_comm]; exact hi)
  rw [e]
  generalize i / 2 ^ r = q at *
  omega
theorem idx_lo {r o : Nat} (h : (o : Int) ≠ (r : Int)) (hl : o ≤ ((r : Int) - 0).toNat) : 0 ≤ (r : Int) - 1 - (o : Int) := by omega
theorem idx_hi {r o : Nat} : (r : Int) - 1 - (o : Int) < (r : Int) := by omega
theorem idx_fit {r o : Nat} (hr : r ≤ 4) : (r : Int) - 1 - (o : Int) < 2 ^ 63 := by omega
theorem fit4 {r : Nat} (hr : r ≤ 4) : (r : Int) < 2 ^ 63 := by omega
theorem ahd_fit {α : Type} {r o : Nat} {f : Int → α} (hr : r ≤ 4) : (((List.map f (rangeKs 0 ((r : Int) - 0).toNat)).drop o).length : Int) < 2 ^ 63 := by
  simp only [List.length_drop, List.length_map, rangeKs_length]; omega
theorem nn_succ {o : Nat} : 0 ≤ (o : Int) + 1 := by omega
theorem figs_size {vs : List Value} {r : Nat} {f : Int → Int} (h : IntsAre vs (List.map f (rangeKs 0 ((r : Int) - 0).toNat))) (hr : r ≤ 4) : vs.toArray.size ≤ sizeLine :=
  size_of_ints h (by rw [List.length_map, rangeKs_length]; omega)
end Mine
end
section
open PySem PySem.W PyProof.Rows PySem.Calls PySem.Spec
set_option maxRecDepth 100000
namespace Mine
local macro_rules | `(tactic| walk_at "exec For Name Call cons nil") => `(tactic| (k_here; (rename Fr _ _ _ _ => lF'); (with_unfolding_all refine' For_turns lF' ?_; k_whole)))
local macro_rules | `(tactic| walk_at "subscriptTail") => `(tactic| (k_here; (with_reducible show wpAny _ _ (subscriptTail _ _ (Value.ref _) (Value.int _ _)) _ _ _); (with_unfolding_all refine' item_anyK (News.isList (by assumption) (by k_mem)) ?k2 ?k3 ?k4 ?k5 ?_ ?k6; (case k2 => assumption); (case k3 => first | assumption | exact idx_lo (by assumption) (by assumption)); (case k4 => first | assumption | exact idx_hi); (case k5 => first | assumption | exact idx_fit (by assumption)); (case k6 => with_unfolding_all rfl); k_whole); intro _))
local macro_rules | `(tactic| walk_at "call builtin:list.index") => `(tactic| (k_here; k_dflt (refine' index_o ?k1 ?k2 (by assumption) ?k4 ?k5 ?_; (case k1 => k_asm); (case k2 => k_mem); (case k4 => exact (List.length_map _).trans (rangeKs_length _ _)); (case k5 => omega); intro o' ho' hl')))
local macro_rules | `(tactic| walk_at "call builtin:len") => `(tactic| (k_here; k_dflt (refine' kst_len ?k1 ?k2 ?k3 ?k4 ?_; (case k1 => k_asm); (case k2 => k_mem); (case k3 => exact IntsAre.length (by assumption)); (case k4 => first | exact ahd_fit (by assumption) | exact fit4 (by assumption)))))
local macro_rules | `(tactic| walk_at "subscriptTail Name Slice ref ref") => `(tactic| (k_here; (with_reducible show wpAny _ _ (subscriptTail _ (PySem.Expr.Slice (some _) none none _) (Value.ref _) (Value.ref _)) _ _ _); k_dflt (refine' sl_from (s := ⟨_, _, _, _, _⟩) ?F ?N ?l ?i ?o ?z ?_ ?s ?t; (case F => k_asm); (case N => k_asm); (case l => kmk_list); (case i => assumption); (case o => exact nn_succ); (case z => exact figs_size (by assumption) (by assumption)); (case s => with_unfolding_all rfl); (case t => kmk_pure)); intro D' ws' h' F' N' l1 hI'; (try k_lt l1); (try dsimp only)))
local macro_rules | `(tactic| walk_at "my none") => `(tactic| skip)
local macro_rules | `(tactic| walk_at "InvEndN") => `(tactic| (k_here; refine Stop.go ?_))
set_option maxHeartbeats 8000000 in
theorem c_ruler {w : World} {mean : ExcName → Option Value} {mg mb : Str → Option Value} {f g : Addr} {fvs kvs : List Value} {fs ks : List Int} {nf nk : Nat} {news : List (Addr × Obj)} {dp un : Nat} {gd : Option (List Code)} {cn : Str} {cs : Scope} {a : Addr} {ccd : Value} {cl : List (Str × Addr)} {outer : List Env} {A₀ : Around} {base h₀ : Heap} {L : Addr} {m : Str → Option Value} {s : Shared} {Q E : Value → Shared → Prop}
    (hf : (f, W.listOf fvs.toArray nf) ∈ news) (hg : (g, W.listOf kvs.toArray nk) ∈ news) (IF : IntsAre fvs fs) (IK : IntsAre kvs ks) (hfl : fs.length ≤ 4) (hkl : ks.length ≤ 4) (B : Below A₀ base outer h₀) (F : Fr h₀ L s.heap m) (X : (myK w.params).In h₀) (N : News h₀ L s.heap news) (T : Top qv loose0 mean mg mb h₀) (hk : cs.kind = .function) (hd : dp + 2 < recursionLimit) (hu : un + 16 < cLine)
    (hret : ∀ (t : Tok) (h' : Heap) (tk' : Nat), Fr h₀ L h' m → News h₀ L h' news → Q (.bytes ((rcodes fs ks (fs.length * 2 ^ ks.length)).map fun n => n.toNat.toUInt8).toArray t) { s with heap := h', toks := tk' }) :
    wpAny (model rw0.row.prog w) (ktrTop dp un gd cn cs L a ccd cl outer) (call (.ref 102) [.ref f, .ref g]) Q E s := by
  revert X
  k_fill
  intro X
  replace N : News h₀ L s.heap ((f, W.listOf fvs.toArray nf) :: (g, W.listOf kvs.toArray nk) :: news) := fun p hp => by
    rcases List.mem_cons.mp hp with rfl | hp
    · exact N _ hf
    · rcases List.mem_cons.mp hp with rfl | hp
      · exact N _ hg
      · exact N _ hp
  have hfv : fvs.length = fs.length := IF.length
  have hkv : kvs.length = ks.length := IK.length
  have hpw := pow_bnd hfl hkl
  refine wpAny_call ?_
  k_dflt (refine' code_defC ?k1 ?k2 ?k3 ?k4 ?k5 ?kA ?kF ?kK ?k6 ?k7 ?k8 ?k9 ?kB ?kD ?_ ?c2 ?c3 ?c4; (case kA => exact rfl); (case kF => exact rfl); (case kK => assumption); (case k1 => k_asm); (case k2 => k_asm); (case k3 => k_asm); (case k4 => k_asm); (case k5 => k_asm); (case k6 => k_is); (case k7 => k_is); (case k8 => ktr_room); (case k9 => exact BindsTo.of_eq rfl); (case kB => exact rfl); (case kD => decide +kernel); (case c2 => exact rfl); (case c3 => exact rfl); (case c4 => exact rfl); k_whole; intro g' L' h' tk' cells' FG' F' N' Y' B' X' T' l1; (try k_lt l1); k_cells Y'; (try simp only [List.cons_append, List.nil_append] at N'); (try dsimp only); (try k_lift B'); (try k_fold))
  rename_i o0 d0
  obtain ⟨v0, d1⟩ : ∃ v0, o0.data = .cell v0 := ⟨_, d0⟩
  clear d0
  k_steps
  rename_i h3 tk1 l' h2 lc h1 F0 N0 h4 tk2 t1 u1 v1 hr F1 N1 _
  clear F0 N0
  have en : (fs.length : Int) * 2 ^ ((ks.length : Int)).toNat = ((fs.length * 2 ^ ks.length : Nat) : Int) := by push_cast; rw [Int.toNat_natCast]
  rw [en] at hr
  have hm := fr_as (fun y => if y = Str.ofString "due" then some (Value.ref l') else if y = Str.ofString "rounds" then some (Value.int ks.length (tk' + 1)) else if y = Str.ofString "kinds" then some (.ref g) else if y = Str.ofString "first" then some (.ref f) else none) F1 (by with_unfolding_all rfl)
  have hltl := kst_ltOf lc.2.2.2
  refine range_turns (RJ fs ks l' (L' + 1) ((f, W.listOf fvs.toArray nf) :: (g, W.listOf kvs.toArray nk) :: news) _) rfl hr ?_ ?_ hm N1 ⟨[], 0, o0, _, rfl, d1, .nil, fun _ _ => rfl⟩ ?_ ?_
  · exact small_one (by decide) (by decide) (by omega) (by omega)
  · rw [rangeSize_nat, Int.sub_zero, Int.toNat_natCast]
  · rintro i t m₁ news₁ h tk own hi ha ho ⟨vs, nn, oc, v₀, rfl, hcd, hI, hz⟩ F2 N2
    have F3 := RJ.fr F2 hz
    clear F2 F1 hm N1 hr
    have F2 := F3
    clear F3 ha
    have hv1000 : vs.length ≤ 1000 := by rw [hI.length, rcodes_len]; omega
    k_steps
    have hlt := kst_ltOf l1.2.2
    refine storeX_C F2 N2 rfl (upd_cell (Nat.ne_of_gt lc.1) (Nat.ne_of_lt (Nat.lt_succ_of_lt l1.1)) (Nat.ne_of_lt (Nat.lt_succ_of_lt l1.2.1)) (fun p hp => Nat.ne_of_lt (Nat.lt_succ_of_lt (hlt p hp))) ho (.tail _ (.head _))) hcd (fun h' o' F3 N3 hcd' => ?_)
    clear F2 N2 hcd
    obtain ⟨hb0, hb1, hb2⟩ := first_bnd hi hfl
    k_steps
    all_goals
      with_reducible rename Fr _ _ _ _ => Fz
      with_reducible rename News _ _ _ _ => Nz
      refine due_append (vs := vs) (n := nn) (rest := (L' + 1, o') :: (f, W.listOf fvs.toArray nf) :: (g, W.listOf kvs.toArray nk) :: (news ++ own)) Fz Nz (fun p hp => .tail _ (.tail _ (.tail _ (.tail _ hp)))) (due_off lc.1 lc.2.1 lc.2.2.1 hltl ho (.head _)) hv1000 (fun h9 F9 N9 => ?_)
      clear Fz Nz
      k_steps
    all_goals
      with_reducible rename Fr _ _ _ _ => Fz
      with_reducible rename News _ _ _ _ => Nz
      refine Stop.intro (RJ.end_ Fz Nz hcd' hI ?_ rfl ?_)
    all_goals first
      | (intro z hz'
         have hc := hz'
         simp only [rStored, List.contains_cons, List.contains_nil, Bool.or_false, Bool.or_eq_false_iff, beq_eq_false_iff_ne] at hc
         obtain ⟨c1, c2, c3, c4, c5⟩ := hc
         simp only [c1, c2, c3, c4, c5, if_false, hz', Bool.false_eq_true]
         done)
      | with_reducible exact rc_all (by assumption) (by assumption)
      | with_reducible exact rc_else (by assumption) (by assumption) (if_pos (by assumption)).symm (if_pos ⟨by assumption, by assumption⟩).symm
      | with_reducible exact rc_else (by assumption) (by assumption) (if_neg (by assumption)).symm (if_pos ⟨by assumption, by assumption⟩).symm
      | with_reducible exact rc_else (by assumption) (by assumption) (if_pos (by assumption)).symm (if_neg (fun q => absurd q.2 (by assumption))).symm
      | with_reducible exact rc_else (by assumption) (by assumption) (if_neg (by assumption)).symm (if_neg (fun q => absurd q.2 (by assumption))).symm
      | with_reducible exact rc_else (by assumption) (by assumption) (if_pos (by assumption)).symm (if_neg (fun q => absurd (q.1.symm.trans (by assumption)) Bool.false_ne_true)).symm
      | with_reducible exact rc_else (by assumption) (by assumption) (if_neg (by assumption)).symm (if_neg (fun q => absurd (q.1.symm.trans (by assumption)) Bool.false_ne_true)).symm
  · rintro m₁ news₁ h tk ha ⟨vs, nn, oc, v₀, rfl, hcd, hI, hz⟩ F2 N2
    have F3 := RJ.fr F2 hz
    clear F2 F1 hm N1 hr
    have F2 := F3
    clear F3 ha
    have hvl : vs.length = fs.length * 2 ^ ks.length := hI.length.trans (rcodes_len _ _ _)
    k_steps
    refine bytes_K F2 N2 (News.isList N2 (.head _)) hI (rcodes_bnd hkl _) (by rw [hvl, sizeLine_eq]; omega) rfl (fun h' t' k' F3 N3 _ => ?_)
    clear F2 N2
    k_steps
    refine hret _ _ _ (by assumption) (cb_drop (by assumption) (fun p hp => .tail _ (.tail _ (.tail _ (.tail _ hp)))))
end Mine
end
section
open PySem PySem.W PyProof.Rows PySem.Calls PySem.Spec
set_option maxRecDepth 100000
namespace Mine
/-- the figures of a place to the base 2, the last one first -/
def nfig (r i : Nat) : List Int := (List.range r).map fun k => ((i / 2 ^ k % 2 : Nat) : Int)
theorem fdiv_pow (i k : Nat) : (i : Int).fdiv (2 ^ k) = ((i / 2 ^ k : Nat) : Int) := by
  rw [Int.fdiv_eq_ediv_of_nonneg _ (Int.le_of_lt (Int.pow_pos (by decide)))]
  push_cast
  rfl
theorem wfig_eq (r i : Nat) : wfig r i = nfig r i := by
  have e : ((r : Int) - 0).toNat = r := by omega
  unfold wfig nfig rangeKs
  rw [e, List.map_map]
  refine List.map_congr_left fun k _ => ?_
  show ((i : Int).fdiv (2 ^ ((0 : Int) + (k : Int)).toNat)).fmod 2 = _
  rw [Int.zero_add, Int.toNat_natCast, fdiv_pow, Int.fmod_eq_emod_of_nonneg _ (by decide)]
  omega
theorem nfig_len (r i : Nat) : (nfig r i).length = r := by simp [nfig]
theorem nfig_succ (r i : Nat) : nfig (r + 1) i = ((i % 2 : Nat) : Int) :: nfig r (i / 2) := by
  unfold nfig
  rw [List.range_succ_eq_map, List.map_cons, List.map_map, Nat.pow_zero, Nat.div_one]
  congr 1
  refine List.map_congr_left fun k _ => ?_
  show ((i / 2 ^ (k + 1) % 2 : Nat) : Int) = _
  rw [Nat.pow_succ, Nat.mul_comm, Nat.div_div_eq_div_mul]
theorem nfig_odd (r q : Nat) : nfig (r + 1) (2 * q + 1) = 1 :: nfig r q := by
  rw [nfig_succ, show (2 * q + 1) % 2 = 1 by omega, show (2 * q + 1) / 2 = q by omega]; rfl
theorem nfig_even (r q : Nat) : nfig (r + 1) (2 * q) = 0 :: nfig r q := by
  rw [nfig_succ, show (2 * q) % 2 = 0 by omega, show (2 * q) / 2 = q by omega]; rfl
theorem onesOf_one (l : List Int) : onesOf (1 :: l) = onesOf l + 1 := by
  unfold onesOf; rw [List.findIdx_cons]; rfl
theorem onesOf_zero (l : List Int) : onesOf (0 :: l) = 0 := by
  unfold onesOf; rw [List.findIdx_cons]; rfl
theorem onesOf_full {l : List Int} : onesOf l = l.length ↔ (l.any fun x => x == 0) = false := by
  unfold onesOf
  rw [List.findIdx_eq_length, List.any_eq_false]
  constructor
  · intro h x hx; rw [h x hx]; exact Bool.false_ne_true
  · intro h x hx; exact Bool.eq_false_iff.mpr (h x hx)
/-- one code of the ruler, in plain figures -/
def pc (fs ks : List Int) (i : Nat) : Int :=
  if onesOf (nfig ks.length i) = ks.length then 65 + (fs.getD (i / 2 ^ ks.length) 0 + (ks.length : Int)) % 16
  else (if ks.getD (ks.length - 1 - onesOf (nfig ks.length i)) 0 = 3 then 69 else 71) + (onesOf (nfig ks.length i) : Int)
    + (if (((nfig ks.length i).drop (onesOf (nfig ks.length i) + 1)).any fun x => x == 0) = false ∧ (fs.getD (i / 2 ^ ks.length) 0 + ((ks.length - (onesOf (nfig ks.length i) + 1) : Nat) : Int)) % 16 = 15 then 1 else 0)
theorem rcode_pc (fs ks : List Int) (i : Nat) : rcode fs ks i = pc fs ks i := by
  have h16 : ∀ z : Int, z.fmod 16 = z % 16 := fun z => Int.fmod_eq_emod_of_nonneg _ (by decide)
  have e1 : ((ks.length : Int)).toNat = ks.length := Int.toNat_natCast _
  have e2 : ((i : Int).fdiv (2 ^ ks.length)).toNat = i / 2 ^ ks.length := by rw [fdiv_pow, Int.toNat_natCast]
  unfold rcode pc rahd rst
  simp only [wfig_eq, e1, e2, h16]
  generalize ho : onesOf (nfig ks.length i) = o
  have e3 : ((o : Int) + 1).toNat = o + 1 := by omega
  have e4 : ((ks.length : Int) - 1 - (o : Int)).toNat = ks.length - 1 - o := by omega
  have e5 : ((o : Int) = (ks.length : Int)) ↔ o = ks.length := by omega
  simp only [e3, e4, e5, List.length_drop, nfig_len]
theorem any_drop {l : List Int} {n : Nat} : onesOf (1 :: l) = n + 1 ↔ onesOf l = n := by rw [onesOf_one]; omega
theorem pc_odd {fs ks : List Int} {k : Int} (hr : ks.length ≤ 3) (q : Nat) : pc fs (ks ++ [k]) (2 * q + 1) = 65 + (pc fs ks q - 64) % 16 := by
  have hl : (ks ++ [k]).length = ks.length + 1 := by simp
  have hd : (2 * q + 1) / 2 ^ (ks.length + 1) = q / 2 ^ ks.length := by
    rw [Nat.pow_succ', ← Nat.div_div_eq_div_mul, show (2 * q + 1) / 2 = q by omega]
  have ho := onesOf_le (nfig ks.length q)
  rw [nfig_len] at ho
  unfold pc
  rw [hl, hd, nfig_odd, onesOf_one]
  generalize ho' : onesOf (nfig ks.length q) = o at ho ⊢
  generalize fs.getD (q / 2 ^ ks.length) 0 = st
  by_cases h : o = ks.length
  · rw [if_pos h, if_pos (by omega)]
    push_cast
    omega
  · rw [if_neg h, if_neg (by omega), List.drop_succ_cons]
    have eg : (ks ++ [k]).getD (ks.length + 1 - 1 - (o + 1)) 0 = ks.getD (ks.length - 1 - o) 0 := by
      rw [show ks.length + 1 - 1 - (o + 1) = ks.length - 1 - o by omega]
      rw [List.getD_eq_getElem?_getD, List.getD_eq_getElem?_getD, List.getElem?_append_left (by omega)]
    rw [eg, show ks.length + 1 - (o + 1 + 1) = ks.length - (o + 1) by omega]
    push_cast
    split <;> split <;> omega
theorem pc_even {fs ks : List Int} {k : Int} (hr : ks.length ≤ 3) (q : Nat) : pc fs (ks ++ [k]) (2 * q) = (if k = 3 then 69 else 71) + (if pc fs ks q = 80 then 1 else 0) := by
  have hl : (ks ++ [k]).length = ks.length + 1 := by simp
  have hd : (2 * q) / 2 ^ (ks.length + 1) = q / 2 ^ ks.length := by
    rw [Nat.pow_succ', ← Nat.div_div_eq_div_mul, show (2 * q) / 2 = q by omega]
  have ho := onesOf_le (nfig ks.length q)
  rw [nfig_len] at ho
  have hf := onesOf_full (l := nfig ks.length q)
  rw [nfig_len] at hf
  have eg : (ks ++ [k]).getD (ks.length + 1 - 1 - 0) 0 = k := by
    rw [show ks.length + 1 - 1 - 0 = ks.length by omega, List.getD_eq_getElem?_getD]
    simp
  unfold pc
  rw [hl, hd, nfig_even, onesOf_zero, if_neg (by omega : ¬ 0 = ks.length + 1), eg, List.drop_succ_cons, List.drop_zero]
  generalize fs.getD (q / 2 ^ ks.length) 0 = st
  have e1 : ks.length + 1 - (0 + 1) = ks.length := by omega
  rw [e1]
  by_cases h : onesOf (nfig ks.length q) = ks.length
  · rw [if_pos h]
    have ha := hf.mp h
    have : ((((nfig ks.length q).any fun x => x == 0) = false ∧ (st + (ks.length : Int)) % 16 = 15)) ↔ (65 + (st + (ks.length : Int)) % 16 = 80) := by
      rw [ha]
      constructor
      · intro q; omega
      · intro q; exact ⟨rfl, by omega⟩
    simp only [this]
    push_cast
    omega
  · rw [if_neg h]
    have ha : ¬ (((nfig ks.length q).any fun x => x == 0) = false ∧ (st + (ks.length : Int)) % 16 = 15) := fun z => h (hf.mpr z.1)
    rw [if_neg ha]
    generalize onesOf (nfig ks.length q) = o at *
    have hn : ¬ ((if ks.getD (ks.length - 1 - o) 0 = 3 then 69 else 71) + (o : Int) + (if (((nfig ks.length q).drop (o + 1)).any fun x => x == 0) = false ∧ (st + ((ks.length - (o + 1) : Nat) : Int)) % 16 = 15 then 1 else 0) = (80 : Int)) := by
      split <;> split <;> omega
    rw [if_neg hn]
    push_cast
    omega
end Mine
end
section
open PySem PySem.W PyProof.Rows PySem.Calls PySem.Spec
set_option maxRecDepth 100000
namespace Mine
/-- the ruler's word behind r rounds, as bytes -/
def Wb (fs ks : List Int) (r : Nat) : Array UInt8 := ((rcodes fs (ks.take r) (fs.length * 2 ^ (ks.take r).length)).map fun n => n.toNat.toUInt8).toArray
theorem rcode_let {fs ks : List Int} (hk : ks.length ≤ 4) (i : Nat) : 65 ≤ rcode fs ks i ∧ rcode fs ks i ≤ 80 := by
  have ho := onesOf_le (nfig ks.length i)
  rw [nfig_len] at ho
  rw [rcode_pc]
  unfold pc
  generalize onesOf (nfig ks.length i) = o at *
  split
  · omega
  · split <;> split <;> omega
theorem toU8 {n : Int} (h : 65 ≤ n ∧ n ≤ 80) : (n.toNat.toUInt8).toNat = n.toNat := by
  have e : n.toNat < 256 := by omega
  exact UInt8.toNat_ofNat_of_lt' (by simpa using e)
theorem rcodes_let {fs ks : List Int} (hk : ks.length ≤ 4) (n : Nat) : ∀ c ∈ rcodes fs ks n, 65 ≤ c ∧ c ≤ 80 := by
  intro c hc
  obtain ⟨i, _, rfl⟩ := List.mem_map.mp hc
  exact rcode_let hk i
theorem take_len4 {ks : List Int} (hk : ks.length = 4) {r : Nat} (hr : r ≤ 4) : (ks.take r).length = r := by
  rw [List.length_take]; omega
theorem Wb_size {fs ks : List Int} (hf : fs.length ≤ 4) (hk : ks.length = 4) (r : Nat) (hr : r ≤ 4) : (Wb fs ks r).size = fs.length * 2 ^ r ∧ (Wb fs ks r).size ≤ 64 := by
  have e : (Wb fs ks r).size = fs.length * 2 ^ r := by
    unfold Wb
    rw [List.size_toArray, List.length_map, rcodes_len, take_len4 hk hr]
  exact ⟨e, e ▸ pow_bnd hf hr⟩
theorem Wb_nats {fs ks : List Int} (hk : ks.length = 4) {r : Nat} (hr : r ≤ 4) : nats (Wb fs ks r) = (rcodes fs (ks.take r) (fs.length * 2 ^ r)).map (·.toNat) := by
  unfold Wb nats
  rw [take_len4 hk hr, List.map_map]
  refine List.map_congr_left fun n hn => ?_
  exact toU8 (rcodes_let (by rw [take_len4 hk hr]; exact hr) _ n hn)
theorem Wb_letters {fs ks : List Int} (hk : ks.length = 4) {r : Nat} (hr : r ≤ 4) : Letters (Wb fs ks r) := by
  intro c hc
  have hc' : c.toNat ∈ nats (Wb fs ks r) := List.mem_map_of_mem hc
  rw [Wb_nats hk hr] at hc'
  obtain ⟨n, hn, e⟩ := List.mem_map.mp hc'
  have := rcodes_let (by rw [take_len4 hk hr]; exact hr) _ n hn
  omega
/-- the figures of a code: two letters -/
def two (t3 : Bool) (c : Int) : List Int := [(if t3 then 69 else 71) + (if c = 80 then 1 else 0), 65 + (c - 64) % 16]
theorem rcodes_step {fs ks : List Int} {k : Int} (hr : ks.length ≤ 3) : ∀ m : Nat, rcodes fs (ks ++ [k]) (2 * m) = (rcodes fs ks m).flatMap (two (decide (k = 3)))
  | 0 => rfl
  | m + 1 => by
    rw [show 2 * (m + 1) = 2 * m + 1 + 1 by omega, rcodes_snoc, rcodes_snoc, rcodes_step hr m, rcodes_snoc, List.flatMap_append, rcode_pc, rcode_pc, rcode_pc, pc_even hr, pc_odd hr]
    simp [two]
/-- the number that codes spell to the base 256 -/
def spell (l : List Int) : Int := l.foldl (fun s c => s * 256 + c) 0
/-- the two letters of a code -/
def hex (c : Nat) : List UInt8 := [UInt8.ofNat (65 + c / 16), UInt8.ofNat (65 + c % 16)]
theorem ap_two {s c : Nat} (h : 16 ≤ c ∧ c < 256) : ap (s * 256 + c) = ap s ++ hex c := by
  have e1 : (s * 256 + c) / 16 = s * 16 + c / 16 := by omega
  have e2 : (s * 16 + c / 16) / 16 = s := by omega
  have e3 : (s * 16 + c / 16) % 16 = c / 16 := by omega
  have e4 : (s * 256 + c) % 16 = c % 16 := by omega
  rw [ap_pos (n := s * 256 + c) (by omega), e1, e4, ap_pos (n := s * 16 + c / 16) (by omega), e2, e3, List.append_assoc]
  rfl
theorem ap_fold : ∀ (l : List Int) (s : Int), 0 ≤ s → (∀ c ∈ l, 16 ≤ c ∧ c < 256) → 0 ≤ l.foldl (fun s c => s * 256 + c) s ∧ ap (l.foldl (fun s c => s * 256 + c) s).toNat = ap s.toNat ++ l.flatMap fun c => hex c.toNat
  | [], s, h, _ => ⟨h, by simp⟩
  | c :: l, s, h, hl => by
    have hc := hl c (.head _)
    obtain ⟨h1, h2⟩ := ap_fold l (s * 256 + c) (by omega) fun x hx => hl x (.tail _ hx)
    refine ⟨h1, ?_⟩
    rw [List.foldl_cons, h2, show (s * 256 + c).toNat = s.toNat * 256 + c.toNat by omega, ap_two (by omega), List.append_assoc, List.flatMap_cons]
theorem ap_spell {l : List Int} (hl : ∀ c ∈ l, 16 ≤ c ∧ c < 256) : 0 ≤ spell l ∧ ap (spell l).toNat = l.flatMap fun c => hex c.toNat := by
  obtain ⟨h1, h2⟩ := ap_fold l 0 (Int.le_refl _) hl
  refine ⟨h1, ?_⟩
  unfold spell
  rw [h2, Int.toNat_zero, ap_zero, List.nil_append]
theorem codesOf_let {b : Array UInt8} (hb : Letters b) (told : Nat) : ∀ c ∈ codesOf b told, 16 ≤ c ∧ c < 256 := by
  intro c hc
  obtain ⟨o, ho, rfl⟩ := List.mem_map.mp hc
  have := nats_letters hb o ho
  split <;> omega
theorem take_succ4 {ks : List Int} (hk : ks.length = 4) {r : Nat} (hr : r < 4) : ks.take (r + 1) = ks.take r ++ [ks.getD r 0] := by
  have h1 : ks[r]? = some (ks.getD r 0) := by
    rw [List.getD_eq_getElem?_getD, List.getElem?_eq_getElem (by omega)]; rfl
  rw [List.take_add_one, h1]; rfl
theorem two_hex {t : Nat} {n : Int} (hn : 65 ≤ n ∧ n ≤ 80) : (two (decide (t / 648 = 3)) n).map (fun n : Int => n.toNat.toUInt8) = hex (if t / 648 = 3 then (n.toNat : Int) else ((n.toNat + 32 : Nat) : Int)).toNat := by
  obtain ⟨m, rfl⟩ : ∃ m : Nat, n = m := ⟨n.toNat, by omega⟩
  have e : ∀ m : Fin 81, 65 ≤ m.val → ((two true (m.val : Int)).map (fun n : Int => n.toNat.toUInt8) = hex m.val ∧ (two false (m.val : Int)).map (fun n : Int => n.toNat.toUInt8) = hex (m.val + 32)) := by decide +kernel
  have e' := e ⟨m, by omega⟩ (by simp only; omega)
  simp only at e'
  by_cases h : t / 648 = 3
  · rw [if_pos h, decide_eq_true h, Int.toNat_natCast, Int.toNat_natCast]; exact e'.1
  · rw [if_neg h, decide_eq_false h, Int.toNat_natCast, Int.toNat_natCast]; exact e'.2
theorem law_step {fs ks : List Int} {r : Nat} (hf : fs.length ≤ 4) (hk : ks.length = 4) (hr : r < 4) {t : Int} (ht : 0 ≤ t ∧ t < 2592) (hkt : ks.getD r 0 = t.fdiv 648) {v : Int} (hv : v.natAbs = (spell (codesOf (Wb fs ks r) t.toNat)).natAbs) :
    (ap v.natAbs).toArray = Wb fs ks (r + 1) := by
  have hr' : r ≤ 4 := Nat.le_of_lt hr
  obtain ⟨h1, h2⟩ := ap_spell (codesOf_let (Wb_letters (fs := fs) hk hr') t.toNat)
  have e1 : v.natAbs = (spell (codesOf (Wb fs ks r) t.toNat)).toNat := by omega
  have e2 : (ks.getD r 0 = 3) ↔ t.toNat / 648 = 3 := by
    rw [hkt, Int.fdiv_eq_ediv_of_nonneg _ (by decide)]
    omega
  rw [e1, h2]
  unfold codesOf
  rw [Wb_nats hk hr']
  unfold Wb
  congr 1
  rw [take_succ4 hk hr, List.length_append, take_len4 hk hr', List.length_singleton, show fs.length * 2 ^ (r + 1) = 2 * (fs.length * 2 ^ r) by rw [Nat.pow_succ, ← Nat.mul_assoc, Nat.mul_comm]]
  rw [rcodes_step (by rw [take_len4 hk hr']; omega), List.map_flatMap]
  rw [List.map_map, List.flatMap_map]
  rw [List.flatMap_def, List.flatMap_def]
  congr 1
  refine List.map_congr_left fun n hn => ?_
  have hn' := rcodes_let (by rw [take_len4 hk hr']; exact hr') _ n hn
  have ed : decide (ks.getD r 0 = 3) = decide (t.toNat / 648 = 3) := by
    by_cases h : t.toNat / 648 = 3
    · rw [decide_eq_true h, decide_eq_true (e2.mpr h)]
    · rw [decide_eq_false h, decide_eq_false fun q => h (e2.mp q)]
  show hex _ = _
  rw [ed]
  exact (two_hex hn').symm
end Mine
end
section
open PySem PySem.W PyProof.Rows PySem.Calls PySem.Spec
set_option maxRecDepth 100000
namespace Mine
theorem ints_of_carried {α : Type} {f : α → Int} : ∀ {ys : List Value} {as : List α}, CarriedAll ys (as.map fun a => PyData.int (f a)) → IntsAre ys (as.map f)
  | _, [], .nil => .nil
  | _, _ :: _, .cons (.int _ _) h => .cons _ _ (ints_of_carried h)
/-- the digits of a number of at most 65535, the last one first -/
abbrev digs (a : Int) : List Int := List.map (fun k : Int => (a.fdiv (16 ^ k.toNat)).fmod 16) (List.filter (fun k : Int => decide (16 ^ k.toNat ≤ a)) (rangeInts 0 1 (4 - 0 : Int).toNat))
theorem digs_len (a : Int) : (digs a).length ≤ 1000 := by
  rw [List.length_map]
  exact Nat.le_trans (List.length_filter_le ..) (by decide)
section
variable {prog : Program} {w : World} {A : Around} {E : Value → Shared → Prop} {s : Shared} {h₀ : Heap} {L l : Addr} {m : Str → Option Value} {news : List (Addr × Obj)} {value slice : PySem.Expr} {ys : List Value} {vk : Value} {ops : List Value} {Q : Value → Shared → Prop} {a : Int}
theorem rev_digs (F : Fr h₀ L s.heap m) (N : News h₀ L s.heap news) (hl : s.heap.IsList l ys.toArray) (pk : IsPart vk (some (-1)))
    (hc : CarriedAll ys (List.map (fun k : Int => PyData.int ((a.fdiv (16 ^ k.toNat)).fmod 16)) (List.filter (fun k : Int => decide (16 ^ k.toNat ≤ a)) (rangeInts 0 1 (4 - 0 : Int).toNat))))
    (h : ∀ D ws h', Fr h₀ L h' m → News h₀ L h' ((D, W.listOf (List.toArray ws) 0) :: news) → (∀ p ∈ news, p.1 < D) → IntsAre ws (digs a).reverse → Q (.ref D) { s with heap := h' })
    (hs : subscripted slice false (.ref l) (.ref s.heap.objs.size) = operate ops (getItem (.ref l) (.ref s.heap.objs.size))) (ht : ∀ r, letTemporaryGo value (.ref l) r = pure ()) :
    wpAny (model prog w) A (subscriptTail value slice (.ref l) (.ref s.heap.objs.size)) Q E { s with heap := s.heap.push { cls := .type "slice", data := .fields #[.none, .none, vk] } } :=
  krv_ints F N hl pk (ints_of_carried hc) (fun D ws h' F' N' l1 hI' _ => h D ws h' F' N' l1 hI') hs ht (size_of_ints (ints_of_carried hc) (digs_len a))
end
end Mine
end
section
open PySem PySem.W PyProof.Rows PySem.Calls PySem.Spec
set_option maxRecDepth 100000
namespace Mine
theorem dig (m k : Nat) : (65 + (((m : Int).fdiv (16 ^ k)).fmod 16) % 16 : Int).toNat.toUInt8 = UInt8.ofNat (65 + m / 16 ^ k % 16) := by
  have e : (m : Int).fdiv (16 ^ k) = ((m / 16 ^ k : Nat) : Int) := by
    rw [Int.fdiv_eq_ediv_of_nonneg _ (Int.le_of_lt (Int.pow_pos (by decide)))]
    push_cast
    rfl
  rw [e, Int.fmod_eq_emod_of_nonneg _ (by decide)]
  show UInt8.ofNat _ = _
  congr 1
  omega
theorem digs_list (m : Nat) : digs (m : Int) = (([0, 1, 2, 3] : List Nat).filter fun k => decide (16 ^ k ≤ m)).map fun k => ((m : Int).fdiv (16 ^ k)).fmod 16 := by
  have e : rangeInts 0 1 (4 - 0 : Int).toNat = ([0, 1, 2, 3] : List Nat).map (fun k : Nat => (k : Int)) := by decide
  unfold digs
  rw [e, List.filter_map, List.map_map]
  congr 1
  refine List.filter_congr fun k _ => ?_
  show decide ((16 : Int) ^ ((k : Int)).toNat ≤ (m : Int)) = _
  rw [Int.toNat_natCast, decide_eq_decide]
  have e2 : (16 : Int) ^ k = ((16 ^ k : Nat) : Int) := by push_cast; rfl
  rw [e2]
  exact Int.ofNat_le
theorem ap_digs {m : Nat} (h : m < 65536) : ap m = (digs (m : Int)).reverse.map fun d => (65 + d % 16 : Int).toNat.toUInt8 := by
  rw [digs_list, ← List.map_reverse, List.map_map]
  have e : ∀ l : List Nat, l.map ((fun d : Int => (65 + d % 16 : Int).toNat.toUInt8) ∘ fun k : Nat => ((m : Int).fdiv (16 ^ k)).fmod 16) = l.map fun k => UInt8.ofNat (65 + m / 16 ^ k % 16) := fun l => List.map_congr_left fun k _ => dig m k
  rw [e]
  have f0 : (16 ^ 0 ≤ m) ↔ 1 ≤ m := Iff.rfl
  have f1 : (16 ^ 1 ≤ m) ↔ 16 ≤ m := Iff.rfl
  have f2 : (16 ^ 2 ≤ m) ↔ 256 ≤ m := Iff.rfl
  have f3 : (16 ^ 3 ≤ m) ↔ 4096 ≤ m := Iff.rfl
  simp only [List.filter_cons, List.filter_nil, f0, f1, f2, f3, decide_eq_true_eq]
  by_cases h0 : 1 ≤ m
  · by_cases h1 : 16 ≤ m
    · by_cases h2 : 256 ≤ m
      · by_cases h3 : 4096 ≤ m
        · rw [if_pos h0, if_pos h1, if_pos h2, if_pos h3, ap_pos (by omega), ap_pos (n := m / 16) (by omega), ap_pos (n := m / 16 / 16) (by omega), ap_pos (n := m / 16 / 16 / 16) (by omega), show m / 16 / 16 / 16 / 16 = 0 by omega, ap_zero]
          simp [Nat.div_div_eq_div_mul]
        · rw [if_pos h0, if_pos h1, if_pos h2, if_neg h3, ap_pos (by omega), ap_pos (n := m / 16) (by omega), ap_pos (n := m / 16 / 16) (by omega), show m / 16 / 16 / 16 = 0 by omega, ap_zero]
          simp [Nat.div_div_eq_div_mul]
      · rw [if_pos h0, if_pos h1, if_neg h2, if_neg (by omega), ap_pos (by omega), ap_pos (n := m / 16) (by omega), show m / 16 / 16 = 0 by omega, ap_zero]
        simp
    · rw [if_pos h0, if_neg h1, if_neg (by omega), if_neg (by omega), ap_pos (by omega), show m / 16 = 0 by omega, ap_zero]
      simp
  · rw [if_neg h0, if_neg (by omega), if_neg (by omega), if_neg (by omega), show m = 0 by omega, ap_zero]
    rfl
theorem rcodes_nil (fs : List Int) : rcodes fs [] fs.length = fs.map fun d => 65 + d % 16 := by
  have h := range_getD fs 0
  unfold rcodes
  have e : ∀ i, rcode fs [] i = 65 + (fs.getD i 0) % 16 := by
    intro i
    rw [rcode_pc]
    unfold pc
    rw [if_pos (by rfl)]
    simp
  have e2 : (fun i => rcode fs [] i) = (fun d : Int => 65 + d % 16) ∘ fun i => fs.getD i 0 := funext e
  rw [show rcode fs [] = (fun i => rcode fs [] i) from rfl, e2, ← List.map_map, h]
theorem law_start {n : Int} (h : -65536 < n ∧ n < 65536) (ks : List Int) : (ap n.natAbs).toArray = Wb (digs (if n < 0 then -n else n)).reverse ks 0 := by
  have e : (if n < 0 then -n else n) = ((n.natAbs : Nat) : Int) := by split <;> omega
  rw [e, ap_digs (by omega)]
  unfold Wb
  congr 1
  rw [List.take_zero, List.length_nil, Nat.pow_zero, Nat.mul_one, rcodes_nil, List.map_map]
  rfl
theorem digs_len4 (a : Int) : (digs a).reverse.length ≤ 4 := by
  rw [List.length_reverse, List.length_map]
  exact List.length_filter_le ..
end Mine
end
section
open PySem PySem.W PyProof.Rows PySem.Calls PySem.Spec
set_option maxRecDepth 100000
namespace Mine
section
variable {w : World} {mean : ExcName → Option Value} {mg mb : Str → Option Value} {news : List (Addr × Obj)} {dp un : Nat} {gd : Option (List Code)} {cn : Str} {cs : Scope} {a : Addr} {ccd : Value} {cl : List (Str × Addr)} {outer : List Env} {A₀ : Around} {base h₀ : Heap} {L : Addr} {m : Str → Option Value} {s : Shared} {Q E : Value → Shared → Prop}
theorem k_int2ap {v : Int} {tv : Tok} {wb : Array UInt8} (hw : (ap v.natAbs).toArray = wb) (hz : wb.size ≤ 1000) (B : Below A₀ base outer h₀) (F : Fr h₀ L s.heap m) (X : (myK w.params).In h₀) (N : News h₀ L s.heap news) (T : Top qv loose0 mean mg mb h₀) (hk : cs.kind = .function) (hd : dp + 1 < recursionLimit) (hu : un + 8 < cLine)
    (hret : ∀ (t : Tok) (h' : Heap) (tk' : Nat), Fr h₀ L h' m → News h₀ L h' news → Q (.bytes wb t) { s with heap := h', toks := tk' }) :
    wpAny (model rw0.row.prog w) (ktrTop dp un gd cn cs L a ccd cl outer) (call (.ref 21) [.int v tv]) Q E s := by
  subst hw
  exact c_int2ap w mean mg mb v tv news dp un gd cn cs a ccd cl outer A₀ base h₀ L m s Q E B F X N T hk (by simpa using hz) hd hu hret
theorem k_codesI {b : Array UInt8} {tb : Tok} {told : Int} {tt : Tok} (hp : Letters b ∧ b.size ≤ 64) (ht : 0 ≤ told ∧ told < 2592) (B : Below A₀ base outer h₀) (F : Fr h₀ L s.heap m) (X : (myK w.params).In h₀) (N : News h₀ L s.heap news) (T : Top qv loose0 mean mg mb h₀) (hk : cs.kind = .function) (hd : dp + 2 < recursionLimit) (hu : un + 16 < cLine)
    (hret : ∀ (r : Addr) (vs : List Value) (n : Nat) (h' : Heap) (tk' : Nat), Fr h₀ L h' m → News h₀ L h' ((r, W.listOf vs.toArray n) :: news) → IntsAre vs (codesOf b told.toNat) → (∀ p ∈ news, p.1 < r) → Q (.ref r) { s with heap := h', toks := tk' }) :
    wpAny (model rw0.row.prog w) (ktrTop dp un gd cn cs L a ccd cl outer) (call (.ref 97) [.bytes b tb, .int told tt]) Q E s := by
  obtain ⟨n, rfl⟩ : ∃ n : Nat, told = n := ⟨told.toNat, by omega⟩
  rw [Int.toNat_natCast] at hret
  exact c_codes ⟨hp.1, hp.2, by omega⟩ B F X N T hk hd hu hret
end
end Mine
end
section
open PySem PySem.W PyProof.Rows PySem.Calls PySem.Spec
set_option maxRecDepth 100000
namespace Mine
theorem pow16_ne (k : Nat) : (16 : Int) ^ k ≠ 0 := Int.ne_of_gt (Int.pow_pos (by decide))
abbrev toldOf (ns : List Int) : List Int := List.map (fun k' : Int => k'.fmod 2592) (List.take 4 ns ++ List.drop ((List.take 4 ns).length : Int).toNat [31, 408, 2144, 77])
theorem told_len (ns : List Int) : (toldOf ns).length = 4 := by
  rw [List.length_map, List.length_append, List.length_drop, Int.toNat_natCast, List.length_take]
  show min 4 ns.length + (4 - min 4 ns.length) = 4
  omega
theorem told_bnd (ns : List Int) : ∀ t ∈ toldOf ns, 0 ≤ t ∧ t < 2592 := by
  intro t ht
  obtain ⟨k, _, rfl⟩ := List.mem_map.mp ht
  exact ⟨Int.fmod_nonneg_of_pos _ (by decide), Int.fmod_lt_of_pos _ (by decide)⟩
theorem kinds_at {ts : List Int} (hl : ts.length = 4) {r : Nat} (hr : r < 4) : (List.map (fun k' : Int => k'.fdiv 648) ts).getD r 0 = (ts.getD r 0).fdiv 648 := by
  rw [List.getD_eq_getElem?_getD, List.getD_eq_getElem?_getD, List.getElem?_map, List.getElem?_eq_getElem (by omega)]
  rfl
theorem told_at {ts : List Int} (hl : ts.length = 4) (hb : ∀ t ∈ ts, 0 ≤ t ∧ t < 2592) {r : Nat} (hr : r < 4) : 0 ≤ ts.getD r 0 ∧ ts.getD r 0 < 2592 := by
  rw [List.getD_eq_getElem?_getD, List.getElem?_eq_getElem (by omega)]
  exact hb _ (List.getElem_mem _)
section
variable {w : World} {mean : ExcName → Option Value} {mg mb : Str → Option Value} {news : List (Addr × Obj)} {dp un : Nat} {gd : Option (List Code)} {cn : Str} {cs : Scope} {a : Addr} {ccd : Value} {cl : List (Str × Addr)} {outer : List Env} {A₀ : Around} {base h₀ : Heap} {L : Addr} {m : Str → Option Value} {s : Shared} {Q E : Value → Shared → Prop}
theorem k_rulerW {f g : Addr} {fvs kvs : List Value} {fs ks : List Int} {nf nk r : Nat} {y : Int} (hy : y = (r : Int)) (hf : (f, W.listOf fvs.toArray nf) ∈ news) (hg : (g, W.listOf kvs.toArray nk) ∈ news) (IF : IntsAre fvs fs) (IK : IntsAre kvs (ks.take y.toNat)) (hfl : fs.length ≤ 4) (hkl : ks.length = 4) (B : Below A₀ base outer h₀) (F : Fr h₀ L s.heap m) (X : (myK w.params).In h₀) (N : News h₀ L s.heap news) (T : Top qv loose0 mean mg mb h₀) (hk : cs.kind = .function) (hd : dp + 2 < recursionLimit) (hu : un + 16 < cLine)
    (hret : ∀ (t : Tok) (h' : Heap) (tk' : Nat), Fr h₀ L h' m → News h₀ L h' news → Q (.bytes (Wb fs ks r) t) { s with heap := h', toks := tk' }) :
    wpAny (model rw0.row.prog w) (ktrTop dp un gd cn cs L a ccd cl outer) (call (.ref 102) [.ref f, .ref g]) Q E s := by
  subst hy
  rw [Int.toNat_natCast] at IK
  exact c_ruler hf hg IF IK hfl (by rw [List.length_take]; omega) B F X N T hk hd hu hret
end
section
variable {prog : Program} {w : World} {A : Around} {E : Value → Shared → Prop} {s : Shared} {b : Array UInt8} {t u : Tok} {Q : Value → Shared → Prop}
theorem ne_same (h : Q (.bool false) s) : wpAny (model prog w) A (compareOp .NotEq (.bytes b t) (.bytes b u)) Q E s := ne_bytes (by rw [bne_self_eq_false]; exact h)
theorem eq_same (h : Q (.bool true) s) : wpAny (model prog w) A (compareOp .Eq (.bytes b t) (.bytes b u)) Q E s := eq_bytes (by rw [beq_self_eq_true]; exact h)
theorem sign_pow (k : Nat) : (-1 : Int) ^ k = 1 ∨ (-1 : Int) ^ k = -1 := by
  induction k with
  | zero => exact .inl rfl
  | succ k ih =>
    rw [Int.pow_succ]
    rcases ih with h | h
    · rw [h]; exact .inr rfl
    · rw [h]; exact .inl rfl
theorem mulok_sign (a : Int) (k : Nat) : IntMulOk a ((-1) ^ k) := by
  rcases sign_pow k with h | h
  · rw [h]; exact IntMulOk.of_right (by decide)
  · rw [h]; exact IntMulOk.of_right (by decide)
theorem mul_sign {a : Int} {k : Nat} (h : Q (.int (a * (-1) ^ k) s.toks) { s with toks := s.toks + 1 }) : wpAny (model prog w) A (binaryOp .Mult (.int a t) (.int ((-1) ^ k) u)) Q E s :=
  mul_int h (mulok_sign a k)
theorem pow_sign {k : Nat} (hk : k < 4) (h : Q (.int ((-1) ^ k) s.toks) { s with toks := s.toks + 1 }) : wpAny (model prog w) A (binaryOp .Pow (.int (-1) t) (.int (k : Int) u)) Q E s := by
  have e : ((k : Int)).toNat = k := Int.toNat_natCast k
  exact pow_int_small (by omega) (by omega) (by decide) (by rw [e]; exact h)
end
theorem abs_sign (a : Int) (k : Nat) : (a * (-1) ^ k).natAbs = a.natAbs := by
  rcases sign_pow k with h | h
  · rw [h, Int.mul_one]
  · rw [h]; omega
theorem fit4n {k : Nat} (h : k < 4) : (k : Int) < 2 ^ 63 := by omega
theorem lt4n {k : Nat} {ts : List Int} (h : k < 4) (hl : ts.length = 4) : (k : Int) < (ts.length : Int) := by omega
end Mine
end
open PySem PySem.W PyProof.Rows PySem.Calls
set_option maxRecDepth 100000
open Mine
local macro_rules | `(tactic| walk_at "subscriptTail Name Slice ref ref") => `(tactic| (k_here; (with_reducible show wpAny _ _ (subscriptTail _ (PySem.Expr.Slice none none (some _) _) (Value.ref _) (Value.ref _)) _ _ _); k_dflt (refine' rev_digs ?F ?N ?l ?k ?i ?_ ?s ?t; (case F => k_asm); (case N => k_asm); (case l => assumption); (case k => exact IsPart.int _ _); (case i => assumption); (case s => with_unfolding_all rfl); (case t => kmk_pure)); intro D' ws' h' F' N' l1 hI'; (try k_lt l1); (try k_sweep); (try dsimp only)))
local macro_rules | `(tactic| walk_at "subscriptTail Name Slice ref ref") => `(tactic| (k_here; (with_reducible show wpAny _ _ (subscriptTail _ (PySem.Expr.Slice none (some _) none _) (Value.ref _) (Value.ref _)) _ _ _); k_dflt (refine' sl_upto (s := ⟨_, _, _, _, _⟩) ?F ?N ?l ?i ?o ?z ?_ ?s ?t; (case F => k_asm); (case N => k_asm); (case l => kmk_list); (case i => assumption); (case o => first | decide | omega); (case z => exact size_of_ints (by assumption) (by omega)); (case s => with_unfolding_all rfl); (case t => kmk_pure)); intro D' ws' h' F' N' l1 hI'; (try simp only [Int.reduceToNat] at hI'); (try k_lt l1); (try dsimp only)))
local macro_rules | `(tactic| walk_at "subscriptTail Name Slice ref ref") => `(tactic| (k_here; (with_reducible show wpAny _ _ (subscriptTail _ (PySem.Expr.Slice (some _) none none _) (Value.ref _) (Value.ref _)) _ _ _); k_dflt (refine' sl_from (s := ⟨_, _, _, _, _⟩) ?F ?N ?l ?i ?o ?z ?_ ?s ?t; (case F => k_asm); (case N => k_asm); (case l => kmk_list); (case i => l_ints); (case o => first | decide | omega); (case z => kmk_size); (case s => with_unfolding_all rfl); (case t => kmk_pure)); intro D' ws' h' F' N' l1 hI'; (try simp only [Int.reduceToNat] at hI'); (try k_lt l1); (try dsimp only)))
local macro_rules | `(tactic| walk_at "call builtin:len") => `(tactic| (k_here; k_dflt (refine' kst_len ?k1 ?k2 ?k3 ?k4 ?_; (case k1 => k_asm); (case k2 => k_mem); (case k3 => exact IntsAre.length (by assumption)); (case k4 => (simp only [List.length_take]; omega)))))
local macro_rules | `(tactic| walk_at "exec Assign cons ListComp") => `(tactic| (k_here; refine Stop.go ?_))
local macro_rules | `(tactic| walk_at "exec For Name Call cons nil") => `(tactic| (k_here; refine Stop.go ?_))
local macro_rules | `(tactic| walk_at "pyIter ref") => `(tactic| (k_here; refine Stop.go ?_))
local macro_rules | `(tactic| walk_at "InvEndN") => `(tactic| (k_here; refine Stop.go ?_))
local macro_rules | `(tactic| walk_at "compareOp NotEq bytes bytes") => `(tactic| (k_here; refine ne_same ?_))
local macro_rules | `(tactic| walk_at "compareOp Eq bytes bytes") => `(tactic| (k_here; refine eq_same ?_))
local macro_rules | `(tactic| walk_at "binaryOp Mult int int") => `(tactic| (k_here; refine mul_sign ?_))
local macro_rules | `(tactic| walk_at "binaryOp Pow int int") => `(tactic| (k_here; refine pow_sign (by assumption) ?_))
local macro_rules | `(tactic| walk_at "subscriptTail") => `(tactic| (k_here; (with_reducible show wpAny _ _ (subscriptTail _ _ (Value.ref _) (Value.int _ _)) _ _ _); (with_unfolding_all refine' item_anyK (News.isList (by assumption) (by k_mem)) ?k2 ?k3 ?k4 ?k5 ?_ ?k6; (case k2 => assumption); (case k3 => exact Int.natCast_nonneg _); (case k4 => exact lt4n (by assumption) (by assumption)); (case k5 => exact fit4n (by assumption)); (case k6 => with_unfolding_all rfl); k_whole); intro _))
local macro_rules | `(tactic| walk_at "call ref") => `(tactic| (k_here; refine Stop.go ?_))
set_option maxHeartbeats 8000000 in
theorem PySem.Challenge.cw_pk0087_02_holds : PySem.Challenge.rw_pk0087_02.Holds := by
  w_on
  refine Mine.head (by rfl) (by rfl) (by rfl) ?hw ?hc
  case hw => w_witness2
  w_strict
    (k_go0; (all_goals try k_fold)
     rename_i w s0 s1 mg mb G Y fa o pm doc ho hg KX Xm V GL T B TE TW w10 w9 M w8 w7 hcd ns hs hlay0 hL1 hr1 hl2 w5 w4 l vs w1 hL ra w1' r0 hI hr hcond1 hcond K0 hD h1 tk1 F o1 rgt N0 X0
     obtain ⟨v1, hv1⟩ : ∃ v, o1.data = .cell v := ⟨_, rgt⟩
     replace F := Mine.fr_as (fun y => if y = Str.ofString "script" then some (.ref l) else none) F (by with_unfolding_all rfl)
     clear hcd rgt X0 hD
     dsimp only
     have hq : ∀ h' tk' m', Fr s1.heap s1.heap.objs.size h' m' → qk (.ret (.bool true)) { heap := h', gens := s1.gens, drawn := s1.drawn, toks := tk', os := s1.os } := by
       intro h' tk' m' F'
       k_end
       kc_close
     clear_value qk
     have hlen : ns.length ≤ 63 := by omega
     replace K0 : Below callerA s1.heap [] s1.heap := K0
     have T2 : Top qv loose0 (ExcName.means s0.heap) mg mb s1.heap := T
     clear T
     clear G Y Xm V B TE TW M ho hs hlay0 hL1 hr1 hl2 ra w1' r0 hr hcond1 hcond
     revert KX
     k_fill
     intro KX
     clear pm doc o
     k_steps
     · exact absurd (by with_reducible assumption) (pow16_ne _)
     clear GL
     rename_i D1 ws1 h2 hI1 l1 h3 tk2 t2 h4 o2 d2 tk3 h5 tk4 t3 u3 v3 R3 a1 D2 ys h6 tk5 a2 a3 a4 a5 D3 ws3 h7 hI3 l3 h8 F3 N3
     clear a5 a4 a3 a2 a1 R3 hI1 hv1
     have hb1 : (-65536 : Int) < (68350 + (List.take 60 ns).sum).fmod 131071 - 65535 ∧ (68350 + (List.take 60 ns).sum).fmod 131071 - 65535 < 65536 := by
       have e1 := Int.fmod_nonneg_of_pos (68350 + (List.take 60 ns).sum) (b := 131071) (by decide)
       have e2 := Int.fmod_lt_of_pos (68350 + (List.take 60 ns).sum) (b := 131071) (by decide)
       omega
     generalize (68350 + (List.take 60 ns).sum).fmod 131071 - 65535 = num at d2 hI3 hb1
     obtain ⟨tn, d2'⟩ : ∃ t, o2.data = .cell (some (.int num t)) := ⟨_, d2⟩
     clear d2
     have hst := law_start hb1
     have hf4 := digs_len4 (if num < 0 then -num else num)
     generalize (digs (if num < 0 then -num else num)).reverse = fs at hI3 hst hf4
     have N4 : News s1.heap s1.heap.objs.size h8 [(D3, W.listOf ws3.toArray 0), (s1.heap.objs.size + 1, o2)] := fun p hp => N3 p (by
       rcases List.mem_cons.mp hp with rfl | hp
       · exact .head _
       · exact .tail _ (.tail _ hp))
     replace l3 : s1.heap.objs.size + 1 < D3 := l3.2
     clear N3 l1
     refine Stop.intro ?_
     k_dflt (refine LCg.Assign_ListComp_U (F₀ := by k_asm) (by rfl) (by with_unfolding_all rfl) (by with_unfolding_all rfl) (by decide) (by rfl) (by decide) (by rfl) (by rfl) (by rfl) ?_)
     k_steps
     rename_i hIt hLt Dt ht tkt Ft Nt ot
     have hts := told_len ns
     have htb := told_bnd ns
     change IntsAre ys (toldOf ns) at hIt
     generalize toldOf ns = ts at hIt hts htb
     replace Nt : News s1.heap s1.heap.objs.size ht [(Dt, W.listOf ys.toArray ys.length), (D3, W.listOf ws3.toArray 0), (s1.heap.objs.size + 1, o2)] := fun p hp => Nt p (by
       rcases List.mem_cons.mp hp with rfl | hp
       · exact .head _
       · exact .tail _ (.tail _ (.tail _ (.tail _ (.tail _ (.tail _ hp))))))
     replace Ft := fr_as (fun y => if y = Str.ofString "told" then some (Value.ref Dt) else if y = Str.ofString "first" then some (Value.ref D3) else if y = Str.ofString "script" then some (Value.ref l) else none) Ft (by with_unfolding_all rfl)
     have hlt2 : D3 ≠ Dt ∧ s1.heap.objs.size + 1 ≠ Dt := ot.2.2.2.2.2
     clear hI hL hlen hLt ot
     refine Stop.intro ?_
     k_dflt (refine LCg.Assign_ListComp_U (F₀ := by k_asm) (by rfl) (by with_unfolding_all rfl) (by with_unfolding_all rfl) (by decide) (by rfl) (by decide) (by rfl) (by rfl) (by rfl) ?_)
     k_steps
     rename_i hIk hLk Dk hk tkk Fk Nk ok'
     have hks : (List.map (fun k' : Int => k'.fdiv 648) ts).length = 4 := by rw [List.length_map, hts]
     have hkat := fun (r : Nat) (hr : r < 4) => kinds_at hts hr
     have htat := fun (r : Nat) (hr : r < 4) => told_at hts htb hr
     generalize List.map (fun k' : Int => k'.fdiv 648) ts = ks at hIk hks hkat
     rename IntsAre _ ts => hIt
     have Fk2 := fr_as (fun y => if y = Str.ofString "kinds" then some (Value.ref Dk) else if y = Str.ofString "told" then some (Value.ref Dt) else if y = Str.ofString "first" then some (Value.ref D3) else if y = Str.ofString "script" then some (Value.ref l) else none) Fk (by with_unfolding_all rfl)
     clear Fk hLk ok' hlt2 htb
     have hz0 : (Wb fs ks 0).size ≤ 1000 := Nat.le_trans (Wb_size hf4 hks 0 (by decide)).2 (by decide)
     refine Stop.intro ?_
     k_dflt (refine k_int2ap (hst ks) hz0 K0 Fk2 KX Nk T2 rfl ?hd ?hu ?_)
     case hd => first | exact Nat.lt_of_ble_eq_true rfl | ktr_room
     case hu => first | exact Nat.lt_of_ble_eq_true rfl | ktr_units
     intro tw hw tkw Fw Nw
     clear Fk2 Nk hst
     k_steps
     rename_i h9 F9 N9
     refine Stop.intro ?_
     with_unfolding_all refine' For_invVF F9 ?k1 ?k2 ?_
     case k1 => exact rfl
     case k2 => exact rfl
     k_steps
     with_reducible rename IsRange _ _ _ _ _ _ _ _ => hR
     with_reducible rename Fr _ _ _ _ => Fr1
     with_reducible rename News _ _ _ _ => Nr1
     refine Stop.intro (kst_range (n := 4) (σ := Array UInt8 × Tok) (fun _ => [(Dk, W.listOf ys.toArray ys.length), (Dt, _), (D3, W.listOf ws3.toArray 0), (s1.heap.objs.size + 1, o2)]) (fun c => [(Str.ofString "word", .bytes c.1 c.2)]) (fun _ => True) [Str.ofString "spelled", Str.ofString "code"] (fun pre c => c.1 = Wb fs ks pre.length) (Wb fs ks 0, tw) rfl hR ?_ ?_ Fr1 Nr1 trivial ?_ rfl ?_ ?_)
     · decide
     · exact rfl
     · exact List.forall_mem_cons.mpr ⟨rfl, List.forall_mem_nil _⟩
     · rintro ⟨wb, tb⟩ pre k t u h tk own hk hpl ho _ hP F1 N1
       dsimp only at hP F1 N1 ⊢
       subst hP
       obtain rfl : k = (pre.length : Int) := by omega
       clear hk Fr1 Nr1 hR
       k_steps
       rename_i D5 ws5 h5' F5 N5 l5 hI5
       have hwl := Wb_letters (fs := fs) hks (Nat.le_of_lt hpl)
       have hwz := Wb_size (ks := ks) hf4 hks pre.length (Nat.le_of_lt hpl)
       k_dflt (refine Stop.intro (k_rulerW (nf := 0) (nk := 0) (r := pre.length) rfl ?hf ?hg hI3 hI5 hf4 hks K0 F5 KX N5 T2 rfl ?hd ?hu ?_))
       case hf => exact .tail _ (List.mem_append_left _ (.tail _ (.tail _ (.head _))))
       case hg => exact .head _
       case hd => first | exact Nat.lt_of_ble_eq_true rfl | ktr_room
       case hu => first | exact Nat.lt_of_ble_eq_true rfl | ktr_units
       intro t6 h6' tk6 F6 N6
       clear F5 N5
       k_steps
       rename_i h7' F7 N7
       refine Stop.intro ?_
       with_unfolding_all refine' For_invVF F7 ?k1 ?k2 ?_
       case k1 => exact rfl
       case k2 => exact rfl
       k_steps
       k_dflt (refine Stop.intro (k_codesI ⟨hwl, hwz.2⟩ (htat _ hpl) K0 F7 KX N7 T2 rfl ?hd2 ?hu2 ?_))
       case hd2 => first | exact Nat.lt_of_ble_eq_true rfl | ktr_room
       case hu2 => first | exact Nat.lt_of_ble_eq_true rfl | ktr_units
       intro r6 cs6 n6 h8' tk8 F8 N8 hI8 l8
       clear F7 N7
       refine kst_listL (σ := Int × Tok) (fun _ => (r6, W.listOf cs6.toArray n6) :: (D5, W.listOf ws5.toArray 0) :: ([(Dk, W.listOf ys.toArray ys.length), (Dt, _), (D3, W.listOf ws3.toArray 0), (s1.heap.objs.size + 1, o2)] ++ own)) (fun c => [(Str.ofString "spelled", .int c.1 c.2)]) (fun _ => True) [] (fun pre2 c => c.1 = pre2.foldl (fun s c => s * 256 + c) 0) (0, tk6) rfl (fun _ => .head _) hI8 F8 N8 trivial ?_ rfl ?_ ?_
       · exact List.forall_mem_cons.mpr ⟨rfl, List.forall_mem_nil _⟩
       · rintro ⟨sv, st⟩ pre2 post2 n2 t2' u2 h2' tk2' own2 e2 _ ho2 _ hP2 F2 N2
         dsimp only at hP2 F2 N2 ⊢
         clear F8 N8
         k_steps
         with_reducible rename Fr _ _ _ _ => Fz
         with_reducible rename News _ _ _ _ => Nz
         refine Stop.intro (kst_end (sv * 256 + n2, _) Fz Nz (fun p hp => List.mem_append_left _ hp) (fun p hp => List.mem_append_right _ hp) rfl trivial (List.forall_mem_cons.mpr ⟨rfl, List.forall_mem_nil _⟩) ?_ ?_)
         · intro z z1 z2 z3
           have z4 := z2 _ (.head _)
           dsimp only at z4
           simp only [z1, z4, if_false, kstB, z3, Bool.false_eq_true]
         · show sv * 256 + n2 = _
           rw [List.foldl_append, ← hP2]
           rfl
       · rintro ⟨sv, st⟩ u2 h2' tk2' _ hP2 F2 N2
         dsimp only at hP2 F2 N2 ⊢
         clear F8 N8
         k_steps
         with_reducible rename Fr _ _ _ _ => Fz
         with_reducible rename News _ _ _ _ => Nz
         have hv : (sv * (-1) ^ pre.length).natAbs = (spell (codesOf (Wb fs ks pre.length) (ts.getD pre.length 0).toNat)).natAbs := by
           rw [abs_sign, hP2]
           rfl
         k_dflt (refine Stop.intro (k_int2ap (wb := Wb fs ks (pre.length + 1)) (law_step hf4 hks hpl (htat _ hpl) (hkat _ hpl) hv) (Nat.le_trans (Wb_size hf4 hks (pre.length + 1) hpl).2 (by decide)) K0 Fz KX Nz T2 rfl ?hd3 ?hu3 ?_))
         case hd3 => first | exact Nat.lt_of_ble_eq_true rfl | ktr_room
         case hu3 => first | exact Nat.lt_of_ble_eq_true rfl | ktr_units
         intro t9 h9' tk9 F9' N9'
         clear Fz Nz
         k_steps
         with_reducible rename Fr _ _ _ _ => Fz
         with_reducible rename News _ _ _ _ => Nz
         refine Stop.intro (kst_end (Wb fs ks (pre.length + 1), t9) Fz Nz (fun p hp => .tail _ (.tail _ (List.mem_append_left _ hp))) (fun p hp => .tail _ (.tail _ (List.mem_append_right _ hp))) rfl trivial (List.forall_mem_cons.mpr ⟨rfl, List.forall_mem_nil _⟩) ?_ ?_)
         · intro z z1 z2 z3
           have z4 := z2 _ (.head _)
           dsimp only at z4
           have z5 := z3
           simp only [List.contains_cons, List.contains_nil, Bool.or_false, Bool.or_eq_false_iff, beq_eq_false_iff_ne] at z5
           simp only [z1, z4, z5.1, z5.2, if_false, kstB, z3, List.contains_nil, Bool.false_eq_true]
         · show Wb fs ks (pre.length + 1) = Wb fs ks (pre ++ [(pre.length : Int)]).length
           rw [List.length_append]
           rfl
     · rintro ⟨wb, tb⟩ u h tk _ hP F1 N1
       dsimp only at hP F1 N1 ⊢
       rw [rangeKs_length] at hP
       subst hP
       clear Fr1 Nr1 hR
       k_steps
       with_reducible rename Fr _ _ _ _ => F5
       with_reducible rename News _ _ _ _ => N5
       have hI4 : IntsAre ys (ks.take 4) := by rw [List.take_of_length_le (Nat.le_of_eq hks)]; exact hIk
       k_dflt (refine Stop.intro (k_rulerW (nf := 0) (nk := ys.length) (r := 4) (y := ((4 : Nat) : Int)) rfl (.tail _ (.tail _ (.head _))) (.head _) hI3 hI4 hf4 hks K0 F5 KX N5 T2 rfl ?hd4 ?hu4 ?_))
       case hd4 => first | exact Nat.lt_of_ble_eq_true rfl | ktr_room
       case hu4 => first | exact Nat.lt_of_ble_eq_true rfl | ktr_units
       intro t6 h6' tk6 F6 N6
       clear F5 N5
       k_steps
       all_goals exact hq _ _ _ F6)
#print axioms PySem.Challenge.cw_pk0087_02_holds
