import PyProof.Rows.All
import Wide.All
import OpenK.AllK
import Wide.FinOn
import Lean
import PySem.Challenge.RW_pe0255_01
open PySem PySem.W PyProof.Rows PySem.Calls
set_option Elab.async false
set_option maxRecDepth 100000
set_option linter.unusedVariables false
-- part GO1
namespace Mine
section go
variable {p : Program} {w : World} {n₀ : Nat} {ann : Option Value} {α β : Type}
def Go (p : Program) (w : World) (n₀ : Nat) (ann : Option Value) {α : Type} (c : Nat) (m : Sem α) (s : Shared) (a : α) (s' : Shared) : Prop :=
  ∀ (K : α → Sem Fin) (H : Value → Sem Fin) (gd : Bool → Bool) (lv : List Value → List Value) (code : Code) (pos : Pos) (f : PySem.Frame) (B : List PySem.Frame),
    ∃ n pos', n ≤ c ∧ ∀ N, topRun treeTable p w n₀ ann (N + n) s ⟨m.wrap K H gd lv, code, pos, f :: B⟩ = topRun treeTable p w n₀ ann N s' ⟨K a, code, pos', f :: B⟩
theorem go_pure {a : α} {s : Shared} : Go p w n₀ ann 0 (pure a) s a s := fun K H gd lv code pos f B => ⟨0, pos, Nat.le_refl _, fun N => rfl⟩
theorem go_le {c d : Nat} {m : Sem α} {s s' : Shared} {a : α} (h : Go p w n₀ ann c m s a s') (hd : c ≤ d) : Go p w n₀ ann d m s a s' := fun K H gd lv code pos f B =>
  let ⟨n, q, hn, e⟩ := h K H gd lv code pos f B
  ⟨n, q, Nat.le_trans hn hd, e⟩
theorem go_bind {c d : Nat} {m : Sem α} {f : α → Sem β} {s s₁ s' : Shared} {a : α} {b : β} (h : Go p w n₀ ann c m s a s₁) (k : Go p w n₀ ann d (f a) s₁ b s') : Go p w n₀ ann (c + d) (m >>= f) s b s' := fun K H gd lv code pos fr B => by
  obtain ⟨n, q, hn, e⟩ := h (fun a => (f a).wrap K H gd lv) H gd lv code pos fr B
  obtain ⟨n', q', hn', e'⟩ := k K H gd lv code q fr B
  refine ⟨n' + n, q', by omega, fun N => ?_⟩
  rw [Sem.bind_eq_wrap', Sem.wrap_wrap, ← Nat.add_assoc]
  exact (e _).trans (e' N)
theorem go_hold {c : Nat} {m : Sem α} {s s' : Shared} {a : α} {vs : List Value} (h : Go p w n₀ ann c m s a s') : Go p w n₀ ann c (holding vs m) s a s' := fun K H gd lv code pos fr B => by
  unfold holding
  split
  · exact h K H gd lv code pos fr B
  · rw [Sem.keep_eq_wrap, Sem.wrap_wrap]
    exact h _ _ _ _ _ _ _ _
theorem go_onRaise {c : Nat} {m : Sem α} {s s' : Shared} {a : α} {k : Value → Sem Unit} (h : Go p w n₀ ann c m s a s') : Go p w n₀ ann c (m.onRaise k) s a s' := fun K H gd lv code pos fr B => by
  rw [Sem.onRaise_eq_wrap, Sem.wrap_wrap]
  exact h _ _ _ _ _ _ _ _
theorem go_load {a : Addr} {part : Option Value} {s : Shared} {o : Obj} (ho : s.heap.get? a = some o) : Go p w n₀ ann 1 (loadPart a part) s o s := fun K H gd lv code pos fr B => ⟨1, pos, Nat.le_refl _, fun N => by
  obtain ⟨heap, gens, drawn, toks, os⟩ := s
  show topRun treeTable p w n₀ ann (N + 1) _ _ = _
  rw [topRun]
  simp only [loadPart, Sem.wrap, through, List.isEmpty_cons, Bool.false_and, stepOk, Thread.calm, Thread.atCollectorCode, Thread.yieldsInsideHandler, step]
  simp only [show heap.get? a = some o from ho]
  rfl⟩
theorem go_alloc {o : Obj} {s : Shared} : Go p w n₀ ann 1 (alloc o) s s.heap.objs.size { s with heap := s.heap.push o } := fun K H gd lv code pos fr B => ⟨1, pos, Nat.le_refl _, fun N => by
  obtain ⟨heap, gens, drawn, toks, os⟩ := s
  rfl⟩
theorem go_fresh {s : Shared} : Go p w n₀ ann 1 fresh s s.toks { s with toks := s.toks + 1 } := fun K H gd lv code pos fr B => ⟨1, pos, Nat.le_refl _, fun N => by
  obtain ⟨heap, gens, drawn, toks, os⟩ := s
  rfl⟩
theorem go_at {q : Pos} {s : Shared} : Go p w n₀ ann 1 (standAt q) s () s := fun K H gd lv code pos fr B => ⟨1, q, Nat.le_refl _, fun N => by
  obtain ⟨heap, gens, drawn, toks, os⟩ := s
  rfl⟩
theorem go_rule {t : String} {s : Shared} : Go p w n₀ ann 1 (rule t) s () s := fun K H gd lv code pos fr B => ⟨1, pos, Nat.le_refl _, fun N => by
  obtain ⟨heap, gens, drawn, toks, os⟩ := s
  rfl⟩
theorem go_ask {s : Shared} : Go p w n₀ ann 1 ask s ⟨p, w.params⟩ s := fun K H gd lv code pos fr B => ⟨1, pos, Nat.le_refl _, fun N => by
  obtain ⟨heap, gens, drawn, toks, os⟩ := s
  rfl⟩
theorem go_update {a : Addr} {part : Option Value} {g : Obj → Obj} {s : Shared} (ha : (s.heap.get? a).isSome = true) (hn : n₀ ≤ a) : Go p w n₀ ann 1 (updatePart a part g) s () { s with heap := s.heap.update a g } := fun K H gd lv code pos fr B => ⟨1, pos, Nat.le_refl _, fun N => by
  obtain ⟨heap, gens, drawn, toks, os⟩ := s
  have hb : Nat.ble n₀ a = true := Nat.ble_eq.mpr hn
  show topRun treeTable p w n₀ ann (N + 1) _ _ = _
  rw [topRun]
  simp only [updatePart, Sem.wrap, through, List.isEmpty_cons, Bool.false_and, stepOk, Thread.calm, Thread.atCollectorCode, Thread.yieldsInsideHandler, step, hb]
  simp only [show (heap.get? a).isSome = true from ha]
  rfl⟩
end go
end Mine
-- part GO2
namespace Mine
section go
variable {p : Program} {n₀ : Nat} {ann : Option Value} {α β : Type}
def hv (x : Int) : Int :=
  let h : Int := x.natAbs % (2 ^ 61 - 1 : Nat)
  let h := if x < 0 then -h else h
  if h == -1 then -2 else h
theorem hv_eq {x : Int} (h0 : 0 ≤ x) (h1 : x < 2 ^ 61 - 1) : hv x = x := by
  unfold hv
  have : ¬ x < 0 := by omega
  have e : ((x.natAbs % (2 ^ 61 - 1 : Nat) : Nat) : Int) = x := by omega
  simp only [this, if_false]
  have h2 : ((x.natAbs : Int) % ((2 ^ 61 - 1 : Nat) : Int)) = x := by omega
  rw [show ((↑x.natAbs : Int) % ↑((2 ^ 61 - 1 : Nat))) = x from h2]
  have : (x == -1) = false := by simp; omega
  rw [this]; rfl
theorem room_int {k : Int} {t : Tok} : cRoomFor "hash" [.int k t] = pure () := by kernel_rfl
theorem spec_int {k : Int} {t : Tok} : specialOf (.int k t) "__hash__" = pure (some (.builtin "int.__hash__")) := by kernel_rfl
theorem go_hash1 {k : Int} {t : Tok} {ref : Sem Value} (n₀ : Nat) (ann : Option Value) : ∀ (w : World) (s : Shared), Go p w n₀ ann 5 (callSpecialIfBoundUnlessNone? (.int k t) "__hash__" ref) s (some (.int (hv k) s.toks)) { s with toks := s.toks + 1 } := by
  refine byRow2 "special-get-raises" (fun w => ?_) (fun w => ?_)
  all_goals (
    intro s K H gd lv code pos f B
    obtain ⟨heap, gens, drawn, toks, os⟩ := s
    refine ⟨5, pos, Nat.le_refl _, fun N => ?_⟩
    kernel_rfl)
end go
end Mine
-- part GO3
namespace Mine
section go
variable {p : Program} {w : World} {n₀ : Nat} {ann : Option Value} {α β : Type}
theorem go_of_eq {c : Nat} {m m' : Sem α} {s s' : Shared} {a : α} (e : m = m') (h : Go p w n₀ ann c m' s a s') : Go p w n₀ ann c m s a s' := e ▸ h
theorem go_hash {k : Int} {t : Tok} {s : Shared} (h0 : 0 ≤ k) (h1 : k < 2 ^ 61 - 1) : Go p w n₀ ann 5 (pyHash (.int k t)) s k { s with toks := s.toks + 1 } := by
  show Go p w n₀ ann 5 (pyHashByItsType (.int k t)) s k _
  unfold pyHashByItsType
  rw [room_int, spec_int]
  show Go p w n₀ ann 5 ((callSpecialIfBoundUnlessNone? (.int k t) "__hash__" _) >>= _) s k _
  refine go_bind (c := 5) (d := 0) (go_hash1 n₀ ann w s) ?_
  show Go p w n₀ ann 0 (pyHashByItsType.reduced (hv k)) _ k _
  rw [hv_eq h0 h1]
  unfold pyHashByItsType.reduced
  have e1 : (decide (-(2 ^ 63 : Int) ≤ k) && decide (k < 2 ^ 63)) = true := by simp; omega
  have e2 : (k == -1) = false := by simp; omega
  simp only [e1, e2]
  exact go_pure
/-- the entries hold ints for keys, none of them k -/
def Without (k : Int) (es : Array DictEntry) : Prop := ∀ e ∈ es, ∃ i t, e.key = .int i t ∧ e.hash = i ∧ i ≠ k
theorem places_nil {k : Int} {es : Array DictEntry} (h : Without k es) : placesWithHash es.size (fun i => es[i]?.map (·.hash)) k = [] := by
  unfold placesWithHash
  rw [List.filter_eq_nil_iff]
  intro i hi
  rw [List.mem_range] at hi
  dsimp only
  rw [Array.getElem?_eq_getElem hi]
  obtain ⟨j, t, h1, h2, h3⟩ := h es[i] (Array.getElem_mem hi)
  simp [h2, h3]
theorem go_find {k : Int} {t : Tok} {s : Shared} {d : Addr} {c : Value} {dd : Option Addr} {es : Array DictEntry} {n : Nat} {sl : Array (Option Value)} (ho : s.heap.get? d = some ⟨c, dd, .dict es n, sl⟩) (h : Without k es) :
    Go p w n₀ ann 1 (dictFind d (.int k t) k) s none s := by
  unfold dictFind
  refine go_hold (go_bind (c := 1) (d := 0) (a := es) (s₁ := s) ?_ ?_)
  · unfold dictEntries
    exact go_bind (c := 1) (d := 0) (go_load ho) go_pure
  · have e := places_nil h
    generalize placesWithHash es.size (fun i => es[i]?.map (·.hash)) k = pl at e ⊢
    subst e
    exact go_pure
theorem go_grow {s : Shared} {d : Addr} {c : Value} {dd : Option Addr} {es : Array DictEntry} {n : Nat} {sl : Array (Option Value)} {part : Option Value} {e : DictEntry} (ho : s.heap.get? d = some ⟨c, dd, .dict es n, sl⟩) (hd : n₀ ≤ d) (hz : es.size ≤ 1000) :
    Go p w n₀ ann 3 (updateDictKeys d (·.push e) part) s () { s with heap := s.heap.update d (Obj.mapDictKeys (·.push e)) } := by
  unfold updateDictKeys
  refine go_bind (c := 1) (d := 2) (go_load ho) ?_
  refine go_bind (c := 1) (d := 1) (go_update (by rw [ho]; rfl) hd) ?_
  unfold lookBehind
  refine go_bind (c := 1) (d := 0) (go_load (o := ⟨c, dd, .dict (es.push e) (n + 1), sl⟩) (Heap.get?_update_self _ ho rfl)) ?_
  have : (Data.dict (es.push e) (n + 1)).pastItsLine = none := pastItsLine_dict (by rw [Array.size_push, sizeLine_eq]; omega)
  simp only [this]
  exact go_pure
/-- a new key at the end -/
theorem go_set {k : Int} {t : Tok} {v : Value} {s : Shared} {d : Addr} {c : Value} {dd : Option Addr} {es : Array DictEntry} {n : Nat} {sl : Array (Option Value)} (ho : s.heap.get? d = some ⟨c, dd, .dict es n, sl⟩) (h : Without k es) (hd : n₀ ≤ d) (hz : es.size ≤ 1000)
    (h0 : 0 ≤ k) (h1 : k < 2 ^ 61 - 1) : Go p w n₀ ann 10 (dictSet d (.int k t) v) s () { s with heap := s.heap.update d (Obj.mapDictKeys (·.push ⟨k, .int k t, v⟩)), toks := s.toks + 1 } := by
  unfold dictSet
  refine go_hold (go_bind (c := 5) (d := 5) (go_hash h0 h1) ?_)
  unfold dictSetHashed
  refine go_hold (go_bind (c := 1) (d := 4) (go_find (s := { s with toks := s.toks + 1 }) ho h) ?_)
  exact go_bind (c := 1) (d := 3) go_rule (go_grow (s := { s with toks := s.toks + 1 }) ho hd hz)
theorem go_put {k : Int} {t : Tok} {v : Value} {s : Shared} {d : Addr} {c : Value} {dd : Option Addr} {es : Array DictEntry} {n : Nat} {sl : Array (Option Value)} (ho : s.heap.get? d = some ⟨c, dd, .dict es n, sl⟩) (h : Without k es) (hd : n₀ ≤ d) (hz : es.size ≤ 1000) :
    Go p w n₀ ann 4 (dictPut d k (.int k t) v) s () { s with heap := s.heap.update d (Obj.mapDictKeys (·.push ⟨k, .int k t, v⟩)) } := by
  unfold dictPut
  exact go_bind (c := 1) (d := 3) (go_find ho h) (go_grow ho hd hz)
end go
end Mine
-- part GO4
namespace Mine
section go
variable {p : Program} {w : World} {n₀ : Nat} {ann : Option Value} {α β : Type}
def dob (es : List DictEntry) (n : Nat) : Obj := ⟨.type "dict", none, .dict ⟨es⟩ n, ⟨[]⟩⟩
def kst (i : Int) (T : Nat) (x : PySem.Str) (U : Nat) : DictEntry := ⟨i, .int i T, .str x U⟩
/-- keys and texts in turn, and one token for each hash -/
def ent3 (T : Nat) : List (Int × PySem.Str) → List DictEntry
  | [] => []
  | (i, x) :: r => kst i T x (T + 1) :: ent3 (T + 3) r
def ent2 (T : Nat) : List (Int × PySem.Str) → List DictEntry
  | [] => []
  | (i, x) :: r => kst i T x (T + 1) :: ent2 (T + 2) r
def asc : Int → List (Int × PySem.Str) → Bool
  | _, [] => true
  | k, (i, _) :: r => decide (k < i) && decide (i < 2 ^ 61 - 1) && asc i r
def Under (k : Int) (es : List DictEntry) : Prop := ∀ e ∈ es, ∃ i t, e.key = .int i t ∧ e.hash = i ∧ i ≤ k
theorem Under.without {k j : Int} {es : List DictEntry} (h : Under k es) (hj : k < j) : Without j ⟨es⟩ := fun e he => by
  obtain ⟨i, t, h1, h2, h3⟩ := h e (by simpa using he)
  exact ⟨i, t, h1, h2, by omega⟩
theorem Under.mono {k j : Int} {es : List DictEntry} (h : Under k es) (hj : k ≤ j) : Under j es := fun e he => by
  obtain ⟨i, t, h1, h2, h3⟩ := h e he
  exact ⟨i, t, h1, h2, by omega⟩
theorem Under.snoc {k j : Int} {es : List DictEntry} {T U : Nat} {x : PySem.Str} (h : Under k es) (hj : k < j) : Under j (es ++ [kst j T x U]) := fun e he => by
  rcases List.mem_append.mp he with he | he
  · exact h.mono (Int.le_of_lt hj) e he
  · rw [List.mem_singleton] at he; subst he; exact ⟨j, T, rfl, rfl, Int.le_refl _⟩
theorem modify_last {l : List Obj} {o : Obj} {f : Obj → Obj} : (⟨l ++ [o]⟩ : Array Obj).modify l.length f = ⟨l ++ [f o]⟩ := by
  apply Array.ext
  · simp
  · intro i h1 h2
    rw [Array.getElem_modify]
    simp only [List.getElem_toArray]
    split
    · rename_i h; subst h; simp
    · rename_i h
      have h1' : i < l.length + 1 := by simpa using h1
      have : i < l.length := by omega
      rw [List.getElem_append_left this, List.getElem_append_left this]
theorem update_push {h : Heap} {o : Obj} {f : Obj → Obj} : (h.push o).update h.objs.size f = h.push (f o) := by
  obtain ⟨⟨l⟩, life⟩ := h
  show (⟨(Array.push ⟨l⟩ o).modify l.length f, life⟩ : Heap) = ⟨Array.push ⟨l⟩ (f o), life⟩
  have e : ∀ x, Array.push (⟨l⟩ : Array Obj) x = ⟨l ++ [x]⟩ := fun x => by simp
  rw [e, e, modify_last]
theorem mapKeys_dob {es : List DictEntry} {n : Nat} {e : DictEntry} : Obj.mapDictKeys (·.push e) (dob es n) = dob (es ++ [e]) (n + 1) := by
  simp [dob, Obj.mapDictKeys]
/-- the two trees of a pair, as the display has them -/
def pr (env : Env) (pos : Pos) (x : Int × PySem.Str) : Sem Value × Sem Value := (constValue env (.int x.1), do let v ← constValue env (.str x.2); standAt pos; pure v)
theorem go_int {env : Env} {i : Int} {s : Shared} : Go p w n₀ ann 1 (constValue env (.int i)) s (.int i s.toks) { s with toks := s.toks + 1 } :=
  go_bind (c := 1) (d := 0) go_fresh go_pure
theorem go_str {env : Env} {x : PySem.Str} {s : Shared} : Go p w n₀ ann 1 (constValue env (.str x)) s (.str x s.toks) { s with toks := s.toks + 1 } :=
  go_bind (c := 1) (d := 0) go_fresh go_pure
theorem go_val {env : Env} {pos : Pos} {x : Int × PySem.Str} {s : Shared} : Go p w n₀ ann 2 (pr env pos x).2 s (.str x.2 s.toks) { s with toks := s.toks + 1 } :=
  go_bind (c := 1) (d := 1) go_str (go_bind (c := 1) (d := 0) go_at go_pure)
def sh (h : Heap) (T : Nat) (s : Shared) : Shared := { s with heap := h, toks := T }
theorem go_long (env : Env) (pos : Pos) (h : Heap) (s : Shared) (hn : n₀ ≤ h.objs.size) : ∀ (ps : List (Int × PySem.Str)) (k : Int) (es : List DictEntry) (n T : Nat), -1 ≤ k → asc k ps = true → Under k es → es.length + ps.length ≤ 1000 →
    Go p w n₀ ann (13 * ps.length) (forIn (ps.map (pr env pos)) PUnit.unit fun (x : Sem Value × Sem Value) (_ : PUnit) => do
      let kv ← x.1
      let vv ← holding [kv] x.2
      holding [kv, vv] (dictSet h.objs.size kv vv)
      pure (ForInStep.yield PUnit.unit)) (sh (h.push (dob es n)) T s) PUnit.unit (sh (h.push (dob (es ++ ent3 T ps) (n + ps.length))) (T + 3 * ps.length) s)
  | [], k, es, n, T, _, _, _, _ => by
    simp only [List.map_nil, List.forIn_nil, ent3, List.append_nil, List.length_nil, Nat.mul_zero, Nat.add_zero]
    exact go_pure
  | (i, x) :: ps, k, es, n, T, hk, ha, hu, hz => by
    simp only [asc, Bool.and_eq_true, decide_eq_true_eq] at ha
    obtain ⟨⟨h1, h2⟩, h3⟩ := ha
    simp only [List.map_cons, List.forIn_cons, List.length_cons] at hz ⊢
    rw [show 13 * (ps.length + 1) = (13 + 13 * ps.length) by omega]
    refine go_bind (c := 13) (d := 13 * ps.length) (a := ForInStep.yield PUnit.unit) (s₁ := sh (h.push (dob (es ++ [kst i T x (T + 1)]) (n + 1))) (T + 3) s) ?_ ?_
    · refine go_bind (c := 1) (d := 12) (go_int (env := env)) ?_
      refine go_bind (c := 2) (d := 10) (go_hold (go_val (env := env) (pos := pos))) ?_
      refine go_bind (c := 10) (d := 0) (a := ()) (s₁ := sh (h.push (dob (es ++ [kst i T x (T + 1)]) (n + 1))) (T + 3) s) (go_hold ?_) go_pure
      have g := @go_set p w n₀ ann i T (.str x (T + 1)) (sh (h.push (dob es n)) (T + 2) s) h.objs.size _ _ _ _ _ (Heap.get?_push_size (o := dob es n) _ rfl) (hu.without h1) hn (by show es.length ≤ 1000; omega) (by omega) h2
      simp only [sh, update_push] at g ⊢
      have e : Obj.mapDictKeys (·.push ⟨i, .int i T, .str x (T + 1)⟩) (dob es n) = dob (es ++ [kst i T x (T + 1)]) (n + 1) := mapKeys_dob
      rw [e] at g
      exact g
    · have := go_long env pos h s hn ps i (es ++ [kst i T x (T + 1)]) (n + 1) (T + 3) (by omega) h3 (hu.snoc h1) (by simp only [List.length_append, List.length_singleton]; omega)
      rw [show T + 3 * (ps.length + 1) = T + 3 + 3 * ps.length by omega, show n + (ps.length + 1) = n + 1 + ps.length by omega]
      rw [List.append_assoc] at this
      exact this
theorem go_pairs (env : Env) (pos : Pos) (s : Shared) (h : Heap) : ∀ (ps : List (Int × PySem.Str)) (T : Nat),
    Go p w n₀ ann (3 * ps.length) (evalPairs (ps.map (pr env pos))) (sh h T s) ((ent2 T ps).map fun e => (e.key, e.val)) (sh h (T + 2 * ps.length) s)
  | [], T => go_pure
  | (i, x) :: ps, T => by
    simp only [List.map_cons, List.length_cons, evalPairs, ent2]
    rw [show 3 * (ps.length + 1) = 1 + (2 + 3 * ps.length) by omega]
    refine go_bind (c := 1) (d := 2 + 3 * ps.length) (go_int (env := env)) ?_
    refine go_bind (c := 2) (d := 3 * ps.length) (go_hold (go_val (env := env) (pos := pos))) ?_
    refine go_bind (c := 3 * ps.length) (d := 0) (go_hold (go_pairs env pos s h ps (T + 2))) ?_
    rw [show T + 2 * (ps.length + 1) = T + 2 + 2 * ps.length by omega]
    exact go_pure
theorem go_short (h : Heap) (s : Shared) (hn : n₀ ≤ h.objs.size) : ∀ (ps : List (Int × PySem.Str)) (k : Int) (es : List DictEntry) (n T U : Nat), -1 ≤ k → asc k ps = true → Under k es → es.length + ps.length ≤ 1000 →
    Go p w n₀ ann (10 * ps.length) (forIn ((ent2 T ps).map fun e => (e.key, e.val)) PUnit.unit fun (x : Value × Value) (_ : PUnit) => do
      dictSet h.objs.size x.1 x.2
      pure (ForInStep.yield PUnit.unit)) (sh (h.push (dob es n)) U s) PUnit.unit (sh (h.push (dob (es ++ ent2 T ps) (n + ps.length))) (U + ps.length) s)
  | [], k, es, n, T, U, _, _, _, _ => by
    simp only [ent2, List.map_nil, List.forIn_nil, List.append_nil, List.length_nil, Nat.mul_zero, Nat.add_zero]
    exact go_pure
  | (i, x) :: ps, k, es, n, T, U, hk, ha, hu, hz => by
    simp only [asc, Bool.and_eq_true, decide_eq_true_eq] at ha
    obtain ⟨⟨h1, h2⟩, h3⟩ := ha
    simp only [ent2, List.map_cons, List.forIn_cons, List.length_cons] at hz ⊢
    rw [show 10 * (ps.length + 1) = (10 + 10 * ps.length) by omega]
    refine go_bind (c := 10) (d := 10 * ps.length) (a := ForInStep.yield PUnit.unit) (s₁ := sh (h.push (dob (es ++ [kst i T x (T + 1)]) (n + 1))) (U + 1) s) ?_ ?_
    · refine go_bind (c := 10) (d := 0) (a := ()) (s₁ := sh (h.push (dob (es ++ [kst i T x (T + 1)]) (n + 1))) (U + 1) s) ?_ go_pure
      have g := @go_set p w n₀ ann i T (.str x (T + 1)) (sh (h.push (dob es n)) U s) h.objs.size _ _ _ _ _ (Heap.get?_push_size (o := dob es n) _ rfl) (hu.without h1) hn (by show es.length ≤ 1000; omega) (by omega) h2
      simp only [sh, update_push] at g ⊢
      have e : Obj.mapDictKeys (·.push ⟨i, .int i T, .str x (T + 1)⟩) (dob es n) = dob (es ++ [kst i T x (T + 1)]) (n + 1) := mapKeys_dob
      rw [e] at g
      exact g
    · have := go_short h s hn ps i (es ++ [kst i T x (T + 1)]) (n + 1) (T + 2) (U + 1) (by omega) h3 (hu.snoc h1) (by simp only [List.length_append, List.length_singleton]; omega)
      rw [show U + (ps.length + 1) = U + 1 + ps.length by omega, show n + (ps.length + 1) = n + 1 + ps.length by omega]
      rw [List.append_assoc] at this
      exact this
def ents (T : Nat) (ps : List (Int × PySem.Str)) : List DictEntry := if ps.length ≤ 15 then ent2 T ps else ent3 T ps
theorem go_sub (env : Env) (pos : Pos) (h : Heap) (s : Shared) (hn : n₀ ≤ h.objs.size) (ps : List (Int × PySem.Str)) (T : Nat) (k : Int) (hk : -1 ≤ k) (ha : asc k ps = true) (hz : ps.length ≤ 1000) :
    Go p w n₀ ann (2 + 13 * ps.length) (subDict (ps.map (pr env pos))) (sh h T s) h.objs.size (sh (h.push (dob (ents T ps) ps.length)) (T + 3 * ps.length) s) := by
  unfold subDict
  rw [show 2 + 13 * ps.length = 1 + (1 + 13 * ps.length) by omega]
  refine go_bind (c := 1) (d := 1 + 13 * ps.length) (go_alloc (s := sh h T s)) ?_
  refine go_bind (c := 1 + 13 * ps.length) (d := 0) (s₁ := sh (h.push (dob (ents T ps) ps.length)) (T + 3 * ps.length) s) (a := ()) (go_hold ?_) go_pure
  unfold ents
  rw [List.length_map]
  split
  · refine go_le (c := 3 * ps.length + (10 * ps.length + 0)) ?_ (by omega)
    refine go_bind (c := 3 * ps.length) (d := 10 * ps.length + 0) (go_pairs env pos s (h.push (dob [] 0)) ps T) (go_hold ?_)
    have g := @go_short p w n₀ ann h s hn ps k [] 0 T (T + 2 * ps.length) hk ha (fun _ h => nomatch h) (by simpa using hz)
    rw [show T + 2 * ps.length + ps.length = T + 3 * ps.length by omega, List.nil_append, Nat.zero_add] at g
    exact go_bind g go_pure
  · refine go_bind (c := 1) (d := 13 * ps.length + 0) go_rule ?_
    have g := @go_long p w n₀ ann env pos h s hn ps k [] 0 T hk ha (fun _ h => nomatch h) (by simpa using hz)
    rw [List.nil_append, Nat.zero_add] at g
    exact go_bind g go_pure
end go
end Mine
-- part GO5
namespace Mine
section go
variable {p : Program} {w : World} {n₀ : Nat} {ann : Option Value} {α β : Type}
def setD (h : Heap) (d : Addr) (es : List DictEntry) (n : Nat) : Heap := h.update d fun _ => dob es n
theorem setD_self {h : Heap} {d : Addr} {o : Obj} {es : List DictEntry} {n : Nat} (ho : h.get? d = some o) : (setD h d es n).get? d = some (dob es n) := Heap.get?_update_self _ ho rfl
theorem setD_ne {h : Heap} {d b : Addr} {es : List DictEntry} {n : Nat} (hb : b ≠ d) : (setD h d es n).get? b = h.get? b := Heap.get?_update_ne _ _ _ _ hb
theorem setD_grow {h : Heap} {d : Addr} {es : List DictEntry} {n : Nat} {e : DictEntry} : (setD h d es n).update d (Obj.mapDictKeys (·.push e)) = setD h d (es ++ [e]) (n + 1) := by
  obtain ⟨objs, life⟩ := h
  show (⟨(objs.modify d fun _ => dob es n).modify d (Obj.mapDictKeys (·.push e)), life⟩ : Heap) = ⟨objs.modify d fun _ => dob (es ++ [e]) (n + 1), life⟩
  congr 1
  apply Array.ext
  · simp
  · intro i h1 h2
    rw [Array.getElem_modify, Array.getElem_modify, Array.getElem_modify]
    split
    · exact mapKeys_dob
    · rfl
theorem setD_id {h : Heap} {d : Addr} {es : List DictEntry} {n : Nat} (ho : h.get? d = some (dob es n)) : setD h d es n = h := by
  obtain ⟨objs, life⟩ := h
  show (⟨objs.modify d fun _ => dob es n, life⟩ : Heap) = ⟨objs, life⟩
  congr 1
  apply Array.ext
  · simp
  · intro i h1 h2
    rw [Array.getElem_modify]
    split
    · rename_i e
      subst e
      have q : (Heap.mk objs life).get? d = some objs[d] ∨ True := .inr trivial
      unfold Heap.get? at ho
      rw [Array.getElem?_eq_getElem h2] at ho
      revert ho
      split
      · intro ho; cases ho
      · intro ho; exact (Option.some.inj ho).symm
    · rfl
theorem sub_dict : isSubtype (.type "dict") (.type "dict") = pure true := by kernel_rfl
theorem iter_dict : typeLookup (.type "dict") "__iter__" = pure (some (.builtin "dict.__iter__")) := by kernel_rfl
theorem go_type {a : Addr} {s : Shared} {o : Obj} (ho : s.heap.get? a = some o) : Go p w n₀ ann 1 (typeOf (.ref a)) s o.cls s :=
  go_bind (c := 1) (d := 0) (go_load ho) go_pure
theorem go_ents {a : Addr} {s : Shared} {es : List DictEntry} {n : Nat} {part : Option Value} (ho : s.heap.get? a = some (dob es n)) : Go p w n₀ ann 1 (dictEntries a part) s ⟨es⟩ s :=
  go_bind (c := 1) (d := 0) (go_load ho) go_pure
theorem go_epoch {a : Addr} {s : Shared} {es : List DictEntry} {n : Nat} {part : Option Value} (ho : s.heap.get? a = some (dob es n)) : Go p w n₀ ann 1 (dictEpoch a part) s n s := by
  unfold dictEpoch
  exact go_bind (c := 1) (d := 0) (go_load ho) go_pure
/-- the entries of a part: ints for keys, rising -/
def Rising : Int → List DictEntry → Prop
  | _, [] => True
  | k, e :: r => ∃ i t x u, e = kst i t x u ∧ k < i ∧ Rising i r
theorem go_turns {h : Heap} {s : Shared} {d a : Addr} {T : Nat} {sub : List DictEntry} {m : Nat} {o : Obj} (hd : h.get? d = some o) (ha : h.get? a = some (dob sub m)) (hne : a ≠ d) (hn : n₀ ≤ d) : ∀ (r pre : List DictEntry) (k : Int) (es : List DictEntry) (n : Nat), sub = pre ++ r → Rising k r → Under k es → es.length + r.length ≤ 1000 →
    Go p w n₀ ann (6 * r.length) (forIn (List.range' pre.length r.length) PUnit.unit fun (i : Nat) (_ : PUnit) => do
      let __do_lift ← dictEntries a
      match __do_lift[i]? with
        | some e => do
          holding [e.key, e.val] (dictPut d e.hash e.key e.val)
          let __do_lift ← dictEpoch a
          if (__do_lift != m) = true then do
              unsupported "dict.changed-during-merge"
              pure (ForInStep.yield PUnit.unit)
            else pure (ForInStep.yield PUnit.unit)
        | x => do
          unsupported "dict.changed-during-merge"
          pure (ForInStep.yield PUnit.unit)) (sh (setD h d es n) T s) PUnit.unit (sh (setD h d (es ++ r) (n + r.length)) T s)
  | [], pre, k, es, n, _, _, _, _ => by
    simp only [List.length_nil, List.range'_zero, List.forIn_nil, List.append_nil, Nat.mul_zero, Nat.add_zero]
    exact go_pure
  | e :: r, pre, k, es, n, hs, ⟨i, t, x, u, he, h1, h3⟩, hu, hz => by
    subst he
    have hi : (⟨sub⟩ : Array DictEntry)[pre.length]? = some (kst i t x u) := by
      rw [hs]; simp
    simp only [List.length_cons] at hz ⊢
    rw [List.range'_succ, List.forIn_cons, show 6 * (r.length + 1) = 6 + 6 * r.length by omega]
    refine go_bind (c := 6) (d := 6 * r.length) (a := ForInStep.yield PUnit.unit) (s₁ := sh (setD h d (es ++ [kst i t x u]) (n + 1)) T s) ?_ ?_
    · have ea : ∀ es n, (setD h d es n).get? a = some (dob sub m) := fun es n => (setD_ne hne).trans ha
      refine go_bind (c := 1) (d := 5) (go_ents (s := sh (setD h d es n) T s) (ea _ _)) ?_
      simp only [hi]
      refine go_bind (c := 4) (d := 1) (a := ()) (s₁ := sh (setD h d (es ++ [kst i t x u]) (n + 1)) T s) (go_hold ?_) ?_
      · have g := @go_put p w n₀ ann i t (.str x u) (sh (setD h d es n) T s) d _ _ _ _ _ (setD_self hd) (hu.without h1) hn (by show es.length ≤ 1000; omega)
        have e : (setD h d es n).update d (Obj.mapDictKeys (·.push (kst i t x u))) = _ := setD_grow
        simp only [sh] at g ⊢
        rw [show (⟨i, .int i t, .str x u⟩ : DictEntry) = kst i t x u from rfl, e] at g
        exact g
      · refine go_bind (c := 1) (d := 0) (go_epoch (s := sh (setD h d (es ++ [kst i t x u]) (n + 1)) T s) (ea _ _)) ?_
        simp only [bne_self_eq_false]
        exact go_pure
    · have := go_turns (T := T) (s := s) hd ha hne hn r (pre ++ [kst i t x u]) i (es ++ [kst i t x u]) (n + 1) (by rw [hs]; simp) h3 (hu.snoc h1) (by simp only [List.length_append, List.length_singleton]; omega)
      rw [show n + (r.length + 1) = n + 1 + r.length by omega]
      rw [List.append_assoc, List.length_append, List.length_singleton] at this
      exact this
theorem go_merge {h : Heap} {s : Shared} {d a : Addr} {T : Nat} {es sub : List DictEntry} {n m : Nat} {k : Int} (hd : h.get? d = some (dob es n)) (ha : h.get? a = some (dob sub m)) (hne : a ≠ d) (hn : n₀ ≤ d) (hsys : a ≠ sysModules) (h0 : es ≠ []) (hr : Rising k sub) (hu : Under k es) (hz : es.length + sub.length ≤ 1000) :
    Go p w n₀ ann (5 + 6 * sub.length) (mergeMapping d (.ref a) false) (sh h T s) () (sh (setD h d (es ++ sub) (n + sub.length)) T s) := by
  unfold mergeMapping
  have i1 : Go p w n₀ ann 1 (isInstance (.ref a) (.type "dict")) (sh h T s) true (sh h T s) := by
    unfold isInstance
    refine go_bind (c := 1) (d := 0) (go_type (s := sh h T s) ha) ?_
    show Go p w n₀ ann 0 (isSubtype (.type "dict") (.type "dict")) _ _ _
    rw [sub_dict]; exact go_pure
  have i2 : Go p w n₀ ann 1 (specialOf (.ref a) "__iter__") (sh h T s) (some (.builtin "dict.__iter__")) (sh h T s) := by
    unfold specialOf
    refine go_bind (c := 1) (d := 0) (go_type (s := sh h T s) ha) ?_
    show Go p w n₀ ann 0 (typeLookup (.type "dict") "__iter__") _ _ _
    rw [iter_dict]; exact go_pure
  rw [show 5 + 6 * sub.length = 1 + (1 + (0 + (1 + (1 + (1 + (6 * sub.length + 0)))))) by omega]
  refine go_bind i1 ?_
  dsimp only
  rw [if_pos rfl]
  refine go_bind i2 ?_
  refine go_bind (c := 0) (a := true) (s₁ := sh h T s) (go_of_eq (by rw [show ((some (Value.builtin "dict.__iter__") == some (Value.builtin "dict.__iter__")) = true) by simp]) go_pure) ?_
  dsimp only
  have e1 : (a == sysModules) = false := by simp [hsys]
  simp only [e1]
  refine go_bind (c := 1) (go_ents (s := sh h T s) hd) ?_
  have e2 : (Array.isEmpty (⟨es⟩ : Array DictEntry)) = false := by cases es with | nil => exact absurd rfl h0 | cons => rfl
  simp only [e2]
  refine go_bind (c := 1) (go_ents (s := sh h T s) ha) ?_
  refine go_bind (c := 1) (go_epoch (s := sh h T s) ha) ?_
  have g := @go_turns p w n₀ ann h s d a T sub m _ hd ha hne hn sub [] k es n rfl hr hu hz
  rw [setD_id hd] at g
  rw [List.range_eq_range']
  refine go_bind (d := 0) g go_pure
end go
end Mine
-- part GO6
namespace Mine
section go
variable {p : Program} {w : World} {n₀ : Nat} {ann : Option Value} {α β : Type}
theorem rising3 : ∀ (ps : List (Int × PySem.Str)) (k : Int) (T : Nat), asc k ps = true → Rising k (ent3 T ps)
  | [], _, _, _ => trivial
  | (i, x) :: r, k, T, h => by
    simp only [asc, Bool.and_eq_true, decide_eq_true_eq] at h
    exact ⟨i, T, x, T + 1, rfl, h.1.1, rising3 r i _ h.2⟩
theorem rising2 : ∀ (ps : List (Int × PySem.Str)) (k : Int) (T : Nat), asc k ps = true → Rising k (ent2 T ps)
  | [], _, _, _ => trivial
  | (i, x) :: r, k, T, h => by
    simp only [asc, Bool.and_eq_true, decide_eq_true_eq] at h
    exact ⟨i, T, x, T + 1, rfl, h.1.1, rising2 r i _ h.2⟩
theorem rising_ents {ps : List (Int × PySem.Str)} {k : Int} {T : Nat} (h : asc k ps = true) : Rising k (ents T ps) := by
  unfold ents; split
  · exact rising2 _ _ _ h
  · exact rising3 _ _ _ h
def lastKey : Int → List (Int × PySem.Str) → Int
  | k, [] => k
  | _, (i, _) :: r => lastKey i r
theorem le_lastKey : ∀ (ps : List (Int × PySem.Str)) (k : Int), asc k ps = true → k ≤ lastKey k ps
  | [], k, _ => Int.le_refl _
  | (i, x) :: r, k, h => by
    simp only [asc, Bool.and_eq_true, decide_eq_true_eq] at h
    exact Int.le_trans (Int.le_of_lt h.1.1) (le_lastKey r i h.2)
theorem under3 : ∀ (ps : List (Int × PySem.Str)) (k : Int) (T : Nat) (es : List DictEntry), asc k ps = true → Under k es → Under (lastKey k ps) (es ++ ent3 T ps)
  | [], k, T, es, _, hu => by simpa [ent3, lastKey] using hu
  | (i, x) :: r, k, T, es, h, hu => by
    simp only [asc, Bool.and_eq_true, decide_eq_true_eq] at h
    have := under3 r i (T + 3) (es ++ [kst i T x (T + 1)]) h.2 (hu.snoc h.1.1)
    rw [List.append_assoc] at this
    exact this
theorem under2 : ∀ (ps : List (Int × PySem.Str)) (k : Int) (T : Nat) (es : List DictEntry), asc k ps = true → Under k es → Under (lastKey k ps) (es ++ ent2 T ps)
  | [], k, T, es, _, hu => by simpa [ent2, lastKey] using hu
  | (i, x) :: r, k, T, es, h, hu => by
    simp only [asc, Bool.and_eq_true, decide_eq_true_eq] at h
    have := under2 r i (T + 2) (es ++ [kst i T x (T + 1)]) h.2 (hu.snoc h.1.1)
    rw [List.append_assoc] at this
    exact this
theorem under_ents {ps : List (Int × PySem.Str)} {k : Int} {T : Nat} {es : List DictEntry} (h : asc k ps = true) (hu : Under k es) : Under (lastKey k ps) (es ++ ents T ps) := by
  unfold ents; split
  · exact under2 _ _ _ _ h hu
  · exact under3 _ _ _ _ h hu
theorem len3 : ∀ (ps : List (Int × PySem.Str)) (T : Nat), (ent3 T ps).length = ps.length
  | [], _ => rfl
  | (i, x) :: r, T => by simp [ent3, len3 r]
theorem len2 : ∀ (ps : List (Int × PySem.Str)) (T : Nat), (ent2 T ps).length = ps.length
  | [], _ => rfl
  | (i, x) :: r, T => by simp [ent2, len2 r]
theorem len_ents {ps : List (Int × PySem.Str)} {T : Nat} : (ents T ps).length = ps.length := by
  unfold ents; split
  · exact len2 _ _
  · exact len3 _ _
theorem asc_append : ∀ (a b : List (Int × PySem.Str)) (k : Int), asc k (a ++ b) = (asc k a && asc (lastKey k a) b)
  | [], b, k => by simp [asc, lastKey]
  | (i, x) :: r, b, k => by simp only [List.cons_append, asc, lastKey, asc_append r b i, Bool.and_assoc]
/-- the heap behind the further parts of a display whose dict lies at d -/
def disp (d : Addr) : List (List (Int × PySem.Str)) → Heap → Nat → List DictEntry → Nat → Heap
  | [], h, _, _, _ => h
  | c :: cs, h, T, es, n => disp d cs (setD (h.push (dob (ents T c) c.length)) d (es ++ ents T c) (n + c.length)) (T + 3 * c.length) (es ++ ents T c) (n + c.length)
abbrev Item := Option (Sem Value) × Sem Value
def it (env : Env) (pos : Pos) (x : Int × PySem.Str) : Item := (some (pr env pos x).1, (pr env pos x).2)
abbrev flushT (run : List (Sem Value × Sem Value)) (main : Option Addr) : Sem (Option Addr) :=
  if run.isEmpty = true then pure main
  else
    match main with
    | none => do
      let __do_lift ← subDict run
      pure (some __do_lift)
    | some d => do
      let sub ← holding [Value.ref d] (subDict run)
      (holding [Value.ref d, Value.ref sub] (mergeMapping d (Value.ref sub) false)).onRaise fun x => do
          let _ ← holding [Value.ref d, x] (runValue (Code.builtin "proto.let_go" { }))
          pure ()
      pure (some d)
theorem display_parts : ∃ body : Item → Option Addr × List (Sem Value × Sem Value) → Sem (ForInStep (Option Addr × List (Sem Value × Sem Value))),
    (∀ items, dictDisplay items = forIn items (none, []) body >>= fun s => flushT s.2 s.1 >>= fun r => match r with | some d => pure (.ref d) | none => newDict) ∧
    (∀ k v main run, body (some k, v) (main, run) = if ((run ++ [(k, v)]).length == 17) = true then flushT (run ++ [(k, v)]) main >>= fun m => pure (.yield (m, [])) else pure (.yield (main, run ++ [(k, v)]))) :=
  ⟨_, fun items => rfl, fun k v main run => rfl⟩
theorem go_assoc {γ : Type} {c : Nat} {X : Sem α} {Y : α → Sem β} {Z : β → Sem γ} {s s' : Shared} {b : γ} (h : Go p w n₀ ann c (X >>= fun a => Y a >>= Z) s b s') : Go p w n₀ ann c ((X >>= Y) >>= Z) s b s' := fun K H gd lv code pos f B => by
  have := h K H gd lv code pos f B
  rw [Sem.bind_eq_wrap', Sem.wrap_wrap] at this
  rw [Sem.bind_eq_wrap', Sem.bind_eq_wrap', Sem.wrap_wrap, Sem.wrap_wrap]
  simp only [Sem.bind_eq_wrap', Sem.wrap_wrap] at this ⊢
  exact this
theorem go_flush {env : Env} {pos : Pos} {h : Heap} {s : Shared} {d : Addr} {T : Nat} {es : List DictEntry} {n : Nat} {k : Int} {c : List (Int × PySem.Str)} (hd : h.get? d = some (dob es n)) (hn : n₀ ≤ d) (hn1 : 1 < n₀) (h0 : es ≠ []) (hk : -1 ≤ k) (ha : asc k c = true) (hu : Under k es) (hz : es.length + c.length ≤ 1000) (hc : c ≠ []) :
    Go p w n₀ ann (7 + 19 * c.length) (flushT (c.map (pr env pos)) (some d)) (sh h T s) (some d) (sh (setD (h.push (dob (ents T c) c.length)) d (es ++ ents T c) (n + c.length)) (T + 3 * c.length) s) := by
  unfold flushT
  have e0 : (c.map (pr env pos)).isEmpty = false := by cases c with | nil => exact absurd rfl hc | cons => rfl
  simp only [e0]
  have hlt : d < h.objs.size := Heap.lt_size hd
  rw [show 7 + 19 * c.length = (2 + 13 * c.length) + ((5 + 6 * c.length) + 0) by omega]
  refine go_bind (go_hold (go_sub env pos h s (Nat.le_of_lt (Nat.lt_of_le_of_lt hn hlt)) c T k hk ha (by omega))) ?_
  have g := @go_merge p w n₀ ann (h.push (dob (ents T c) c.length)) s d h.objs.size (T + 3 * c.length) es (ents T c) n c.length k (Heap.get?_push_of_some _ hd) (Heap.get?_push_size (o := dob (ents T c) c.length) _ rfl) (Nat.ne_of_gt hlt) hn
    (Nat.ne_of_gt (Nat.lt_of_lt_of_le (show 1 < d from Nat.lt_of_lt_of_le hn1 hn) (Nat.le_of_lt hlt))) h0 (rising_ents ha) hu (by rw [len_ents]; exact hz)
  rw [len_ents] at g
  exact go_bind (go_onRaise (go_hold g)) go_pure
theorem go_items {body : Item → Option Addr × List (Sem Value × Sem Value) → Sem (ForInStep (Option Addr × List (Sem Value × Sem Value)))} (env : Env) (pos : Pos)
    (hb : ∀ k v main run, body (some k, v) (main, run) = if ((run ++ [(k, v)]).length == 17) = true then flushT (run ++ [(k, v)]) main >>= fun m => pure (.yield (m, [])) else pure (.yield (main, run ++ [(k, v)]))) (m : Option Addr) :
    ∀ (c pre : List (Int × PySem.Str)) (rest : List Item), pre.length + c.length < 17 → forIn (c.map (it env pos) ++ rest) (m, pre.map (pr env pos)) body = forIn rest (m, (pre ++ c).map (pr env pos)) body
  | [], pre, rest, _ => by simp
  | x :: c, pre, rest, hl => by
    simp only [List.map_cons, List.cons_append, List.forIn_cons]
    have e : body (it env pos x) (m, pre.map (pr env pos)) = pure (.yield (m, (pre ++ [x]).map (pr env pos))) := by
      unfold it
      rw [hb, if_neg (by simp only [List.length_append, List.length_map, beq_iff_eq, List.length_cons, List.length_nil] at hl ⊢; omega)]
      simp
    rw [e]
    have := go_items env pos hb m c (pre ++ [x]) rest (by simp only [List.length_append, List.length_cons, List.length_nil] at hl ⊢; omega)
    simp only [List.append_assoc, List.singleton_append] at this
    exact this
/-- whole parts of seventeen -/
theorem go_parts {body : Item → Option Addr × List (Sem Value × Sem Value) → Sem (ForInStep (Option Addr × List (Sem Value × Sem Value)))} (env : Env) (pos : Pos)
    (hb : ∀ k v main run, body (some k, v) (main, run) = if ((run ++ [(k, v)]).length == 17) = true then flushT (run ++ [(k, v)]) main >>= fun m => pure (.yield (m, [])) else pure (.yield (main, run ++ [(k, v)])))
    {s : Shared} {d : Addr} (hn : n₀ ≤ d) (hn1 : 1 < n₀) (last : List (Int × PySem.Str)) (hl : last.length < 17) :
    ∀ (cs : List (List (Int × PySem.Str))) (h : Heap) (T : Nat) (es : List DictEntry) (n : Nat) (k : Int), (∀ c ∈ cs, c.length = 17) → h.get? d = some (dob es n) → es ≠ [] → -1 ≤ k → asc k (cs.flatten ++ last) = true → Under k es → es.length + (cs.flatten ++ last).length ≤ 1000 →
      Go p w n₀ ann (cs.length * 330 + 331) (forIn ((cs.flatten ++ last).map (it env pos)) (some d, []) body >>= fun s => flushT s.2 s.1 >>= fun r => match r with | some d => pure (.ref d) | none => newDict) (sh h T s) (.ref d)
        (sh (disp d (cs ++ (if last = [] then [] else [last])) h T es n) (T + 3 * (cs.flatten ++ last).length) s)
  | [], h, T, es, n, k, hc, hd, h0, hk, ha, hu, hz => by
    simp only [List.flatten_nil, List.nil_append] at ha hz ⊢
    have e := go_items env pos hb (some d) last [] [] (by simpa using hl)
    simp only [List.append_nil, List.nil_append, List.map_nil, List.forIn_nil] at e
    rw [e]
    refine go_bind (c := 0) (d := 331) go_pure ?_
    dsimp only
    by_cases q : last = []
    · subst q
      simp only [List.map_nil, List.length_nil, if_true, disp, Nat.mul_zero, Nat.add_zero]
      exact go_le (go_bind (c := 0) (d := 0) (go_of_eq (by unfold flushT; rfl) go_pure) go_pure) (by omega)
    · rw [if_neg q]
      simp only [disp]
      exact go_le (go_bind (d := 0) (go_flush hd hn hn1 h0 hk ha hu hz q) go_pure) (by omega)
  | c :: cs, h, T, es, n, k, hc, hd, h0, hk, ha, hu, hz => by
    have hc17 := hc c (.head _)
    simp only [List.flatten_cons, List.append_assoc] at ha hz ⊢
    rw [asc_append, Bool.and_eq_true] at ha
    obtain ⟨x, c', rfl⟩ : ∃ x c', c = c' ++ [x] := by
      rcases List.eq_nil_or_concat c with q | ⟨c', x, q⟩
      · rw [q] at hc17; cases hc17
      · exact ⟨x, c', by simpa using q⟩
    have hc16 : c'.length = 16 := by simp only [List.length_append, List.length_singleton] at hc17; omega
    have hne : c' ++ [x] ≠ [] := by simp
    generalize hr : (cs.flatten ++ last).map (it env pos) = rest
    have e := go_items env pos hb (some d) c' [] (it env pos x :: rest) (by simp only [List.length_nil]; omega)
    simp only [List.map_nil, List.nil_append] at e
    rw [List.map_append, hr, List.map_append, List.append_assoc, List.map_singleton, List.singleton_append, e, List.forIn_cons]
    have e2 : body (it env pos x) (some d, c'.map (pr env pos)) = flushT ((c' ++ [x]).map (pr env pos)) (some d) >>= fun m => pure (.yield (m, [])) := by
      unfold it
      rw [hb, if_pos (by simp only [List.length_append, List.length_map, List.length_singleton, beq_iff_eq]; omega)]
      simp
    rw [e2]
    have hz1 : es.length + (c' ++ [x]).length ≤ 1000 := by simp only [List.length_append] at hz ⊢; omega
    have g1 := @go_flush p w n₀ ann env pos h s d T es n k (c' ++ [x]) hd hn hn1 h0 hk ha.1 hu hz1 hne
    have hlt : d < h.objs.size := Heap.lt_size hd
    have g2 := go_parts env pos hb (s := s) hn hn1 last hl cs (setD (h.push (dob (ents T (c' ++ [x])) (c' ++ [x]).length)) d (es ++ ents T (c' ++ [x])) (n + (c' ++ [x]).length)) (T + 3 * (c' ++ [x]).length) (es ++ ents T (c' ++ [x])) (n + (c' ++ [x]).length) (lastKey k (c' ++ [x]))
      (fun c h => hc c (.tail _ h)) (setD_self (Heap.get?_push_of_some _ hd)) (by simp [h0]) (Int.le_trans hk (le_lastKey _ _ ha.1)) ha.2 (under_ents ha.1 hu) (by rw [List.length_append, len_ents]; simp only [List.length_append] at hz ⊢; omega)
    rw [hr] at g2
    rw [hc17] at g1
    refine go_le (c := (7 + 19 * 17 + 0) + (cs.length * 330 + 331)) ?_ (by simp only [List.length_cons]; omega)
    have tk : T + 3 * (c' ++ [x] ++ (cs.flatten ++ last)).length = T + 3 * (c' ++ [x]).length + 3 * (cs.flatten ++ last).length := by simp only [List.length_append]; omega
    rw [List.append_assoc] at tk
    rw [show (c' ++ [x]) ++ (cs.flatten ++ last) = c' ++ ([x] ++ (cs.flatten ++ last)) by simp, tk]
    rw [hc17] at g2
    rw [hc17]
    refine go_assoc (go_bind (c := 7 + 19 * 17 + 0) (d := cs.length * 330 + 331) (a := ForInStep.yield (some d, [])) (go_bind (d := 0) g1 go_pure) ?_)
    simp only [List.cons_append, disp, hc17]
    exact g2
theorem go_display (env : Env) (pos : Pos) (s : Shared) (h : Heap) (T : Nat) (hn : n₀ ≤ h.objs.size) (hn1 : 1 < n₀) (c0 : List (Int × PySem.Str)) (h0 : c0.length = 17) (cs : List (List (Int × PySem.Str))) (hc : ∀ c ∈ cs, c.length = 17) (last : List (Int × PySem.Str)) (hl : last.length < 17)
    (ha : asc (-1) (c0 ++ (cs.flatten ++ last)) = true) (hz : (c0 ++ (cs.flatten ++ last)).length ≤ 1000) :
    Go p w n₀ ann (1000 + cs.length * 330) (dictDisplay ((c0 ++ (cs.flatten ++ last)).map (it env pos))) (sh h T s) (.ref h.objs.size)
      (sh (disp h.objs.size (cs ++ (if last = [] then [] else [last])) (h.push (dob (ents T c0) 17)) (T + 51) (ents T c0) 17) (T + 3 * (c0 ++ (cs.flatten ++ last)).length) s) := by
  obtain ⟨body, e1, hb⟩ := display_parts
  rw [e1, List.map_append]
  rw [asc_append, Bool.and_eq_true] at ha
  obtain ⟨x, c', rfl⟩ : ∃ x c', c0 = c' ++ [x] := by
    rcases List.eq_nil_or_concat c0 with q | ⟨c', x, q⟩
    · rw [q] at h0; cases h0
    · exact ⟨x, c', by simpa using q⟩
  have hc16 : c'.length = 16 := by simp only [List.length_append, List.length_singleton] at h0; omega
  generalize hr : (cs.flatten ++ last).map (it env pos) = rest
  have e := go_items env pos hb none c' [] (it env pos x :: rest) (by simp only [List.length_nil]; omega)
  simp only [List.map_nil, List.nil_append] at e
  rw [List.map_append, List.append_assoc, List.map_singleton, List.singleton_append, e, List.forIn_cons]
  have e2 : body (it env pos x) (none, c'.map (pr env pos)) = flushT ((c' ++ [x]).map (pr env pos)) none >>= fun m => pure (.yield (m, [])) := by
    unfold it
    rw [hb, if_pos (by simp only [List.length_append, List.length_map, List.length_singleton, beq_iff_eq]; omega)]
    simp
  rw [e2]
  have hz1 : (c' ++ [x]).length ≤ 1000 := by omega
  have g1 := @go_sub p w n₀ ann env pos h s hn (c' ++ [x]) T (-1) (by omega) ha.1 hz1
  have f1 : Go p w n₀ ann (2 + 13 * (c' ++ [x]).length + 0) (flushT ((c' ++ [x]).map (pr env pos)) none) (sh h T s) (some h.objs.size) (sh (h.push (dob (ents T (c' ++ [x])) (c' ++ [x]).length)) (T + 3 * (c' ++ [x]).length) s) := by
    unfold flushT
    have e0 : ((c' ++ [x]).map (pr env pos)).isEmpty = false := by simp
    simp only [e0]
    exact go_bind g1 go_pure
  rw [h0] at f1
  have u0 : Under (lastKey (-1) (c' ++ [x])) ([] ++ ents T (c' ++ [x])) := under_ents ha.1 (fun _ h => nomatch h)
  rw [List.nil_append] at u0
  have ne : ents T (c' ++ [x]) ≠ [] := fun q => by have := @len_ents (c' ++ [x]) T; rw [q, h0] at this; cases this
  have g2 := @go_parts p w n₀ ann body env pos hb s h.objs.size hn hn1 last hl cs (h.push (dob (ents T (c' ++ [x])) 17)) (T + 3 * 17) (ents T (c' ++ [x])) 17 (lastKey (-1) (c' ++ [x])) hc (Heap.get?_push_size (o := dob (ents T (c' ++ [x])) 17) _ rfl) ne
    (le_lastKey _ _ ha.1) ha.2 u0 (by rw [len_ents]; simp only [List.length_append] at hz ⊢; omega)
  rw [hr] at g2
  refine go_le (c := (2 + 13 * 17 + 0 + 0) + (cs.length * 330 + 331)) ?_ (by omega)
  have tk : T + 3 * (c' ++ [x] ++ (cs.flatten ++ last)).length = T + 3 * 17 + 3 * (cs.flatten ++ last).length := by rw [List.length_append, h0]; omega
  rw [tk]
  exact go_assoc (go_bind (c := 2 + 13 * 17 + 0 + 0) (d := cs.length * 330 + 331) (a := ForInStep.yield (some h.objs.size, [])) (go_bind (d := 0) f1 go_pure) g2)
end go
end Mine
-- part HDO01
namespace Mine
noncomputable section
abbrev pw : Program := PySem.Challenge.pw_pe0255_01
def stAt (i : Nat) : Stmt := pw.main.body.getD i (.Pass default)
def fdA : Stmt → Arguments
  | .FunctionDef _ a _ _ _ _ _ _ _ _ => a
  | _ => default
def fdB : Stmt → List Stmt
  | .FunctionDef _ _ b _ _ _ _ _ _ _ => b
  | _ => []
def fdS : Stmt → Scope
  | .FunctionDef _ _ _ _ _ _ s _ _ _ => s
  | _ => default
def en (P : Params) (k : List Nat) (t : Tok) (v : Value) : DictEntry := ⟨PyData.keyHash P ⟨k.toArray⟩, .str ⟨k.toArray⟩ t, v⟩
/-- the table's pairs, as the text has them -/
def psOf : Stmt → List (Int × PySem.Str)
  | .Assign _ (.Dict ks vs _) _ => (ks.zip vs).filterMap fun
    | (some (.Constant (.int i) _ _), .Constant (.str x) _ _) => some (i, x)
    | _ => none
  | _ => []
def ps : List (Int × PySem.Str) := psOf (stAt 11)
def ch (j : Nat) : List (Int × PySem.Str) := (ps.drop (17 * j)).take 17
def chs : List (List (Int × PySem.Str)) := (List.range 37).map fun j => ch (j + 1)
def esTo : Nat → List DictEntry
  | 0 => ents 338 (ch 0)
  | j + 1 => esTo j ++ ents (338 + 51 * (j + 1)) (ch (j + 1))
def obD : Obj := dob (esTo 38) 650
def obS (j : Nat) : Obj := dob (ents (338 + 51 * j) (ch j)) (ch j).length
def o11_a : Obj := ⟨.type "tuple", none, .seq ⟨[]⟩ 0, ⟨[]⟩⟩
def o12_a : Obj := ⟨.none, none, .fields ⟨[]⟩, ⟨[]⟩⟩
def o13_a : Obj := ⟨.type "code", none, .fields ⟨[.str ⟨⟨[60, 109, 111, 100, 117, 108, 101, 62]⟩⟩ 182, .str ⟨⟨[60, 109, 111, 100, 117, 108, 101, 62]⟩⟩ 183, .str ⟨⟨[47, 99, 108, 97, 105, 109, 47, 99, 117, 116, 46, 112, 121]⟩⟩ 184, .int 1 0, .int 0 0, .int 0 0, .int 0 0, .int 0 0, .ref 11, .bool false, .int 181 0, .ref 12, .none, .none, .none, .none, .int 185 0, .int 1 0, .str ⟨⟨[47, 99, 108, 97, 105, 109, 47, 99, 117, 116, 46, 112, 121]⟩⟩ 186]⟩, ⟨[]⟩⟩
def o14_a : Obj := ⟨.type "frame", none, .plain, ⟨[some (.ref 13), some (.ref 3), some (.ref 3), none, some (.str ⟨⟨[95, 95, 109, 97, 105, 110, 95, 95]⟩⟩ 164), none, some (.ref 0)]⟩⟩
def l_a (P : Params) : List Obj := [boot_o_0 P, boot_o_1 P, boot_o_2 P, boot_o_3 P, boot_o_4 P, boot_o_5 P, boot_o_6 P, boot_o_7 P, boot_o_8 P, boot_o_9 P, boot_o_10 P, o11_a, o12_a, o13_a, o14_a]
def o3_9 (P : Params) : Obj := ⟨.type "dict", none, .dict ⟨[en P [95, 95, 110, 97, 109, 101, 95, 95] 165 (.str ⟨⟨[99, 112, 121, 51, 49, 51, 46, 115, 116, 114, 105, 110, 103, 112, 114, 101, 112]⟩⟩ 269), en P [95, 95, 100, 111, 99, 95, 95] 166 (.none), en P [95, 95, 112, 97, 99, 107, 97, 103, 101, 95, 95] 167 (.none), en P [95, 95, 108, 111, 97, 100, 101, 114, 95, 95] 168 (.builtin "__main__.__loader__#opaque"), en P [95, 95, 115, 112, 101, 99, 95, 95] 169 (.none), en P [95, 95, 97, 110, 110, 111, 116, 97, 116, 105, 111, 110, 115, 95, 95] 170 (.ref 6), en P [95, 95, 98, 117, 105, 108, 116, 105, 110, 115, 95, 95] 171 (.ref 4), en P [95, 95, 102, 105, 108, 101, 95, 95] 173 (.str ⟨⟨[47, 99, 108, 97, 105, 109, 47, 99, 117, 116, 46, 112, 121]⟩⟩ 172), en P [95, 95, 99, 97, 99, 104, 101, 100, 95, 95] 174 (.none), en P [95, 68, 73, 86, 95, 76, 73, 77, 73, 84] 190 (.int 4000 189), en P [95, 100, 105, 118, 50, 110, 49, 110] 207 (.ref 21), en P [95, 100, 105, 118, 51, 110, 50, 110] 221 (.ref 28), en P [95, 105, 110, 116, 50, 100, 105, 103, 105, 116, 115] 232 (.ref 35), en P [95, 100, 105, 103, 105, 116, 115, 50, 105, 110, 116] 243 (.ref 42), en P [95, 100, 105, 118, 109, 111, 100, 95, 112, 111, 115] 258 (.ref 49), en P [105, 110, 116, 95, 100, 105, 118, 109, 111, 100] 268 (.ref 56)]⟩ 16, ⟨[]⟩⟩
def o12_9 : Obj := ⟨.none, none, .fields ⟨[.int 3 0, .int 0 0, .ref 20, .int 19 0, .int 0 0, .ref 27, .int 29 0, .int 0 0, .ref 34, .int 45 0, .int 0 0, .ref 41, .int 54 0, .int 0 0, .ref 48, .int 65 0, .int 0 0, .ref 55]⟩, ⟨[]⟩⟩
def o15_9 : Obj := ⟨.type "tuple", none, .seq ⟨[]⟩ 0, ⟨[]⟩⟩
def o16_9 : Obj := ⟨.none, none, .fields ⟨[]⟩, ⟨[]⟩⟩
def o17_9 : Obj := ⟨.type "tuple", none, .seq ⟨[.str ⟨⟨[97]⟩⟩ 194, .str ⟨⟨[98]⟩⟩ 195, .str ⟨⟨[110]⟩⟩ 196, .str ⟨⟨[112, 97, 100]⟩⟩ 197, .str ⟨⟨[104, 97, 108, 102, 95, 110]⟩⟩ 198, .str ⟨⟨[109, 97, 115, 107]⟩⟩ 199, .str ⟨⟨[98, 49]⟩⟩ 200, .str ⟨⟨[98, 50]⟩⟩ 201, .str ⟨⟨[113, 49]⟩⟩ 202, .str ⟨⟨[114]⟩⟩ 203, .str ⟨⟨[113, 50]⟩⟩ 204]⟩ 0, ⟨[]⟩⟩
def o18_9 : Obj := ⟨.type "tuple", none, .seq ⟨[]⟩ 0, ⟨[]⟩⟩
def o19_9 : Obj := ⟨.none, none, .func { name := ⟨⟨[95, 100, 105, 118, 50, 110, 49, 110]⟩⟩, qualname := ⟨⟨[95, 100, 105, 118, 50, 110, 49, 110]⟩⟩, params := fdA (stAt 2), body := .stmts (fdB (stAt 2)), scope := fdS (stAt 2), globals := 0, closure := [], defaults := .none, kwdefaults := .none, doc := .none, pyModule := .none, annotations := none, code := .none, closureTuple := .none, builtins := 0 }, ⟨[]⟩⟩
def o20_9 : Obj := ⟨.type "code", none, .fields ⟨[.str ⟨⟨[95, 100, 105, 118, 50, 110, 49, 110]⟩⟩ 191, .str ⟨⟨[95, 100, 105, 118, 50, 110, 49, 110]⟩⟩ 192, .str ⟨⟨[47, 99, 108, 97, 105, 109, 47, 99, 117, 116, 46, 112, 121]⟩⟩ 193, .int 3 0, .int 3 0, .int 0 0, .int 0 0, .int 3 0, .ref 15, .bool true, .int 181 0, .ref 16, .none, .ref 17, .ref 18, .ref 19, .int 205 0, .int 3 0, .str ⟨⟨[47, 99, 108, 97, 105, 109, 47, 99, 117, 116, 46, 112, 121]⟩⟩ 206]⟩, ⟨[]⟩⟩
def o21_9 : Obj := ⟨.type "function", none, .func { name := ⟨⟨[95, 100, 105, 118, 50, 110, 49, 110]⟩⟩, qualname := ⟨⟨[95, 100, 105, 118, 50, 110, 49, 110]⟩⟩, params := fdA (stAt 2), body := .stmts (fdB (stAt 2)), scope := fdS (stAt 2), globals := 3, closure := [], defaults := .none, kwdefaults := .none, doc := .none, pyModule := .str ⟨⟨[99, 112, 121, 51, 49, 51, 46, 95, 112, 121, 108, 111, 110, 103]⟩⟩ 187, annotations := none, code := .ref 20, closureTuple := .none, builtins := 0 }, ⟨[]⟩⟩
def o22_9 : Obj := ⟨.type "tuple", none, .seq ⟨[]⟩ 0, ⟨[]⟩⟩
def o23_9 : Obj := ⟨.none, none, .fields ⟨[]⟩, ⟨[]⟩⟩
def o24_9 : Obj := ⟨.type "tuple", none, .seq ⟨[.str ⟨⟨[97, 49, 50]⟩⟩ 211, .str ⟨⟨[97, 51]⟩⟩ 212, .str ⟨⟨[98]⟩⟩ 213, .str ⟨⟨[98, 49]⟩⟩ 214, .str ⟨⟨[98, 50]⟩⟩ 215, .str ⟨⟨[110]⟩⟩ 216, .str ⟨⟨[113]⟩⟩ 217, .str ⟨⟨[114]⟩⟩ 218]⟩ 0, ⟨[]⟩⟩
def o25_9 : Obj := ⟨.type "tuple", none, .seq ⟨[]⟩ 0, ⟨[]⟩⟩
def o26_9 : Obj := ⟨.none, none, .func { name := ⟨⟨[95, 100, 105, 118, 51, 110, 50, 110]⟩⟩, qualname := ⟨⟨[95, 100, 105, 118, 51, 110, 50, 110]⟩⟩, params := fdA (stAt 3), body := .stmts (fdB (stAt 3)), scope := fdS (stAt 3), globals := 0, closure := [], defaults := .none, kwdefaults := .none, doc := .none, pyModule := .none, annotations := none, code := .none, closureTuple := .none, builtins := 0 }, ⟨[]⟩⟩
def o27_9 : Obj := ⟨.type "code", none, .fields ⟨[.str ⟨⟨[95, 100, 105, 118, 51, 110, 50, 110]⟩⟩ 208, .str ⟨⟨[95, 100, 105, 118, 51, 110, 50, 110]⟩⟩ 209, .str ⟨⟨[47, 99, 108, 97, 105, 109, 47, 99, 117, 116, 46, 112, 121]⟩⟩ 210, .int 19 0, .int 6 0, .int 0 0, .int 0 0, .int 3 0, .ref 22, .bool true, .int 181 0, .ref 23, .none, .ref 24, .ref 25, .ref 26, .int 219 0, .int 19 0, .str ⟨⟨[47, 99, 108, 97, 105, 109, 47, 99, 117, 116, 46, 112, 121]⟩⟩ 220]⟩, ⟨[]⟩⟩
def o28_9 : Obj := ⟨.type "function", none, .func { name := ⟨⟨[95, 100, 105, 118, 51, 110, 50, 110]⟩⟩, qualname := ⟨⟨[95, 100, 105, 118, 51, 110, 50, 110]⟩⟩, params := fdA (stAt 3), body := .stmts (fdB (stAt 3)), scope := fdS (stAt 3), globals := 3, closure := [], defaults := .none, kwdefaults := .none, doc := .none, pyModule := .str ⟨⟨[99, 112, 121, 51, 49, 51, 46, 95, 112, 121, 108, 111, 110, 103]⟩⟩ 187, annotations := none, code := .ref 27, closureTuple := .none, builtins := 0 }, ⟨[]⟩⟩
def o29_9 : Obj := ⟨.type "tuple", none, .seq ⟨[]⟩ 0, ⟨[]⟩⟩
def o30_9 : Obj := ⟨.none, none, .fields ⟨[]⟩, ⟨[]⟩⟩
def o31_9 : Obj := ⟨.type "tuple", none, .seq ⟨[.str ⟨⟨[97]⟩⟩ 225, .str ⟨⟨[110]⟩⟩ 226]⟩ 0, ⟨[]⟩⟩
def o32_9 : Obj := ⟨.type "tuple", none, .seq ⟨[.str ⟨⟨[110]⟩⟩ 227, .str ⟨⟨[97, 95, 100, 105, 103, 105, 116, 115]⟩⟩ 228, .str ⟨⟨[105, 110, 110, 101, 114]⟩⟩ 229]⟩ 0, ⟨[]⟩⟩
def o33_9 : Obj := ⟨.none, none, .func { name := ⟨⟨[95, 105, 110, 116, 50, 100, 105, 103, 105, 116, 115]⟩⟩, qualname := ⟨⟨[95, 105, 110, 116, 50, 100, 105, 103, 105, 116, 115]⟩⟩, params := fdA (stAt 4), body := .stmts (fdB (stAt 4)), scope := fdS (stAt 4), globals := 0, closure := [], defaults := .none, kwdefaults := .none, doc := .none, pyModule := .none, annotations := none, code := .none, closureTuple := .none, builtins := 0 }, ⟨[]⟩⟩
def o34_9 : Obj := ⟨.type "code", none, .fields ⟨[.str ⟨⟨[95, 105, 110, 116, 50, 100, 105, 103, 105, 116, 115]⟩⟩ 222, .str ⟨⟨[95, 105, 110, 116, 50, 100, 105, 103, 105, 116, 115]⟩⟩ 223, .str ⟨⟨[47, 99, 108, 97, 105, 109, 47, 99, 117, 116, 46, 112, 121]⟩⟩ 224, .int 29 0, .int 2 0, .int 0 0, .int 0 0, .int 3 0, .ref 29, .bool true, .int 181 0, .ref 30, .none, .ref 31, .ref 32, .ref 33, .int 230 0, .int 29 0, .str ⟨⟨[47, 99, 108, 97, 105, 109, 47, 99, 117, 116, 46, 112, 121]⟩⟩ 231]⟩, ⟨[]⟩⟩
def o35_9 : Obj := ⟨.type "function", none, .func { name := ⟨⟨[95, 105, 110, 116, 50, 100, 105, 103, 105, 116, 115]⟩⟩, qualname := ⟨⟨[95, 105, 110, 116, 50, 100, 105, 103, 105, 116, 115]⟩⟩, params := fdA (stAt 4), body := .stmts (fdB (stAt 4)), scope := fdS (stAt 4), globals := 3, closure := [], defaults := .none, kwdefaults := .none, doc := .none, pyModule := .str ⟨⟨[99, 112, 121, 51, 49, 51, 46, 95, 112, 121, 108, 111, 110, 103]⟩⟩ 187, annotations := none, code := .ref 34, closureTuple := .none, builtins := 0 }, ⟨[]⟩⟩
def o36_9 : Obj := ⟨.type "tuple", none, .seq ⟨[]⟩ 0, ⟨[]⟩⟩
def o37_9 : Obj := ⟨.none, none, .fields ⟨[]⟩, ⟨[]⟩⟩
def o38_9 : Obj := ⟨.type "tuple", none, .seq ⟨[.str ⟨⟨[100, 105, 103, 105, 116, 115]⟩⟩ 236, .str ⟨⟨[110]⟩⟩ 237]⟩ 0, ⟨[]⟩⟩
def o39_9 : Obj := ⟨.type "tuple", none, .seq ⟨[.str ⟨⟨[100, 105, 103, 105, 116, 115]⟩⟩ 238, .str ⟨⟨[110]⟩⟩ 239, .str ⟨⟨[105, 110, 110, 101, 114]⟩⟩ 240]⟩ 0, ⟨[]⟩⟩
def o40_9 : Obj := ⟨.none, none, .func { name := ⟨⟨[95, 100, 105, 103, 105, 116, 115, 50, 105, 110, 116]⟩⟩, qualname := ⟨⟨[95, 100, 105, 103, 105, 116, 115, 50, 105, 110, 116]⟩⟩, params := fdA (stAt 5), body := .stmts (fdB (stAt 5)), scope := fdS (stAt 5), globals := 0, closure := [], defaults := .none, kwdefaults := .none, doc := .none, pyModule := .none, annotations := none, code := .none, closureTuple := .none, builtins := 0 }, ⟨[]⟩⟩
def o41_9 : Obj := ⟨.type "code", none, .fields ⟨[.str ⟨⟨[95, 100, 105, 103, 105, 116, 115, 50, 105, 110, 116]⟩⟩ 233, .str ⟨⟨[95, 100, 105, 103, 105, 116, 115, 50, 105, 110, 116]⟩⟩ 234, .str ⟨⟨[47, 99, 108, 97, 105, 109, 47, 99, 117, 116, 46, 112, 121]⟩⟩ 235, .int 45 0, .int 2 0, .int 0 0, .int 0 0, .int 3 0, .ref 36, .bool true, .int 181 0, .ref 37, .none, .ref 38, .ref 39, .ref 40, .int 241 0, .int 45 0, .str ⟨⟨[47, 99, 108, 97, 105, 109, 47, 99, 117, 116, 46, 112, 121]⟩⟩ 242]⟩, ⟨[]⟩⟩
def o42_9 : Obj := ⟨.type "function", none, .func { name := ⟨⟨[95, 100, 105, 103, 105, 116, 115, 50, 105, 110, 116]⟩⟩, qualname := ⟨⟨[95, 100, 105, 103, 105, 116, 115, 50, 105, 110, 116]⟩⟩, params := fdA (stAt 5), body := .stmts (fdB (stAt 5)), scope := fdS (stAt 5), globals := 3, closure := [], defaults := .none, kwdefaults := .none, doc := .none, pyModule := .str ⟨⟨[99, 112, 121, 51, 49, 51, 46, 95, 112, 121, 108, 111, 110, 103]⟩⟩ 187, annotations := none, code := .ref 41, closureTuple := .none, builtins := 0 }, ⟨[]⟩⟩
def o43_9 : Obj := ⟨.type "tuple", none, .seq ⟨[]⟩ 0, ⟨[]⟩⟩
def o44_9 : Obj := ⟨.none, none, .fields ⟨[]⟩, ⟨[]⟩⟩
def o45_9 : Obj := ⟨.type "tuple", none, .seq ⟨[.str ⟨⟨[97]⟩⟩ 247, .str ⟨⟨[98]⟩⟩ 248, .str ⟨⟨[110]⟩⟩ 249, .str ⟨⟨[97, 95, 100, 105, 103, 105, 116, 115]⟩⟩ 250, .str ⟨⟨[114]⟩⟩ 251, .str ⟨⟨[113, 95, 100, 105, 103, 105, 116, 115]⟩⟩ 252, .str ⟨⟨[97, 95, 100, 105, 103, 105, 116]⟩⟩ 253, .str ⟨⟨[113, 95, 100, 105, 103, 105, 116]⟩⟩ 254, .str ⟨⟨[113]⟩⟩ 255]⟩ 0, ⟨[]⟩⟩
def o46_9 : Obj := ⟨.type "tuple", none, .seq ⟨[]⟩ 0, ⟨[]⟩⟩
def o47_9 : Obj := ⟨.none, none, .func { name := ⟨⟨[95, 100, 105, 118, 109, 111, 100, 95, 112, 111, 115]⟩⟩, qualname := ⟨⟨[95, 100, 105, 118, 109, 111, 100, 95, 112, 111, 115]⟩⟩, params := fdA (stAt 6), body := .stmts (fdB (stAt 6)), scope := fdS (stAt 6), globals := 0, closure := [], defaults := .none, kwdefaults := .none, doc := .none, pyModule := .none, annotations := none, code := .none, closureTuple := .none, builtins := 0 }, ⟨[]⟩⟩
def o48_9 : Obj := ⟨.type "code", none, .fields ⟨[.str ⟨⟨[95, 100, 105, 118, 109, 111, 100, 95, 112, 111, 115]⟩⟩ 244, .str ⟨⟨[95, 100, 105, 118, 109, 111, 100, 95, 112, 111, 115]⟩⟩ 245, .str ⟨⟨[47, 99, 108, 97, 105, 109, 47, 99, 117, 116, 46, 112, 121]⟩⟩ 246, .int 54 0, .int 2 0, .int 0 0, .int 0 0, .int 3 0, .ref 43, .bool true, .int 181 0, .ref 44, .none, .ref 45, .ref 46, .ref 47, .int 256 0, .int 54 0, .str ⟨⟨[47, 99, 108, 97, 105, 109, 47, 99, 117, 116, 46, 112, 121]⟩⟩ 257]⟩, ⟨[]⟩⟩
def o49_9 : Obj := ⟨.type "function", none, .func { name := ⟨⟨[95, 100, 105, 118, 109, 111, 100, 95, 112, 111, 115]⟩⟩, qualname := ⟨⟨[95, 100, 105, 118, 109, 111, 100, 95, 112, 111, 115]⟩⟩, params := fdA (stAt 6), body := .stmts (fdB (stAt 6)), scope := fdS (stAt 6), globals := 3, closure := [], defaults := .none, kwdefaults := .none, doc := .none, pyModule := .str ⟨⟨[99, 112, 121, 51, 49, 51, 46, 95, 112, 121, 108, 111, 110, 103]⟩⟩ 187, annotations := none, code := .ref 48, closureTuple := .none, builtins := 0 }, ⟨[]⟩⟩
def o50_9 : Obj := ⟨.type "tuple", none, .seq ⟨[]⟩ 0, ⟨[]⟩⟩
def o51_9 : Obj := ⟨.none, none, .fields ⟨[]⟩, ⟨[]⟩⟩
def o52_9 : Obj := ⟨.type "tuple", none, .seq ⟨[.str ⟨⟨[97]⟩⟩ 262, .str ⟨⟨[98]⟩⟩ 263, .str ⟨⟨[113]⟩⟩ 264, .str ⟨⟨[114]⟩⟩ 265]⟩ 0, ⟨[]⟩⟩
def o53_9 : Obj := ⟨.type "tuple", none, .seq ⟨[]⟩ 0, ⟨[]⟩⟩
def o54_9 : Obj := ⟨.none, none, .func { name := ⟨⟨[105, 110, 116, 95, 100, 105, 118, 109, 111, 100]⟩⟩, qualname := ⟨⟨[105, 110, 116, 95, 100, 105, 118, 109, 111, 100]⟩⟩, params := fdA (stAt 7), body := .stmts (fdB (stAt 7)), scope := fdS (stAt 7), globals := 0, closure := [], defaults := .none, kwdefaults := .none, doc := .none, pyModule := .none, annotations := none, code := .none, closureTuple := .none, builtins := 0 }, ⟨[]⟩⟩
def o55_9 : Obj := ⟨.type "code", none, .fields ⟨[.str ⟨⟨[105, 110, 116, 95, 100, 105, 118, 109, 111, 100]⟩⟩ 259, .str ⟨⟨[105, 110, 116, 95, 100, 105, 118, 109, 111, 100]⟩⟩ 260, .str ⟨⟨[47, 99, 108, 97, 105, 109, 47, 99, 117, 116, 46, 112, 121]⟩⟩ 261, .int 65 0, .int 2 0, .int 0 0, .int 0 0, .int 3 0, .ref 50, .bool true, .int 181 0, .ref 51, .none, .ref 52, .ref 53, .ref 54, .int 266 0, .int 65 0, .str ⟨⟨[47, 99, 108, 97, 105, 109, 47, 99, 117, 116, 46, 112, 121]⟩⟩ 267]⟩, ⟨[]⟩⟩
def o56_9 : Obj := ⟨.type "function", none, .func { name := ⟨⟨[105, 110, 116, 95, 100, 105, 118, 109, 111, 100]⟩⟩, qualname := ⟨⟨[105, 110, 116, 95, 100, 105, 118, 109, 111, 100]⟩⟩, params := fdA (stAt 7), body := .stmts (fdB (stAt 7)), scope := fdS (stAt 7), globals := 3, closure := [], defaults := .none, kwdefaults := .none, doc := .none, pyModule := .str ⟨⟨[99, 112, 121, 51, 49, 51, 46, 95, 112, 121, 108, 111, 110, 103]⟩⟩ 187, annotations := none, code := .ref 55, closureTuple := .none, builtins := 0 }, ⟨[]⟩⟩
def l_9 (P : Params) : List Obj := [boot_o_0 P, boot_o_1 P, boot_o_2 P, o3_9 P, boot_o_4 P, boot_o_5 P, boot_o_6 P, boot_o_7 P, boot_o_8 P, boot_o_9 P, boot_o_10 P, o11_a, o12_9, o13_a, o14_a, o15_9, o16_9, o17_9, o18_9, o19_9, o20_9, o21_9, o22_9, o23_9, o24_9, o25_9, o26_9, o27_9, o28_9, o29_9, o30_9, o31_9, o32_9, o33_9, o34_9, o35_9, o36_9, o37_9, o38_9, o39_9, o40_9, o41_9, o42_9, o43_9, o44_9, o45_9, o46_9, o47_9, o48_9, o49_9, o50_9, o51_9, o52_9, o53_9, o54_9, o55_9, o56_9]
def o3_10 (P : Params) : Obj := ⟨.type "dict", none, .dict ⟨[en P [95, 95, 110, 97, 109, 101, 95, 95] 165 (.str ⟨⟨[99, 112, 121, 51, 49, 51, 46, 115, 116, 114, 105, 110, 103, 112, 114, 101, 112]⟩⟩ 269), en P [95, 95, 100, 111, 99, 95, 95] 166 (.none), en P [95, 95, 112, 97, 99, 107, 97, 103, 101, 95, 95] 167 (.none), en P [95, 95, 108, 111, 97, 100, 101, 114, 95, 95] 168 (.builtin "__main__.__loader__#opaque"), en P [95, 95, 115, 112, 101, 99, 95, 95] 169 (.none), en P [95, 95, 97, 110, 110, 111, 116, 97, 116, 105, 111, 110, 115, 95, 95] 170 (.ref 6), en P [95, 95, 98, 117, 105, 108, 116, 105, 110, 115, 95, 95] 171 (.ref 4), en P [95, 95, 102, 105, 108, 101, 95, 95] 173 (.str ⟨⟨[47, 99, 108, 97, 105, 109, 47, 99, 117, 116, 46, 112, 121]⟩⟩ 172), en P [95, 95, 99, 97, 99, 104, 101, 100, 95, 95] 174 (.none), en P [95, 68, 73, 86, 95, 76, 73, 77, 73, 84] 190 (.int 4000 189), en P [95, 100, 105, 118, 50, 110, 49, 110] 207 (.ref 21), en P [95, 100, 105, 118, 51, 110, 50, 110] 221 (.ref 28), en P [95, 105, 110, 116, 50, 100, 105, 103, 105, 116, 115] 232 (.ref 35), en P [95, 100, 105, 103, 105, 116, 115, 50, 105, 110, 116] 243 (.ref 42), en P [95, 100, 105, 118, 109, 111, 100, 95, 112, 111, 115] 258 (.ref 49), en P [105, 110, 116, 95, 100, 105, 118, 109, 111, 100] 268 (.ref 56), en P [98, 49, 95, 115, 101, 116] 330 (.ref 64)]⟩ 17, ⟨[]⟩⟩
def o57_10 : Obj := ⟨.type "list", none, .seq ⟨[.int 173 271, .int 847 272, .int 6150 273, .int 6155 274, .int 6156 275, .int 6157 276, .int 8203 277, .int 8204 278, .int 8205 279, .int 8288 280, .int 65279 281]⟩ 0, ⟨[]⟩⟩
def o58_10 : Obj := ⟨.type "range", none, .fields ⟨[.int 65024 282, .int 65040 283, .int 1 284]⟩, ⟨[]⟩⟩
def o59_10 : Obj := ⟨.type "list", none, .seq ⟨[.int 65024 287, .int 65025 288, .int 65026 289, .int 65027 290, .int 65028 291, .int 65029 292, .int 65030 293, .int 65031 294, .int 65032 295, .int 65033 296, .int 65034 297, .int 65035 298, .int 65036 299, .int 65037 300, .int 65038 301, .int 65039 302]⟩ 18, ⟨[]⟩⟩
def o60_10 : Obj := ⟨.type "range_iterator", none, .fields ⟨[.int 65040 0, .int 0 0, .int 1 0]⟩, ⟨[]⟩⟩
def o61_10 : Obj := ⟨.type "tuple", none, .seq ⟨[]⟩ 0, ⟨[]⟩⟩
def o62_10 : Obj := ⟨.type "StopIteration", none, .fields ⟨[.ref 61, .none, .none, .none, .bool false, .none]⟩, ⟨[]⟩⟩
def o63_10 : Obj := ⟨.type "list", none, .seq ⟨[.int 173 271, .int 847 272, .int 6150 273, .int 6155 274, .int 6156 275, .int 6157 276, .int 8203 277, .int 8204 278, .int 8205 279, .int 8288 280, .int 65279 281, .int 65024 287, .int 65025 288, .int 65026 289, .int 65027 290, .int 65028 291, .int 65029 292, .int 65030 293, .int 65031 294, .int 65032 295, .int 65033 296, .int 65034 297, .int 65035 298, .int 65036 299, .int 65037 300, .int 65038 301, .int 65039 302]⟩ 0, ⟨[]⟩⟩
def o64_10 (P : Params) : Obj := ⟨.type "set", none, .set ⟨[(65024, .int 65024 287), (65025, .int 65025 288), (65026, .int 65026 289), (65027, .int 65027 290), (65028, .int 65028 291), (65029, .int 65029 292), (6150, .int 6150 273), (65030, .int 65030 293), (65031, .int 65031 294), (65032, .int 65032 295), (65033, .int 65033 296), (6155, .int 6155 274), (6156, .int 6156 275), (6157, .int 6157 276), (8203, .int 8203 277), (8204, .int 8204 278), (8205, .int 8205 279), (65034, .int 65034 297), (65035, .int 65035 298), (65036, .int 65036 299), (65037, .int 65037 300), (65038, .int 65038 301), (65039, .int 65039 302), (173, .int 173 271), (847, .int 847 272), (8288, .int 8288 280), (65279, .int 65279 281)]⟩ 29 { mask := 127, place := ⟨[0, 1, 2, 3, 4, 5, 6, 7, 8, 9, 10, 11, 12, 13, 14, 15, 16, 17, 18, 19, 20, 21, 22, 45, 79, 96, 127]⟩, dummies := ⟨[]⟩, finger := 0, led := !P.followText "set-order", moves := 2, plain := true }, ⟨[]⟩⟩
def o65_10 : Obj := ⟨.type "list_iterator", none, .fields ⟨[.none, .int 27 0]⟩, ⟨[]⟩⟩
def o66_10 : Obj := ⟨.type "tuple", none, .seq ⟨[]⟩ 0, ⟨[]⟩⟩
def o67_10 : Obj := ⟨.type "StopIteration", none, .fields ⟨[.ref 66, .none, .none, .none, .bool false, .none]⟩, ⟨[]⟩⟩
def l_10 (P : Params) : List Obj := [boot_o_0 P, boot_o_1 P, boot_o_2 P, o3_10 P, boot_o_4 P, boot_o_5 P, boot_o_6 P, boot_o_7 P, boot_o_8 P, boot_o_9 P, boot_o_10 P, o11_a, o12_9, o13_a, o14_a, o15_9, o16_9, o17_9, o18_9, o19_9, o20_9, o21_9, o22_9, o23_9, o24_9, o25_9, o26_9, o27_9, o28_9, o29_9, o30_9, o31_9, o32_9, o33_9, o34_9, o35_9, o36_9, o37_9, o38_9, o39_9, o40_9, o41_9, o42_9, o43_9, o44_9, o45_9, o46_9, o47_9, o48_9, o49_9, o50_9, o51_9, o52_9, o53_9, o54_9, o55_9, o56_9, o57_10, o58_10, o59_10, o60_10, o61_10, o62_10, o63_10, o64_10 P, o65_10, o66_10, o67_10]
def o3_11 (P : Params) : Obj := ⟨.type "dict", none, .dict ⟨[en P [95, 95, 110, 97, 109, 101, 95, 95] 165 (.str ⟨⟨[99, 112, 121, 51, 49, 51, 46, 115, 116, 114, 105, 110, 103, 112, 114, 101, 112]⟩⟩ 269), en P [95, 95, 100, 111, 99, 95, 95] 166 (.none), en P [95, 95, 112, 97, 99, 107, 97, 103, 101, 95, 95] 167 (.none), en P [95, 95, 108, 111, 97, 100, 101, 114, 95, 95] 168 (.builtin "__main__.__loader__#opaque"), en P [95, 95, 115, 112, 101, 99, 95, 95] 169 (.none), en P [95, 95, 97, 110, 110, 111, 116, 97, 116, 105, 111, 110, 115, 95, 95] 170 (.ref 6), en P [95, 95, 98, 117, 105, 108, 116, 105, 110, 115, 95, 95] 171 (.ref 4), en P [95, 95, 102, 105, 108, 101, 95, 95] 173 (.str ⟨⟨[47, 99, 108, 97, 105, 109, 47, 99, 117, 116, 46, 112, 121]⟩⟩ 172), en P [95, 95, 99, 97, 99, 104, 101, 100, 95, 95] 174 (.none), en P [95, 68, 73, 86, 95, 76, 73, 77, 73, 84] 190 (.int 4000 189), en P [95, 100, 105, 118, 50, 110, 49, 110] 207 (.ref 21), en P [95, 100, 105, 118, 51, 110, 50, 110] 221 (.ref 28), en P [95, 105, 110, 116, 50, 100, 105, 103, 105, 116, 115] 232 (.ref 35), en P [95, 100, 105, 103, 105, 116, 115, 50, 105, 110, 116] 243 (.ref 42), en P [95, 100, 105, 118, 109, 111, 100, 95, 112, 111, 115] 258 (.ref 49), en P [105, 110, 116, 95, 100, 105, 118, 109, 111, 100] 268 (.ref 56), en P [98, 49, 95, 115, 101, 116] 330 (.ref 64), en P [105, 110, 95, 116, 97, 98, 108, 101, 95, 98, 49] 337 (.ref 74)]⟩ 18, ⟨[]⟩⟩
def o12_11 : Obj := ⟨.none, none, .fields ⟨[.int 3 0, .int 0 0, .ref 20, .int 19 0, .int 0 0, .ref 27, .int 29 0, .int 0 0, .ref 34, .int 45 0, .int 0 0, .ref 41, .int 54 0, .int 0 0, .ref 48, .int 65 0, .int 0 0, .ref 55, .int 78 0, .int 0 0, .ref 73]⟩, ⟨[]⟩⟩
def o68_11 : Obj := ⟨.type "tuple", none, .seq ⟨[]⟩ 0, ⟨[]⟩⟩
def o69_11 : Obj := ⟨.none, none, .fields ⟨[]⟩, ⟨[]⟩⟩
def o70_11 : Obj := ⟨.type "tuple", none, .seq ⟨[.str ⟨⟨[99, 111, 100, 101]⟩⟩ 334]⟩ 0, ⟨[]⟩⟩
def o71_11 : Obj := ⟨.type "tuple", none, .seq ⟨[]⟩ 0, ⟨[]⟩⟩
def o72_11 : Obj := ⟨.none, none, .func { name := ⟨⟨[105, 110, 95, 116, 97, 98, 108, 101, 95, 98, 49]⟩⟩, qualname := ⟨⟨[105, 110, 95, 116, 97, 98, 108, 101, 95, 98, 49]⟩⟩, params := fdA (stAt 10), body := .stmts (fdB (stAt 10)), scope := fdS (stAt 10), globals := 0, closure := [], defaults := .none, kwdefaults := .none, doc := .none, pyModule := .none, annotations := none, code := .none, closureTuple := .none, builtins := 0 }, ⟨[]⟩⟩
def o73_11 : Obj := ⟨.type "code", none, .fields ⟨[.str ⟨⟨[105, 110, 95, 116, 97, 98, 108, 101, 95, 98, 49]⟩⟩ 331, .str ⟨⟨[105, 110, 95, 116, 97, 98, 108, 101, 95, 98, 49]⟩⟩ 332, .str ⟨⟨[47, 99, 108, 97, 105, 109, 47, 99, 117, 116, 46, 112, 121]⟩⟩ 333, .int 78 0, .int 1 0, .int 0 0, .int 0 0, .int 3 0, .ref 68, .bool true, .int 181 0, .ref 69, .none, .ref 70, .ref 71, .ref 72, .int 335 0, .int 78 0, .str ⟨⟨[47, 99, 108, 97, 105, 109, 47, 99, 117, 116, 46, 112, 121]⟩⟩ 336]⟩, ⟨[]⟩⟩
def o74_11 : Obj := ⟨.type "function", none, .func { name := ⟨⟨[105, 110, 95, 116, 97, 98, 108, 101, 95, 98, 49]⟩⟩, qualname := ⟨⟨[105, 110, 95, 116, 97, 98, 108, 101, 95, 98, 49]⟩⟩, params := fdA (stAt 10), body := .stmts (fdB (stAt 10)), scope := fdS (stAt 10), globals := 3, closure := [], defaults := .none, kwdefaults := .none, doc := .none, pyModule := .str ⟨⟨[99, 112, 121, 51, 49, 51, 46, 115, 116, 114, 105, 110, 103, 112, 114, 101, 112]⟩⟩ 269, annotations := none, code := .ref 73, closureTuple := .none, builtins := 0 }, ⟨[]⟩⟩
def l_11 (P : Params) : List Obj := [boot_o_0 P, boot_o_1 P, boot_o_2 P, o3_11 P, boot_o_4 P, boot_o_5 P, boot_o_6 P, boot_o_7 P, boot_o_8 P, boot_o_9 P, boot_o_10 P, o11_a, o12_11, o13_a, o14_a, o15_9, o16_9, o17_9, o18_9, o19_9, o20_9, o21_9, o22_9, o23_9, o24_9, o25_9, o26_9, o27_9, o28_9, o29_9, o30_9, o31_9, o32_9, o33_9, o34_9, o35_9, o36_9, o37_9, o38_9, o39_9, o40_9, o41_9, o42_9, o43_9, o44_9, o45_9, o46_9, o47_9, o48_9, o49_9, o50_9, o51_9, o52_9, o53_9, o54_9, o55_9, o56_9, o57_10, o58_10, o59_10, o60_10, o61_10, o62_10, o63_10, o64_10 P, o65_10, o66_10, o67_10, o68_11, o69_11, o70_11, o71_11, o72_11, o73_11, o74_11]
def o3_12 (P : Params) : Obj := ⟨.type "dict", none, .dict ⟨[en P [95, 95, 110, 97, 109, 101, 95, 95] 165 (.str ⟨⟨[99, 112, 121, 51, 49, 51, 46, 115, 116, 114, 105, 110, 103, 112, 114, 101, 112]⟩⟩ 269), en P [95, 95, 100, 111, 99, 95, 95] 166 (.none), en P [95, 95, 112, 97, 99, 107, 97, 103, 101, 95, 95] 167 (.none), en P [95, 95, 108, 111, 97, 100, 101, 114, 95, 95] 168 (.builtin "__main__.__loader__#opaque"), en P [95, 95, 115, 112, 101, 99, 95, 95] 169 (.none), en P [95, 95, 97, 110, 110, 111, 116, 97, 116, 105, 111, 110, 115, 95, 95] 170 (.ref 6), en P [95, 95, 98, 117, 105, 108, 116, 105, 110, 115, 95, 95] 171 (.ref 4), en P [95, 95, 102, 105, 108, 101, 95, 95] 173 (.str ⟨⟨[47, 99, 108, 97, 105, 109, 47, 99, 117, 116, 46, 112, 121]⟩⟩ 172), en P [95, 95, 99, 97, 99, 104, 101, 100, 95, 95] 174 (.none), en P [95, 68, 73, 86, 95, 76, 73, 77, 73, 84] 190 (.int 4000 189), en P [95, 100, 105, 118, 50, 110, 49, 110] 207 (.ref 21), en P [95, 100, 105, 118, 51, 110, 50, 110] 221 (.ref 28), en P [95, 105, 110, 116, 50, 100, 105, 103, 105, 116, 115] 232 (.ref 35), en P [95, 100, 105, 103, 105, 116, 115, 50, 105, 110, 116] 243 (.ref 42), en P [95, 100, 105, 118, 109, 111, 100, 95, 112, 111, 115] 258 (.ref 49), en P [105, 110, 116, 95, 100, 105, 118, 109, 111, 100] 268 (.ref 56), en P [98, 49, 95, 115, 101, 116] 330 (.ref 64), en P [105, 110, 95, 116, 97, 98, 108, 101, 95, 98, 49] 337 (.ref 74), en P [98, 51, 95, 101, 120, 99, 101, 112, 116, 105, 111, 110, 115] 2288 (.ref 75)]⟩ 19, ⟨[]⟩⟩
def l_12x (P : Params) : List Obj := [boot_o_0 P, boot_o_1 P, boot_o_2 P, o3_11 P, boot_o_4 P, boot_o_5 P, boot_o_6 P, boot_o_7 P, boot_o_8 P, boot_o_9 P, boot_o_10 P, o11_a, o12_11, o13_a, o14_a, o15_9, o16_9, o17_9, o18_9, o19_9, o20_9, o21_9, o22_9, o23_9, o24_9, o25_9, o26_9, o27_9, o28_9, o29_9, o30_9, o31_9, o32_9, o33_9, o34_9, o35_9, o36_9, o37_9, o38_9, o39_9, o40_9, o41_9, o42_9, o43_9, o44_9, o45_9, o46_9, o47_9, o48_9, o49_9, o50_9, o51_9, o52_9, o53_9, o54_9, o55_9, o56_9, o57_10, o58_10, o59_10, o60_10, o61_10, o62_10, o63_10, o64_10 P, o65_10, o66_10, o67_10, o68_11, o69_11, o70_11, o71_11, o72_11, o73_11, o74_11, obD, obS 1, obS 2, obS 3, obS 4, obS 5, obS 6, obS 7, obS 8, obS 9, obS 10, obS 11, obS 12, obS 13, obS 14, obS 15, obS 16, obS 17, obS 18, obS 19, obS 20, obS 21, obS 22, obS 23, obS 24, obS 25, obS 26, obS 27, obS 28, obS 29, obS 30, obS 31, obS 32, obS 33, obS 34, obS 35, obS 36, obS 37, obS 38]
def l_12 (P : Params) : List Obj := [boot_o_0 P, boot_o_1 P, boot_o_2 P, o3_12 P, boot_o_4 P, boot_o_5 P, boot_o_6 P, boot_o_7 P, boot_o_8 P, boot_o_9 P, boot_o_10 P, o11_a, o12_11, o13_a, o14_a, o15_9, o16_9, o17_9, o18_9, o19_9, o20_9, o21_9, o22_9, o23_9, o24_9, o25_9, o26_9, o27_9, o28_9, o29_9, o30_9, o31_9, o32_9, o33_9, o34_9, o35_9, o36_9, o37_9, o38_9, o39_9, o40_9, o41_9, o42_9, o43_9, o44_9, o45_9, o46_9, o47_9, o48_9, o49_9, o50_9, o51_9, o52_9, o53_9, o54_9, o55_9, o56_9, o57_10, o58_10, o59_10, o60_10, o61_10, o62_10, o63_10, o64_10 P, o65_10, o66_10, o67_10, o68_11, o69_11, o70_11, o71_11, o72_11, o73_11, o74_11, obD, obS 1, obS 2, obS 3, obS 4, obS 5, obS 6, obS 7, obS 8, obS 9, obS 10, obS 11, obS 12, obS 13, obS 14, obS 15, obS 16, obS 17, obS 18, obS 19, obS 20, obS 21, obS 22, obS 23, obS 24, obS 25, obS 26, obS 27, obS 28, obS 29, obS 30, obS 31, obS 32, obS 33, obS 34, obS 35, obS 36, obS 37, obS 38]
def o3_22 (P : Params) : Obj := ⟨.type "dict", none, .dict ⟨[en P [95, 95, 110, 97, 109, 101, 95, 95] 165 (.str ⟨⟨[108, 97, 119, 95, 112, 101, 48, 50, 53, 53, 95, 48, 49]⟩⟩ 2297), en P [95, 95, 100, 111, 99, 95, 95] 166 (.none), en P [95, 95, 112, 97, 99, 107, 97, 103, 101, 95, 95] 167 (.none), en P [95, 95, 108, 111, 97, 100, 101, 114, 95, 95] 168 (.builtin "__main__.__loader__#opaque"), en P [95, 95, 115, 112, 101, 99, 95, 95] 169 (.none), en P [95, 95, 97, 110, 110, 111, 116, 97, 116, 105, 111, 110, 115, 95, 95] 170 (.ref 6), en P [95, 95, 98, 117, 105, 108, 116, 105, 110, 115, 95, 95] 171 (.ref 4), en P [95, 95, 102, 105, 108, 101, 95, 95] 173 (.str ⟨⟨[47, 99, 108, 97, 105, 109, 47, 99, 117, 116, 46, 112, 121]⟩⟩ 172), en P [95, 95, 99, 97, 99, 104, 101, 100, 95, 95] 174 (.none), en P [95, 68, 73, 86, 95, 76, 73, 77, 73, 84] 190 (.int 4000 189), en P [95, 100, 105, 118, 50, 110, 49, 110] 207 (.ref 21), en P [95, 100, 105, 118, 51, 110, 50, 110] 221 (.ref 28), en P [95, 105, 110, 116, 50, 100, 105, 103, 105, 116, 115] 232 (.ref 35), en P [95, 100, 105, 103, 105, 116, 115, 50, 105, 110, 116] 243 (.ref 42), en P [95, 100, 105, 118, 109, 111, 100, 95, 112, 111, 115] 258 (.ref 49), en P [105, 110, 116, 95, 100, 105, 118, 109, 111, 100] 268 (.ref 56), en P [98, 49, 95, 115, 101, 116] 330 (.ref 64), en P [105, 110, 95, 116, 97, 98, 108, 101, 95, 98, 49] 337 (.ref 74), en P [98, 51, 95, 101, 120, 99, 101, 112, 116, 105, 111, 110, 115] 2288 (.ref 75), en P [109, 97, 112, 95, 116, 97, 98, 108, 101, 95, 98, 51] 2296 (.ref 120), en P [95, 108, 97, 119, 95, 112, 114, 101, 112, 97, 114, 101, 100] 2304 (.ref 125), en P [95, 108, 97, 119, 95, 108, 105, 110, 101] 2317 (.ref 132), en P [95, 108, 97, 119, 95, 102, 111, 114, 109] 2327 (.ref 139), en P [95, 108, 97, 119, 95, 117, 110, 115, 101, 101, 110] 2335 (.ref 146), en P [95, 108, 97, 119, 95, 114, 117, 110] 2346 (.ref 153), en P [95, 108, 97, 119, 95, 115, 105, 103, 110, 115] 2353 (.ref 160), en P [95, 108, 97, 119, 95, 114, 101, 119, 114, 105, 116, 116, 101, 110] 2370 (.ref 167), en P [108, 97, 119] 2376 (.ref 172)]⟩ 28, ⟨[]⟩⟩
def o12_22 : Obj := ⟨.none, none, .fields ⟨[.int 3 0, .int 0 0, .ref 20, .int 19 0, .int 0 0, .ref 27, .int 29 0, .int 0 0, .ref 34, .int 45 0, .int 0 0, .ref 41, .int 54 0, .int 0 0, .ref 48, .int 65 0, .int 0 0, .ref 55, .int 78 0, .int 0 0, .ref 73, .int 81 0, .int 0 0, .ref 119, .int 87 0, .int 0 0, .ref 124, .int 89 0, .int 0 0, .ref 131, .int 98 0, .int 0 0, .ref 138, .int 106 0, .int 0 0, .ref 145, .int 113 0, .int 0 0, .ref 152, .int 125 0, .int 0 0, .ref 159, .int 127 0, .int 0 0, .ref 166, .int 143 0, .int 0 0, .ref 171]⟩, ⟨[]⟩⟩
def o114_22 : Obj := ⟨.type "tuple", none, .seq ⟨[]⟩ 0, ⟨[]⟩⟩
def o115_22 : Obj := ⟨.none, none, .fields ⟨[]⟩, ⟨[]⟩⟩
def o116_22 : Obj := ⟨.type "tuple", none, .seq ⟨[.str ⟨⟨[99, 111, 100, 101]⟩⟩ 2292, .str ⟨⟨[114]⟩⟩ 2293]⟩ 0, ⟨[]⟩⟩
def o117_22 : Obj := ⟨.type "tuple", none, .seq ⟨[]⟩ 0, ⟨[]⟩⟩
def o118_22 : Obj := ⟨.none, none, .func { name := ⟨⟨[109, 97, 112, 95, 116, 97, 98, 108, 101, 95, 98, 51]⟩⟩, qualname := ⟨⟨[109, 97, 112, 95, 116, 97, 98, 108, 101, 95, 98, 51]⟩⟩, params := fdA (stAt 12), body := .stmts (fdB (stAt 12)), scope := fdS (stAt 12), globals := 0, closure := [], defaults := .none, kwdefaults := .none, doc := .none, pyModule := .none, annotations := none, code := .none, closureTuple := .none, builtins := 0 }, ⟨[]⟩⟩
def o119_22 : Obj := ⟨.type "code", none, .fields ⟨[.str ⟨⟨[109, 97, 112, 95, 116, 97, 98, 108, 101, 95, 98, 51]⟩⟩ 2289, .str ⟨⟨[109, 97, 112, 95, 116, 97, 98, 108, 101, 95, 98, 51]⟩⟩ 2290, .str ⟨⟨[47, 99, 108, 97, 105, 109, 47, 99, 117, 116, 46, 112, 121]⟩⟩ 2291, .int 81 0, .int 1 0, .int 0 0, .int 0 0, .int 3 0, .ref 114, .bool true, .int 181 0, .ref 115, .none, .ref 116, .ref 117, .ref 118, .int 2294 0, .int 81 0, .str ⟨⟨[47, 99, 108, 97, 105, 109, 47, 99, 117, 116, 46, 112, 121]⟩⟩ 2295]⟩, ⟨[]⟩⟩
def o120_22 : Obj := ⟨.type "function", none, .func { name := ⟨⟨[109, 97, 112, 95, 116, 97, 98, 108, 101, 95, 98, 51]⟩⟩, qualname := ⟨⟨[109, 97, 112, 95, 116, 97, 98, 108, 101, 95, 98, 51]⟩⟩, params := fdA (stAt 12), body := .stmts (fdB (stAt 12)), scope := fdS (stAt 12), globals := 3, closure := [], defaults := .none, kwdefaults := .none, doc := .none, pyModule := .str ⟨⟨[99, 112, 121, 51, 49, 51, 46, 115, 116, 114, 105, 110, 103, 112, 114, 101, 112]⟩⟩ 269, annotations := none, code := .ref 119, closureTuple := .none, builtins := 0 }, ⟨[]⟩⟩
def o121_22 : Obj := ⟨.type "tuple", none, .seq ⟨[]⟩ 0, ⟨[]⟩⟩
def o122_22 : Obj := ⟨.none, none, .fields ⟨[]⟩, ⟨[]⟩⟩
def o123_22 : Obj := ⟨.none, none, .func { name := ⟨⟨[95, 108, 97, 119, 95, 112, 114, 101, 112, 97, 114, 101, 100]⟩⟩, qualname := ⟨⟨[95, 108, 97, 119, 95, 112, 114, 101, 112, 97, 114, 101, 100]⟩⟩, params := fdA (stAt 14), body := .stmts (fdB (stAt 14)), scope := fdS (stAt 14), globals := 0, closure := [], defaults := .none, kwdefaults := .none, doc := .none, pyModule := .none, annotations := none, code := .none, closureTuple := .none, builtins := 0 }, ⟨[]⟩⟩
def o124_22 : Obj := ⟨.type "code", none, .fields ⟨[.str ⟨⟨[95, 108, 97, 119, 95, 112, 114, 101, 112, 97, 114, 101, 100]⟩⟩ 2299, .str ⟨⟨[95, 108, 97, 119, 95, 112, 114, 101, 112, 97, 114, 101, 100]⟩⟩ 2300, .str ⟨⟨[47, 99, 108, 97, 105, 109, 47, 99, 117, 116, 46, 112, 121]⟩⟩ 2301, .int 87 0, .int 1 0, .int 0 0, .int 0 0, .int 3 0, .ref 121, .bool true, .int 181 0, .ref 122, .none, .none, .none, .ref 123, .int 2302 0, .int 87 0, .str ⟨⟨[47, 99, 108, 97, 105, 109, 47, 99, 117, 116, 46, 112, 121]⟩⟩ 2303]⟩, ⟨[]⟩⟩
def o125_22 : Obj := ⟨.type "function", none, .func { name := ⟨⟨[95, 108, 97, 119, 95, 112, 114, 101, 112, 97, 114, 101, 100]⟩⟩, qualname := ⟨⟨[95, 108, 97, 119, 95, 112, 114, 101, 112, 97, 114, 101, 100]⟩⟩, params := fdA (stAt 14), body := .stmts (fdB (stAt 14)), scope := fdS (stAt 14), globals := 3, closure := [], defaults := .none, kwdefaults := .none, doc := .none, pyModule := .str ⟨⟨[108, 97, 119, 95, 112, 101, 48, 50, 53, 53, 95, 48, 49]⟩⟩ 2297, annotations := none, code := .ref 124, closureTuple := .none, builtins := 0 }, ⟨[]⟩⟩
def o126_22 : Obj := ⟨.type "tuple", none, .seq ⟨[]⟩ 0, ⟨[]⟩⟩
def o127_22 : Obj := ⟨.none, none, .fields ⟨[]⟩, ⟨[]⟩⟩
def o128_22 : Obj := ⟨.type "tuple", none, .seq ⟨[.str ⟨⟨[111, 110, 115]⟩⟩ 2308, .str ⟨⟨[117, 112, 115]⟩⟩ 2309, .str ⟨⟨[111, 110]⟩⟩ 2310, .str ⟨⟨[117, 112]⟩⟩ 2311, .str ⟨⟨[119, 104, 111, 108, 101]⟩⟩ 2312, .str ⟨⟨[119, 111, 114, 100]⟩⟩ 2313, .str ⟨⟨[107]⟩⟩ 2314]⟩ 0, ⟨[]⟩⟩
def o129_22 : Obj := ⟨.type "tuple", none, .seq ⟨[]⟩ 0, ⟨[]⟩⟩
def o130_22 : Obj := ⟨.none, none, .func { name := ⟨⟨[95, 108, 97, 119, 95, 108, 105, 110, 101]⟩⟩, qualname := ⟨⟨[95, 108, 97, 119, 95, 108, 105, 110, 101]⟩⟩, params := fdA (stAt 15), body := .stmts (fdB (stAt 15)), scope := fdS (stAt 15), globals := 0, closure := [], defaults := .none, kwdefaults := .none, doc := .none, pyModule := .none, annotations := none, code := .none, closureTuple := .none, builtins := 0 }, ⟨[]⟩⟩
def o131_22 : Obj := ⟨.type "code", none, .fields ⟨[.str ⟨⟨[95, 108, 97, 119, 95, 108, 105, 110, 101]⟩⟩ 2305, .str ⟨⟨[95, 108, 97, 119, 95, 108, 105, 110, 101]⟩⟩ 2306, .str ⟨⟨[47, 99, 108, 97, 105, 109, 47, 99, 117, 116, 46, 112, 121]⟩⟩ 2307, .int 89 0, .int 4 0, .int 0 0, .int 0 0, .int 3 0, .ref 126, .bool true, .int 181 0, .ref 127, .none, .ref 128, .ref 129, .ref 130, .int 2315 0, .int 89 0, .str ⟨⟨[47, 99, 108, 97, 105, 109, 47, 99, 117, 116, 46, 112, 121]⟩⟩ 2316]⟩, ⟨[]⟩⟩
def o132_22 : Obj := ⟨.type "function", none, .func { name := ⟨⟨[95, 108, 97, 119, 95, 108, 105, 110, 101]⟩⟩, qualname := ⟨⟨[95, 108, 97, 119, 95, 108, 105, 110, 101]⟩⟩, params := fdA (stAt 15), body := .stmts (fdB (stAt 15)), scope := fdS (stAt 15), globals := 3, closure := [], defaults := .none, kwdefaults := .none, doc := .none, pyModule := .str ⟨⟨[108, 97, 119, 95, 112, 101, 48, 50, 53, 53, 95, 48, 49]⟩⟩ 2297, annotations := none, code := .ref 131, closureTuple := .none, builtins := 0 }, ⟨[]⟩⟩
def o133_22 : Obj := ⟨.type "tuple", none, .seq ⟨[]⟩ 0, ⟨[]⟩⟩
def o134_22 : Obj := ⟨.none, none, .fields ⟨[]⟩, ⟨[]⟩⟩
def o135_22 : Obj := ⟨.type "tuple", none, .seq ⟨[.str ⟨⟨[108, 101, 116, 116, 101, 114]⟩⟩ 2321, .str ⟨⟨[110]⟩⟩ 2322, .str ⟨⟨[107, 105, 110, 100]⟩⟩ 2323, .str ⟨⟨[97, 108, 112, 104, 97, 98, 101, 116]⟩⟩ 2324]⟩ 0, ⟨[]⟩⟩
def o136_22 : Obj := ⟨.type "tuple", none, .seq ⟨[]⟩ 0, ⟨[]⟩⟩
def o137_22 : Obj := ⟨.none, none, .func { name := ⟨⟨[95, 108, 97, 119, 95, 102, 111, 114, 109]⟩⟩, qualname := ⟨⟨[95, 108, 97, 119, 95, 102, 111, 114, 109]⟩⟩, params := fdA (stAt 16), body := .stmts (fdB (stAt 16)), scope := fdS (stAt 16), globals := 0, closure := [], defaults := .none, kwdefaults := .none, doc := .none, pyModule := .none, annotations := none, code := .none, closureTuple := .none, builtins := 0 }, ⟨[]⟩⟩
def o138_22 : Obj := ⟨.type "code", none, .fields ⟨[.str ⟨⟨[95, 108, 97, 119, 95, 102, 111, 114, 109]⟩⟩ 2318, .str ⟨⟨[95, 108, 97, 119, 95, 102, 111, 114, 109]⟩⟩ 2319, .str ⟨⟨[47, 99, 108, 97, 105, 109, 47, 99, 117, 116, 46, 112, 121]⟩⟩ 2320, .int 98 0, .int 2 0, .int 0 0, .int 0 0, .int 3 0, .ref 133, .bool true, .int 181 0, .ref 134, .none, .ref 135, .ref 136, .ref 137, .int 2325 0, .int 98 0, .str ⟨⟨[47, 99, 108, 97, 105, 109, 47, 99, 117, 116, 46, 112, 121]⟩⟩ 2326]⟩, ⟨[]⟩⟩
def o139_22 : Obj := ⟨.type "function", none, .func { name := ⟨⟨[95, 108, 97, 119, 95, 102, 111, 114, 109]⟩⟩, qualname := ⟨⟨[95, 108, 97, 119, 95, 102, 111, 114, 109]⟩⟩, params := fdA (stAt 16), body := .stmts (fdB (stAt 16)), scope := fdS (stAt 16), globals := 3, closure := [], defaults := .none, kwdefaults := .none, doc := .none, pyModule := .str ⟨⟨[108, 97, 119, 95, 112, 101, 48, 50, 53, 53, 95, 48, 49]⟩⟩ 2297, annotations := none, code := .ref 138, closureTuple := .none, builtins := 0 }, ⟨[]⟩⟩
def o140_22 : Obj := ⟨.type "tuple", none, .seq ⟨[]⟩ 0, ⟨[]⟩⟩
def o141_22 : Obj := ⟨.none, none, .fields ⟨[]⟩, ⟨[]⟩⟩
def o142_22 : Obj := ⟨.type "tuple", none, .seq ⟨[.str ⟨⟨[110]⟩⟩ 2331, .str ⟨⟨[107, 105, 110, 100]⟩⟩ 2332]⟩ 0, ⟨[]⟩⟩
def o143_22 : Obj := ⟨.type "tuple", none, .seq ⟨[]⟩ 0, ⟨[]⟩⟩
def o144_22 : Obj := ⟨.none, none, .func { name := ⟨⟨[95, 108, 97, 119, 95, 117, 110, 115, 101, 101, 110]⟩⟩, qualname := ⟨⟨[95, 108, 97, 119, 95, 117, 110, 115, 101, 101, 110]⟩⟩, params := fdA (stAt 17), body := .stmts (fdB (stAt 17)), scope := fdS (stAt 17), globals := 0, closure := [], defaults := .none, kwdefaults := .none, doc := .none, pyModule := .none, annotations := none, code := .none, closureTuple := .none, builtins := 0 }, ⟨[]⟩⟩
def o145_22 : Obj := ⟨.type "code", none, .fields ⟨[.str ⟨⟨[95, 108, 97, 119, 95, 117, 110, 115, 101, 101, 110]⟩⟩ 2328, .str ⟨⟨[95, 108, 97, 119, 95, 117, 110, 115, 101, 101, 110]⟩⟩ 2329, .str ⟨⟨[47, 99, 108, 97, 105, 109, 47, 99, 117, 116, 46, 112, 121]⟩⟩ 2330, .int 106 0, .int 1 0, .int 0 0, .int 0 0, .int 3 0, .ref 140, .bool true, .int 181 0, .ref 141, .none, .ref 142, .ref 143, .ref 144, .int 2333 0, .int 106 0, .str ⟨⟨[47, 99, 108, 97, 105, 109, 47, 99, 117, 116, 46, 112, 121]⟩⟩ 2334]⟩, ⟨[]⟩⟩
def o146_22 : Obj := ⟨.type "function", none, .func { name := ⟨⟨[95, 108, 97, 119, 95, 117, 110, 115, 101, 101, 110]⟩⟩, qualname := ⟨⟨[95, 108, 97, 119, 95, 117, 110, 115, 101, 101, 110]⟩⟩, params := fdA (stAt 17), body := .stmts (fdB (stAt 17)), scope := fdS (stAt 17), globals := 3, closure := [], defaults := .none, kwdefaults := .none, doc := .none, pyModule := .str ⟨⟨[108, 97, 119, 95, 112, 101, 48, 50, 53, 53, 95, 48, 49]⟩⟩ 2297, annotations := none, code := .ref 145, closureTuple := .none, builtins := 0 }, ⟨[]⟩⟩
def o147_22 : Obj := ⟨.type "tuple", none, .seq ⟨[]⟩ 0, ⟨[]⟩⟩
def o148_22 : Obj := ⟨.none, none, .fields ⟨[]⟩, ⟨[]⟩⟩
def o149_22 : Obj := ⟨.type "tuple", none, .seq ⟨[.str ⟨⟨[108, 101, 116, 116, 101, 114]⟩⟩ 2339, .str ⟨⟨[99, 111, 117, 110, 116]⟩⟩ 2340, .str ⟨⟨[110]⟩⟩ 2341, .str ⟨⟨[116, 119, 105, 99, 101]⟩⟩ 2342, .str ⟨⟨[116, 101, 120, 116]⟩⟩ 2343]⟩ 0, ⟨[]⟩⟩
def o150_22 : Obj := ⟨.type "tuple", none, .seq ⟨[]⟩ 0, ⟨[]⟩⟩
def o151_22 : Obj := ⟨.none, none, .func { name := ⟨⟨[95, 108, 97, 119, 95, 114, 117, 110]⟩⟩, qualname := ⟨⟨[95, 108, 97, 119, 95, 114, 117, 110]⟩⟩, params := fdA (stAt 18), body := .stmts (fdB (stAt 18)), scope := fdS (stAt 18), globals := 0, closure := [], defaults := .none, kwdefaults := .none, doc := .none, pyModule := .none, annotations := none, code := .none, closureTuple := .none, builtins := 0 }, ⟨[]⟩⟩
def o152_22 : Obj := ⟨.type "code", none, .fields ⟨[.str ⟨⟨[95, 108, 97, 119, 95, 114, 117, 110]⟩⟩ 2336, .str ⟨⟨[95, 108, 97, 119, 95, 114, 117, 110]⟩⟩ 2337, .str ⟨⟨[47, 99, 108, 97, 105, 109, 47, 99, 117, 116, 46, 112, 121]⟩⟩ 2338, .int 113 0, .int 3 0, .int 0 0, .int 0 0, .int 3 0, .ref 147, .bool true, .int 181 0, .ref 148, .none, .ref 149, .ref 150, .ref 151, .int 2344 0, .int 113 0, .str ⟨⟨[47, 99, 108, 97, 105, 109, 47, 99, 117, 116, 46, 112, 121]⟩⟩ 2345]⟩, ⟨[]⟩⟩
def o153_22 : Obj := ⟨.type "function", none, .func { name := ⟨⟨[95, 108, 97, 119, 95, 114, 117, 110]⟩⟩, qualname := ⟨⟨[95, 108, 97, 119, 95, 114, 117, 110]⟩⟩, params := fdA (stAt 18), body := .stmts (fdB (stAt 18)), scope := fdS (stAt 18), globals := 3, closure := [], defaults := .none, kwdefaults := .none, doc := .none, pyModule := .str ⟨⟨[108, 97, 119, 95, 112, 101, 48, 50, 53, 53, 95, 48, 49]⟩⟩ 2297, annotations := none, code := .ref 152, closureTuple := .none, builtins := 0 }, ⟨[]⟩⟩
def o154_22 : Obj := ⟨.type "tuple", none, .seq ⟨[]⟩ 0, ⟨[]⟩⟩
def o155_22 : Obj := ⟨.none, none, .fields ⟨[]⟩, ⟨[]⟩⟩
def o156_22 : Obj := ⟨.type "tuple", none, .seq ⟨[.str ⟨⟨[110]⟩⟩ 2350]⟩ 0, ⟨[]⟩⟩
def o157_22 : Obj := ⟨.type "tuple", none, .seq ⟨[]⟩ 0, ⟨[]⟩⟩
def o158_22 : Obj := ⟨.none, none, .func { name := ⟨⟨[95, 108, 97, 119, 95, 115, 105, 103, 110, 115]⟩⟩, qualname := ⟨⟨[95, 108, 97, 119, 95, 115, 105, 103, 110, 115]⟩⟩, params := fdA (stAt 19), body := .stmts (fdB (stAt 19)), scope := fdS (stAt 19), globals := 0, closure := [], defaults := .none, kwdefaults := .none, doc := .none, pyModule := .none, annotations := none, code := .none, closureTuple := .none, builtins := 0 }, ⟨[]⟩⟩
def o159_22 : Obj := ⟨.type "code", none, .fields ⟨[.str ⟨⟨[95, 108, 97, 119, 95, 115, 105, 103, 110, 115]⟩⟩ 2347, .str ⟨⟨[95, 108, 97, 119, 95, 115, 105, 103, 110, 115]⟩⟩ 2348, .str ⟨⟨[47, 99, 108, 97, 105, 109, 47, 99, 117, 116, 46, 112, 121]⟩⟩ 2349, .int 125 0, .int 1 0, .int 0 0, .int 0 0, .int 3 0, .ref 154, .bool true, .int 181 0, .ref 155, .none, .ref 156, .ref 157, .ref 158, .int 2351 0, .int 125 0, .str ⟨⟨[47, 99, 108, 97, 105, 109, 47, 99, 117, 116, 46, 112, 121]⟩⟩ 2352]⟩, ⟨[]⟩⟩
def o160_22 : Obj := ⟨.type "function", none, .func { name := ⟨⟨[95, 108, 97, 119, 95, 115, 105, 103, 110, 115]⟩⟩, qualname := ⟨⟨[95, 108, 97, 119, 95, 115, 105, 103, 110, 115]⟩⟩, params := fdA (stAt 19), body := .stmts (fdB (stAt 19)), scope := fdS (stAt 19), globals := 3, closure := [], defaults := .none, kwdefaults := .none, doc := .none, pyModule := .str ⟨⟨[108, 97, 119, 95, 112, 101, 48, 50, 53, 53, 95, 48, 49]⟩⟩ 2297, annotations := none, code := .ref 159, closureTuple := .none, builtins := 0 }, ⟨[]⟩⟩
def o161_22 : Obj := ⟨.type "tuple", none, .seq ⟨[]⟩ 0, ⟨[]⟩⟩
def o162_22 : Obj := ⟨.none, none, .fields ⟨[]⟩, ⟨[]⟩⟩
def o163_22 : Obj := ⟨.type "tuple", none, .seq ⟨[.str ⟨⟨[119, 111, 114, 100]⟩⟩ 2357, .str ⟨⟨[115, 105, 103, 110, 115]⟩⟩ 2358, .str ⟨⟨[116, 105, 109, 101, 115]⟩⟩ 2359, .str ⟨⟨[117, 112, 119, 97, 114, 100]⟩⟩ 2360, .str ⟨⟨[110]⟩⟩ 2361, .str ⟨⟨[111, 110]⟩⟩ 2362, .str ⟨⟨[117, 112]⟩⟩ 2363, .str ⟨⟨[112, 97, 105, 114]⟩⟩ 2364, .str ⟨⟨[116, 104, 114, 101, 101]⟩⟩ 2365, .str ⟨⟨[116, 101, 120, 116]⟩⟩ 2366, .str ⟨⟨[108, 101, 116, 116, 101, 114]⟩⟩ 2367]⟩ 0, ⟨[]⟩⟩
def o164_22 : Obj := ⟨.type "tuple", none, .seq ⟨[]⟩ 0, ⟨[]⟩⟩
def o165_22 : Obj := ⟨.none, none, .func { name := ⟨⟨[95, 108, 97, 119, 95, 114, 101, 119, 114, 105, 116, 116, 101, 110]⟩⟩, qualname := ⟨⟨[95, 108, 97, 119, 95, 114, 101, 119, 114, 105, 116, 116, 101, 110]⟩⟩, params := fdA (stAt 20), body := .stmts (fdB (stAt 20)), scope := fdS (stAt 20), globals := 0, closure := [], defaults := .none, kwdefaults := .none, doc := .none, pyModule := .none, annotations := none, code := .none, closureTuple := .none, builtins := 0 }, ⟨[]⟩⟩
def o166_22 : Obj := ⟨.type "code", none, .fields ⟨[.str ⟨⟨[95, 108, 97, 119, 95, 114, 101, 119, 114, 105, 116, 116, 101, 110]⟩⟩ 2354, .str ⟨⟨[95, 108, 97, 119, 95, 114, 101, 119, 114, 105, 116, 116, 101, 110]⟩⟩ 2355, .str ⟨⟨[47, 99, 108, 97, 105, 109, 47, 99, 117, 116, 46, 112, 121]⟩⟩ 2356, .int 127 0, .int 5 0, .int 0 0, .int 0 0, .int 3 0, .ref 161, .bool true, .int 181 0, .ref 162, .none, .ref 163, .ref 164, .ref 165, .int 2368 0, .int 127 0, .str ⟨⟨[47, 99, 108, 97, 105, 109, 47, 99, 117, 116, 46, 112, 121]⟩⟩ 2369]⟩, ⟨[]⟩⟩
def o167_22 : Obj := ⟨.type "function", none, .func { name := ⟨⟨[95, 108, 97, 119, 95, 114, 101, 119, 114, 105, 116, 116, 101, 110]⟩⟩, qualname := ⟨⟨[95, 108, 97, 119, 95, 114, 101, 119, 114, 105, 116, 116, 101, 110]⟩⟩, params := fdA (stAt 20), body := .stmts (fdB (stAt 20)), scope := fdS (stAt 20), globals := 3, closure := [], defaults := .none, kwdefaults := .none, doc := .none, pyModule := .str ⟨⟨[108, 97, 119, 95, 112, 101, 48, 50, 53, 53, 95, 48, 49]⟩⟩ 2297, annotations := none, code := .ref 166, closureTuple := .none, builtins := 0 }, ⟨[]⟩⟩
def o168_22 : Obj := ⟨.type "tuple", none, .seq ⟨[]⟩ 0, ⟨[]⟩⟩
def o169_22 : Obj := ⟨.none, none, .fields ⟨[]⟩, ⟨[]⟩⟩
def o170_22 : Obj := ⟨.none, none, .func { name := ⟨⟨[108, 97, 119]⟩⟩, qualname := ⟨⟨[108, 97, 119]⟩⟩, params := fdA (stAt 21), body := .stmts (fdB (stAt 21)), scope := fdS (stAt 21), globals := 0, closure := [], defaults := .none, kwdefaults := .none, doc := .none, pyModule := .none, annotations := none, code := .none, closureTuple := .none, builtins := 0 }, ⟨[]⟩⟩
def o171_22 : Obj := ⟨.type "code", none, .fields ⟨[.str ⟨⟨[108, 97, 119]⟩⟩ 2371, .str ⟨⟨[108, 97, 119]⟩⟩ 2372, .str ⟨⟨[47, 99, 108, 97, 105, 109, 47, 99, 117, 116, 46, 112, 121]⟩⟩ 2373, .int 143 0, .int 1 0, .int 0 0, .int 0 0, .int 3 0, .ref 168, .bool true, .int 181 0, .ref 169, .none, .none, .none, .ref 170, .int 2374 0, .int 143 0, .str ⟨⟨[47, 99, 108, 97, 105, 109, 47, 99, 117, 116, 46, 112, 121]⟩⟩ 2375]⟩, ⟨[]⟩⟩
def o172_22 : Obj := ⟨.type "function", none, .func { name := ⟨⟨[108, 97, 119]⟩⟩, qualname := ⟨⟨[108, 97, 119]⟩⟩, params := fdA (stAt 21), body := .stmts (fdB (stAt 21)), scope := fdS (stAt 21), globals := 3, closure := [], defaults := .none, kwdefaults := .none, doc := .none, pyModule := .str ⟨⟨[108, 97, 119, 95, 112, 101, 48, 50, 53, 53, 95, 48, 49]⟩⟩ 2297, annotations := none, code := .ref 171, closureTuple := .none, builtins := 0 }, ⟨[]⟩⟩
def l_22 (P : Params) : List Obj := [boot_o_0 P, boot_o_1 P, boot_o_2 P, o3_22 P, boot_o_4 P, boot_o_5 P, boot_o_6 P, boot_o_7 P, boot_o_8 P, boot_o_9 P, boot_o_10 P, o11_a, o12_22, o13_a, o14_a, o15_9, o16_9, o17_9, o18_9, o19_9, o20_9, o21_9, o22_9, o23_9, o24_9, o25_9, o26_9, o27_9, o28_9, o29_9, o30_9, o31_9, o32_9, o33_9, o34_9, o35_9, o36_9, o37_9, o38_9, o39_9, o40_9, o41_9, o42_9, o43_9, o44_9, o45_9, o46_9, o47_9, o48_9, o49_9, o50_9, o51_9, o52_9, o53_9, o54_9, o55_9, o56_9, o57_10, o58_10, o59_10, o60_10, o61_10, o62_10, o63_10, o64_10 P, o65_10, o66_10, o67_10, o68_11, o69_11, o70_11, o71_11, o72_11, o73_11, o74_11, obD, obS 1, obS 2, obS 3, obS 4, obS 5, obS 6, obS 7, obS 8, obS 9, obS 10, obS 11, obS 12, obS 13, obS 14, obS 15, obS 16, obS 17, obS 18, obS 19, obS 20, obS 21, obS 22, obS 23, obS 24, obS 25, obS 26, obS 27, obS 28, obS 29, obS 30, obS 31, obS 32, obS 33, obS 34, obS 35, obS 36, obS 37, obS 38, o114_22, o115_22, o116_22, o117_22, o118_22, o119_22, o120_22, o121_22, o122_22, o123_22, o124_22, o125_22, o126_22, o127_22, o128_22, o129_22, o130_22, o131_22, o132_22, o133_22, o134_22, o135_22, o136_22, o137_22, o138_22, o139_22, o140_22, o141_22, o142_22, o143_22, o144_22, o145_22, o146_22, o147_22, o148_22, o149_22, o150_22, o151_22, o152_22, o153_22, o154_22, o155_22, o156_22, o157_22, o158_22, o159_22, o160_22, o161_22, o162_22, o163_22, o164_22, o165_22, o166_22, o167_22, o168_22, o169_22, o170_22, o171_22, o172_22]
end
end Mine
-- part HDS01
set_option maxHeartbeats 0
namespace Mine
noncomputable section
def env0 : Env := { scope := pw.main.scope, locals := mainNs, globals := mainNs, cells := [], code := .ref 13, frame := some 14 }
def cd0 : Code := .body (behindTheImports pw) env0
def B0 : List PySem.Frame := [topFrame ⟨0, 0, 0, 0⟩]
def ann0 : Option Value := some (.ref 6)
def shr (l : Params → List Obj) (toks : Nat) (w : World) (os : OsState) : Shared := ⟨⟨⟨l w.params⟩, (boot_heap w.params).life⟩, ⟨[]⟩, boot_drawn, toks, os⟩
def dpos : Stmt → Pos
  | .Assign _ (.Dict _ _ q) _ => q
  | _ => default
theorem ps_asc : asc (-1) ps = true := by kernel_rfl
theorem ps_chs : ps = ch 0 ++ (chs.flatten ++ ch 38) := by kernel_rfl
theorem chs_17 : chs.all (fun c => c.length == 17) = true := by kernel_rfl
theorem ch_0 : (ch 0).length = 17 := by kernel_rfl
theorem ch_38 : (ch 38).length = 4 := by kernel_rfl
theorem chs_len : chs.length = 37 := by kernel_rfl
theorem ps_len : ps.length = 650 := by kernel_rfl
def aTs : Stmt → List Expr
  | .Assign ts _ _ => ts
  | _ => []
def aV : Stmt → Expr
  | .Assign _ v _ => v
  | _ => default
def aP : Stmt → Pos
  | .Assign _ _ q => q
  | _ => default
theorem st_11 : stAt 11 = .Assign (aTs (stAt 11)) (aV (stAt 11)) (aP (stAt 11)) := by kernel_rfl
theorem sole_11 : swapsWithSole (aTs (stAt 11)) (aV (stAt 11)) (aP (stAt 11)).line env0 = pure false := by kernel_rfl
theorem val_11 : eval (aV (stAt 11)) env0 = standAt (dpos (stAt 11)) >>= fun _ => dictDisplay (ps.map (it env0 (dpos (stAt 11)))) := by kernel_rfl
theorem store_11 (w : World) (os : OsState) : Go pw w 11 ann0 30 (do assignStores env0 (.ref 75) (← swappedStores (aTs (stAt 11)) (aV (stAt 11)) env0) ((assignEach (aTs (stAt 11)) env0).map (·.2))) (shr l_12x 2288 w os) .next (shr l_12 2289 w os) := by
  intro K H gd lv code pos f B
  refine ⟨7, ⟨80, 0, 80, 13⟩, by omega, fun N => ?_⟩
  kernel_rfl
theorem disp_is (P : Params) (life : Life) : disp 75 (chs ++ [ch 38]) ((⟨⟨l_11 P⟩, life⟩ : Heap).push (dob (ents 338 (ch 0)) 17)) (338 + 51) (ents 338 (ch 0)) 17 = ⟨⟨l_12x P⟩, life⟩ := by kernel_rfl
theorem ch38_ne : ch 38 ≠ [] := fun q => by have := ch_38; rw [q] at this; cases this
theorem go_11 (w : World) (os : OsState) : Go pw w 11 ann0 20000 (exec (stAt 11) env0) (shr l_11 338 w os) .next (shr l_12 2289 w os) := by
  rw [st_11]
  show Go pw w 11 ann0 20000 (standAt (aP (stAt 11)) >>= fun _ => swapsWithSole (aTs (stAt 11)) (aV (stAt 11)) (aP (stAt 11)).line env0 >>= fun b => if b then _ else eval (aV (stAt 11)) env0 >>= _) _ _ _
  rw [sole_11, val_11]
  refine go_le (c := 1 + (0 + ((1 + (1000 + chs.length * 330)) + 30))) ?_ (by rw [chs_len]; omega)
  refine go_bind go_at (go_bind (c := 0) go_pure ?_)
  rw [if_neg Bool.false_ne_true]
  refine go_bind (a := .ref 75) (s₁ := shr l_12x 2288 w os) (go_bind go_at ?_) (store_11 w os)
  have e : (⟨⟨l_11 w.params⟩, (boot_heap w.params).life⟩ : Heap).objs.size = 75 := by kernel_rfl
  have g := @go_display pw w 11 ann0 env0 (dpos (stAt 11)) (shr l_11 338 w os) ⟨⟨l_11 w.params⟩, (boot_heap w.params).life⟩ 338 (by rw [e]; omega) (by omega) (ch 0) ch_0 chs (fun c h => by have := List.all_eq_true.mp chs_17 c h; simpa using this) (ch 38) (by rw [ch_38]; omega) (ps_chs ▸ ps_asc) (by rw [← ps_chs, ps_len]; omega)
  rw [← ps_chs, ps_len, if_neg ch38_ne] at g
  rw [e, disp_is] at g
  exact g
end
end Mine
-- part HDR01
set_option maxHeartbeats 0
namespace Mine
noncomputable section
def sts (i n : Nat) : List Stmt := ((behindTheImports pw).drop i).take n
theorem pre0 (w : World) (os : OsState) : topGo treeTable pw w 11 ann0 12 ⟨boot_heap w.params, ⟨[]⟩, boot_drawn, boot_toks, os⟩ (topStub pw) = some (shr l_a 187 w os, ⟨denote treeTable cd0, cd0, ⟨0, 0, 0, 0⟩, B0⟩) := by kernel_rfl
theorem g0 (w : World) (os : OsState) : segRun treeTable pw w 11 ann0 1 1 (shr l_a 187 w os) (blockOf (behindTheImports pw) env0 cd0 ⟨0, 0, 0, 0⟩ B0) = some (.next, shr l_a 187 w os, cd0, ⟨0, 0, 0, 0⟩) := by kernel_rfl
theorem g1 (w : World) (os : OsState) : segRun treeTable pw w 11 ann0 1 238 (shr l_a 187 w os) (piecesOf (sts 0 9) env0 cd0 ⟨0, 0, 0, 0⟩ B0) = some (.next, shr l_9 271 w os, cd0, ⟨76, 0, 76, 8⟩) := by kernel_rfl
theorem g2 : ∀ (w : World) (os : OsState), segRun treeTable pw w 11 ann0 1 999 (shr l_9 271 w os) (piecesOf (sts 9 1) env0 cd0 ⟨76, 0, 76, 8⟩ B0) = some (.next, shr l_10 331 w os, cd0, ⟨77, 0, 77, 6⟩) := by
  unfold piecesOf
  rw [PySem.W.Fast.te14374325043358763698, PySem.W.Fast.te14364793385576792824, PySem.W.Fast.te12563942051412417395]
  refine byRow2 "special-get-raises" (byRow2 "set-order" (fun w os => ?_) (fun w os => ?_)) (byRow2 "set-order" (fun w os => ?_) (fun w os => ?_))
  all_goals kernel_rfl
theorem g3 (w : World) (os : OsState) : segRun treeTable pw w 11 ann0 1 30 (shr l_10 331 w os) (piecesOf (sts 10 1) env0 cd0 ⟨77, 0, 77, 6⟩ B0) = some (.next, shr l_11 338 w os, cd0, ⟨78, 0, 79, 30⟩) := by kernel_rfl
theorem g5 (w : World) (os : OsState) (q : Pos) : segRun treeTable pw w 11 ann0 1 290 (shr l_12 2289 w os) (piecesOf (sts 12 10) env0 cd0 q B0) = some (.next, shr l_22 2377 w os, cd0, ⟨143, 0, 193, 16⟩) := by kernel_rfl
theorem g6 (w : World) (os : OsState) : topRun treeTable pw w 11 ann0 3 (shr l_22 2377 w os) ⟨doneF .next, cd0, ⟨143, 0, 193, 16⟩, B0⟩ = some (shr l_22 2377 w os) := by kernel_rfl
theorem body_is : behindTheImports pw = sts 0 9 ++ (sts 9 1 ++ (sts 10 1 ++ (stAt 11 :: (sts 12 10 ++ [])))) := by kernel_rfl
theorem run01 (w : World) (os : OsState) : topRun treeTable pw w 11 ann0 21600 ⟨boot_heap w.params, ⟨[]⟩, boot_drawn, boot_toks, os⟩ (topStub pw) = some (shr l_22 2377 w os) := by
  have e5 : ∀ q, topRun treeTable pw w 11 ann0 (290 + 3) (shr l_12 2289 w os) (restOf (sts 12 10 ++ []) env0 cd0 q B0) = some (shr l_22 2377 w os) := fun q => piece_app (g5 w os q) (piece_nil (g6 w os))
  have e4 : topRun treeTable pw w 11 ann0 20293 (shr l_11 338 w os) (restOf (stAt 11 :: (sts 12 10 ++ [])) env0 cd0 ⟨78, 0, 79, 30⟩ B0) = some (shr l_22 2377 w os) := by
    unfold restOf
    rw [execs_cons_wrap]
    obtain ⟨n, q, hn, e⟩ := go_11 w os (fun f => match f with | .next => (execs (sts 12 10 ++ []) env0).wrap doneF (leaveH env0) id id | f => doneF f) (leaveH env0) id id cd0 ⟨78, 0, 79, 30⟩ (topFrame ⟨0, 0, 0, 0⟩) []
    have := (e 293).trans (e5 q)
    have := topRun_mono (20000 - n) _ _ _ _ this
    rw [show 293 + n + (20000 - n) = 20293 by omega] at this
    exact this
  have e3 := piece_app (g3 w os) e4
  have e2 := piece_app (g2 w os) e3
  have e1 := piece_app (g1 w os) e2
  rw [← body_is] at e1
  have e0 := go_top (pre0 w os) (piece_block (g0 w os) e1)
  have := topRun_mono 27 _ _ _ _ e0
  exact this
end
end Mine
-- part HDL01
set_option maxHeartbeats 0
namespace Mine
noncomputable section
def q1 : Program := { pw with main := { pw.main with body := [stAt 21] } }
def loose1 : List PySem.Str := pw.boundNames.filter fun n => !(n == PySem.Str.ofString "law") && !(n == PySem.Str.ofString "__name__")
def H1 (P : Params) : Heap := ⟨⟨l_22 P⟩, (boot_heap P).life⟩
def KK (P : Params) : Frag := (List.range 173).zip (l_22 P)
def as1 : List Addr := List.range 173
theorem as1_is (P : Params) : as1 = (KK P).map (·.1) := by kernel_rfl
def hook : Hook := kHook KK as1 as1_is
abbrev Xt0 : Shared → Bool := fun _ => true
theorem looks1 (w : World) : (staticsOk (importedModules pw.main.body) (boot_heap w.params) (H1 w.params) && namesBound pw (H1 w.params) && gensDone ⟨H1 w.params, ⟨[]⟩, boot_drawn, 2377, {}⟩ && laidKept (boot_heap w.params) (H1 w.params)) = true := by kernel_rfl
theorem looks2 (w : World) (os : OsState) : openSeen q1 loose1 (importedModules pw.main.body) Xt0 true ⟨H1 w.params, ⟨[]⟩, boot_drawn, 2377, os⟩ = openGood q1 loose1 := by
  rw [PySem.W.Fast.te4187177175401517315]
  kernel_rfl
theorem looks3 (w : World) (os : OsState) : hook.obs ⟨H1 w.params, ⟨[]⟩, boot_drawn, 2377, os⟩ = hook.val w := by kernel_rfl
theorem size1 (w : World) : ((boot_heap w.params).isNs mainGlobals && (⟨[]⟩ : Array GenState).size == 0, (boot_heap w.params).objs.size, (boot_heap w.params).nsMap mainGlobals "__annotations__") = (true, 11, ann0) := by kernel_rfl
theorem open1 : opening pw = plainProg pw.main.scope.names := by kernel_rfl
theorem fence1 (s : Shared) : fenceModules? pw s = some s := by kernel_rfl
theorem left1 : LeftO pw q1 loose1 Xt0 hook.obs hook.val 21600 := by
  refine LeftO.of_pieces (H₀ := boot_heap) (H₁ := H1) (gs₀ := ⟨[]⟩) (gs₁ := ⟨[]⟩) (d₀ := boot_drawn) (d₁ := boot_drawn) (k₀ := boot_toks) (k₁ := 2377) (m₀ := 11) (ann := ann0) (M := 21600) (boot_open open1 rfl fence1) size1 run01 rfl ?_
  intro w
  funext os
  exact Prod.ext (looks1 w) (Prod.ext (looks2 w os) (looks3 w os))
end
end Mine
-- part HDF01
set_option maxHeartbeats 0
namespace Mine
noncomputable section
def fdP : Stmt → Pos
  | .FunctionDef _ _ _ _ _ _ _ _ _ q => q
  | _ => default
def dLaw : DefRec := { name := PySem.Str.ofString "law", params := fdA (stAt 21), body := fdB (stAt 21), scope := fdS (stAt 21), pos := fdP (stAt 21) }
abbrev rowW : RowW := PySem.Challenge.rw_pe0255_01.row.toRowW
theorem def_law : defOf q1 PySem.Challenge.rw_pe0255_01.row.name = some (dLaw, []) := by kernel_rfl
theorem the_law : PySem.Challenge.rw_pe0255_01.row.prog.theDef PySem.Challenge.rw_pe0255_01.row.name = some (dLaw.params, dLaw.body, dLaw.scope) := by kernel_rfl
theorem kw_law : kwWritten? dLaw.params.kwonlyargs dLaw.params.kw_defaults = some [] := by kernel_rfl
theorem ok_law : (chainsOk q1 && opensWell PySem.Challenge.rw_pe0255_01.row.prog && (frees PySem.Challenge.rw_pe0255_01.row.toRowW && PySem.Challenge.rw_pe0255_01.row.within.isEmpty)) = true := by kernel_rfl
theorem bare_law : PySem.Challenge.rw_pe0255_01.row.prog.bare := ⟨rfl, rfl, rfl, rfl, rfl, by decide +kernel⟩
theorem promised_law : PySem.Challenge.rw_pe0255_01.row.toRowW.promised := by w_witness2
theorem top1 (call : WalkO q1 loose1 (fun _ _ => True) hook.says rowW dLaw [] fun f vs => PySem.call f vs) : PySem.Challenge.rw_pe0255_01.Holds := by
  refine holds_law (by kernel_rfl) fun said => ?_
  exact PySem.W.holds_open (q := q1) (loose := loose1) (Xt := Xt0) (XP := fun _ _ => True) (Yf := hook.obs) (Ya := hook.val) (YP := hook.says) (N := 21600) left1 hook.of hook.keeps (fun _ _ => trivial) (fun _ _ _ _ _ => trivial) def_law the_law kw_law (fun _ _ => recFacts_nil rfl) rfl (by assumption) ok_law bare_law promised_law call
end
end Mine
-- part FW1
namespace Mine
/-- plain data; obj: a list of the frame's own, by its address -/
inductive D where
  | none
  | bool (b : Bool)
  | int (i : Int)
  | str (s : PySem.Str)
  | tup (l : List D)
  | lst (l : List D)
  | obj (a : Addr)
  | dic (hs : PySem.Str → Int) (l : List (PySem.Str × PySem.Str))

/-- the tables of code that two defs fill at their first call -/
def TT : List Addr := [30, 37]
def tab1 (h : Heap) (t : Addr) (line col : Nat) (q : PySem.Str) : Prop :=
  ∃ ps, h.get? t = some (tabObj ps) ∧ (ps = #[] ∨ ∃ c, ps = #[rawInt line, rawInt col, .ref c] ∧ h.CodeRec (.ref c) q)
structure TabOk (h : Heap) : Prop where
  a : tab1 h 30 32 4 (PySem.Str.ofString "_int2digits.<locals>.inner")
  b : tab1 h 37 47 4 (PySem.Str.ofString "_digits2int.<locals>.inner")
theorem TabOk.at {h : Heap} (x : TabOk h) {t : Addr} (ht : t ∈ TT) : ∃ ps, h.get? t = some (tabObj ps) := by
  rcases List.mem_cons.mp ht with rfl | ht
  · obtain ⟨ps, e, _⟩ := x.a; exact ⟨ps, e⟩
  · rw [List.mem_singleton] at ht; subst ht
    obtain ⟨ps, e, _⟩ := x.b; exact ⟨ps, e⟩
theorem TabOk.ne {h : Heap} (x : TabOk h) {t : Addr} {o : Obj} (e : h.get? t = some o) (ho : o.cls ≠ .none ∨ ∀ vs, o.data ≠ .fields vs) : t ∉ TT := fun ht => by
  obtain ⟨ps, e'⟩ := x.at ht
  rw [e] at e'; cases e'
  rcases ho with ho | ho
  · exact ho rfl
  · exact ho _ rfl
theorem TabOk.fresh {h : Heap} (x : TabOk h) : h.objs.size ∉ TT := fun ht => by
  obtain ⟨ps, e'⟩ := x.at ht
  exact absurd (Heap.lt_size e') (Nat.lt_irrefl _)
theorem tab1.full {h h' : Heap} {t : Addr} {l c : Nat} {q : PySem.Str} (x : tab1 h t l c q) (k : ∀ b o, h.get? b = some o → h'.get? b = some o) : tab1 h' t l c q := by
  obtain ⟨ps, e, r⟩ := x
  refine ⟨ps, k _ _ e, r.imp id fun ⟨c, e1, e2⟩ => ⟨c, e1, e2.keeps k⟩⟩
theorem TabOk.full {h h' : Heap} (x : TabOk h) (k : ∀ b o, h.get? b = some o → h'.get? b = some o) : TabOk h' := ⟨x.a.full k, x.b.full k⟩
/-- an object that is no code and no table -/
def NoC (o : Obj) : Prop := ∀ vs, o.data = .fields vs → (∃ i t, vs[1]? = some (.int i t)) ∧ o.cls ≠ .none
theorem tab1.one {h h' : Heap} {t a : Addr} {l c : Nat} {q : PySem.Str} {o : Obj} (x : tab1 h t l c q) (ha : h.get? a = some o) (hc : NoC o) (k : ∀ b ob, b ≠ a → h.get? b = some ob → h'.get? b = some ob) : tab1 h' t l c q := by
  obtain ⟨ps, e, r⟩ := x
  refine ⟨ps, k _ _ (fun z => ?_) e, r.imp id fun ⟨c, e1, e2⟩ => ⟨c, e1, ?_⟩⟩
  · subst z; rw [ha] at e; cases e
    exact (hc _ rfl).2 rfl
  · obtain ⟨c', oc, vs, tk, f1, f2, f3, f4⟩ := e2
    refine ⟨c', oc, vs, tk, f1, k _ _ (fun z => ?_) f2, f3, f4⟩
    subst z; rw [ha] at f2; cases f2
    obtain ⟨⟨i, u, g⟩, _⟩ := hc _ f3
    rw [g] at f4; cases f4
theorem TabOk.one {h h' : Heap} {a : Addr} {o : Obj} (x : TabOk h) (ha : h.get? a = some o) (hc : NoC o) (k : ∀ b ob, b ≠ a → h.get? b = some ob → h'.get? b = some ob) : TabOk h' := ⟨x.a.one ha hc k, x.b.one ha hc k⟩
/-- what every step keeps -/
def Fix (b : Addr) (o : Obj) : Prop := b ∉ TT ∨ o.cls ≠ .none
structure Kp (h h' : Heap) : Prop where
  keep : ∀ b o, Fix b o → h.get? b = some o → h'.get? b = some o
  tab : TabOk h → TabOk h'
def KpB (xs : List Addr) (h h' : Heap) : Prop := ∀ b o, b ∉ xs → Fix b o → h.get? b = some o → h'.get? b = some o
theorem Kp.full {h h' : Heap} (k : ∀ b o, h.get? b = some o → h'.get? b = some o) : Kp h h' := ⟨fun b o _ e => k b o e, fun x => x.full k⟩
theorem Kp.refl {h : Heap} : Kp h h := .full fun _ _ e => e
theorem Kp.trans {a b c : Heap} (x : Kp a b) (y : Kp b c) : Kp a c := ⟨fun p o f e => y.keep p o f (x.keep p o f e), fun t => y.tab (x.tab t)⟩
theorem Kp.push {h : Heap} {o : Obj} : Kp h (h.push o) := .full fun _ _ e => Heap.get?_push_of_some _ e
theorem Kp.but {h h' : Heap} {xs : List Addr} (x : Kp h h') : KpB xs h h' := fun b o _ f e => x.keep b o f e
theorem KpB.refl {h : Heap} {xs : List Addr} : KpB xs h h := fun _ _ _ _ e => e
def lob (vs : List Value) (n : Nat) : Obj := ⟨.type "list", none, .seq ⟨vs⟩ n, #[]⟩
def dicO (es : Array DictEntry) (n : Nat) : Obj := ⟨.type "dict", none, .dict es n, #[]⟩
/-- a dict of strs by strs -/
structure DicOk (hs : PySem.Str → Int) (l : List (PySem.Str × PySem.Str)) (es : Array DictEntry) : Prop where
  keys : ∀ e ∈ es, ∃ k, Value.isStrOf k e.key = true ∧ e.hash = hs k
  find : ∀ k, match l.lookup k with | some v => ∃ t, findBy Value.isStrOf es k = some (.str v t) | none => findBy Value.isStrOf es k = none
mutual
inductive Rep (X : List Addr) (h : Heap) : Value → D → Prop
  | none : Rep X h .none .none
  | bool (b : Bool) : Rep X h (.bool b) (.bool b)
  | int (i : Int) (t : Tok) : Rep X h (.int i t) (.int i)
  | str (s : PySem.Str) (t : Tok) : Rep X h (.str s t) (.str s)
  | tup {a : Addr} {vs : List Value} {ds : List D} : IsTup h a vs.toArray → a ∉ X → Reps X h vs ds → Rep X h (.ref a) (.tup ds)
  | lst {a : Addr} {vs : List Value} {ds : List D} : h.IsList a vs.toArray → a ∉ X → Reps X h vs ds → Rep X h (.ref a) (.lst ds)
  | obj (a : Addr) : Rep X h (.ref a) (.obj a)
  | dic {a : Addr} {es : Array DictEntry} {n : Nat} {hs : PySem.Str → Int} {l : List (PySem.Str × PySem.Str)} : h.get? a = some (dicO es n) → DicOk hs l es → (a == sysModules) = false → a ∉ X → Rep X h (.ref a) (.dic hs l)
inductive Reps (X : List Addr) (h : Heap) : List Value → List D → Prop
  | nil : Reps X h [] []
  | cons {v : Value} {d : D} {vs : List Value} {ds : List D} : Rep X h v d → Reps X h vs ds → Reps X h (v :: vs) (d :: ds)
end
theorem isTup_kpB {h h' : Heap} {xs : List Addr} {a : Addr} {vs : Array Value} (x : IsTup h a vs) (k : KpB xs h h') (ha : a ∉ xs) : IsTup h' a vs := by
  obtain ⟨o, h1, h2⟩ := x
  exact ⟨o, k a o ha (.inr (by rw [h2.1]; nofun)) h1, h2⟩
theorem isList_kpB {h h' : Heap} {xs : List Addr} {a : Addr} {vs : Array Value} (x : h.IsList a vs) (k : KpB xs h h') (ha : a ∉ xs) : h'.IsList a vs := by
  obtain ⟨o, h1, h2⟩ := x
  exact ⟨o, k a o ha (.inr (by rw [h2.1]; nofun)) h1, h2⟩
theorem isTup_live {h : Heap} {a : Addr} {vs : Array Value} (x : IsTup h a vs) : ∃ o, h.get? a = some o := let ⟨o, h1, _⟩ := x; ⟨o, h1⟩
theorem isList_live {h : Heap} {a : Addr} {vs : Array Value} (x : h.IsList a vs) : ∃ o, h.get? a = some o := let ⟨o, h1, _⟩ := x; ⟨o, h1⟩
def SeqO (o : Obj) : Prop := o.cls = .type "tuple" ∨ o.cls = .type "list" ∨ o.cls = .type "dict"
theorem SeqO.fix {o : Obj} (q : SeqO o) {a : Addr} : Fix a o := .inr (by rcases q with q | q | q <;> (rw [q]; nofun))
theorem SeqO.noC {o : Obj} {vs : Array Value} {n : Nat} (q : o.data = .seq vs n) : NoC o := fun vs' e => by rw [q] at e; cases e
/-- one walk over what a datum stands on -/
theorem Rep.walk {X X' : List Addr} {h h' : Heap} (k : ∀ a o, a ∉ X → h.get? a = some o → SeqO o → h'.get? a = some o ∧ a ∉ X') {v : Value} {d : D} (r : Rep X h v d) : Rep X' h' v d := by
  induction r using Rep.rec (motive_2 := fun vs ds _ => Reps X' h' vs ds) with
  | none => exact .none
  | bool b => exact .bool b
  | int i t => exact .int i t
  | str s t => exact .str s t
  | tup ht ha _ ih =>
    obtain ⟨o, h1, h2⟩ := ht
    obtain ⟨q1, q2⟩ := k _ o ha h1 (.inl h2.1)
    exact .tup ⟨o, q1, h2⟩ q2 ih
  | lst ht ha _ ih =>
    obtain ⟨o, h1, h2⟩ := ht
    obtain ⟨q1, q2⟩ := k _ o ha h1 (.inr (.inl h2.1))
    exact .lst ⟨o, q1, h2⟩ q2 ih
  | obj a => exact .obj a
  | dic e hd hm ha =>
    obtain ⟨q1, q2⟩ := k _ _ ha e (.inr (.inr rfl))
    exact .dic q1 hd hm q2
  | nil => exact .nil
  | cons _ _ i1 i2 => exact .cons i1 i2
theorem Reps.walk {X X' : List Addr} {h h' : Heap} (k : ∀ a o, a ∉ X → h.get? a = some o → SeqO o → h'.get? a = some o ∧ a ∉ X') : ∀ {vs : List Value} {ds : List D}, Reps X h vs ds → Reps X' h' vs ds
  | _, _, .nil => .nil
  | _, _, .cons a b => .cons (a.walk k) (b.walk k)
theorem Rep.keep {X : List Addr} {h h' : Heap} {v : Value} {d : D} (r : Rep X h v d) (k : Kp h h') : Rep X h' v d := r.walk fun a o ha e q => ⟨k.keep a o q.fix e, ha⟩
theorem Reps.keep {X : List Addr} {h h' : Heap} {vs : List Value} {ds : List D} (r : Reps X h vs ds) (k : Kp h h') : Reps X h' vs ds := r.walk fun a o ha e q => ⟨k.keep a o q.fix e, ha⟩
theorem Rep.mono {X X' : List Addr} {h : Heap} {v : Value} {d : D} (r : Rep X h v d) (k : ∀ a ∈ X', a ∈ X) : Rep X' h v d := r.walk fun a o ha e _ => ⟨e, fun q => ha (k a q)⟩
theorem Reps.mono {X X' : List Addr} {h : Heap} {vs : List Value} {ds : List D} (r : Reps X h vs ds) (k : ∀ a ∈ X', a ∈ X) : Reps X' h vs ds := r.walk fun a o ha e _ => ⟨e, fun q => ha (k a q)⟩
theorem Reps.length {X : List Addr} {h : Heap} : ∀ {vs : List Value} {ds : List D}, Reps X h vs ds → vs.length = ds.length
  | _, _, .nil => rfl
  | _, _, .cons _ b => by simp [b.length]
theorem Reps.get {X : List Addr} {h : Heap} : ∀ {vs : List Value} {ds : List D} {i : Nat} {d : D}, Reps X h vs ds → ds[i]? = some d → ∃ v, vs[i]? = some v ∧ Rep X h v d
  | _, _, _, _, .nil, e => by simp at e
  | _, _, 0, _, .cons a _, e => by simp at e; subst e; exact ⟨_, rfl, a⟩
  | _, _, i + 1, _, .cons _ b, e => by
    simp only [List.getElem?_cons_succ] at e ⊢
    exact b.get e
theorem Reps.append {X : List Addr} {h : Heap} : ∀ {vs ws : List Value} {ds es : List D}, Reps X h vs ds → Reps X h ws es → Reps X h (vs ++ ws) (ds ++ es)
  | _, _, _, _, .nil, b => b
  | _, _, _, _, .cons a r, b => .cons a (r.append b)
theorem Reps.take {X : List Addr} {h : Heap} : ∀ {vs : List Value} {ds : List D} (n : Nat), Reps X h vs ds → Reps X h (vs.take n) (ds.take n)
  | _, _, 0, _ => by simp only [List.take_zero]; exact .nil
  | _, _, _ + 1, .nil => by simp only [List.take_nil]; exact .nil
  | _, _, n + 1, .cons a r => by simp only [List.take_succ_cons]; exact .cons a (r.take n)
theorem Reps.drop {X : List Addr} {h : Heap} : ∀ {vs : List Value} {ds : List D} (n : Nat), Reps X h vs ds → Reps X h (vs.drop n) (ds.drop n)
  | _, _, 0, r => r
  | _, _, _ + 1, .nil => by simp only [List.drop_nil]; exact .nil
  | _, _, n + 1, .cons a r => by simp only [List.drop_succ_cons]; exact r.drop n
theorem Reps.reverse {X : List Addr} {h : Heap} : ∀ {vs : List Value} {ds : List D}, Reps X h vs ds → Reps X h vs.reverse ds.reverse
  | _, _, .nil => .nil
  | _, _, .cons a r => by simp only [List.reverse_cons]; exact r.reverse.append (.cons a .nil)
/-- what stands in every heap from the top on -/
structure Bs where
  prog : Program
  w : World
  mg : PySem.Str → Option Value
  mb : PySem.Str → Option Value
  K : Frag
  hT : ∀ a o, K.lookup a = some o → a ∉ TT
structure Bs.In (B : Bs) (h : Heap) : Prop where
  K : B.K.In h
  g : h.Ns mainGlobals B.mg
  b : h.Ns builtinsNs B.mb
  lim : h.NoLimit
theorem ns_fix {h h' : Heap} {a : Addr} {m : PySem.Str → Option Value} (x : h.Ns a m) (ha : a ∉ TT) (k : Kp h h') : h'.Ns a m :=
  let ⟨o, es, ep, e, r⟩ := x; ⟨o, es, ep, k.keep _ _ (.inl ha) e, r⟩
theorem Bs.In.keep {B : Bs} {h h' : Heap} (x : B.In h) (k : Kp h h') : B.In h' :=
  ⟨fun a o e => k.keep a o (.inl (B.hT a o e)) (x.K a o e), ns_fix x.g (by decide) k, ns_fix x.b (by decide) k, let ⟨mc, n, r⟩ := x.lim; ⟨mc, ns_fix n (by decide) k, r⟩⟩
theorem Bs.In.full {B : Bs} {h h' : Heap} (x : B.In h) (k : ∀ b o, h.get? b = some o → h'.get? b = some o) : B.In h' := ⟨x.K.keeps k, x.g.keeps k, x.b.keeps k, x.lim.keeps k⟩
/-- a def's activation -/
structure Cx where
  B : Bs
  A : Around
  env : Env
  h₀ : Heap
  X : List Addr
  names : List PySem.Str
  cv : List (PySem.Str × D) := []
abbrev Cx.L (C : Cx) : Addr := C.env.locals
abbrev Cx.M (C : Cx) : Model := model C.B.prog C.B.w
structure St where
  vars : List (Option D)
  objs : List (Addr × List D) := []
def St.addrs (σ : St) : List Addr := σ.objs.map (·.1)
def Cx.ex (C : Cx) (σ : St) : List Addr := C.L :: (C.X ++ σ.addrs)
structure Wf (C : Cx) : Prop where
  kind : C.env.scope.kind = .function
  gl : C.env.globals = mainGlobals
  bl : C.env.builtins = builtinsNs
  loc : ∀ x ∈ C.names, C.env.kindOf x = some .local
  nd : C.names.Nodup
  base : C.B.In C.h₀
  old : ∀ x ∈ C.X, ∃ o, C.h₀.get? x = some o
  handled : C.A.handled = none
  cons : ∀ x d, (x, d) ∈ C.cv → (C.env.kindOf x = some .cell ∨ C.env.kindOf x = some .free) ∧ ∃ c v o, C.env.cells.lookup x = some c ∧ C.B.K.lookup c = some o ∧ o.data = .cell (some v) ∧ ∀ X h, Rep X h v d
structure Ok (C : Cx) (h : Heap) (σ : St) : Prop where
  vars : ∃ m, Fr C.h₀ C.L h m ∧ ∀ (i : Nat) x d, C.names[i]? = some x → σ.vars[i]? = some (some d) → ∃ v, m x = some v ∧ Rep (C.ex σ) h v d
  objs : ∀ a ds, (a, ds) ∈ σ.objs → ∃ vs n, h.get? a = some (lob vs n) ∧ Reps (C.ex σ) h vs ds ∧ C.h₀.get? a = none ∧ a ≠ C.L
  nodup : σ.addrs.Nodup
  tab : TabOk h
  gh : ∀ t ∈ TT, C.h₀.get? t = none
theorem NoC.dict {o : Obj} (q : ∃ es ep, o.data = .dict es ep) : NoC o := fun vs e => by obtain ⟨es, ep, q⟩ := q; rw [q] at e; cases e
theorem Ok.fr {C : Cx} {h : Heap} {σ : St} (O : Ok C h σ) : ∃ m, Fr C.h₀ C.L h m := let ⟨m, F, _⟩ := O.vars; ⟨m, F⟩
theorem Ok.kp0 {C : Cx} {h : Heap} {σ : St} (O : Ok C h σ) : ∀ b o, C.h₀.get? b = some o → h.get? b = some o := let ⟨_, F, _⟩ := O.vars; F.keep
theorem TabOk.nsT {h : Heap} (x : TabOk h) {L : Addr} {m : PySem.Str → Option Value} (n : h.Ns L m) : L ∉ TT := by
  obtain ⟨o, es, ep, e, hd, _⟩ := n
  exact x.ne e (.inr fun vs z => by rw [hd] at z; cases z)
theorem gh_fix {h₀ : Heap} (gh : ∀ t ∈ TT, h₀.get? t = none) {b : Addr} {o : Obj} (e : h₀.get? b = some o) : b ∉ TT := fun m => by rw [gh b m] at e; cases e
theorem Fr.kp {h₀ h h' : Heap} {L : Addr} {m : PySem.Str → Option Value} (F : Fr h₀ L h m) (t : TabOk h) (gh : ∀ t ∈ TT, h₀.get? t = none) (k : Kp h h') : Fr h₀ L h' m :=
  ⟨ns_fix F.ns (t.nsT F.ns) k, fun b o e => k.keep b o (.inl (gh_fix gh e)) (F.keep b o e), F.above⟩
theorem Ok.keep {C : Cx} {h h' : Heap} {σ : St} (O : Ok C h σ) (k : Kp h h') : Ok C h' σ := by
  obtain ⟨⟨m, F, hv⟩, ho, hn, ht, hg⟩ := O
  refine ⟨⟨m, Fr.kp F ht hg k, fun i x d h1 h2 => ?_⟩, fun a ds h1 => ?_, hn, k.tab ht, hg⟩
  · obtain ⟨v, e, r⟩ := hv i x d h1 h2
    exact ⟨v, e, r.keep k⟩
  · obtain ⟨vs, n, e, r, q⟩ := ho a ds h1
    exact ⟨vs, n, k.keep _ _ (.inr nofun) e, r.keep k, q⟩
theorem Ok.base {C : Cx} {h : Heap} {σ : St} (W : Wf C) (O : Ok C h σ) : C.B.In h := W.base.full O.kp0
theorem Ok.live {C : Cx} {h : Heap} {σ : St} (W : Wf C) (O : Ok C h σ) : ∀ x ∈ C.ex σ, x ∉ TT ∧ ∃ o, h.get? x = some o := by
  intro x hx
  rcases List.mem_cons.mp hx with rfl | hx
  · obtain ⟨m, F, _⟩ := O.vars
    refine ⟨O.tab.nsT F.ns, ?_⟩
    obtain ⟨o, _, _, e, _⟩ := F.ns
    exact ⟨o, e⟩
  rcases List.mem_append.mp hx with hx | hx
  · obtain ⟨o, e⟩ := W.old x hx
    exact ⟨gh_fix O.gh e, o, O.kp0 _ _ e⟩
  · obtain ⟨p, hp, rfl⟩ := List.mem_map.mp hx
    obtain ⟨vs, n, e, _⟩ := O.objs p.1 p.2 hp
    exact ⟨O.tab.ne e (.inl nofun), _, e⟩
abbrev sh' (s : Shared) (h : Heap) (t : Nat) : Shared := { s with heap := h, toks := t }
/-- an expression yields a datum and keeps what stands -/
structure Ev (C : Cx) (σ : St) (e : Expr) (d : D) : Prop where
  run : ∀ (s : Shared) (Q : Value → Shared → Prop) (E : Value → Shared → Prop), Ok C s.heap σ → (∀ v h' t', Kp s.heap h' → Rep (C.ex σ) h' v d → Q v { s with heap := h', toks := t' }) → wpAny C.M C.A (eval e C.env) Q E s
/-- a test -/
structure Ts (C : Cx) (σ : St) (e : Expr) (b : Bool) : Prop where
  run : ∀ (s : Shared) (Q : Bool → Shared → Prop) (E : Value → Shared → Prop), Ok C s.heap σ → (∀ h' t', Kp s.heap h' → Q b { s with heap := h', toks := t' }) → wpAny C.M C.A (isTrue e C.env (eval e C.env)) Q E s
def notSet : Expr → Bool
  | .Set _ _ _ => false
  | _ => true
def notSlice : Expr → Bool
  | .Slice _ _ _ _ => false
  | _ => true
def noComp : Expr → Bool
  | .ListComp _ _ _ _ => false
  | .SetComp _ _ _ _ => false
  | .DictComp _ _ _ _ _ => false
  | _ => true
def noTuple : Expr → Bool
  | .Tuple _ _ _ => false
  | _ => true
theorem marks_of {e : Expr} (h : notSet e = true) (op : CmpOp) : behindInMarks op e = false := by cases e <;> first | rfl | cases h
theorem folded_of {e : Expr} (h : notSet e = true) (env : Env) (x : Value) : foldedSetIterable e env x = pure x := by cases e <;> first | rfl | cases h
theorem sub_of {e : Expr} (h : notSlice e = true) (o i : Value) : subscripted e false o i = operate [o, i] (getItem o i) := by cases e <;> first | rfl | cases h
theorem swaps_of {e : Expr} (h : noComp e = true) (t : Option Expr) (n : Nat) (env : Env) : swapsWith e t n env = pure false := by cases e <;> first | rfl | cases h
theorem sole_of {e : Expr} (h : noComp e = true) (t : Expr) (n : Nat) (env : Env) : swapsWithSole [t] e n env = pure false := swaps_of h _ _ _
theorem stores_of {e : Expr} (h : noTuple e = true) (ts : List Expr) (env : Env) : swappedStores ts e env = pure none := by
  unfold swappedStores
  split
  · rename_i q
    split at q
    · cases h
    · cases h
    · cases q
  · rfl
section
variable {C : Cx} {σ : St}
theorem ev_int {i : Int} {k : Nat} {p : Pos} : Ev C σ (.Constant (.int i) k p) (.int i) := .mk fun s Q E O h => wpAny_Constant_int (h _ s.heap _ Kp.refl (.int i _))
theorem ev_str {x : PySem.Str} {k : Nat} {p : Pos} : Ev C σ (.Constant (.str x) k p) (.str x) := .mk fun s Q E O h => wpAny_Constant_str (h _ s.heap _ Kp.refl (.str x _))
theorem ev_none {k : Nat} {p : Pos} : Ev C σ (.Constant .none k p) .none := .mk fun s Q E O h => wpAny_Constant_none (h _ s.heap s.toks Kp.refl .none)
theorem ev_bool {b : Bool} {k : Nat} {p : Pos} : Ev C σ (.Constant (.bool b) k p) (.bool b) := .mk fun s Q E O h => wpAny_Constant_bool (h _ s.heap s.toks Kp.refl (.bool b))
theorem ev_name (W : Wf C) {x : PySem.Str} {p : Pos} {d : D} (i : Nat) (hx : C.names[i]? = some x) (hd : σ.vars[i]? = some (some d)) (hb : (x == ("__debug__" : PySem.Str)) = false := by rfl) : Ev C σ (.Name x p) d := .mk fun s Q E O h => by
  obtain ⟨m, F, hv⟩ := O.vars
  obtain ⟨v, e, r⟩ := hv i x d hx hd
  exact wpAny_Name (wpAny_loadName_local W.kind (W.loc x (List.mem_of_getElem? hx)) F.ns e (h v s.heap s.toks Kp.refl r)) hb
theorem ev_cons (W : Wf C) {x : PySem.Str} {p : Pos} {d : D} (hd : (x, d) ∈ C.cv) (hb : (x == ("__debug__" : PySem.Str)) = false := by rfl) (hc : (x == ("__classdict__" : PySem.Str)) = false := by rfl) : Ev C σ (.Name x p) d := .mk fun s Q E O h => by
  obtain ⟨hk, c, v, o, h1, h2, h3, r⟩ := W.cons x d hd
  have hcell : s.heap.IsCell c (some v) := ⟨o, (O.base W).K _ _ h2, h3⟩
  refine wpAny_Name ?_ hb
  rcases hk with hk | hk
  · exact wpAny_loadName_cell W.kind hk h1 hcell (h v s.heap s.toks Kp.refl (r _ _))
  · exact wpAny_loadName_free W.kind hk h1 hcell (h v s.heap s.toks Kp.refl (r _ _)) hc
/-- an operator on two data -/
theorem ev_bin {op : Operator} {a b : Expr} {p : Pos} {x y z : D} (ha : Ev C σ a x) (hb : Ev C σ b y)
    (ho : ∀ (s : Shared) (Q E : Value → Shared → Prop) (v u : Value), Ok C s.heap σ → Rep (C.ex σ) s.heap v x → Rep (C.ex σ) s.heap u y → (∀ v h' t', Kp s.heap h' → Rep (C.ex σ) h' v z → Q v { s with heap := h', toks := t' }) → wpAny C.M C.A (binaryOp op v u) Q E s) :
    Ev C σ (.BinOp a op b p) z := .mk fun s Q E O h =>
  wpAny_BinOp (ha.run s _ E O fun v h₁ t₁ k₁ r₁ => hb.run _ _ E (O.keep k₁) fun u h₂ t₂ k₂ r₂ => ho _ _ _ v u ((O.keep k₁).keep k₂) (r₁.keep k₂) r₂ fun z h₃ t₃ k₃ r₃ => h z h₃ t₃ (k₁.trans (k₂.trans k₃)) r₃)
theorem ev_add {a b : Expr} {p : Pos} {x y : Int} (ha : Ev C σ a (.int x)) (hb : Ev C σ b (.int y)) : Ev C σ (.BinOp a .Add b p) (.int (x + y)) :=
  ev_bin ha hb fun s Q E v u O r1 r2 h => by cases r1; cases r2; exact P.add_int (h _ _ _ Kp.refl (.int _ _))
theorem ev_sub {a b : Expr} {p : Pos} {x y : Int} (ha : Ev C σ a (.int x)) (hb : Ev C σ b (.int y)) : Ev C σ (.BinOp a .Sub b p) (.int (x - y)) :=
  ev_bin ha hb fun s Q E v u O r1 r2 h => by cases r1; cases r2; exact P.sub_int (h _ _ _ Kp.refl (.int _ _))
theorem ev_mul {a b : Expr} {p : Pos} {x y : Int} (ha : Ev C σ a (.int x)) (hb : Ev C σ b (.int y)) (hm : IntMulOk x y) : Ev C σ (.BinOp a .Mult b p) (.int (x * y)) :=
  ev_bin ha hb fun s Q E v u O r1 r2 h => by cases r1; cases r2; exact P.mul_int (h _ _ _ Kp.refl (.int _ _)) hm
theorem ev_mod {a b : Expr} {p : Pos} {x y : Int} (ha : Ev C σ a (.int x)) (hb : Ev C σ b (.int y)) (h0 : y ≠ 0) : Ev C σ (.BinOp a .Mod b p) (.int (x.fmod y)) :=
  ev_bin ha hb fun s Q E v u O r1 r2 h => by cases r1; cases r2; exact mod_int' h0 (h _ _ _ Kp.refl (.int _ _))
theorem ev_div {a b : Expr} {p : Pos} {x y : Int} (ha : Ev C σ a (.int x)) (hb : Ev C σ b (.int y)) (h0 : y ≠ 0) (hp : Builtin.divisionGoesByPylong x y = false) : Ev C σ (.BinOp a .FloorDiv b p) (.int (x.fdiv y)) :=
  ev_bin ha hb fun s Q E v u O r1 r2 h => by cases r1; cases r2; exact floordiv_int h0 (h _ _ _ Kp.refl (.int _ _)) (.inl hp)
theorem ev_shl {a b : Expr} {p : Pos} {x n : Int} (ha : Ev C σ a (.int x)) (hb : Ev C σ b (.int n)) (h0 : 0 ≤ n) (hz : (Builtin.Int.intBits x : Int) + n ≤ 2 ^ 27) : Ev C σ (.BinOp a .LShift b p) (.int (x * 2 ^ n.toNat)) :=
  ev_bin ha hb fun s Q E v u O r1 r2 h => by cases r1; cases r2; exact lshift_int h0 hz (h _ _ _ Kp.refl (.int _ _))
theorem ev_shr {a b : Expr} {p : Pos} {x n : Int} (ha : Ev C σ a (.int x)) (hb : Ev C σ b (.int n)) (h0 : 0 ≤ n) : Ev C σ (.BinOp a .RShift b p) (.int (x.fdiv (2 ^ n.toNat))) :=
  ev_bin ha hb fun s Q E v u O r1 r2 h => by cases r1; cases r2; exact rshift_int h0 (h _ _ _ Kp.refl (.int _ _))
theorem ev_and {a b : Expr} {p : Pos} {x y : Int} (ha : Ev C σ a (.int x)) (hb : Ev C σ b (.int y)) : Ev C σ (.BinOp a .BitAnd b p) (.int (Builtin.bitAnd x y)) :=
  ev_bin ha hb fun s Q E v u O r1 r2 h => by cases r1; cases r2; exact and_int (h _ _ _ Kp.refl (.int _ _))
theorem ev_or {a b : Expr} {p : Pos} {x y : Int} (ha : Ev C σ a (.int x)) (hb : Ev C σ b (.int y)) : Ev C σ (.BinOp a .BitOr b p) (.int (Builtin.bitOr x y)) :=
  ev_bin ha hb fun s Q E v u O r1 r2 h => by cases r1; cases r2; exact or_int (h _ _ _ Kp.refl (.int _ _))
theorem ev_xor {a b : Expr} {p : Pos} {x y : Int} (ha : Ev C σ a (.int x)) (hb : Ev C σ b (.int y)) : Ev C σ (.BinOp a .BitXor b p) (.int (Builtin.bitXor x y)) :=
  ev_bin ha hb fun s Q E v u O r1 r2 h => by cases r1; cases r2; exact xor_int (h _ _ _ Kp.refl (.int _ _))
theorem ev_pow {a b : Expr} {p : Pos} {x n : Int} (ha : Ev C σ a (.int x)) (hb : Ev C σ b (.int n)) (h0 : 0 ≤ n) (hz : (Builtin.Int.intBits x : Int) * n ≤ 2 ^ 27) : Ev C σ (.BinOp a .Pow b p) (.int (x ^ n.toNat)) :=
  ev_bin ha hb fun s Q E v u O r1 r2 h => by cases r1; cases r2; exact pow_int h0 hz (h _ _ _ Kp.refl (.int _ _))
theorem ev_neg {a : Expr} {p : Pos} {x : Int} (ha : Ev C σ a (.int x)) : Ev C σ (.UnaryOp .USub a p) (.int (-x)) := .mk fun s Q E O h =>
  wpAny_UnaryOp (ha.run s _ E O fun v h₁ t₁ k₁ r₁ => by cases r₁; exact P.neg_int (h _ _ _ k₁ (.int _ _)))
theorem ev_inv {a : Expr} {p : Pos} {x : Int} (ha : Ev C σ a (.int x)) : Ev C σ (.UnaryOp .Invert a p) (.int (Builtin.bitNot x)) := .mk fun s Q E O h =>
  wpAny_UnaryOp (ha.run s _ E O fun v h₁ t₁ k₁ r₁ => by cases r₁; exact invert_int (h _ _ _ k₁ (.int _ _)))
theorem ev_adds {a b : Expr} {p : Pos} {x y : PySem.Str} (ha : Ev C σ a (.str x)) (hb : Ev C σ b (.str y)) (hz : (x ++ y).length ≤ sizeLine) : Ev C σ (.BinOp a .Add b p) (.str (x ++ y)) :=
  ev_bin ha hb fun s Q E v u O r1 r2 h => by
    cases r1; cases r2
    refine P.add_str ?_
    split
    · rename_i e
      have : x = ⟨#[]⟩ := by
        obtain ⟨c⟩ := x
        have : c.size = 0 := by simpa [PySem.Str.length] using e
        rw [Array.eq_empty_of_size_eq_zero this]
      subst this
      have : (⟨#[]⟩ : PySem.Str) ++ y = y := PySem.Str.empty_append y
      rw [this] at h
      exact h _ s.heap s.toks Kp.refl (.str _ _)
    · split
      · rename_i e
        have : y = ⟨#[]⟩ := by
          obtain ⟨c⟩ := y
          have : c.size = 0 := by simpa [PySem.Str.length] using e
          rw [Array.eq_empty_of_size_eq_zero this]
        subst this
        have : x ++ (⟨#[]⟩ : PySem.Str) = x := PySem.Str.append_empty x
        rw [this] at h
        exact h _ s.heap s.toks Kp.refl (.str _ _)
      · exact ⟨hz, h _ _ _ Kp.refl (.str _ _)⟩
end
end Mine
-- part FW2
namespace Mine
section
variable {C : Cx} {σ : St}
/-- a comparison of two data -/
abbrev CmpOn (C : Cx) (σ : St) (op : CmpOp) (x y : D) (b : Bool) : Prop :=
  ∀ (s : Shared) (Q E : Value → Shared → Prop) (v u : Value), Ok C s.heap σ → Rep (C.ex σ) s.heap v x → Rep (C.ex σ) s.heap u y → (∀ h' t', Kp s.heap h' → Q (.bool b) { s with heap := h', toks := t' }) → wpAny C.M C.A (compareOp op v u) Q E s
theorem ev_cmp {op : CmpOp} {a b : Expr} {p : Pos} {x y : D} {r : Bool} (ha : Ev C σ a x) (hb : Ev C σ b y) (ho : CmpOn C σ op x y r) (hm : notSet b = true := by rfl) : Ev C σ (.Compare a [op] [b] p) (.bool r) := .mk fun s Q E O h =>
  wpAny_Compare1 (ha.run s _ E O fun v h₁ t₁ k₁ r₁ => hb.run _ _ E (O.keep k₁) fun u h₂ t₂ k₂ r₂ => ho _ _ _ v u ((O.keep k₁).keep k₂) (r₁.keep k₂) r₂ fun h₃ t₃ k₃ => h _ h₃ t₃ (k₁.trans (k₂.trans k₃)) (.bool _)) (marks_of hm _)
theorem ts_cmp {op : CmpOp} {a b : Expr} {p : Pos} {x y : D} {r : Bool} (ha : Ev C σ a x) (hb : Ev C σ b y) (ho : CmpOn C σ op x y r) (hm : notSet b = true := by rfl) : Ts C σ (.Compare a [op] [b] p) r := .mk fun s Q E O h =>
  wpAny_isTrue_Compare1 (ha.run s _ E O fun v h₁ t₁ k₁ r₁ => hb.run _ _ E (O.keep k₁) fun u h₂ t₂ k₂ r₂ => ho _ _ _ v u ((O.keep k₁).keep k₂) (r₁.keep k₂) r₂ fun h₃ t₃ k₃ => wpAny_truthy_bool (h h₃ t₃ (k₁.trans (k₂.trans k₃)))) (marks_of hm _)
theorem co_eq {x y : Int} : CmpOn C σ .Eq (.int x) (.int y) (x == y) := fun s Q E v u O r1 r2 h => by cases r1; cases r2; exact P.eq_int (h _ _ Kp.refl)
theorem co_ne {x y : Int} : CmpOn C σ .NotEq (.int x) (.int y) (x != y) := fun s Q E v u O r1 r2 h => by cases r1; cases r2; exact P.ne_int (h _ _ Kp.refl)
theorem co_lt {x y : Int} : CmpOn C σ .Lt (.int x) (.int y) (decide (x < y)) := fun s Q E v u O r1 r2 h => by cases r1; cases r2; exact P.lt_int (h _ _ Kp.refl)
theorem co_le {x y : Int} : CmpOn C σ .LtE (.int x) (.int y) (decide (x ≤ y)) := fun s Q E v u O r1 r2 h => by cases r1; cases r2; exact P.le_int (h _ _ Kp.refl)
theorem co_gt {x y : Int} : CmpOn C σ .Gt (.int x) (.int y) (decide (x > y)) := fun s Q E v u O r1 r2 h => by cases r1; cases r2; exact P.gt_int (h _ _ Kp.refl)
theorem co_ge {x y : Int} : CmpOn C σ .GtE (.int x) (.int y) (decide (x ≥ y)) := fun s Q E v u O r1 r2 h => by cases r1; cases r2; exact P.ge_int (h _ _ Kp.refl)
theorem str_beq (x y : PySem.Str) : (x.cps.toList == y.cps.toList) = (x == y) := by
  obtain ⟨⟨x⟩⟩ := x; obtain ⟨⟨y⟩⟩ := y
  by_cases h : x = y
  · subst h; simp
  · have e1 : (x == y) = false := by simpa using h
    have e2 : ((⟨⟨x⟩⟩ : PySem.Str) == ⟨⟨y⟩⟩) = false := by
      simp only [beq_eq_false_iff_ne, ne_eq, PySem.Str.mk.injEq, Array.mk.injEq]; exact h
    simp only [e1, e2]
theorem co_eqs {x y : PySem.Str} : CmpOn C σ .Eq (.str x) (.str y) (x == y) := fun s Q E v u O r1 r2 h => by
  cases r1; cases r2
  refine P.eq_str ?_
  rw [str_beq]; exact h _ _ Kp.refl
theorem co_nes {x y : PySem.Str} : CmpOn C σ .NotEq (.str x) (.str y) (!(x == y)) := fun s Q E v u O r1 r2 h => by
  cases r1; cases r2
  refine P.ne_str ?_
  show Q (.bool (!(_ == _))) s
  rw [str_beq]; exact h _ _ Kp.refl
/-- the truth of a value -/
abbrev TruthOn (C : Cx) (σ : St) (x : D) (b : Bool) : Prop :=
  ∀ (s : Shared) (Q : Bool → Shared → Prop) (E : Value → Shared → Prop) (v : Value), Ok C s.heap σ → Rep (C.ex σ) s.heap v x → (∀ h' t', Kp s.heap h' → Q b { s with heap := h', toks := t' }) → wpAny C.M C.A (truthy v) Q E s
theorem tr_int {x : Int} : TruthOn C σ (.int x) (x != 0) := fun s Q E v O r h => by cases r; exact P.truthy_int (h _ _ Kp.refl)
theorem tr_bool {x : Bool} : TruthOn C σ (.bool x) x := fun s Q E v O r h => by cases r; exact wpAny_truthy_bool (h _ _ Kp.refl)
/-- a test by a value's truth -/
theorem ts_val {e : Expr} {x : D} {b : Bool} (ha : Ev C σ e x) (ht : TruthOn C σ x b) (he : ∀ whole, isTrue e C.env whole = (do let v ← whole; standAt e.pos; holding [v] (truthy v)) := by intro _; rfl) : Ts C σ e b := .mk fun s Q E O h =>
  wpAny_isTrue_value (ha.run s _ E O fun v h₁ t₁ k₁ r₁ => ht _ _ E v (O.keep k₁) r₁ fun h₂ t₂ k₂ => h h₂ t₂ (k₁.trans k₂)) (he _)
theorem ts_not {e : Expr} {p : Pos} {b : Bool} (ha : Ts C σ e b) : Ts C σ (.UnaryOp .Not e p) (!b) := .mk fun s Q E O h =>
  wpAny_isTrue_Not (ha.run s _ E O h)
structure TsL (C : Cx) (σ : St) (op : BoolOp) (es : List Expr) (b : Bool) : Prop where
  run : ∀ (s : Shared) (Q : Bool → Shared → Prop) (E : Value → Shared → Prop), Ok C s.heap σ → (∀ h' t', Kp s.heap h' → Q b { s with heap := h', toks := t' }) → wpAny C.M C.A (allTrue op es C.env) Q E s
theorem tsl_and_nil : TsL C σ .And [] true := .mk fun s Q E O h => wpAny_allTrue_And_nil (h _ _ Kp.refl)
theorem tsl_or_nil : TsL C σ .Or [] false := .mk fun s Q E O h => wpAny_allTrue_Or_nil (h _ _ Kp.refl)
theorem tsl_and {e : Expr} {es : List Expr} {a b : Bool} (ha : Ts C σ e a) (hb : a = true → TsL C σ .And es b) : TsL C σ .And (e :: es) (a && b) := .mk fun s Q E O h =>
  wpAny_allTrue_And_cons (ha.run s _ E O fun h₁ t₁ k₁ => by
    cases a with
    | false => exact h h₁ t₁ k₁
    | true => exact (hb rfl).run _ _ E (O.keep k₁) fun h₂ t₂ k₂ => h h₂ t₂ (k₁.trans k₂))
theorem tsl_or {e : Expr} {es : List Expr} {a b : Bool} (ha : Ts C σ e a) (hb : a = false → TsL C σ .Or es b) : TsL C σ .Or (e :: es) (a || b) := .mk fun s Q E O h =>
  wpAny_allTrue_Or_cons (ha.run s _ E O fun h₁ t₁ k₁ => by
    cases a with
    | true => exact h h₁ t₁ k₁
    | false => exact (hb rfl).run _ _ E (O.keep k₁) fun h₂ t₂ k₂ => h h₂ t₂ (k₁.trans k₂))
theorem ts_bool {op : BoolOp} {es : List Expr} {p : Pos} {b : Bool} (h : TsL C σ op es b) : Ts C σ (.BoolOp op es p) b := .mk fun s Q E O k => wpAny_isTrue_BoolOp (h.run s Q E O k)
theorem ev_ite {t a b : Expr} {p : Pos} {c : Bool} {d : D} (ht : Ts C σ t c) (ha : c = true → Ev C σ a d) (hb : c = false → Ev C σ b d) : Ev C σ (.IfExp t a b p) d := .mk fun s Q E O h =>
  wpAny_IfExp (ht.run s _ E O fun h₁ t₁ k₁ => by
    cases c with
    | true => exact (ha rfl).run _ _ E (O.keep k₁) fun v h₂ t₂ k₂ => h v h₂ t₂ (k₁.trans k₂)
    | false => exact (hb rfl).run _ _ E (O.keep k₁) fun v h₂ t₂ k₂ => h v h₂ t₂ (k₁.trans k₂))
def nst : Expr → Bool
  | .Starred _ _ => false
  | _ => true
def nsts : List Expr → Bool
  | [] => true
  | e :: es => nst e && nsts es
theorem star_cons {e : Expr} {es : List Expr} (h : nst e = true) (env : Env) : starEach (e :: es) env = (false, eval e env) :: starEach es env := by
  cases e <;> first | rfl | cases h
theorem star_any : ∀ {es : List Expr} (h : nsts es = true) (q : Pos) (env : Env), (backTo q (starEach es env)).any (·.1) = false
  | [], _, _, _ => rfl
  | e :: es, h, q, env => by
    simp only [nsts, Bool.and_eq_true] at h
    have := star_any h.2 q env
    rw [star_cons h.1]
    simpa [backTo] using this
/-- several expressions, from the left -/
structure Evs (C : Cx) (σ : St) (es : List Expr) (ds : List D) : Prop where
  run : ∀ (q : Pos) (s : Shared) (Q : List Value → Shared → Prop) (E : Value → Shared → Prop), Ok C s.heap σ → (∀ vs h' t', Kp s.heap h' → Reps (C.ex σ) h' vs ds → Q vs { s with heap := h', toks := t' }) → wpAny C.M C.A (spliced (backTo q (starEach es C.env))) Q E s
theorem evs_nil : Evs C σ [] [] := .mk fun q s Q E O h => spliced_nil (h _ _ _ Kp.refl .nil)
theorem evs_cons {e : Expr} {es : List Expr} {d : D} {ds : List D} (he : Ev C σ e d) (hs : Evs C σ es ds) (hn : nst e = true := by rfl) : Evs C σ (e :: es) (d :: ds) := .mk fun q s Q E O h => by
  rw [star_cons hn]
  exact spliced_cons (he.run s _ E O fun v h₁ t₁ k₁ r₁ => hs.run q _ _ E (O.keep k₁) fun vs h₂ t₂ k₂ r₂ => h _ h₂ t₂ (k₁.trans k₂) (.cons (r₁.keep k₂) r₂))
theorem Ok.freshA {h : Heap} (W : Wf C) (O : Ok C h σ) : h.objs.size ∉ C.ex σ := fun q => by
  obtain ⟨_, o, e⟩ := O.live W _ q
  exact absurd (Heap.lt_size e) (Nat.lt_irrefl _)
theorem ev_tuple (W : Wf C) {es : List Expr} {k : Nat} {p : Pos} {ds : List D} (hs : Evs C σ es ds) (hz : Nat.ble ds.length 1000 = true := by kernel_rfl) : Ev C σ (.Tuple es k p) (.tup ds) := .mk fun s Q E O h =>
  Tuple_ (hs.run p s _ E O fun vs h₁ t₁ k₁ r₁ => by
    have O₁ := O.keep k₁
    refine wpAny_newObj_type (h _ _ _ (k₁.trans Kp.push) (.tup (vs := vs) ⟨_, Heap.get?_push_size _ rfl, rfl, _, rfl⟩ (O₁.freshA W) (r₁.keep Kp.push))) ?_
    show vs.toArray.size ≤ sizeLine
    rw [List.size_toArray, r₁.length, sizeLine_eq]; have := Nat.le_of_ble_eq_true hz; omega)
theorem ev_list (W : Wf C) {es : List Expr} {p : Pos} {ds : List D} (hs : Evs C σ es ds) (hz : Nat.ble ds.length 1000 = true := by kernel_rfl) : Ev C σ (.List es p) (.lst ds) := .mk fun s Q E O h =>
  List_ (hs.run p s _ E O fun vs h₁ t₁ k₁ r₁ => by
    have O₁ := O.keep k₁
    refine wpAny_newObj_type (h _ _ _ (k₁.trans Kp.push) (.lst (vs := vs) ⟨_, Heap.get?_push_size _ rfl, rfl, _, rfl⟩ (O₁.freshA W) (r₁.keep Kp.push))) ?_
    show vs.toArray.size ≤ sizeLine
    rw [List.size_toArray, r₁.length, sizeLine_eq]; have := Nat.le_of_ble_eq_true hz; omega)
/-- a built-in function by its name -/
theorem name_builtin (W : Wf C) {x : PySem.Str} {p : Pos} {v : Value} {s : Shared} {Q E : Value → Shared → Prop} (O : Ok C s.heap σ) (hk : C.env.kindOf x = some .globalImplicit) (hg : C.B.mg x = none) (hb : C.B.mb x = some v) (h : Q v s) (hd : (x == ("__debug__" : PySem.Str)) = false := by rfl) :
    wpAny C.M C.A (eval (.Name x p) C.env) Q E s :=
  have Bh := O.base W
  Name_function_global W.kind hk (loadGlobal_builtin (env := C.env) (by rw [W.gl]; exact Bh.g) hg (by rw [W.bl]; exact Bh.b) hb h) hd
theorem name_global (W : Wf C) {x : PySem.Str} {p : Pos} {v : Value} {s : Shared} {Q E : Value → Shared → Prop} (O : Ok C s.heap σ) (hk : C.env.kindOf x = some .globalImplicit) (hg : C.B.mg x = some v) (h : Q v s) (hd : (x == ("__debug__" : PySem.Str)) = false := by rfl) :
    wpAny C.M C.A (eval (.Name x p) C.env) Q E s :=
  have Bh := O.base W
  Name_function_global W.kind hk (loadGlobal_global (env := C.env) (by rw [W.gl]; exact Bh.g) hg h) hd
theorem ev_gint (W : Wf C) {x : PySem.Str} {p : Pos} {i : Int} {t : Tok} (hk : C.env.kindOf x = some .globalImplicit) (hg : C.B.mg x = some (.int i t)) (hd : (x == ("__debug__" : PySem.Str)) = false := by rfl) : Ev C σ (.Name x p) (.int i) := .mk fun s Q E O h =>
  name_global W O hk hg (h _ s.heap s.toks Kp.refl (.int _ _)) hd
/-- a call of a built-in function that has a name -/
theorem ev_call_builtin (W : Wf C) {x : PySem.Str} {p q : Pos} {id : String} {e : Expr} {es : List Expr} {ds : List D} {r : D} (hk : C.env.kindOf x = some .globalImplicit) (hg : C.B.mg x = none) (hb : C.B.mb x = some (.builtin id)) (hs : Evs C σ (e :: es) ds)
    (hc : ∀ (s : Shared) (Q E : Value → Shared → Prop) (vs : List Value), Ok C s.heap σ → Reps (C.ex σ) s.heap vs ds → (∀ v h' t', Kp s.heap h' → Rep (C.ex σ) h' v r → Q v { s with heap := h', toks := t' }) → wpAny C.M C.A (call (.builtin id) vs) Q E s)
    (hn : nsts (e :: es) = true := by rfl) (hd : (x == ("__debug__" : PySem.Str)) = false := by rfl) :
    Ev C σ (.Call (.Name x p) (e :: es) [] q) r := .mk fun s Q E O h => by
  refine Call_Name rfl (name_builtin W O hk hg hb ?_ hd)
  refine callWith_builtin (star_any hn _ _) ?_
  have := hs.run q s (fun vs s' => wpAny C.M C.A (call (.builtin id) ([] ++ vs) []) Q E s') E O fun vs h₁ t₁ k₁ r₁ => hc { s with heap := h₁, toks := t₁ } _ _ vs (O.keep k₁) r₁ fun v h₂ t₂ k₂ r₂ => h v h₂ t₂ (k₁.trans k₂) r₂
  rw [star_cons (Bool.and_eq_true_iff.mp hn).1] at this ⊢
  exact evalArgs_plain this
theorem ev_call_type (W : Wf C) {x : PySem.Str} {p q : Pos} {T : String} {e : Expr} {es : List Expr} {ds : List D} {r : D} (hk : C.env.kindOf x = some .globalImplicit) (hg : C.B.mg x = none) (hb : C.B.mb x = some (.type T)) (hs : Evs C σ (e :: es) ds)
    (hc : ∀ (s : Shared) (Q E : Value → Shared → Prop) (vs : List Value), Ok C s.heap σ → Reps (C.ex σ) s.heap vs ds → (∀ v h' t', Kp s.heap h' → Rep (C.ex σ) h' v r → Q v { s with heap := h', toks := t' }) → wpAny C.M C.A (call (.type T) vs) Q E s)
    (hn : nsts (e :: es) = true := by rfl) (hd : (x == ("__debug__" : PySem.Str)) = false := by rfl) :
    Ev C σ (.Call (.Name x p) (e :: es) [] q) r := .mk fun s Q E O h => by
  refine Call_Name rfl (name_builtin W O hk hg hb ?_ hd)
  refine PyProof.Rows.callWith_type (star_any hn _ _) ?_
  have := hs.run q s (fun vs s' => wpAny C.M C.A (call (.type T) ([] ++ vs) []) Q E s') E O fun vs h₁ t₁ k₁ r₁ => hc { s with heap := h₁, toks := t₁ } _ _ vs (O.keep k₁) r₁ fun v h₂ t₂ k₂ r₂ => h v h₂ t₂ (k₁.trans k₂) r₂
  rw [star_cons (Bool.and_eq_true_iff.mp hn).1] at this ⊢
  exact evalArgs_plain this
/-- what a def of the text gives for data, k frames deep -/
structure Fn (B : Bs) (f : Addr) (k : Nat) (ds : List D) (r : D) : Prop where
  run : ∀ (A : Around) (s : Shared) (X : List Addr) (vs : List Value) (Q E : Value → Shared → Prop), B.In s.heap → TabOk s.heap → (∀ x ∈ X, x ∉ TT ∧ ∃ o, s.heap.get? x = some o) → Reps X s.heap vs ds → A.handled = none → A.depth + k < recursionLimit → A.units + 8 * k < cLine →
    (∀ v h' t', Kp s.heap h' → Rep X h' v r → Q v { s with heap := h', toks := t' }) → wpAny (model B.prog B.w) A (call (.ref f) vs) Q E s
theorem Fn.le {B : Bs} {f : Addr} {k j : Nat} {ds : List D} {r : D} (h : Fn B f k ds r) (hk : k ≤ j) : Fn B f j ds r := .mk fun A s X vs Q E b tb x v hh hd hu q => h.run A s X vs Q E b tb x v hh (by omega) (by omega) q
theorem ev_call_def (W : Wf C) {x : PySem.Str} {p q : Pos} {f : Addr} {k : Nat} {o : Obj} {fd : FuncData} {e : Expr} {es : List Expr} {ds : List D} {r : D} (hk : C.env.kindOf x = some .globalImplicit) (hg : C.B.mg x = some (.ref f)) (ho : C.B.K.lookup f = some o) (hf : o.data = .func fd) (hs : Evs C σ (e :: es) ds)
    (hc : Fn C.B f k ds r) (hd1 : C.A.depth + k < recursionLimit) (hu1 : C.A.units + 8 * k < cLine)
    (hn : nst e = true := by rfl) (hd : (x == ("__debug__" : PySem.Str)) = false := by rfl) :
    Ev C σ (.Call (.Name x p) (e :: es) [] q) r := .mk fun s Q E O h => by
  refine Call_Name rfl (name_global W O hk hg ?_ hd)
  refine callWith_function (o := o) (fd := fd) ?_
  have := hs.run q s (fun vs s' => (s'.heap.get? f = some o ∧ o.data = .func fd) ∧ wpAny C.M C.A (call (.ref f) ([] ++ vs) []) Q E s') E O fun vs h₁ t₁ k₁ r₁ =>
    have O₁ := O.keep k₁
    ⟨⟨(O₁.base W).K _ _ ho, hf⟩, hc.run C.A { s with heap := h₁, toks := t₁ } (C.ex σ) vs _ _ (O₁.base W) O₁.tab (O₁.live W) r₁ W.handled hd1 hu1 fun v h₂ t₂ k₂ r₂ => h v h₂ t₂ (k₁.trans k₂) r₂⟩
  rw [star_cons hn] at this ⊢
  exact evalArgs_plain this
end
end Mine
-- part FW3
namespace Mine
inductive Fl where
  | next | brk | cont
  | ret (d : D)
inductive FlR (X : List Addr) (h : Heap) : Flow → Fl → Prop
  | next : FlR X h .next .next
  | brk : FlR X h .brk .brk
  | cont : FlR X h .cont .cont
  | ret {v : Value} {d : D} : Rep X h v d → FlR X h (.ret v) (.ret d)
/-- what a run of statements may leave -/
abbrev Post (C : Cx) (σ : St) (s : Shared) (Φ : Fl → St → Prop) (Q : Flow → Shared → Prop) : Prop :=
  ∀ (f : Flow) (fl : Fl) (σ' : St) (h' : Heap) (t' : Nat), FlR (C.ex σ') h' f fl → Ok C h' σ' → KpB (C.L :: σ.addrs) s.heap h' → (∀ a ∈ σ'.addrs, a ∈ σ.addrs ∨ s.heap.get? a = none) → Φ fl σ' → Q f { s with heap := h', toks := t' }
structure Ex (C : Cx) (σ : St) (st : Stmt) (Φ : Fl → St → Prop) : Prop where
  run : ∀ (s : Shared) (Q : Flow → Shared → Prop) (E : Value → Shared → Prop), Ok C s.heap σ → Post C σ s Φ Q → wpAny C.M C.A (exec st C.env) Q E s
structure Exs (C : Cx) (σ : St) (l : List Stmt) (Φ : Fl → St → Prop) : Prop where
  run : ∀ (s : Shared) (Q : Flow → Shared → Prop) (E : Value → Shared → Prop), Ok C s.heap σ → Post C σ s Φ Q → wpAny C.M C.A (execs l C.env) Q E s
section
variable {C : Cx} {σ : St} {Φ : Fl → St → Prop}
theorem exs_nil (h : Φ .next σ) : Exs C σ [] Φ := .mk fun s Q E O k => wpAny_execs_nil (k _ .next σ s.heap s.toks .next O KpB.refl (fun a ha => .inl ha) h)
theorem kpB_step {σ σ' : St} {L : Addr} {h h₁ h₂ : Heap} (k : KpB (L :: σ.addrs) h h₁) (g : ∀ a ∈ σ'.addrs, a ∈ σ.addrs ∨ h.get? a = none) (k' : KpB (L :: σ'.addrs) h₁ h₂) : KpB (L :: σ.addrs) h h₂ := fun b o hb f e => by
  refine k' b o (fun q => ?_) f (k b o hb f e)
  rcases List.mem_cons.mp q with rfl | q
  · exact hb (.head _)
  · rcases g b q with q | q
    · exact hb (.tail _ q)
    · rw [q] at e; cases e
theorem new_step {σ σ' σ'' : St} {L : Addr} {h h₁ : Heap} (k : KpB (L :: σ.addrs) h h₁) (hL : ∀ a ∈ σ''.addrs, a ≠ L) (hT : ∀ a ∈ σ''.addrs, a ∉ TT) (g : ∀ a ∈ σ'.addrs, a ∈ σ.addrs ∨ h.get? a = none) (g' : ∀ a ∈ σ''.addrs, a ∈ σ'.addrs ∨ h₁.get? a = none) : ∀ a ∈ σ''.addrs, a ∈ σ.addrs ∨ h.get? a = none := fun a ha => by
  rcases g' a ha with q | q
  · exact g a q
  · by_cases m : a ∈ σ.addrs
    · exact .inl m
    · refine .inr ?_
      cases e : h.get? a with
      | none => rfl
      | some o =>
        have := k a o (fun z => by rcases List.mem_cons.mp z with z | z; exact hL a ha z; exact m z) (.inl (hT a ha)) e
        rw [this] at q; cases q
theorem Ok.objL {h : Heap} (O : Ok C h σ) : ∀ a ∈ σ.addrs, a ≠ C.L := fun a ha => by
  obtain ⟨p, hp, rfl⟩ := List.mem_map.mp ha
  obtain ⟨_, _, _, _, _, q⟩ := O.objs p.1 p.2 hp
  exact q
theorem Ok.objT {h : Heap} (O : Ok C h σ) : ∀ a ∈ σ.addrs, a ∉ TT := fun a ha => by
  obtain ⟨p, hp, rfl⟩ := List.mem_map.mp ha
  obtain ⟨_, _, e, _⟩ := O.objs p.1 p.2 hp
  exact O.tab.ne e (.inl nofun)
theorem exs_cons {st : Stmt} {rest : List Stmt} (h : Ex C σ st fun fl σ' => match fl with | .next => Exs C σ' rest Φ | fl => Φ fl σ') : Exs C σ (st :: rest) Φ := .mk fun s Q E O k =>
  wpAny_execs_cons (h.run s _ E O fun f fl σ' h₁ t₁ hf O₁ k₁ g₁ hΦ => by
    cases hf with
    | next =>
      exact hΦ.run _ _ E O₁ fun f' fl' σ'' h₂ t₂ hf₂ O₂ k₂ g₂ hΦ₂ => k f' fl' σ'' h₂ t₂ hf₂ O₂ (kpB_step k₁ g₁ k₂) (new_step k₁ O₂.objL O₂.objT g₁ g₂) hΦ₂
    | brk => exact k _ _ σ' h₁ t₁ .brk O₁ k₁ g₁ hΦ
    | cont => exact k _ _ σ' h₁ t₁ .cont O₁ k₁ g₁ hΦ
    | ret r => exact k _ _ σ' h₁ t₁ (.ret r) O₁ k₁ g₁ hΦ)
theorem ex_mono {st : Stmt} {Ψ : Fl → St → Prop} (h : Ex C σ st Φ) (m : ∀ fl σ', Φ fl σ' → Ψ fl σ') : Ex C σ st Ψ := .mk fun s Q E O k => h.run s Q E O fun f fl σ' h' t' a b c d e => k f fl σ' h' t' a b c d (m _ _ e)
theorem exs_mono {l : List Stmt} {Ψ : Fl → St → Prop} (h : Exs C σ l Φ) (m : ∀ fl σ', Φ fl σ' → Ψ fl σ') : Exs C σ l Ψ := .mk fun s Q E O k => h.run s Q E O fun f fl σ' h' t' a b c d e => k f fl σ' h' t' a b c d (m _ _ e)
def St.set (σ : St) (i : Nat) (d : D) : St := { σ with vars := σ.vars.set i (some d) }
theorem ex_set (σ : St) (i : Nat) (d : D) : C.ex (σ.set i d) = C.ex σ := rfl
theorem nodup_idx {α : Type} : ∀ {l : List α} {i j : Nat} {x : α}, l.Nodup → l[i]? = some x → l[j]? = some x → i = j
  | [], _, _, _, _, h, _ => by simp at h
  | a :: l, 0, 0, _, _, _, _ => rfl
  | a :: l, 0, j + 1, x, hn, h1, h2 => by
    simp only [List.getElem?_cons_zero, Option.some.injEq, List.getElem?_cons_succ] at h1 h2
    subst h1
    exact absurd (List.mem_of_getElem? h2) (List.nodup_cons.mp hn).1
  | a :: l, i + 1, 0, x, hn, h1, h2 => by
    simp only [List.getElem?_cons_zero, Option.some.injEq, List.getElem?_cons_succ] at h1 h2
    subst h2
    exact absurd (List.mem_of_getElem? h1) (List.nodup_cons.mp hn).1
  | a :: l, i + 1, j + 1, x, hn, h1, h2 => by
    simp only [List.getElem?_cons_succ] at h1 h2
    exact congrArg (· + 1) (nodup_idx (List.nodup_cons.mp hn).2 h1 h2)
/-- the store of a name -/
theorem store_ok (W : Wf C) {x : PySem.Str} {i : Nat} {d : D} {v : Value} {s : Shared} {Q : Unit → Shared → Prop} {E : Value → Shared → Prop} (hx : C.names[i]? = some x) (O : Ok C s.heap σ) (r : Rep (C.ex σ) s.heap v d)
    (h : ∀ h' t', Ok C h' (σ.set i d) → KpB [C.L] s.heap h' → Q () { s with heap := h', toks := t' }) : wpAny C.M C.A (storeName C.env x v) Q E s := by
  obtain ⟨⟨m, F, hv⟩, ho, hn, ht, hg⟩ := O
  refine wpAny_storeName_local (W.loc x (List.mem_of_getElem? hx)) F.ns (fun h' hns hsb => ?_) (by rw [W.kind]; rfl)
  have hk : ∀ (a : Addr) (o : Obj), a ∉ C.ex σ → s.heap.get? a = some o → SeqO o → h'.get? a = some o ∧ a ∉ C.ex σ := fun a o ha e _ => ⟨(hsb.2 a fun q => ha (q ▸ .head _)).trans e, ha⟩
  have ht' : TabOk h' := by
    obtain ⟨oL, es, ep, e, hd, _⟩ := F.ns
    exact ht.one e (.dict ⟨_, _, hd⟩) fun b ob hb e => (hsb.2 b hb).trans e
  refine h h' _ ⟨⟨_, F.set hns hsb, fun j y d' h1 h2 => ?_⟩, fun a ds hm => ?_, hn, ht', hg⟩ fun b o hb _ e => (hsb.2 b fun q => hb (q ▸ .head _)).trans e
  · by_cases e : y = x
    · subst e
      have hij : j = i := nodup_idx W.nd h1 hx
      subst hij
      have hd : d' = d := by
        simp only [St.set, List.getElem?_set_self'] at h2
        cases q : σ.vars[j]? with
        | none => rw [q] at h2; cases h2
        | some z => rw [q] at h2; cases h2; rfl
      subst hd
      exact ⟨v, by simp, r.walk hk⟩
    · have hij : i ≠ j := fun q => e (by subst q; exact Option.some.inj (h1.symm.trans hx))
      simp only [St.set, List.getElem?_set_ne hij] at h2
      obtain ⟨u, e1, r1⟩ := hv j y d' h1 h2
      exact ⟨u, by simp [e, e1], r1.walk hk⟩
  · obtain ⟨vs, n, e, rs, q1, q2⟩ := ho a ds hm
    exact ⟨vs, n, (hsb.2 a q2).trans e, rs.walk hk, q1, q2⟩
theorem kpB_weak {xs ys : List Addr} {h h' : Heap} (k : KpB xs h h') (m : ∀ a ∈ xs, a ∈ ys) : KpB ys h h' := fun b o hb f e => k b o (fun q => hb (m b q)) f e
theorem kpB_kp {xs : List Addr} {h h₁ h₂ : Heap} (k : Kp h h₁) (k' : KpB xs h₁ h₂) : KpB xs h h₂ := fun b o hb f e => k' b o hb f (k.keep b o f e)
theorem kpB_trans {xs : List Addr} {h h₁ h₂ : Heap} (k : KpB xs h h₁) (k' : KpB xs h₁ h₂) : KpB xs h h₂ := fun b o hb f e => k' b o hb f (k b o hb f e)
theorem mem_L {σ : St} : ∀ a ∈ [C.L], a ∈ C.L :: σ.addrs := fun a ha => by rw [List.mem_singleton] at ha; subst ha; exact .head _
theorem ex_assign (W : Wf C) {x : PySem.Str} {p p' : Pos} {e : Expr} {d : D} (i : Nat) (hx : C.names[i]? = some x) (he : Ev C σ e d) (h : Φ .next (σ.set i d)) (hs : noComp e = true := by rfl) : Ex C σ (.Assign [.Name x p'] e p) Φ := .mk fun s Q E O k =>
  wpAny_Assign_Name (he.run s _ E O fun v h₁ t₁ k₁ r₁ => store_ok W hx (O.keep k₁) r₁ fun h₂ t₂ O₂ k₂ => k _ .next _ h₂ t₂ .next O₂ (kpB_kp k₁ (kpB_weak k₂ mem_L)) (fun a ha => .inl ha) h) (swaps_of hs _ _ _)
theorem ex_ret {e : Expr} {p : Pos} {d : D} (he : Ev C σ e d) (h : Φ (.ret d) σ) : Ex C σ (.Return (some e) p) Φ := .mk fun s Q E O k =>
  wpAny_Return_some (he.run s _ E O fun v h₁ t₁ k₁ r₁ => k _ _ σ h₁ t₁ (.ret r₁) (O.keep k₁) k₁.but (fun a ha => .inl ha) h)
theorem ex_ret0 {p : Pos} (h : Φ (.ret .none) σ) : Ex C σ (.Return none p) Φ := .mk fun s Q E O k =>
  wpAny_Return_none (k _ _ σ s.heap s.toks (.ret .none) O KpB.refl (fun a ha => .inl ha) h)
theorem post_kp {s : Shared} {Q : Flow → Shared → Prop} {h₁ : Heap} {t₁ : Nat} (k₁ : Kp s.heap h₁) (k : Post C σ s Φ Q) : Post C σ { s with heap := h₁, toks := t₁ } Φ Q := fun f fl σ' h' t' a b c d e =>
  k f fl σ' h' t' a b (kpB_kp k₁ c) (fun x hx => (d x hx).imp id fun q => by
    cases z : s.heap.get? x with
    | none => rfl
    | some o => have := k₁.keep _ _ (.inl (b.objT x hx)) z; rw [show h₁.get? x = none from q] at this; cases this) e
theorem ex_if {t : Expr} {a b : List Stmt} {p : Pos} {c : Bool} (ht : Ts C σ t c) (ha : c = true → Exs C σ a Φ) (hb : c = false → Exs C σ b Φ) : Ex C σ (.If t a b p) Φ := .mk fun s Q E O k =>
  wpAny_If (ht.run s _ E O fun h₁ t₁ k₁ => by
    cases c with
    | true => exact (ha rfl).run _ _ E (O.keep k₁) (post_kp k₁ k)
    | false => exact (hb rfl).run _ _ E (O.keep k₁) (post_kp k₁ k))
/-- an operator with a store -/
theorem ex_aug (W : Wf C) {op : Operator} {x : PySem.Str} {p p' : Pos} {e : Expr} {d₀ d d' : D} (i : Nat) (hx : C.names[i]? = some x) (h0 : σ.vars[i]? = some (some d₀)) (he : Ev C σ e d)
    (ho : ∀ (s : Shared) (Q E : Value → Shared → Prop) (v u : Value), Ok C s.heap σ → Rep (C.ex σ) s.heap v d₀ → Rep (C.ex σ) s.heap u d → (∀ v h' t', Kp s.heap h' → Rep (C.ex σ) h' v d' → Q v { s with heap := h', toks := t' }) → wpAny C.M C.A (inplaceOp op v u) Q E s)
    (h : Φ .next (σ.set i d')) : Ex C σ (.AugAssign (.Name x p') op e p) Φ := .mk fun s Q E O k => by
  obtain ⟨m, F, hv⟩ := O.vars
  obtain ⟨v, e0, r0⟩ := hv i x d₀ hx h0
  exact wpAny_AugAssign_Name (wpAny_loadName_local W.kind (W.loc x (List.mem_of_getElem? hx)) F.ns e0 (he.run s _ E O fun u h₁ t₁ k₁ r₁ => ho _ _ _ v u (O.keep k₁) (r0.keep k₁) r₁ fun z h₂ t₂ k₂ r₂ =>
    store_ok W hx ((O.keep k₁).keep k₂) r₂ fun h₃ t₃ O₃ k₃ => k _ .next _ h₃ t₃ .next O₃ (kpB_kp (k₁.trans k₂) (kpB_weak k₃ mem_L)) (fun a ha => .inl ha) h))
theorem ex_aug_add (W : Wf C) {x : PySem.Str} {p p' : Pos} {e : Expr} {a b : Int} (i : Nat) (hx : C.names[i]? = some x) (h0 : σ.vars[i]? = some (some (.int a))) (he : Ev C σ e (.int b)) (h : Φ .next (σ.set i (.int (a + b)))) : Ex C σ (.AugAssign (.Name x p') .Add e p) Φ :=
  ex_aug W i hx h0 he (fun s Q E v u O r1 r2 h => by cases r1; cases r2; exact P.iadd_int (h _ _ _ Kp.refl (.int _ _))) h
theorem ex_aug_sub (W : Wf C) {x : PySem.Str} {p p' : Pos} {e : Expr} {a b : Int} (i : Nat) (hx : C.names[i]? = some x) (h0 : σ.vars[i]? = some (some (.int a))) (he : Ev C σ e (.int b)) (h : Φ .next (σ.set i (.int (a - b)))) : Ex C σ (.AugAssign (.Name x p') .Sub e p) Φ :=
  ex_aug W i hx h0 he (fun s Q E v u O r1 r2 h => by cases r1; cases r2; exact P.isub_int (h _ _ _ Kp.refl (.int _ _))) h
theorem ex_aug_shl (W : Wf C) {x : PySem.Str} {p p' : Pos} {e : Expr} {a n : Int} (i : Nat) (hx : C.names[i]? = some x) (h0 : σ.vars[i]? = some (some (.int a))) (he : Ev C σ e (.int n)) (hn : 0 ≤ n) (hz : (Builtin.Int.intBits a : Int) + n ≤ 2 ^ 27) (h : Φ .next (σ.set i (.int (a * 2 ^ n.toNat)))) : Ex C σ (.AugAssign (.Name x p') .LShift e p) Φ :=
  ex_aug W i hx h0 he (fun s Q E v u O r1 r2 h => by cases r1; cases r2; exact ilshift_int hn hz (h _ _ _ Kp.refl (.int _ _))) h
theorem ex_aug_shr (W : Wf C) {x : PySem.Str} {p p' : Pos} {e : Expr} {a n : Int} (i : Nat) (hx : C.names[i]? = some x) (h0 : σ.vars[i]? = some (some (.int a))) (he : Ev C σ e (.int n)) (hn : 0 ≤ n) (h : Φ .next (σ.set i (.int (a.fdiv (2 ^ n.toNat))))) : Ex C σ (.AugAssign (.Name x p') .RShift e p) Φ :=
  ex_aug W i hx h0 he (fun s Q E v u O r1 r2 h => by cases r1; cases r2; exact irshift_int hn (h _ _ _ Kp.refl (.int _ _))) h
theorem Kp.ofExtBut {h h' : Heap} (e : Heap.ExtBut h.objs.size h h') : Kp h h' := .full fun b o q => e b o (Nat.ne_of_lt (Heap.lt_size q)) q
/-- stores of names in order -/
def setL (σ : St) : List (Nat × D) → St
  | [] => σ
  | (i, d) :: r => setL (σ.set i d) r
theorem setL_ex (C : Cx) : ∀ (l : List (Nat × D)) (σ : St), C.ex (setL σ l) = C.ex σ
  | [], _ => rfl
  | (i, d) :: r, σ => (setL_ex C r _).trans rfl
theorem setL_addrs : ∀ (l : List (Nat × D)) (σ : St), (setL σ l).addrs = σ.addrs
  | [], _ => rfl
  | (i, d) :: r, σ => (setL_addrs r _).trans rfl
end
end Mine
-- part FW4
namespace Mine
section
variable {C : Cx} {σ : St} {Φ : Fl → St → Prop}
/-- where a run stands against its start -/
structure Since (C : Cx) (σ : St) (s : Shared) (σ' : St) (s' : Shared) : Prop where
  ok : Ok C s'.heap σ'
  kp : KpB (C.L :: σ.addrs) s.heap s'.heap
  new : ∀ a ∈ σ'.addrs, a ∈ σ.addrs ∨ s.heap.get? a = none
  rest : ∃ h t, s' = { s with heap := h, toks := t }
theorem Since.refl {s : Shared} (O : Ok C s.heap σ) : Since C σ s σ s := ⟨O, KpB.refl, fun a h => .inl h, s.heap, s.toks, rfl⟩
theorem Since.kp' {s s' : Shared} {σ' : St} {h : Heap} {t : Nat} (S : Since C σ s σ' s') (k : Kp s'.heap h) : Since C σ s σ' { s' with heap := h, toks := t } :=
  ⟨S.ok.keep k, fun b o hb f e => k.keep b o f (S.kp b o hb f e), S.new, let ⟨h₁, t₁, e⟩ := S.rest; ⟨h, t, by rw [e]⟩⟩
theorem Since.step {s s' : Shared} {σ' σ'' : St} {h : Heap} {t : Nat} (S : Since C σ s σ' s') (O : Ok C h σ'') (k : KpB (C.L :: σ'.addrs) s'.heap h) (g : ∀ a ∈ σ''.addrs, a ∈ σ'.addrs ∨ s'.heap.get? a = none) : Since C σ s σ'' { s' with heap := h, toks := t } :=
  ⟨O, kpB_step S.kp S.new k, new_step S.kp O.objL O.objT S.new g, let ⟨h₁, t₁, e⟩ := S.rest; ⟨h, t, by rw [e]⟩⟩
theorem Since.post {s s' : Shared} {σ' : St} {fl : Fl} {f : Flow} {Q : Flow → Shared → Prop} (S : Since C σ s σ' s') (k : Post C σ s Φ Q) (hf : FlR (C.ex σ') s'.heap f fl) (h : Φ fl σ') : Q f s' := by
  obtain ⟨h₁, t₁, e⟩ := S.rest
  have a := S.ok; have b := S.kp; have c := S.new
  subst e
  exact k f fl σ' h₁ t₁ hf a b c h
theorem ex_while {t : Expr} {body : List Stmt} {p : Pos} (I : Nat → St → Prop)
    (turn : ∀ n σ', I n σ' → ∃ c, Ts C σ' t c ∧ (c = true → Exs C σ' body fun fl σ'' => match fl with | .next | .cont => ∃ m, m < n ∧ I m σ'' | .brk => Φ .next σ'' | .ret d => Φ (.ret d) σ'') ∧ (c = false → Φ .next σ'))
    (n : Nat) (h : I n σ) : Ex C σ (.While t body [] p) Φ := .mk fun s Q E O k => by
  refine wpAny_While (codeAny_whileLoop (fun n s' => ∃ σ', I n σ' ∧ Since C σ s σ' s') (fun n s' ⟨σ', hI, S⟩ => ?_) n ⟨σ, h, .refl O⟩)
  obtain ⟨c, ht, hb, he⟩ := turn n σ' hI
  refine ht.run s' _ _ S.ok fun h₁ t₁ k₁ => ?_
  have S₁ := S.kp' (t := t₁) k₁
  cases c with
  | true =>
    refine (hb rfl).run _ _ _ S₁.ok fun f fl σ'' h₂ t₂ hf O₂ k₂ g₂ hΦ => ?_
    have S₂ := S₁.step (t := t₂) O₂ k₂ g₂
    cases hf with
    | next => obtain ⟨m, hm, hI'⟩ := hΦ; exact ⟨m, hm, σ'', hI', S₂⟩
    | cont => obtain ⟨m, hm, hI'⟩ := hΦ; exact ⟨m, hm, σ'', hI', S₂⟩
    | brk => exact S₂.post k .next hΦ
    | ret r => exact S₂.post k (.ret r) hΦ
  | false => exact wpAny_execs_nil (S₁.post k .next (he rfl))
/-- an iterator over data -/
structure Iter (C : Cx) (σ : St) (I : Addr) (ds : List D) (h : Heap) where
  fp : List Addr
  P : Nat → Value → Prop
  St : Nat → Heap → Prop
  walks : Walks C.B.prog C.B.w C.A I fp [I] ds.length P St
  start : St 0 h
  apart : ∀ b ∈ fp, b ∉ C.ex σ ∧ b ∉ TT ∧ ∃ o, h.get? b = some o
  kind : ∀ j h', St j h' → ∃ o, h'.get? I = some o ∧ ¬ SeqO o ∧ NoC o
  items : ∀ i v d, P i v → ds[i]? = some d → Rep (C.ex σ) h v d
/-- an expression in a for's head -/
structure EvIt (C : Cx) (σ : St) (e : Expr) (ds : List D) : Prop where
  run : ∀ (s : Shared) (Q : Value → Shared → Prop) (E : Value → Shared → Prop), Ok C s.heap σ → (∀ I h' t', Kp s.heap h' → s.heap.get? I = none → Iter C σ I ds h' → Q (.ref I) { s with heap := h', toks := t' }) →
    wpAny C.M C.A (eval e C.env) (fun x s₁ => wpAny C.M C.A (pyIter x) Q E s₁) E s
/-- the store of a loop's target -/
def Asg (C : Cx) (tg : Expr) (f : St → D → St) (ok : D → Prop) : Prop :=
  (∀ σ d, (f σ d).addrs = σ.addrs) ∧ (∀ it v, letOwnedTupleGo tg it v = pure ()) ∧
  ∀ (σ : St) (d : D) (s : Shared) (v : Value) (Q : Unit → Shared → Prop) (E : Value → Shared → Prop), ok d → Ok C s.heap σ → Rep (C.ex σ) s.heap v d → (∀ h' t', Ok C h' (f σ d) → KpB [C.L] s.heap h' → Q () { s with heap := h', toks := t' }) → wpAny C.M C.A (assign tg C.env v) Q E s
theorem asg_name (W : Wf C) {x : PySem.Str} {p : Pos} (i : Nat) (hx : C.names[i]? = some x) : Asg C (.Name x p) (fun σ d => σ.set i d) (fun _ => True) :=
  ⟨fun _ _ => rfl, fun _ _ => rfl, fun σ d s v Q E _ O r h => wpAny_assign_Name (store_ok W hx O r h)⟩
/-- one object that is no sequence of the frame's turns -/
theorem Ok.turn {h h' : Heap} {I : Addr} {o : Obj} (O : Ok C h σ) (hI : h.get? I = some o) (hs : ¬ SeqO o) (hc : NoC o) (hL : I ≠ C.L) (hh : C.h₀.get? I = none) (k : ∀ b ob, b ≠ I → h.get? b = some ob → h'.get? b = some ob) : Ok C h' σ := by
  have hk : ∀ (a : Addr) (o' : Obj), a ∉ C.ex σ → h.get? a = some o' → SeqO o' → h'.get? a = some o' ∧ a ∉ C.ex σ := fun a o' ha e q => ⟨k a o' (fun z => by subst z; rw [hI] at e; cases e; exact hs q) e, ha⟩
  obtain ⟨⟨m, F, hv⟩, ho, hn, ht, hg⟩ := O
  refine ⟨⟨m, ⟨?_, fun b o' e => k b o' (fun z => ?_) (F.keep b o' e), F.above⟩, fun i x d h1 h2 => ?_⟩, fun a ds hm => ?_, hn, ht.one hI hc k, hg⟩
  · obtain ⟨oL, es, ep, e, r⟩ := F.ns
    exact ⟨oL, es, ep, k _ _ (fun z => hL z.symm) e, r⟩
  · subst z; rw [hh] at e; cases e
  · obtain ⟨v, e, r⟩ := hv i x d h1 h2
    exact ⟨v, e, r.walk hk⟩
  · obtain ⟨vs, n, e, r, q⟩ := ho a ds hm
    exact ⟨vs, n, k _ _ (fun z => by subst z; rw [hI] at e; cases e; exact hs (.inr (.inl rfl))) e, r.walk hk, q⟩
theorem ex_for_gen (W : Wf C) {tg iter : Expr} {body : List Stmt} {q : Pos} {ds : List D} {f : St → D → St} {ok : D → Prop} (ha : Asg C tg f ok) (hok : ∀ d ∈ ds, ok d) (hi : EvIt C σ iter ds) (J : Nat → St → Prop) (h0 : J 0 σ)
    (turn : ∀ n d σ', ds[n]? = some d → J n σ' → Exs C (f σ' d) body fun fl σ'' => match fl with | .next | .cont => J (n + 1) σ'' | .brk => Φ .next σ'' | .ret r => Φ (.ret r) σ'')
    (hend : ∀ σ', J ds.length σ' → Φ .next σ') (hs : notSet iter = true := by rfl) : Ex C σ (.For tg iter body [] q) Φ := .mk fun s Q E O k => by
  refine wpAny_For (hi.run s _ E O fun I h₁ t₁ k₁ hI it => ?_) (folded_of hs _)
  have hIfp : I ∈ it.fp := it.walks.sub I (.head _)
  obtain ⟨hIex, hIT, oI, hoI⟩ := it.apart I hIfp
  have hI0 : C.h₀.get? I = none := by
    cases z : C.h₀.get? I with
    | none => rfl
    | some o => rw [O.kp0 _ _ z] at hI; cases hI
  have hIL : I ≠ C.L := fun z => hIex (z ▸ .head _)
  refine codeAny_forLoop (fun n s' => ∃ j σ', n = ds.length - j ∧ j ≤ ds.length ∧ J j σ' ∧ Ok C s'.heap σ' ∧ it.St j s'.heap ∧ KpB (I :: C.L :: σ.addrs) h₁ s'.heap ∧ (∀ a ∈ σ'.addrs, a ∈ σ.addrs ∨ h₁.get? a = none) ∧ ∃ h t, s' = { s with heap := h, toks := t })
    (fun n s' ⟨j, σ', hn, hj, hJ, O', hSt, hk, hnew, h', t', hs'⟩ => ?_) (ds.length - 0) ⟨0, σ, rfl, Nat.zero_le _, h0, O.keep k₁, it.start, KpB.refl, fun a ha => .inl ha, h₁, t₁, rfl⟩ (fun v => ha.2.1 _ _)
  subst hs'
  dsimp only at O' hSt hk
  have fin : ∀ f fl σ'' h'' t'', FlR (C.ex σ'') h'' f fl → Ok C h'' σ'' → KpB (I :: C.L :: σ.addrs) h₁ h'' → (∀ a ∈ σ''.addrs, a ∈ σ.addrs ∨ h₁.get? a = none) → Φ fl σ'' → Q f { s with heap := h'', toks := t'' } := fun f fl σ'' h'' t'' a b c d e =>
    k f fl σ'' h'' t'' a b (fun x o hx fx z => c x o (fun m => by
      rcases List.mem_cons.mp m with rfl | m
      · rw [hI] at z; cases z
      · exact hx m) fx (k₁.keep _ _ fx z)) (fun x hx => (d x hx).imp id fun z => by
        cases y : s.heap.get? x with
        | none => rfl
        | some o => rw [k₁.keep _ _ (.inl (b.objT x hx)) y] at z; cases z) e
  obtain ⟨o', hoI', hns, hnc⟩ := it.kind j h' hSt
  obtain ⟨o₁, hoI₁, hns₁, _⟩ := it.kind 0 h₁ it.start
  have apart : ∀ a o, h₁.get? a = some o → a ∉ C.ex σ → a ∉ C.ex σ' := fun a o e hx m => by
    rcases List.mem_cons.mp m with rfl | m
    · exact hx (.head _)
    rcases List.mem_append.mp m with m | m
    · exact hx (.tail _ (List.mem_append_left _ m))
    · rcases hnew a m with z | z
      · exact hx (.tail _ (List.mem_append_right _ z))
      · rw [z] at e; cases e
  rcases Nat.lt_or_eq_of_le hj with hlt | rfl
  · refine it.walks.item j _ _ _ hlt hSt fun v h₂ t₂ hP hSt₂ hk₂ => ?_
    have hd : ds[j]? = some ds[j] := List.getElem?_eq_getElem hlt
    have hk₂' : ∀ b ob, b ≠ I → h'.get? b = some ob → h₂.get? b = some ob := fun b ob hb e => hk₂ b ob (fun z => hb (List.mem_singleton.mp z)) e
    have O₂ : Ok C h₂ σ' := O'.turn hoI' hns hnc hIL hI0 hk₂'
    have r : Rep (C.ex σ') h₂ v ds[j] := (it.items j v _ hP hd).walk fun a o ha e q => by
      have hne : a ≠ I := fun z => by subst z; rw [hoI₁] at e; cases e; exact hns₁ q
      refine ⟨hk₂ a o (fun z => hne (List.mem_singleton.mp z)) (hk a o (fun m => ?_) q.fix e), apart a o e ha⟩
      rcases List.mem_cons.mp m with m | m
      · exact hne m
      · rcases List.mem_cons.mp m with rfl | m
        · exact ha (.head _)
        · exact ha (.tail _ (List.mem_append_right _ m))
    refine ha.2.2 σ' ds[j] _ v _ _ (hok _ (List.getElem_mem hlt)) O₂ r fun h₃ t₃ O₃ k₃ => ?_
    refine (turn j ds[j] σ' hd hJ).run _ _ _ O₃ fun f fl σ'' h₄ t₄ hf O₄ k₄ g₄ hΦ => ?_
    rw [show (f : Flow) = f from rfl] at hf
    have hadd : C.L :: (_ : St).addrs = C.L :: σ'.addrs := congrArg (C.L :: ·) (ha.1 σ' ds[j])
    rw [hadd] at k₄
    have to4 : ∀ a o, Fix a o → h₂.get? a = some o → a ∉ C.L :: σ'.addrs → h₄.get? a = some o := fun a o f e hx => k₄ a o hx f (k₃ a o (fun m => hx (by rw [List.mem_singleton] at m; subst m; exact .head _)) f e)
    have St₄ : it.St (j + 1) h₄ := it.walks.frame (j + 1) h₂ h₄ hSt₂ fun b hb o e => to4 b o (.inl (it.apart b hb).2.1) e fun m => by
      obtain ⟨hx, _, ob, hob⟩ := it.apart b hb
      exact apart b ob hob hx (by
        rcases List.mem_cons.mp m with rfl | m
        · exact .head _
        · exact .tail _ (List.mem_append_right _ m))
    have K₄ : KpB (I :: C.L :: σ.addrs) h₁ h₄ := fun b o hb f e => by
      have hne : b ≠ I := fun z => hb (z ▸ .head _)
      have e' := hk b o hb f e
      refine to4 b o f (hk₂ b o (fun z => hne (List.mem_singleton.mp z)) e') fun m => ?_
      rcases List.mem_cons.mp m with rfl | m
      · exact hb (.tail _ (.head _))
      · rcases hnew b m with z | z
        · exact hb (.tail _ (.tail _ z))
        · rw [z] at e; cases e
    have N₄ : ∀ a ∈ σ''.addrs, a ∈ σ.addrs ∨ h₁.get? a = none := fun a ha' => by
      rcases g₄ a ha' with z | z
      · rw [ha.1] at z; exact hnew a z
      · by_cases m : a ∈ σ.addrs
        · exact .inl m
        · refine .inr ?_
          cases e : h₁.get? a with
          | none => rfl
          | some o =>
            exfalso
            have hL := O₄.objL a ha'
            have z' : h₃.get? a = none := z
            by_cases hne : a = I
            · subst hne
              obtain ⟨o₂, e₂, _⟩ := it.kind (j + 1) h₂ hSt₂
              rw [k₃ a o₂ (fun m => hL (List.mem_singleton.mp m)) (.inl hIT) e₂] at z'; cases z'
            · have e' := hk a o (fun q => by
                rcases List.mem_cons.mp q with q | q
                · exact hne q
                · rcases List.mem_cons.mp q with q | q
                  · exact hL q
                  · exact m q) (.inl (O₄.objT a ha')) e
              rw [k₃ a o (fun q => hL (List.mem_singleton.mp q)) (.inl (O₄.objT a ha')) (hk₂ a o (fun q => hne (List.mem_singleton.mp q)) e')] at z'; cases z'
    cases hf with
    | next => exact ⟨ds.length - (j + 1), by omega, j + 1, σ'', rfl, hlt, hΦ, O₄, St₄, K₄, N₄, h₄, t₄, rfl⟩
    | cont => exact ⟨ds.length - (j + 1), by omega, j + 1, σ'', rfl, hlt, hΦ, O₄, St₄, K₄, N₄, h₄, t₄, rfl⟩
    | brk => exact fin _ .next σ'' h₄ t₄ .next O₄ K₄ N₄ hΦ
    | ret r => exact fin _ _ σ'' h₄ t₄ (.ret r) O₄ K₄ N₄ hΦ
  · refine it.walks.done _ _ _ hSt fun h₂ t₂ hk₂ => ?_
    have hk₂' : ∀ b ob, b ≠ I → h'.get? b = some ob → h₂.get? b = some ob := fun b ob hb e => hk₂ b ob (fun z => hb (List.mem_singleton.mp z)) e
    exact wpAny_execs_nil (fin _ .next σ' h₂ t₂ .next (O'.turn hoI' hns hnc hIL hI0 hk₂') (fun b o hb f e => hk₂ b o (fun z => hb (List.mem_singleton.mp z ▸ .head _)) (hk b o hb f e)) hnew (hend σ' hJ))
theorem ex_for (W : Wf C) {x : PySem.Str} {p : Pos} {iter : Expr} {body : List Stmt} {q : Pos} {ds : List D} (i : Nat) (hx : C.names[i]? = some x) (hi : EvIt C σ iter ds) (J : Nat → St → Prop) (h0 : J 0 σ)
    (turn : ∀ n d σ', ds[n]? = some d → J n σ' → Exs C (σ'.set i d) body fun fl σ'' => match fl with | .next | .cont => J (n + 1) σ'' | .brk => Φ .next σ'' | .ret r => Φ (.ret r) σ'')
    (hend : ∀ σ', J ds.length σ' → Φ .next σ') (hs : notSet iter = true := by rfl) : Ex C σ (.For (.Name x p) iter body [] q) Φ :=
  ex_for_gen W (asg_name W i hx) (fun _ _ => trivial) hi J h0 turn hend hs
end
end Mine
-- part FW5
namespace Mine
section
variable {C : Cx} {σ : St} {Φ : Fl → St → Prop}
/-- names in a tuple of targets -/
inductive Tg (C : Cx) : List Expr → List Nat → Prop
  | nil : Tg C [] []
  | cons {x : PySem.Str} {p : Pos} {es : List Expr} {is : List Nat} (i : Nat) (hx : C.names[i]? = some x) : Tg C es is → Tg C (.Name x p :: es) (i :: is)
theorem setL_snoc : ∀ (l : List (Nat × D)) (σ : St) (i : Nat) (d : D), setL σ (l ++ [(i, d)]) = (setL σ l).set i d
  | [], _, _, _ => rfl
  | (j, e) :: r, σ, i, d => setL_snoc r _ i d
theorem tg_assign (W : Wf C) : ∀ {es : List Expr} {is : List Nat}, Tg C es is → ∀ {σ : St} {vs : List Value} {ds : List D} {s : Shared} {Q : Unit → Shared → Prop} {E : Value → Shared → Prop}, Ok C s.heap σ → Reps (C.ex σ) s.heap vs ds → is.length = ds.length →
    (∀ h' t', Ok C h' (setL σ (is.zip ds)) → KpB [C.L] s.heap h' → Q () { s with heap := h', toks := t' }) → wpAny C.M C.A (assignInOrder ((assignEach es C.env).map (·.2)) vs) Q E s
  | _, _, .nil, σ, _, _, s, Q, E, O, .nil, _, h => wpAny_assignInOrder_none (h s.heap s.toks O KpB.refl)
  | _, _, .nil, σ, _, _, s, Q, E, O, .cons _ _, hl, h => by cases hl
  | _, _, .cons i hx t, σ, _, _, s, Q, E, O, .nil, hl, h => by cases hl
  | _, _, .cons i hx t, σ, _, _, s, Q, E, O, .cons r rs, hl, h => by
    refine wpAny_assignInOrder_more (wpAny_assign_Name (store_ok W hx O r fun h₁ t₁ O₁ k₁ => ?_))
    have rs₁ : Reps (C.ex σ) h₁ _ _ := rs.walk fun a o ha e q => ⟨k₁ a o (fun m => ha (by rw [List.mem_singleton] at m; subst m; exact .head _)) q.fix e, ha⟩
    exact tg_assign W t O₁ rs₁ (by simpa using hl) fun h₂ t₂ O₂ k₂ => h h₂ t₂ O₂ (kpB_trans k₁ k₂)
theorem assignEach_len : ∀ {es : List Expr} {is : List Nat}, Tg C es is → (assignEach es C.env).length = is.length ∧ (assignEach es C.env).findIdx? (·.1) = none
  | _, _, .nil => ⟨rfl, rfl⟩
  | _, _, .cons i hx t => by
    obtain ⟨a, b⟩ := assignEach_len t
    refine ⟨by simpa [assignEach] using a, ?_⟩
    simp only [assignEach, List.findIdx?_cons, b]
    rfl
theorem ex_tuple (W : Wf C) {es : List Expr} {is : List Nat} {k : Nat} {tp p : Pos} {e : Expr} {ds : List D} (t : Tg C es is) (he : Ev C σ e (.tup ds)) (hl : is.length = ds.length) (h : Φ .next (setL σ (is.zip ds)))
    (hs : noComp e = true := by rfl) (hw : noTuple e = true := by rfl) : Ex C σ (.Assign [.Tuple es k tp] e p) Φ := .mk fun s Q E O kk =>
  Assign_Tuple (he.run s _ E O fun v h₁ t₁ k₁ r₁ => by
    cases r₁ with
    | tup ht ha rs =>
      obtain ⟨a, b⟩ := assignEach_len t
      refine assign_Tuple_tuple W.handled ht (by rw [a, List.size_toArray, rs.length, hl]) b fun h₂ e₂ => ?_
      have k₂ := Kp.ofExtBut e₂
      rw [List.toList_toArray]
      exact tg_assign W t ((O.keep k₁).keep k₂) (rs.keep k₂) hl fun h₃ t₃ O₃ k₃ => kk _ .next _ h₃ t₃ .next O₃ (kpB_kp (k₁.trans k₂) (kpB_weak k₃ mem_L)) (fun a ha => .inl (by rw [setL_addrs] at ha; exact ha)) h) (sole_of hs _ _ _) (stores_of hw _ _)
theorem tg_names (W : Wf C) : ∀ (is : List Nat) (xs : List PySem.Str), (∀ (j : Nat) i, is[j]? = some i → ∃ x, xs[j]? = some x ∧ C.names[i]? = some x) → is.length = xs.length → ∀ {σ : St} {vs : List Value} {ds : List D} {s : Shared} {Q : Unit → Shared → Prop} {E : Value → Shared → Prop}, Ok C s.heap σ → Reps (C.ex σ) s.heap vs ds → is.length = ds.length →
    (∀ h' t', Ok C h' (setL σ (is.zip ds)) → KpB [C.L] s.heap h' → Q () { s with heap := h', toks := t' }) → wpAny C.M C.A (assignInOrder (xs.map fun n => bindName C.env n) vs) Q E s
  | [], [], _, _, σ, _, _, s, Q, E, O, .nil, _, h => wpAny_assignInOrder_none (h s.heap s.toks O KpB.refl)
  | [], [], _, _, σ, _, _, s, Q, E, O, .cons _ _, hl, h => by cases hl
  | [], _ :: _, _, hx, σ, _, _, s, Q, E, O, _, hl, h => by cases hx
  | _ :: _, [], _, hx, σ, _, _, s, Q, E, O, _, hl, h => by cases hx
  | i :: is, x :: xs, hx, hlx, σ, _, _, s, Q, E, O, .nil, hl, h => by cases hl
  | i :: is, x :: xs, hx, hlx, σ, _, _, s, Q, E, O, .cons r rs, hl, h => by
    have hx0 : C.names[i]? = some x := by
      obtain ⟨y, h1, h2⟩ := hx 0 i rfl
      cases h1; exact h2
    refine wpAny_assignInOrder_more (wpAny_bindName (store_ok W hx0 O r fun h₁ t₁ O₁ k₁ => ?_))
    have rs₁ : Reps (C.ex σ) h₁ _ _ := rs.walk fun a o ha e q => ⟨k₁ a o (fun m => ha (by rw [List.mem_singleton] at m; subst m; exact .head _)) q.fix e, ha⟩
    exact tg_names W is xs (fun j i' e => hx (j + 1) i' e) (by simpa using hlx) O₁ rs₁ (by simpa using hl) fun h₂ t₂ O₂ k₂ => h h₂ t₂ O₂ (kpB_trans k₁ k₂)
/-- stores in the turned order: a, b = x, y -/
theorem ex_tuple_swap (W : Wf C) {es : List Expr} {is : List Nat} {xs : List PySem.Str} {k : Nat} {tp p : Pos} {e : Expr} {ds : List D} (he : Ev C σ e (.tup ds)) (hx : ∀ (j : Nat) i, is.reverse[j]? = some i → ∃ x, xs.reverse[j]? = some x ∧ C.names[i]? = some x) (hlx : is.length = xs.length) (hl : is.length = ds.length) (h : Φ .next (setL σ (is.reverse.zip ds.reverse)))
    (hw : swappedStores [.Tuple es k tp] e C.env = pure (some xs)) (hs : noComp e = true := by rfl) : Ex C σ (.Assign [.Tuple es k tp] e p) Φ := .mk fun s Q E O kk =>
  Assign_Tuple_swapped (names := xs) (he.run s _ E O fun v h₁ t₁ k₁ r₁ => by
    cases r₁ with
    | @tup _ vs _ ht ha rs =>
      have hsz : xs.length = vs.toArray.size := by rw [List.size_toArray, rs.length, ← hl, hlx]
      rw [hsz]
      refine unpackItems_tuple W.handled ht fun h₂ e₂ => ?_
      have k₂ := Kp.ofExtBut e₂
      rw [List.toList_toArray]
      exact tg_names W is.reverse xs.reverse hx (by simpa using hlx) ((O.keep k₁).keep k₂) (rs.keep k₂).reverse (by simpa using hl) fun h₃ t₃ O₃ k₃ => kk _ .next _ h₃ t₃ .next O₃ (kpB_kp (k₁.trans k₂) (kpB_weak k₃ mem_L)) (fun a ha => .inl (by rw [setL_addrs] at ha; exact ha)) h) (sole_of hs _ _ _) hw
/-- a def from its body -/
theorem lookup_zip : ∀ (ps : List PySem.Str) (vs : List Value) (i : Nat) (x : PySem.Str), ps.Nodup → ps.length = vs.length → ps[i]? = some x → (ps.zip vs).reverse.lookup x = vs[i]?
  | [], _, i, x, _, _, h => by simp at h
  | p :: ps, [], i, x, _, hl, _ => by cases hl
  | p :: ps, v :: vs, i, x, hn, hl, h => by
    have hn' := List.nodup_cons.mp hn
    rw [List.zip_cons_cons, List.reverse_cons, List.lookup_append]
    cases i with
    | zero =>
      simp only [List.getElem?_cons_zero, Option.some.injEq] at h ⊢
      subst h
      have : (ps.zip vs).reverse.lookup p = none := by
        rw [List.lookup_eq_none_iff]
        intro q hq
        rw [List.mem_reverse] at hq
        have := (List.of_mem_zip hq).1
        simp only [bne_iff_ne, ne_eq, beq_eq_false_iff_ne]
        rintro rfl
        exact hn'.1 this
      rw [this]
      simp [List.lookup]
    | succ i =>
      simp only [List.getElem?_cons_succ] at h ⊢
      rw [lookup_zip ps vs i x hn'.2 (by simpa using hl) h]
      have hi : i < vs.length := by
        rcases List.getElem?_eq_some_iff.mp h with ⟨q, _⟩
        simp only [List.length_cons] at hl; omega
      rw [List.getElem?_eq_getElem hi]
      rfl
theorem ns_hide {h : Heap} {a : Addr} {m : PySem.Str → Option Value} (x : h.Ns a m) (ha : a ∉ TT) : (hideAll h TT).Ns a m :=
  let ⟨o, es, ep, e, r⟩ := x; ⟨o, es, ep, hideAll_get _ e ha, r⟩
theorem fn_of_body {B : Bs} {f : Addr} {fd : FuncData} {body : List Stmt} {ps names : List PySem.Str} {ds : List D} {r : D} {k : Nat} {oc : Value} {od : Option Addr} {osl : Array (Option Value)}
    (ho : B.K.lookup f = some ⟨oc, od, .func fd, osl⟩) (hcd : codeIn B.K fd.code fd.qualname = true) (hbody : fd.body = .stmts body) (hbind : ∀ vs : List Value, vs.length = ps.length → bindArgs fd ⟨vs, []⟩ = pure (ps.zip vs))
    (hps : ps.length = ds.length) (hnd : names.Nodup) (hn : names.take ps.length = ps) (hloc : ∀ x ∈ names, fd.scope.names.lookup x = some .local) (hcell : ∀ x ∈ fd.scope.names, x.2 ≠ .cell) (hk : fd.scope.kind = .function) (hco : fd.scope.isCoroutine = false) (hgen : fd.scope.isGenerator = false)
    (hgl : fd.globals = mainGlobals) (hbl : fd.builtins = builtinsNs)
    (H : ∀ (A : Around) (L : Addr) (h₀ : Heap) (X : List Addr), Wf ⟨B, A, callEnv fd L f, h₀, X, names, []⟩ → A.depth + k < recursionLimit → A.units + 8 * k < cLine →
      Exs ⟨B, A, callEnv fd L f, h₀, X, names, []⟩ ⟨ds.map some ++ List.replicate (names.length - ds.length) none, []⟩ body (fun fl _ => fl = .ret r ∨ (fl = .next ∧ r = .none))) : Fn B f (k + 1) ds r := by
  constructor
  intro A s X vs Q E hB hTb hX hrep hh hdep hun hQ
  have hvl : vs.length = ps.length := hrep.length.trans hps.symm
  have hpn : ps.Nodup := by rw [← hn]; exact hnd.take
  have hpin : ∀ x ∈ ps, x ∈ names := fun x hx => by rw [← hn] at hx; exact List.mem_of_mem_take hx
  refine wpAny_call (codeAny_call_def (o := ⟨oc, od, .func fd, osl⟩) (fd := fd) (body := body) (binds := ps.zip vs) (by omega) (hB.K _ _ ho) rfl hB.lim (codeRec_of hB.K hcd) hbody (.of_eq (hbind vs hvl)) hcell (fun x hx => hloc _ (hpin _ (List.of_mem_zip hx).1)) (fun h₁ hns hkp => ?_) hco hgen hk)
  have hBg : B.In (hideAll s.heap TT) :=
    ⟨fun a o e => hideAll_get _ (hB.K a o e) (B.hT a o e), ns_hide hB.g (by decide), ns_hide hB.b (by decide), let ⟨mc, n, r⟩ := hB.lim; ⟨mc, ns_hide n (by decide), r⟩⟩
  have hW : Wf ⟨B, A.deeper (callEnv fd s.heap.objs.size f), callEnv fd s.heap.objs.size f, hideAll s.heap TT, X, names, []⟩ :=
    { kind := hk, gl := hgl, bl := hbl, loc := fun x hx => hloc x hx, nd := hnd, base := hBg, old := fun x hx => let ⟨h1, o, e⟩ := hX x hx; ⟨o, hideAll_get _ e h1⟩, handled := hh, cons := fun x d hx => (nomatch hx) }
  have hd1 : (A.deeper (callEnv fd s.heap.objs.size f)).depth = A.depth + 1 := rfl
  have hu1 : (A.deeper (callEnv fd s.heap.objs.size f)).units = A.units + 3 := rfl
  have O : Ok ⟨B, A.deeper (callEnv fd s.heap.objs.size f), callEnv fd s.heap.objs.size f, hideAll s.heap TT, X, names, []⟩ h₁ ⟨ds.map some ++ List.replicate (names.length - ds.length) none, []⟩ := by
    refine ⟨⟨_, ⟨hns, fun b o e => hkp b o (of_hideAll _ e), Nat.le_of_eq (hideAll_size _ _)⟩, fun i x d h1 h2 => ?_⟩, fun a l h => (nomatch h), .nil, hTb.full hkp, fun t ht => hideAll_none _ ht⟩
    have hi : i < ds.length := by
      by_cases q : i < ds.length
      · exact q
      · exfalso
        rw [List.getElem?_append_right (by simpa using Nat.le_of_not_lt q)] at h2
        rw [List.getElem?_replicate] at h2
        split at h2 <;> cases h2
    have e1 : ds[i]? = some d := by
      rw [List.getElem?_append_left (by simpa using hi), List.getElem?_map] at h2
      cases z : ds[i]? with
      | none => rw [z] at h2; cases h2
      | some d' => rw [z] at h2; cases h2; rfl
    have hp : ps[i]? = some x := by
      rw [← hn, List.getElem?_take_of_lt (by omega)]; exact h1
    obtain ⟨v, hv, rv⟩ := hrep.get e1
    refine ⟨v, (lookup_zip ps vs i x hpn hvl.symm hp).trans hv, rv.walk fun a o ha e _ => ⟨hkp a o e, fun m => ?_⟩⟩
    rcases List.mem_cons.mp m with m | m
    · exact absurd (Heap.lt_size e) (by rw [m]; exact Nat.lt_irrefl _)
    · rcases List.mem_append.mp m with m | m
      · exact ha m
      · cases m
  refine wpAny_mono ((H _ _ _ X hW (by omega) (by omega)).run { s with heap := h₁, toks := s.toks + (ps.zip vs).length } (fun fl s' => Q (match fl with | .ret v => v | _ => .none) s') (fun _ _ => False) O fun fl fl' σ' h' t' hf O' kp' nw hΦ => ?_) (fun fl s' h => h) (fun _ _ h => h.elim)
  have kk : Kp s.heap h' := ⟨fun b o f e => O'.kp0 b o (hideAll_get _ e (f.elim id fun hc => hTb.ne e (.inl hc))), fun _ => O'.tab⟩
  rcases hΦ with rfl | ⟨rfl, rfl⟩
  · cases hf with
    | ret r' => exact hQ _ h' t' kk (r'.mono fun a ha => .tail _ (List.mem_append_left _ ha))
  · cases hf; exact hQ _ h' t' kk .none
end
end Mine
-- part FW6
namespace Mine
section
variable {C : Cx} {σ : St} {Φ : Fl → St → Prop}
/-- a list's items, frozen or the frame's own -/
inductive LstOf (σ : St) : D → List D → Prop
  | lst (ds : List D) : LstOf σ (.lst ds) ds
  | obj {a : Addr} {ds : List D} : (a, ds) ∈ σ.objs → LstOf σ (.obj a) ds
theorem LstOf.get {h : Heap} {v : Value} {d : D} {ds : List D} (L : LstOf σ d ds) (O : Ok C h σ) (r : Rep (C.ex σ) h v d) : ∃ l vs, v = .ref l ∧ h.IsList l vs.toArray ∧ Reps (C.ex σ) h vs ds := by
  cases L with
  | lst =>
    cases r with
    | lst hl _ rs => exact ⟨_, _, rfl, hl, rs⟩
  | obj hm =>
    cases r
    obtain ⟨vs, n, e, rs, _⟩ := O.objs _ _ hm
    exact ⟨_, vs, rfl, ⟨_, e, rfl, n, rfl⟩, rs⟩
theorem reps_get {X : List Addr} {h : Heap} {vs : List Value} {ds : List D} {i : Nat} {d : D} (r : Reps X h vs ds) (e : ds[i]? = some d) : ∃ v, vs.toArray[i]? = some v ∧ Rep X h v d := by
  obtain ⟨v, e', r'⟩ := r.get e
  exact ⟨v, by simpa using e', r'⟩
theorem ev_item {a i : Expr} {p : Pos} {d x : D} {ds : List D} {k : Int} (ha : Ev C σ a d) (hl : LstOf σ d ds) (hi : Ev C σ i (.int k)) (h0 : 0 ≤ k) (hk : k < 2 ^ 63) (hx : ds[k.toNat]? = some x)
    (hs : notSlice i = true := by rfl) : Ev C σ (.Subscript a i p) x := .mk fun s Q E O h =>
  Subscript_ (ha.run s _ E O fun v h₁ t₁ k₁ r₁ => hi.run _ _ E (O.keep k₁) fun u h₂ t₂ k₂ r₂ => by
    obtain ⟨l, vs, rfl, il, rs⟩ := hl.get ((O.keep k₁).keep k₂) (r₁.keep k₂)
    cases r₂
    obtain ⟨y, e, ry⟩ := reps_get rs hx
    exact tail_any il.typeIs slot_list_getitem.lookup (wpAny_getItem_list il h0 hk e (h y h₂ t₂ (k₁.trans k₂) ry)) (sub_of hs _ _))
theorem ev_item_neg {a i : Expr} {p : Pos} {d x : D} {ds : List D} {k : Int} (ha : Ev C σ a d) (hl : LstOf σ d ds) (hi : Ev C σ i (.int k)) (h0 : k < 0) (hk : -(ds.length : Int) ≤ k) (hf : -(2 ^ 63) ≤ k) (hx : ds[(k + ds.length).toNat]? = some x)
    (hs : notSlice i = true := by rfl) : Ev C σ (.Subscript a i p) x := .mk fun s Q E O h =>
  Subscript_ (ha.run s _ E O fun v h₁ t₁ k₁ r₁ => hi.run _ _ E (O.keep k₁) fun u h₂ t₂ k₂ r₂ => by
    obtain ⟨l, vs, rfl, il, rs⟩ := hl.get ((O.keep k₁).keep k₂) (r₁.keep k₂)
    cases r₂
    obtain ⟨y, e, ry⟩ := reps_get rs hx
    have hz : vs.toArray.size = ds.length := by rw [List.size_toArray, rs.length]
    exact tail_any il.typeIs slot_list_getitem.lookup (wpAny_getItem_list_neg il h0 (by rw [hz]; exact hk) hf (by rw [hz]; exact e) (h y h₂ t₂ (k₁.trans k₂) ry)) (sub_of hs _ _))
theorem ev_item_tup {a i : Expr} {p : Pos} {x : D} {ds : List D} {k : Int} {j : Nat} (ha : Ev C σ a (.tup ds)) (hi : Ev C σ i (.int k)) (hlo : -(2 ^ 63) ≤ k) (hhi : k < 2 ^ 63) (hj : seqIndex? k ds.length = some j) (hx : ds[j]? = some x)
    (hs : notSlice i = true := by rfl) : Ev C σ (.Subscript a i p) x := .mk fun s Q E O h =>
  Subscript_ (ha.run s _ E O fun v h₁ t₁ k₁ r₁ => hi.run _ _ E (O.keep k₁) fun u h₂ t₂ k₂ r₂ => by
    cases r₂
    cases r₁ with
    | tup ht _ rs =>
      have rs₂ := rs.keep k₂
      obtain ⟨y, e, ry⟩ := rs₂.get hx
      exact item_tupleT (isTup_kpB (xs := []) ht (Kp.but k₂) (fun q => by cases q)) hlo hhi (by rw [rs.length]; exact hj) e (h y h₂ t₂ (k₁.trans k₂) ry) (sub_of hs _ _))
theorem ev_len (W : Wf C) {p q : Pos} {e : Expr} {d : D} {ds : List D} (hk : C.env.kindOf (PySem.Str.ofString "len") = some .globalImplicit) (hg : C.B.mg (PySem.Str.ofString "len") = none) (hb : C.B.mb (PySem.Str.ofString "len") = some (.builtin "len")) (he : Ev C σ e d) (hl : LstOf σ d ds) (hz : ds.length < 2 ^ 60)
    (hn : nst e = true := by rfl) : Ev C σ (.Call (.Name (PySem.Str.ofString "len") p) [e] [] q) (.int ds.length) :=
  ev_call_builtin W hk hg hb (evs_cons he evs_nil hn) (fun s Q E vs O rs h => by
    cases rs with
    | cons r1 rn =>
      cases rn
      obtain ⟨l, ws, rfl, il, rs⟩ := hl.get O r1
      have hsz : ws.toArray.size = ds.length := by rw [List.size_toArray, rs.length]
      refine len_list il (by rw [hsz]; omega) ?_
      rw [hsz]
      exact h _ _ _ Kp.refl (.int _ _)) (by simp [nsts, hn])
theorem ev_lens (W : Wf C) {p q : Pos} {e : Expr} {x : PySem.Str} (hk : C.env.kindOf (PySem.Str.ofString "len") = some .globalImplicit) (hg : C.B.mg (PySem.Str.ofString "len") = none) (hb : C.B.mb (PySem.Str.ofString "len") = some (.builtin "len")) (he : Ev C σ e (.str x)) (hz : x.length < 2 ^ 60)
    (hn : nst e = true := by rfl) : Ev C σ (.Call (.Name (PySem.Str.ofString "len") p) [e] [] q) (.int x.length) :=
  ev_call_builtin W hk hg hb (evs_cons he evs_nil hn) (fun s Q E vs O rs h => by
    cases rs with
    | cons r1 rn => cases rn; cases r1; exact P.len_str (by omega) (h _ _ _ Kp.refl (.int _ _))) (by simp [nsts, hn])
theorem ev_ord (W : Wf C) {p q : Pos} {e : Expr} {c : Nat} (hk : C.env.kindOf (PySem.Str.ofString "ord") = some .globalImplicit) (hg : C.B.mg (PySem.Str.ofString "ord") = none) (hb : C.B.mb (PySem.Str.ofString "ord") = some (.builtin "ord")) (he : Ev C σ e (.str ⟨⟨[c]⟩⟩))
    (hn : nst e = true := by rfl) : Ev C σ (.Call (.Name (PySem.Str.ofString "ord") p) [e] [] q) (.int c) :=
  ev_call_builtin W hk hg hb (evs_cons he evs_nil hn) (fun s Q E vs O rs h => by
    cases rs with
    | cons r1 rn => cases rn; cases r1; exact P.ord_of_char (h _ _ _ Kp.refl (.int _ _))) (by simp [nsts, hn])
theorem ev_chr (W : Wf C) {p q : Pos} {e : Expr} {i : Int} (hk : C.env.kindOf (PySem.Str.ofString "chr") = some .globalImplicit) (hg : C.B.mg (PySem.Str.ofString "chr") = none) (hb : C.B.mb (PySem.Str.ofString "chr") = some (.builtin "chr")) (he : Ev C σ e (.int i)) (h0 : 0 ≤ i) (h1 : i ≤ 1114111)
    (hn : nst e = true := by rfl) : Ev C σ (.Call (.Name (PySem.Str.ofString "chr") p) [e] [] q) (.str ⟨⟨[i.toNat]⟩⟩) :=
  ev_call_builtin W hk hg hb (evs_cons he evs_nil hn) (fun s Q E vs O rs h => by
    cases rs with
    | cons r1 rn => cases rn; cases r1; exact chr_of_range h0 h1 (h _ _ _ Kp.refl (.str _ _))) (by simp [nsts, hn])
theorem ev_divmod (W : Wf C) {p q : Pos} {e f : Expr} {a b : Int} (hk : C.env.kindOf (PySem.Str.ofString "divmod") = some .globalImplicit) (hg : C.B.mg (PySem.Str.ofString "divmod") = none) (hb : C.B.mb (PySem.Str.ofString "divmod") = some (.builtin "divmod")) (he : Ev C σ e (.int a)) (hf : Ev C σ f (.int b)) (h0 : b ≠ 0) (hp : Builtin.divisionGoesByPylong a b = false)
    (hn : nst e = true := by rfl) (hn' : nst f = true := by rfl) : Ev C σ (.Call (.Name (PySem.Str.ofString "divmod") p) [e, f] [] q) (.tup [.int (a.fdiv b), .int (a.fmod b)]) :=
  ev_call_builtin W hk hg hb (evs_cons he (evs_cons hf evs_nil hn') hn) (fun s Q E vs O rs h => by
    cases rs with
    | cons r1 rn =>
      cases rn with
      | cons r2 rn =>
        cases rn; cases r1; cases r2
        exact divmod_int h0 (h _ _ _ Kp.push (.tup (vs := [_, _]) ⟨_, Heap.get?_push_size _ rfl, rfl, _, rfl⟩ (O.freshA W) (.cons (.int _ _) (.cons (.int _ _) .nil)))) (.inl hp)) (by simp [nsts, hn, hn'])
theorem ev_meth0 {o : Expr} {name : PySem.Str} {apos pos : Pos} {d r : D} {id : String} {pl : Sem Bool} (ha : Ev C σ o d)
    (hget : ∀ (s : Shared) (v : Value) (Q : Value × List Value → Shared → Prop) (E : Value → Shared → Prop), Ok C s.heap σ → Rep (C.ex σ) s.heap v d → Q (.builtin id, [v]) s → wpAny C.M C.A (getMethod v name pl) Q E s)
    (hc : ∀ (s : Shared) (Q E : Value → Shared → Prop) (v : Value), Ok C s.heap σ → Rep (C.ex σ) s.heap v d → (∀ v h' t', Kp s.heap h' → Rep (C.ex σ) h' v r → Q v { s with heap := h', toks := t' }) → wpAny C.M C.A (call (.builtin id) [v]) Q E s)
    (he : eval (.Call (.Attribute o name apos) [] [] pos) C.env = (do
      let ov ← eval o C.env
      standAt apos.atName
      let (f, first) ← holding [ov] (getMethod ov name pl)
      callWith pos f first (backTo pos (starEach [] C.env)) []) := by rfl) : Ev C σ (.Call (.Attribute o name apos) [] [] pos) r := .mk fun s Q E O h =>
  MethodCall_ (ha.run s _ E O fun v h₁ t₁ k₁ r₁ => hget { s with heap := h₁, toks := t₁ } v _ _ (O.keep k₁) r₁ (callWith_method0 (hc { s with heap := h₁, toks := t₁ } _ _ v (O.keep k₁) r₁ fun z h₂ t₂ k₂ r₂ => h z h₂ t₂ (k₁.trans k₂) r₂))) he
theorem ev_bitlen {o : Expr} {apos pos : Pos} {x : Int} {pl : Sem Bool} (ha : Ev C σ o (.int x))
    (he : eval (.Call (.Attribute o (PySem.Str.ofString "bit_length") apos) [] [] pos) C.env = (do
      let ov ← eval o C.env
      standAt apos.atName
      let (f, first) ← holding [ov] (getMethod ov (PySem.Str.ofString "bit_length") pl)
      callWith pos f first (backTo pos (starEach [] C.env)) []) := by rfl) : Ev C σ (.Call (.Attribute o (PySem.Str.ofString "bit_length") apos) [] [] pos) (.int (Builtin.Int.intBits x)) :=
  ev_meth0 (id := "int.bit_length") ha (fun s v Q E O r h => by cases r; exact getMethod_int_bit_length h) (fun s Q E v O r h => by cases r; exact call_int_bit_length (h _ _ _ Kp.refl (.int _ _))) he
end
end Mine
-- part FW7
namespace Mine
section
variable {C : Cx} {σ : St} {Φ : Fl → St → Prop}
theorem no_seq {o : Obj} {T : String} (h : o.cls = .type T) (h1 : T ≠ "tuple") (h2 : T ≠ "list") (h3 : T ≠ "dict" := by decide) : ¬ SeqO o := fun q => by
  rcases q with q | q | q <;> (rw [h] at q; cases q; first | exact h1 rfl | exact h2 rfl | exact h3 rfl)
theorem noC_iter {o : Obj} {v : Value} {i : Int} {t : Tok} {T : String} (h : o.cls = .type T) (hd : o.data = .fields #[v, .int i t]) : NoC o := fun vs e => by
  rw [hd] at e; cases e
  exact ⟨⟨i, t, rfl⟩, by rw [h]; nofun⟩
theorem listT {h : Heap} (x : TabOk h) {l : Addr} {vs : Array Value} (il : h.IsList l vs) : l ∉ TT := by
  obtain ⟨o, e, hc, _⟩ := il
  exact x.ne e (.inl (by rw [hc]; nofun))
theorem get_fresh {h : Heap} : h.get? h.objs.size = none := by
  cases e : h.get? h.objs.size with
  | none => rfl
  | some o => exact absurd (Heap.lt_size e) (Nat.lt_irrefl _)
theorem none_back {h h' : Heap} (k : Kp h h') {a : Addr} (ha : a ∉ TT) (e : h'.get? a = none) : h.get? a = none := by
  cases z : h.get? a with
  | none => rfl
  | some o => have := k.keep _ _ (.inl ha) z; rw [e] at this; cases this
theorem evIt_list (W : Wf C) {e : Expr} {ds : List D} (he : Ev C σ e (.lst ds)) : EvIt C σ e ds := .mk fun s Q E O h =>
  he.run s _ E O fun v h₁ t₁ k₁ r₁ => by
    have O₁ := O.keep k₁
    cases r₁ with
    | @lst l vs _ il ha rs =>
      obtain ⟨ol, hol, _⟩ := id il
      have hne : l ≠ h₁.objs.size := Nat.ne_of_lt (Heap.lt_size hol)
      refine wpAny_pyIter_list il ?_
      have hfr : s.heap.get? h₁.objs.size = none := by
        cases z : s.heap.get? h₁.objs.size with
        | none => rfl
        | some o => have := k₁.keep _ _ (.inl O₁.tab.fresh) z; rw [get_fresh] at this; cases this
      have hsz : vs.toArray.size = ds.length := by rw [List.size_toArray, rs.length]
      refine h h₁.objs.size _ t₁ (k₁.trans Kp.push) hfr ?_
      exact {
        fp := [h₁.objs.size, l]
        P := fun i v => vs.toArray[i]? = some v
        St := fun i h => h.IsListIter h₁.objs.size l i ∧ h.IsList l vs.toArray
        walks := hsz ▸ Walks.list W.handled h₁.objs.size l hne vs.toArray
        start := ⟨⟨_, Heap.get?_push_size _ rfl, rfl, rfl⟩, isList_kpB (xs := []) il (Kp.but Kp.push) (fun q => by cases q)⟩
        apart := fun b hb => by
          rcases List.mem_cons.mp hb with rfl | hb
          · exact ⟨O₁.freshA W, O₁.tab.fresh, _, Heap.get?_push_size _ rfl⟩
          · rw [List.mem_singleton] at hb; subst hb
            exact ⟨ha, listT O₁.tab il, _, Heap.get?_push_of_some _ hol⟩
        kind := fun j h' st => by
          obtain ⟨⟨o, ho, hc, hd⟩, _⟩ := st
          exact ⟨o, ho, no_seq hc (by decide) (by decide), noC_iter hc hd⟩
        items := fun i v d hP hd => by
          obtain ⟨v', e', r'⟩ := reps_get rs hd
          rw [e'] at hP; cases hP
          exact r'.keep Kp.push }
theorem evIt_str (W : Wf C) {e : Expr} {x : PySem.Str} (he : Ev C σ e (.str x)) : EvIt C σ e (x.cps.toList.map fun c => .str ⟨⟨[c]⟩⟩) := .mk fun s Q E O h =>
  he.run s _ E O fun v h₁ t₁ k₁ r₁ => by
    have O₁ := O.keep k₁
    cases r₁ with
    | str _ t =>
      have hfr : s.heap.get? h₁.objs.size = none := by
        cases z : s.heap.get? h₁.objs.size with
        | none => rfl
        | some o => have := k₁.keep _ _ (.inl O₁.tab.fresh) z; rw [get_fresh] at this; cases this
      have hsz : x.cps.size = (x.cps.toList.map fun c => D.str ⟨⟨[c]⟩⟩).length := by simp
      have items : ∀ (hh : Heap) (i : Nat) (v : Value) (d : D), SignAt x i v → (x.cps.toList.map fun c => D.str ⟨⟨[c]⟩⟩)[i]? = some d → Rep (C.ex σ) hh v d := fun hh i v d hP hd => by
        obtain ⟨c, u, hc, rfl⟩ := hP
        rw [List.getElem?_map, Array.getElem?_toList, hc] at hd
        cases hd
        exact .str _ _
      cases ha : x.cps.all (· < 128)
      · refine wpAny_pyIter_wide ha (h h₁.objs.size _ t₁ (k₁.trans Kp.push) hfr ?_)
        exact {
          fp := [h₁.objs.size]
          P := SignAt x
          St := fun i h => h.IsStrIter h₁.objs.size "str_iterator" x t i
          walks := hsz ▸ Walks.strWide W.handled _ x t
          start := ⟨_, Heap.get?_push_size _ rfl, rfl, rfl⟩
          apart := fun b hb => by rw [List.mem_singleton] at hb; subst hb; exact ⟨O₁.freshA W, O₁.tab.fresh, _, Heap.get?_push_size _ rfl⟩
          kind := fun j h' ⟨o, ho, hc, hd⟩ => ⟨o, ho, no_seq hc (by decide) (by decide), noC_iter hc hd⟩
          items := items _ }
      · refine wpAny_pyIter_ascii ha (h h₁.objs.size _ t₁ (k₁.trans Kp.push) hfr ?_)
        exact {
          fp := [h₁.objs.size]
          P := SignAt x
          St := fun i h => h.IsStrIter h₁.objs.size "str_ascii_iterator" x t i
          walks := hsz ▸ Walks.strAscii W.handled _ x t
          start := ⟨_, Heap.get?_push_size _ rfl, rfl, rfl⟩
          apart := fun b hb => by rw [List.mem_singleton] at hb; subst hb; exact ⟨O₁.freshA W, O₁.tab.fresh, _, Heap.get?_push_size _ rfl⟩
          kind := fun j h' ⟨o, ho, hc, hd⟩ => ⟨o, ho, no_seq hc (by decide) (by decide), noC_iter hc hd⟩
          items := items _ }
/-- the ints of a range -/
def rangeD (a : Int) (n : Nat) : List D := (List.range n).map fun i : Nat => .int (a + i)
theorem evIt_rangeOf (W : Wf C) {s : Shared} {Q E : Value → Shared → Prop} {r : Addr} {a b : Int} {t u v : Tok} (O : Ok C s.heap σ) (hr : IsRange s.heap r a b 1 t u v) (ha : -(2 ^ 62) ≤ a) (ha' : a < 2 ^ 62) (hb : -(2 ^ 62) ≤ b) (hb' : b < 2 ^ 62)
    (h : ∀ I h' t', Kp s.heap h' → s.heap.get? I = none → Iter C σ I (rangeD a (b - a).toNat) h' → Q (.ref I) { s with heap := h', toks := t' }) : wpAny C.M C.A (pyIter (.ref r)) Q E s := by
  refine wpAny_pyIter_range hr (small_one ha ha' hb hb') (h s.heap.objs.size _ s.toks Kp.push get_fresh ?_)
  have hsz : Builtin.Range.rangeSize a b 1 = ((b - a).toNat : Int) := by rw [rangeSize_one]; split <;> omega
  exact {
    fp := [s.heap.objs.size]
    P := fun i v => ∃ t, v = .int (a + i * 1) t
    St := fun i h => IsRangeIter h s.heap.objs.size (a + (i : Nat) * 1) (((b - a).toNat : Int) - (i : Nat)) 1
    walks := by
      rw [show (rangeD a (b - a).toNat).length = (b - a).toNat by simp [rangeD]]
      exact Walks.range W.handled _ a 1 (b - a).toNat
    start := by
      have e1 : (a + ((0 : Nat) : Int) * 1) = a := by simp
      have e2 : (((b - a).toNat : Int) - ((0 : Nat) : Int)) = Builtin.Range.rangeSize a b 1 := by rw [hsz]; simp
      rw [e1, e2]
      exact Heap.get?_push_size _ rfl
    apart := fun b hb => by rw [List.mem_singleton] at hb; subst hb; exact ⟨O.freshA W, O.tab.fresh, _, Heap.get?_push_size _ rfl⟩
    kind := fun j h' st => ⟨_, st, no_seq (T := "range_iterator") rfl (by decide) (by decide), fun vs e => by cases e; exact ⟨⟨_, _, rfl⟩, nofun⟩⟩
    items := fun i v d ⟨tk, hv⟩ hd => by
      subst hv
      simp only [rangeD, List.getElem?_map] at hd
      cases z : (List.range (b - a).toNat)[i]? with
      | none => rw [z] at hd; cases hd
      | some j =>
        rw [z] at hd
        have : j = i := by
          have := List.getElem?_eq_some_iff.mp z
          obtain ⟨q1, q2⟩ := this
          simpa using q2.symm
        subst this
        cases hd
        rw [Int.mul_one]
        exact .int _ _ }
theorem evIt_range1 (W : Wf C) {p q : Pos} {e : Expr} {n : Int} (hk : C.env.kindOf (PySem.Str.ofString "range") = some .globalImplicit) (hg : C.B.mg (PySem.Str.ofString "range") = none) (hb : C.B.mb (PySem.Str.ofString "range") = some (.type "range")) (he : Ev C σ e (.int n)) (h1 : -(2 ^ 62) ≤ n) (h2 : n < 2 ^ 62)
    (hn : nst e = true := by rfl) : EvIt C σ (.Call (.Name (PySem.Str.ofString "range") p) [e] [] q) (rangeD 0 n.toNat) := .mk fun s Q E O h => by
  refine Call_Name rfl (name_builtin W O hk hg hb ?_ rfl)
  refine PyProof.Rows.callWith_type (star_any (by simp [nsts, hn]) _ _) ?_
  rw [star_cons hn]
  refine evalArgs_plain (spliced_cons (he.run s _ E O fun v h₁ t₁ k₁ r₁ => spliced_nil ?_))
  obtain ⟨tk, rfl⟩ : ∃ tk, v = .int n tk := by cases r₁; exact ⟨_, rfl⟩
  refine call_range_1 ?_
  have O₁ := (O.keep k₁).keep (Kp.push (o := { cls := .type "range", data := .fields #[.int 0 t₁, .int n tk, .int 1 (t₁ + 1)] }))
  refine evIt_rangeOf W (s := { s with heap := _, toks := t₁ + 1 + 1 }) O₁ (IsRange.new ..) (by decide) (by decide) h1 h2 fun I h' t' k' hI it => ?_
  rw [show n - 0 = n by omega] at it
  refine h I h' t' (k₁.trans (Kp.push.trans k')) ?_ it
  exact none_back (k₁.trans Kp.push) (it.apart I (it.walks.sub I (.head _))).2.1 hI
theorem evIt_range2 (W : Wf C) {p q : Pos} {e f : Expr} {a b : Int} (hk : C.env.kindOf (PySem.Str.ofString "range") = some .globalImplicit) (hg : C.B.mg (PySem.Str.ofString "range") = none) (hb : C.B.mb (PySem.Str.ofString "range") = some (.type "range")) (he : Ev C σ e (.int a)) (hf : Ev C σ f (.int b)) (h1 : -(2 ^ 62) ≤ a) (h2 : a < 2 ^ 62) (h3 : -(2 ^ 62) ≤ b) (h4 : b < 2 ^ 62)
    (hn : nst e = true := by rfl) (hn' : nst f = true := by rfl) : EvIt C σ (.Call (.Name (PySem.Str.ofString "range") p) [e, f] [] q) (rangeD a (b - a).toNat) := .mk fun s Q E O h => by
  refine Call_Name rfl (name_builtin W O hk hg hb ?_ rfl)
  refine PyProof.Rows.callWith_type (star_any (by simp [nsts, hn, hn']) _ _) ?_
  rw [star_cons hn, star_cons hn']
  refine evalArgs_plain (spliced_cons (he.run s _ E O fun v h₁ t₁ k₁ r₁ => spliced_cons (hf.run _ _ E (O.keep k₁) fun u h₂ t₂ k₂ r₂ => spliced_nil ?_)))
  obtain ⟨tk, rfl⟩ : ∃ tk, v = .int a tk := by cases r₁; exact ⟨_, rfl⟩
  obtain ⟨uk, rfl⟩ : ∃ tk, u = .int b tk := by cases r₂; exact ⟨_, rfl⟩
  refine call_range_2 ?_
  have O₂ := ((O.keep k₁).keep k₂).keep (Kp.push (o := { cls := .type "range", data := .fields #[.int a tk, .int b uk, .int 1 t₂] }))
  refine evIt_rangeOf W (s := { s with heap := _, toks := t₂ + 1 }) O₂ (IsRange.new ..) h1 h2 h3 h4 fun I h' t' k' hI it => ?_
  refine h I h' t' (k₁.trans (k₂.trans (Kp.push.trans k'))) ?_ it
  exact none_back (k₁.trans (k₂.trans Kp.push)) (it.apart I (it.walks.sub I (.head _))).2.1 hI
theorem evIt_rev (W : Wf C) {p q : Pos} {e : Expr} {ds : List D} (hk : C.env.kindOf (PySem.Str.ofString "reversed") = some .globalImplicit) (hg : C.B.mg (PySem.Str.ofString "reversed") = none) (hb : C.B.mb (PySem.Str.ofString "reversed") = some (.type "reversed")) (he : Ev C σ e (.lst ds))
    (hn : nst e = true := by rfl) : EvIt C σ (.Call (.Name (PySem.Str.ofString "reversed") p) [e] [] q) ds.reverse := .mk fun s Q E O h => by
  refine Call_Name rfl (name_builtin W O hk hg hb ?_ rfl)
  refine PyProof.Rows.callWith_type (star_any (by simp [nsts, hn]) _ _) ?_
  rw [star_cons hn]
  refine evalArgs_plain (spliced_cons (he.run s _ E O fun v h₁ t₁ k₁ r₁ => spliced_nil ?_))
  have O₁ := O.keep k₁
  cases r₁ with
  | @lst l vs _ il ha rs =>
    obtain ⟨ol, hol, _⟩ := id il
    have hne : l ≠ h₁.objs.size := Nat.ne_of_lt (Heap.lt_size hol)
    refine call_reversed_list il ?_
    have hsz : vs.toArray.size = ds.reverse.length := by rw [List.size_toArray, rs.length, List.length_reverse]
    have il' : (h₁.push (revObj l ((vs.toArray.size : Int) - 1))).IsList l vs.toArray := isList_kpB (xs := []) il (Kp.but Kp.push) (fun q => by cases q)
    have st : (h₁.push (revObj l ((vs.toArray.size : Int) - 1))).IsRevIter h₁.objs.size l ((vs.toArray.size : Int) - 1) := ⟨_, Heap.get?_push_size _ rfl, rfl, rfl⟩
    refine wpAny_pyIter_revIter st (h h₁.objs.size _ t₁ (k₁.trans Kp.push) ?_ ?_)
    · exact none_back k₁ O₁.tab.fresh get_fresh
    · exact {
        fp := [h₁.objs.size, l]
        P := fun i v => vs.toArray[vs.toArray.size - 1 - i]? = some v
        St := fun i h => i ≤ vs.toArray.size ∧ h.IsRevIter h₁.objs.size l ((vs.toArray.size : Int) - 1 - (i : Int)) ∧ h.IsList l vs.toArray
        walks := hsz ▸ Walks.listRev W.handled h₁.objs.size l hne vs.toArray
        start := ⟨Nat.zero_le _, by simpa using st, il'⟩
        apart := fun b hb => by
          rcases List.mem_cons.mp hb with rfl | hb
          · exact ⟨O₁.freshA W, O₁.tab.fresh, _, Heap.get?_push_size _ rfl⟩
          · rw [List.mem_singleton] at hb; subst hb
            exact ⟨ha, listT O₁.tab il, _, Heap.get?_push_of_some _ hol⟩
        kind := fun j h' x => by
          obtain ⟨_, ⟨o, ho, hc, hd⟩, _⟩ := x
          exact ⟨o, ho, no_seq hc (by decide) (by decide), noC_iter hc hd⟩
        items := fun i v d hP hd => by
          have hi : i < ds.length := by
            have := List.getElem?_eq_some_iff.mp hd
            obtain ⟨q, _⟩ := this
            simpa using q
          rw [List.getElem?_reverse hi] at hd
          obtain ⟨v', e', r'⟩ := reps_get rs hd
          have hvl : vs.toArray.size = ds.length := by rw [List.size_toArray, rs.length]
          rw [hvl, e'] at hP; cases hP
          exact r'.keep Kp.push }
end
end Mine
-- part FW8
namespace Mine
section
variable {C : Cx} {σ : St} {Φ : Fl → St → Prop}
theorem Ok.addObj (W : Wf C) {h : Heap} {vs : List Value} {ds : List D} {n : Nat} (O : Ok C h σ) (rs : Reps (C.ex σ) h vs ds) : Ok C (h.push (lob vs n)) ⟨σ.vars, (h.objs.size, ds) :: σ.objs⟩ := by
  have hk : ∀ (a : Addr) (o : Obj), a ∉ C.ex σ → h.get? a = some o → SeqO o → (h.push (lob vs n)).get? a = some o ∧ a ∉ C.ex ⟨σ.vars, (h.objs.size, ds) :: σ.objs⟩ := fun a o ha e _ => ⟨Heap.get?_push_of_some _ e, fun m => by
    rcases List.mem_cons.mp m with rfl | m
    · exact ha (.head _)
    rcases List.mem_append.mp m with m | m
    · exact ha (.tail _ (List.mem_append_left _ m))
    · rcases List.mem_cons.mp m with rfl | m
      · exact absurd (Heap.lt_size e) (Nat.lt_irrefl _)
      · exact ha (.tail _ (List.mem_append_right _ m))⟩
  have hA := O.freshA W
  obtain ⟨⟨m, F, hv⟩, ho, hn, ht, hg⟩ := O
  refine ⟨⟨m, F.push _, fun i x d h1 h2 => ?_⟩, fun a es hm => ?_, ?_, Kp.push.tab ht, hg⟩
  · obtain ⟨v, e, r⟩ := hv i x d h1 h2
    exact ⟨v, e, r.walk hk⟩
  · rcases List.mem_cons.mp hm with q | q
    · cases q
      refine ⟨vs, n, Heap.get?_push_size _ rfl, rs.walk hk, ?_, fun z => hA (z ▸ .head _)⟩
      cases z : C.h₀.get? h.objs.size with
      | none => rfl
      | some o => exact absurd (Heap.lt_size (F.keep _ _ z)) (Nat.lt_irrefl _)
    · obtain ⟨ws, k, e, r, q1, q2⟩ := ho a es q
      exact ⟨ws, k, Heap.get?_push_of_some _ e, r.walk hk, q1, q2⟩
  · refine List.nodup_cons.mpr ⟨fun z => hA (.tail _ (List.mem_append_right _ z)), hn⟩
/-- a new list of the frame's own -/
theorem ex_own (W : Wf C) {x : PySem.Str} {p p' q : Pos} {es : List Expr} {ds : List D} (i : Nat) (hx : C.names[i]? = some x) (hs : Evs C σ es ds) (hz : Nat.ble ds.length 1000 = true) (h : ∀ a, a ∉ σ.addrs → Φ .next ⟨σ.vars.set i (some (.obj a)), (a, ds) :: σ.objs⟩) : Ex C σ (.Assign [.Name x p'] (.List es q) p) Φ := .mk fun s Q E O k =>
  wpAny_Assign_Name (List_ (hs.run q s _ E O fun vs h₁ t₁ k₁ rs => by
    have O₁ := O.keep k₁
    refine wpAny_newObj_type ?_ (by show vs.toArray.size ≤ sizeLine; rw [List.size_toArray, rs.length, sizeLine_eq]; have := Nat.le_of_ble_eq_true hz; omega)
    have O₂ := O₁.addObj W (n := 0) rs
    have hfr : h₁.objs.size ∉ σ.addrs := fun z => O₁.freshA W (.tail _ (List.mem_append_right _ z))
    refine store_ok W (σ := ⟨σ.vars, (h₁.objs.size, ds) :: σ.objs⟩) hx O₂ (.obj _) fun h₂ t₂ O₃ k₃ => k _ .next _ h₂ t₂ .next O₃ (kpB_kp (k₁.trans Kp.push) (kpB_weak k₃ mem_L)) (fun a ha => ?_) (h _ hfr)
    rcases List.mem_cons.mp ha with rfl | ha
    · refine .inr ?_
      exact none_back k₁ O₁.tab.fresh get_fresh
    · exact .inl ha)) (swaps_of rfl _ _ _)
/-- one list of the frame's own turned -/
inductive Up (a : Addr) (ds ds' : List D) : List (Addr × List D) → List (Addr × List D) → Prop
  | here {r : List (Addr × List D)} : Up a ds ds' ((a, ds) :: r) ((a, ds') :: r)
  | there {p : Addr × List D} {r r' : List (Addr × List D)} : Up a ds ds' r r' → Up a ds ds' (p :: r) (p :: r')
theorem Up.mem {a : Addr} {ds ds' : List D} : ∀ {l l' : List (Addr × List D)}, Up a ds ds' l l' → (a, ds) ∈ l
  | _, _, .here => .head _
  | _, _, .there u => .tail _ u.mem
theorem Up.addrs {a : Addr} {ds ds' : List D} : ∀ {l l' : List (Addr × List D)}, Up a ds ds' l l' → l'.map (·.1) = l.map (·.1)
  | _, _, .here => rfl
  | _, _, .there u => by simp only [List.map_cons, u.addrs]
theorem Up.cases' {a : Addr} {ds ds' : List D} : ∀ {l l' : List (Addr × List D)}, Up a ds ds' l l' → (l.map (·.1)).Nodup → ∀ b es, (b, es) ∈ l' → (b = a ∧ es = ds') ∨ (b ≠ a ∧ (b, es) ∈ l)
  | _, _, .here, hn, b, es, hm => by
    rcases List.mem_cons.mp hm with q | q
    · cases q; exact .inl ⟨rfl, rfl⟩
    · refine .inr ⟨?_, .tail _ q⟩
      rintro rfl
      exact (List.nodup_cons.mp hn).1 (List.mem_map_of_mem (f := (·.1)) q)
  | _, _, .there u, hn, b, es, hm => by
    rcases List.mem_cons.mp hm with q | q
    · refine .inr ⟨?_, q ▸ .head _⟩
      rintro rfl
      have := List.mem_map_of_mem (f := (·.1)) u.mem
      rw [← q] at hn
      exact (List.nodup_cons.mp hn).1 this
    · rcases u.cases' (List.nodup_cons.mp hn).2 b es q with z | z
      · exact .inl z
      · exact .inr ⟨z.1, .tail _ z.2⟩
theorem Ok.upObj {h h' : Heap} {a : Addr} {ds ds' : List D} {objs' : List (Addr × List D)} {vs' : List Value} {n' : Nat} (O : Ok C h σ) (u : Up a ds ds' σ.objs objs') (ha : h'.get? a = some (lob vs' n')) (rs : Reps (C.ex σ) h vs' ds') (k : ∀ b ob, b ≠ a → h.get? b = some ob → h'.get? b = some ob) : Ok C h' ⟨σ.vars, objs'⟩ := by
  have hex : C.ex ⟨σ.vars, objs'⟩ = C.ex σ := by
    show C.L :: (C.X ++ objs'.map (·.1)) = C.L :: (C.X ++ σ.objs.map (·.1))
    rw [u.addrs]
  have hin : a ∈ C.ex σ := .tail _ (List.mem_append_right _ (List.mem_map_of_mem (f := (·.1)) u.mem))
  have hk : ∀ (b : Addr) (o : Obj), b ∉ C.ex σ → h.get? b = some o → SeqO o → h'.get? b = some o ∧ b ∉ C.ex σ := fun b o hb e _ => ⟨k b o (fun z => by subst z; exact hb hin) e, hb⟩
  obtain ⟨⟨m, F, hv⟩, ho, hn, ht, hg⟩ := O
  obtain ⟨_, _, ea, _, q0, qL⟩ := ho a ds u.mem
  refine ⟨⟨m, ⟨?_, fun b o e => k b o (fun z => ?_) (F.keep b o e), F.above⟩, fun i x d h1 h2 => ?_⟩, fun b es hm => ?_, ?_, ht.one ea (SeqO.noC rfl) k, hg⟩
  · obtain ⟨oL, es, ep, e, r⟩ := F.ns
    exact ⟨oL, es, ep, k _ _ (fun z => qL z.symm) e, r⟩
  · subst z; rw [q0] at e; cases e
  · obtain ⟨v, e, r⟩ := hv i x d h1 h2
    exact ⟨v, e, hex ▸ r.walk hk⟩
  · rcases u.cases' hn b es hm with ⟨rfl, rfl⟩ | ⟨hne, hm'⟩
    · exact ⟨vs', n', ha, hex ▸ rs.walk hk, q0, qL⟩
    · obtain ⟨vs, n, e, r, q1, q2⟩ := ho b es hm'
      exact ⟨vs, n, k _ _ hne e, hex ▸ r.walk hk, q1, q2⟩
  · show (objs'.map (·.1)).Nodup
    rw [u.addrs]; exact hn
theorem ex_append (W : Wf C) {x : PySem.Str} {p px ap q : Pos} {e : Expr} {d : D} {a : Addr} {ds : List D} {objs' : List (Addr × List D)} {pl : Sem Bool} (i : Nat) (hx : C.names[i]? = some x) (hv : σ.vars[i]? = some (some (.obj a))) (he : Ev C σ e d) (u : Up a ds (ds ++ [d]) σ.objs objs') (hz : ds.length ≤ 100000) (h : Φ .next ⟨σ.vars, objs'⟩)
    (hn : nst e = true := by rfl)
    (hc : eval (.Call (.Attribute (.Name x px) (PySem.Str.ofString "append") ap) [e] [] q) C.env = (do
      let ov ← eval (.Name x px) C.env
      standAt ap.atName
      let (f, first) ← holding [ov] (getMethod ov (PySem.Str.ofString "append") pl)
      callWith q f first (backTo q (starEach [e] C.env)) []) := by rfl)
    (hi : interactive C.env = false := by rfl) (hb : (x == ("__debug__" : PySem.Str)) = false := by rfl) :
    Ex C σ (.Expr (.Call (.Attribute (.Name x px) (PySem.Str.ofString "append") ap) [e] [] q) p) Φ := .mk fun s Q E O k => by
  refine wpAny_Expr (MethodCall_ ?_ hc) hi (swaps_of rfl _ _ _)
  refine (ev_name W i hx hv hb).run s _ E O fun v h₁ t₁ k₁ r₁ => ?_
  have O₁ := O.keep k₁
  cases r₁
  obtain ⟨vs, n, hA, rs, q0, qL⟩ := O₁.objs _ _ u.mem
  refine getMethod_list_append hA rfl rfl ?_
  rw [star_cons hn]
  refine callWith_builtin rfl (evalArgs_plain (spliced_cons (he.run _ _ E O₁ fun y h₂ t₂ k₂ r₂ => spliced_nil ?_)))
  have O₂ := O₁.keep k₂
  refine wpAny_list_append_plain (s := { s with heap := h₂, toks := t₂ }) (items := ⟨vs⟩) ⟨n, k₂.keep _ _ (.inr nofun) hA⟩ (fun h₃ hp hsb => ?_) (by show vs.length ≤ sizeLine; rw [rs.length, sizeLine_eq]; omega)
  obtain ⟨n₃, e₃⟩ := hp
  have kB : ∀ b o, b ≠ a → h₂.get? b = some o → h₃.get? b = some o := fun b o hb e => (hsb.2 b hb).trans e
  refine k _ .next _ h₃ t₂ .next (O₂.upObj u (vs' := vs ++ [y]) (n' := n₃) (by rw [e₃]; simp [lob]) ((rs.keep k₂).append (.cons r₂ .nil)) kB) ?_ (fun b hb => .inl (by rw [St.addrs, u.addrs] at hb; exact hb)) h
  exact kpB_kp (k₁.trans k₂) fun b o hb _ e => kB b o (fun z => hb (z ▸ .tail _ (List.mem_map_of_mem (f := (·.1)) u.mem))) e
theorem ex_reverse (W : Wf C) {x : PySem.Str} {p px ap q : Pos} {a : Addr} {ds : List D} {objs' : List (Addr × List D)} {pl : Sem Bool} (i : Nat) (hx : C.names[i]? = some x) (hv : σ.vars[i]? = some (some (.obj a))) (u : Up a ds ds.reverse σ.objs objs') (hz : ds.length ≤ 100000) (h : Φ .next ⟨σ.vars, objs'⟩)
    (hc : eval (.Call (.Attribute (.Name x px) (PySem.Str.ofString "reverse") ap) [] [] q) C.env = (do
      let ov ← eval (.Name x px) C.env
      standAt ap.atName
      let (f, first) ← holding [ov] (getMethod ov (PySem.Str.ofString "reverse") pl)
      callWith q f first (backTo q (starEach [] C.env)) []) := by rfl)
    (hi : interactive C.env = false := by rfl) (hb : (x == ("__debug__" : PySem.Str)) = false := by rfl) :
    Ex C σ (.Expr (.Call (.Attribute (.Name x px) (PySem.Str.ofString "reverse") ap) [] [] q) p) Φ := .mk fun s Q E O k => by
  refine wpAny_Expr (MethodCall_ ?_ hc) hi (swaps_of rfl _ _ _)
  refine (ev_name W i hx hv hb).run s _ E O fun v h₁ t₁ k₁ r₁ => ?_
  have O₁ := O.keep k₁
  cases r₁
  obtain ⟨vs, n, hA, rs, q0, qL⟩ := O₁.objs _ _ u.mem
  have il : h₁.IsList a vs.toArray := ⟨_, hA, rfl, n, rfl⟩
  refine getMethod_list_of (s := { s with heap := h₁, toks := t₁ }) (items := vs.toArray) PySem.F.slot_list_reverse PySem.F.type_list_reverse il ?_ (callWith_method0 ?_)
  · exact ⟨_, hA, rfl⟩
  refine call_meets PySem.F.slot_list_reverse ⟨_, hA, rfl⟩ PySem.F.entry_list_reverse (PySem.F.args_list_reverse_1 _) (PySem.AutoSeq1.list_reverse_list_0 a ⟨vs⟩ n (by show vs.length ≤ sizeLine; rw [rs.length, sizeLine_eq]; omega)) ⟨hA, ?_⟩
  have kB : ∀ b o, b ≠ a → h₁.get? b = some o → (h₁.update a (Obj.mapSeq fun x => x.reverse)).get? b = some o := fun b o hb e => (Heap.get?_update_ne _ _ _ _ hb).trans e
  have e₃ : (h₁.update a (Obj.mapSeq fun x => x.reverse)).get? a = some (lob vs.reverse n) := by
    rw [Heap.get?_update_self _ hA (by simp [lob, Obj.mapSeq, Obj.isFreed])]
    simp [lob, Obj.mapSeq]
  refine k _ .next _ _ t₁ .next (O₁.upObj u (vs' := vs.reverse) (n' := n) e₃ rs.reverse kB) ?_ (fun b hb => .inl (by rw [St.addrs, u.addrs] at hb; exact hb)) h
  exact kpB_kp k₁ fun b o hb _ e => kB b o (fun z => hb (z ▸ .tail _ (List.mem_map_of_mem (f := (·.1)) u.mem))) e
end
end Mine
-- part FW9
namespace Mine
section
variable {C : Cx} {σ : St} {Φ : Fl → St → Prop} {rest : List Stmt}
theorem exs_assign (W : Wf C) {x : PySem.Str} {p p' : Pos} {e : Expr} {d : D} (i : Nat) (hx : C.names[i]? = some x) (he : Ev C σ e d) (h : Exs C (σ.set i d) rest Φ) (hs : noComp e = true := by rfl) : Exs C σ (.Assign [.Name x p'] e p :: rest) Φ :=
  exs_cons (ex_assign W i hx he h hs)
theorem exs_ret {e : Expr} {p : Pos} {d : D} (he : Ev C σ e d) (h : Φ (.ret d) σ) : Exs C σ (.Return (some e) p :: rest) Φ := exs_cons (ex_ret he h)
theorem exs_if {t : Expr} {a b : List Stmt} {p : Pos} {c : Bool} (ht : Ts C σ t c) (ha : c = true → Exs C σ a fun fl σ' => match fl with | .next => Exs C σ' rest Φ | fl => Φ fl σ') (hb : c = false → Exs C σ b fun fl σ' => match fl with | .next => Exs C σ' rest Φ | fl => Φ fl σ') : Exs C σ (.If t a b p :: rest) Φ :=
  exs_cons (ex_if ht ha hb)
/-- an if that leaves when its test holds -/
theorem exs_if_leave {t : Expr} {a : List Stmt} {p : Pos} {c : Bool} (ht : Ts C σ t c) (ha : c = true → Exs C σ a fun fl σ' => match fl with | .next => Exs C σ' rest Φ | fl => Φ fl σ') (hb : c = false → Exs C σ rest Φ) : Exs C σ (.If t a [] p :: rest) Φ :=
  exs_if ht ha fun q => exs_nil (hb q)
theorem exs_tuple (W : Wf C) {es : List Expr} {is : List Nat} {k : Nat} {tp p : Pos} {e : Expr} {ds : List D} (t : Tg C es is) (he : Ev C σ e (.tup ds)) (hl : is.length = ds.length) (h : Exs C (setL σ (is.zip ds)) rest Φ)
    (hs : noComp e = true := by rfl) (hw : noTuple e = true := by rfl) : Exs C σ (.Assign [.Tuple es k tp] e p :: rest) Φ :=
  exs_cons (ex_tuple W t he hl h hs hw)
theorem ts_conv {e : Expr} {a b : Bool} (h : Ts C σ e a) (q : a = b) : Ts C σ e b := q ▸ h
theorem ev_conv {e : Expr} {a b : D} (h : Ev C σ e a) (q : a = b) : Ev C σ e b := q ▸ h
theorem evIt_conv {e : Expr} {a b : List D} (h : EvIt C σ e a) (q : a = b) : EvIt C σ e b := q ▸ h
end
theorem fmod_range (n : Int) {m : Int} (h : 0 < m) : 0 ≤ n.fmod m ∧ n.fmod m < m := by
  rw [Int.fmod_eq_emod_of_nonneg _ (Int.le_of_lt h)]
  exact ⟨Int.emod_nonneg _ (by omega), Int.emod_lt_of_pos _ h⟩
end Mine
-- part FW10
namespace Mine
section
variable {C : Cx} {σ : St} {Φ : Fl → St → Prop}
theorem Reps.set {X : List Addr} {h : Heap} {v : Value} {d : D} : ∀ {vs : List Value} {ds : List D} (j : Nat), Reps X h vs ds → Rep X h v d → Reps X h (vs.set j v) (ds.set j d)
  | _, _, _, .nil, _ => .nil
  | _, _, 0, .cons _ b, rv => .cons rv b
  | _, _, j + 1, .cons a b, rv => .cons a (b.set j rv)
theorem exs_view {σ' : St} {l : List Stmt} (v : ∀ h, Ok C h σ → Ok C h σ') (ha : ∀ a ∈ σ'.addrs, a ∈ σ.addrs) (h : Exs C σ' l Φ) : Exs C σ l Φ := .mk fun s Q E O k =>
  h.run s Q E (v _ O) fun f fl σ'' h' t' hf O' kB nw hΦ => k f fl σ'' h' t' hf O' (kpB_weak kB fun a m => (List.mem_cons.mp m).elim (fun z => z ▸ .head _) fun z => .tail _ (ha a z)) (fun a m => (nw a m).imp (ha a) id) hΦ
/-- a list of the frame's own given away -/
theorem Ok.freeze (W : Wf C) {h : Heap} {vars : List (Option D)} {i : Nat} {a : Addr} {ds : List D} {objs : List (Addr × List D)} (O : Ok C h ⟨vars, (a, ds) :: objs⟩) (hi : vars[i]? = some (some (.obj a))) : Ok C h ⟨vars.set i (some (.lst ds)), objs⟩ := by
  obtain ⟨⟨m, F, hv⟩, ho, hn, ht, hg⟩ := O
  have hsub : ∀ b ∈ C.ex ⟨vars.set i (some (.lst ds)), objs⟩, b ∈ C.ex ⟨vars, (a, ds) :: objs⟩ := fun b hb => by
    rcases List.mem_cons.mp hb with rfl | hb
    · exact .head _
    rcases List.mem_append.mp hb with hb | hb
    · exact .tail _ (List.mem_append_left _ hb)
    · exact .tail _ (List.mem_append_right _ (.tail _ hb))
  obtain ⟨vs, n, e, rs, q0, qL⟩ := ho a ds (.head _)
  have hna : a ∉ C.ex ⟨vars.set i (some (.lst ds)), objs⟩ := fun hb => by
    rcases List.mem_cons.mp hb with hb | hb
    · exact qL hb
    rcases List.mem_append.mp hb with hb | hb
    · obtain ⟨o, z⟩ := W.old a hb
      rw [q0] at z; cases z
    · exact (List.nodup_cons.mp hn).1 hb
  refine ⟨⟨m, F, fun j x d h1 h2 => ?_⟩, fun b es hm => ?_, (List.nodup_cons.mp hn).2, ht, hg⟩
  · by_cases hij : i = j
    · subst hij
      have hd : d = .lst ds := by
        simp only [List.getElem?_set_self'] at h2
        rw [hi] at h2; cases h2; rfl
      subst hd
      obtain ⟨v, e1, r1⟩ := hv i x _ h1 hi
      cases r1
      exact ⟨_, e1, .lst (vs := vs) ⟨_, e, rfl, n, rfl⟩ hna (rs.mono hsub)⟩
    · simp only [List.getElem?_set_ne hij] at h2
      obtain ⟨v, e1, r1⟩ := hv j x d h1 h2
      exact ⟨v, e1, r1.mono hsub⟩
  · obtain ⟨ws, k, e1, r1, q⟩ := ho b es (.tail _ hm)
    exact ⟨ws, k, e1, r1.mono hsub, q⟩
theorem exs_freeze (W : Wf C) {l : List Stmt} {vars : List (Option D)} {a : Addr} {ds : List D} {objs : List (Addr × List D)} (i : Nat) (hi : vars[i]? = some (some (.obj a))) (h : Exs C ⟨vars.set i (some (.lst ds)), objs⟩ l Φ) : Exs C ⟨vars, (a, ds) :: objs⟩ l Φ :=
  exs_view (fun _ O => O.freeze W hi) (fun b hb => .tail _ hb) h
abbrev adr (ob : List (Addr × List D)) : List Addr := ob.map (·.1)
/-- lists that a def turns -/
structure Own (X : List Addr) (h : Heap) (ob : List (Addr × List D)) : Prop where
  at' : ∀ a ds, (a, ds) ∈ ob → ∃ vs n, h.get? a = some (lob vs n) ∧ Reps (X ++ adr ob) h vs ds ∧ a ∉ X
  nodup : (adr ob).Nodup
structure FnO (B : Bs) (f : Addr) (k : Nat) (ds : List D) (ob ob' : List (Addr × List D)) (r : D) : Prop where
  run : ∀ (A : Around) (s : Shared) (X : List Addr) (vs : List Value) (Q E : Value → Shared → Prop), B.In s.heap → TabOk s.heap → (∀ x ∈ X, x ∉ TT ∧ ∃ o, s.heap.get? x = some o) → Own X s.heap ob → Reps (X ++ adr ob) s.heap vs ds → A.handled = none → A.depth + k < recursionLimit → A.units + 8 * k < cLine →
    (∀ v h' t', KpB (adr ob) s.heap h' → TabOk h' → Own X h' ob' → Rep (X ++ adr ob') h' v r → Q v { s with heap := h', toks := t' }) → wpAny (model B.prog B.w) A (call (.ref f) vs) Q E s
theorem FnO.le {B : Bs} {f : Addr} {k j : Nat} {ds : List D} {ob ob' : List (Addr × List D)} {r : D} (h : FnO B f k ds ob ob' r) (hk : k ≤ j) : FnO B f j ds ob ob' r :=
  .mk fun A s X vs Q E b tb x ow v hh hd hu q => h.run A s X vs Q E b tb x ow v hh (by omega) (by omega) q
theorem fn_of_fno {B : Bs} {f : Addr} {k : Nat} {ds : List D} {r : D} (h : FnO B f k ds [] [] r) : Fn B f k ds r :=
  .mk fun A s X vs Q E b tb x v hh hd hu q => h.run A s X vs Q E b tb x ⟨fun a l hm => (nomatch hm), .nil⟩ (by simpa using v) hh hd hu fun v h' t' kB tb' _ r => q v h' t' ⟨fun b o f e => kB b o (fun m => nomatch m) f e, fun _ => tb'⟩ (by simpa using r)
theorem ns_hideO {h : Heap} {a : Addr} {m : PySem.Str → Option Value} {X : List Addr} {ob : List (Addr × List D)} (x : h.Ns a m) (ha : a ∉ TT) (ow : Own X h ob) : (hideAll h (adr ob ++ TT)).Ns a m := by
  obtain ⟨o, es, ep, e, hd, r⟩ := x
  refine ⟨o, es, ep, hideAll_get _ e fun hm => ?_, hd, r⟩
  rcases List.mem_append.mp hm with hm | hm
  · obtain ⟨p, hp, rfl⟩ := List.mem_map.mp hm
    obtain ⟨vs, n, e', _⟩ := ow.at' p.1 p.2 hp
    rw [e] at e'; cases e'; cases hd
  · exact ha hm
theorem fno_of_body {B : Bs} {f : Addr} {fd : FuncData} {body : List Stmt} {ps names : List PySem.Str} {ds : List D} {r : D} {k : Nat} {oc : Value} {od : Option Addr} {osl : Array (Option Value)} (cv : List (PySem.Str × D)) (ob ob' : List (Addr × List D))
    (ho : B.K.lookup f = some ⟨oc, od, .func fd, osl⟩) (hcd : ∀ h, B.In h → h.CodeRec fd.code fd.qualname) (hbody : fd.body = .stmts body) (hbind : ∀ vs : List Value, vs.length = ps.length → bindArgs fd ⟨vs, []⟩ = pure (ps.zip vs))
    (hps : ps.length = ds.length) (hnd : names.Nodup) (hn : names.take ps.length = ps) (hloc : ∀ x ∈ names, fd.scope.names.lookup x = some .local) (hcell : ∀ x ∈ fd.scope.names, x.2 ≠ .cell) (hk : fd.scope.kind = .function) (hco : fd.scope.isCoroutine = false) (hgen : fd.scope.isGenerator = false)
    (hgl : fd.globals = mainGlobals) (hbl : fd.builtins = builtinsNs)
    (hcv : ∀ x d, (x, d) ∈ cv → fd.scope.names.lookup x = some .free ∧ ∃ c v o, fd.closure.lookup x = some c ∧ B.K.lookup c = some o ∧ o.data = .cell (some v) ∧ ∀ X h, Rep X h v d)
    (hKo : ∀ a ∈ adr ob, B.K.lookup a = none)
    (H : ∀ (A : Around) (L : Addr) (h₀ : Heap) (X : List Addr), Wf ⟨B, A, callEnv fd L f, h₀, X, names, cv⟩ → A.depth + k < recursionLimit → A.units + 8 * k < cLine →
      Exs ⟨B, A, callEnv fd L f, h₀, X, names, cv⟩ ⟨ds.map some ++ List.replicate (names.length - ds.length) none, ob⟩ body (fun fl σ' => (fl = .ret r ∨ (fl = .next ∧ r = .none)) ∧ σ'.objs = ob')) : FnO B f (k + 1) ds ob ob' r := by
  constructor
  intro A s X vs Q E hB hTb hX hO hrep hh hdep hun hQ
  have hvl : vs.length = ps.length := hrep.length.trans hps.symm
  have hpn : ps.Nodup := by rw [← hn]; exact hnd.take
  have hpin : ∀ x ∈ ps, x ∈ names := fun x hx => by rw [← hn] at hx; exact List.mem_of_mem_take hx
  refine wpAny_call (codeAny_call_def (o := ⟨oc, od, .func fd, osl⟩) (fd := fd) (body := body) (binds := ps.zip vs) (by omega) (hB.K _ _ ho) rfl hB.lim (hcd _ hB) hbody (.of_eq (hbind vs hvl)) hcell (fun x hx => hloc _ (hpin _ (List.of_mem_zip hx).1)) (fun h₁ hns hkp => ?_) hco hgen hk)
  have hBg : B.In (hideAll s.heap (adr ob ++ TT)) :=
    ⟨fun a o e => hideAll_get _ (hB.K a o e) fun m => (List.mem_append.mp m).elim (fun m => by rw [hKo a m] at e; cases e) (B.hT a o e), ns_hideO hB.g (by decide) hO, ns_hideO hB.b (by decide) hO, let ⟨mc, n, r⟩ := hB.lim; ⟨mc, ns_hideO n (by decide) hO, r⟩⟩
  have hXo : ∀ x ∈ X, x ∉ adr ob ++ TT := fun x hx m => (List.mem_append.mp m).elim (fun m => by
    obtain ⟨p, hp, rfl⟩ := List.mem_map.mp m
    obtain ⟨_, _, _, _, q⟩ := hO.at' p.1 p.2 hp
    exact q hx) (hX x hx).1
  have hW : Wf ⟨B, A.deeper (callEnv fd s.heap.objs.size f), callEnv fd s.heap.objs.size f, hideAll s.heap (adr ob ++ TT), X, names, cv⟩ :=
    { kind := hk, gl := hgl, bl := hbl, loc := fun x hx => hloc x hx, nd := hnd, base := hBg, old := fun x hx => let ⟨h1, o, e⟩ := hX x hx; ⟨o, hideAll_get _ e (hXo x hx)⟩, handled := hh, cons := fun x d hx => let ⟨h1, h2⟩ := hcv x d hx; ⟨.inr h1, h2⟩ }
  have hd1 : (A.deeper (callEnv fd s.heap.objs.size f)).depth = A.depth + 1 := rfl
  have hu1 : (A.deeper (callEnv fd s.heap.objs.size f)).units = A.units + 3 := rfl
  have hwalk : ∀ a o, a ∉ X ++ adr ob → s.heap.get? a = some o → SeqO o → h₁.get? a = some o ∧ a ∉ s.heap.objs.size :: (X ++ adr ob) := fun a o ha e _ => ⟨hkp a o e, fun m => by
    rcases List.mem_cons.mp m with m | m
    · exact absurd (Heap.lt_size e) (by rw [m]; exact Nat.lt_irrefl _)
    · exact ha m⟩
  have O : Ok ⟨B, A.deeper (callEnv fd s.heap.objs.size f), callEnv fd s.heap.objs.size f, hideAll s.heap (adr ob ++ TT), X, names, cv⟩ h₁ ⟨ds.map some ++ List.replicate (names.length - ds.length) none, ob⟩ := by
    refine ⟨⟨_, ⟨hns, fun b o e => hkp b o (of_hideAll _ e), Nat.le_of_eq (hideAll_size _ _)⟩, fun i x d h1 h2 => ?_⟩, fun a l hm => ?_, hO.nodup, hTb.full hkp, fun t ht => hideAll_none _ (List.mem_append_right _ ht)⟩
    · have hi : i < ds.length := by
        by_cases q : i < ds.length
        · exact q
        · exfalso
          rw [List.getElem?_append_right (by simpa using Nat.le_of_not_lt q)] at h2
          rw [List.getElem?_replicate] at h2
          split at h2 <;> cases h2
      have e1 : ds[i]? = some d := by
        rw [List.getElem?_append_left (by simpa using hi), List.getElem?_map] at h2
        cases z : ds[i]? with
        | none => rw [z] at h2; cases h2
        | some d' => rw [z] at h2; cases h2; rfl
      have hp : ps[i]? = some x := by
        rw [← hn, List.getElem?_take_of_lt (by omega)]; exact h1
      obtain ⟨v, hv, rv⟩ := hrep.get e1
      exact ⟨v, (lookup_zip ps vs i x hpn hvl.symm hp).trans hv, rv.walk hwalk⟩
    · obtain ⟨ws, n, e, rs, q⟩ := hO.at' a l hm
      exact ⟨ws, n, hkp _ _ e, rs.walk hwalk, hideAll_none _ (List.mem_append_left _ (List.mem_map_of_mem (f := (·.1)) hm)), fun z => absurd (Heap.lt_size e) (by rw [z]; exact Nat.lt_irrefl _)⟩
  refine wpAny_mono ((H _ _ _ X hW (by omega) (by omega)).run { s with heap := h₁, toks := s.toks + (ps.zip vs).length } (fun fl s' => Q (match fl with | .ret v => v | _ => .none) s') (fun _ _ => False) O fun fl fl' σ' h' t' hf O' kp' nw hΦ => ?_) (fun fl s' h => h) (fun _ _ h => h.elim)
  obtain ⟨hΦ, hob⟩ := hΦ
  have kk : KpB (adr ob) s.heap h' := fun b o hb f e => O'.kp0 b o (hideAll_get _ e fun m => (List.mem_append.mp m).elim hb (f.elim id fun hc => hTb.ne e (.inl hc)))
  have hex : ∀ a ∈ X ++ adr ob', a ∈ (s.heap.objs.size :: (X ++ σ'.addrs)) := fun a ha => by rw [← hob] at ha; exact .tail _ ha
  have ow : Own X h' ob' := by
    refine ⟨fun a l hm => ?_, hob ▸ O'.nodup⟩
    rw [← hob] at hm
    obtain ⟨ws, n, e, rs, q0, _⟩ := O'.objs a l hm
    refine ⟨ws, n, e, rs.mono hex, fun hx => ?_⟩
    obtain ⟨h1, o, e'⟩ := hX a hx
    have := hideAll_get (adr ob ++ TT) e' (hXo a hx)
    rw [show (hideAll s.heap (adr ob ++ TT)).get? a = none from q0] at this; cases this
  rcases hΦ with rfl | ⟨rfl, rfl⟩
  · cases hf with
    | ret r' => exact hQ _ h' t' kk O'.tab ow (r'.mono hex)
  · cases hf; exact hQ _ h' t' kk O'.tab ow .none
/-- a call of a def that a cell holds -/
theorem ev_call_cons (W : Wf C) {x : PySem.Str} {p q : Pos} {f : Addr} {k : Nat} {o : Obj} {fd : FuncData} {e : Expr} {es : List Expr} {ds : List D} {r : D} (hx : (x, D.obj f) ∈ C.cv) (ho : C.B.K.lookup f = some o) (hf : o.data = .func fd) (hs : Evs C σ (e :: es) ds)
    (hc : Fn C.B f k ds r) (hd1 : C.A.depth + k < recursionLimit) (hu1 : C.A.units + 8 * k < cLine)
    (hn : nst e = true := by rfl) (hd : (x == ("__debug__" : PySem.Str)) = false := by rfl) (hd' : (x == ("__classdict__" : PySem.Str)) = false := by rfl) :
    Ev C σ (.Call (.Name x p) (e :: es) [] q) r := .mk fun s Q E O h => by
  refine Call_Name rfl ((ev_cons W hx hd hd').run s _ E O fun v h₁ t₁ k₁ r₁ => ?_)
  cases r₁
  have O₁ := O.keep k₁
  refine callWith_function (o := o) (fd := fd) ?_
  have := hs.run q { s with heap := h₁, toks := t₁ } (fun vs s' => (s'.heap.get? f = some o ∧ o.data = .func fd) ∧ wpAny C.M C.A (call (.ref f) ([] ++ vs) []) Q E s') E O₁ fun vs h₂ t₂ k₂ r₂ =>
    have O₂ := O₁.keep k₂
    ⟨⟨(O₂.base W).K _ _ ho, hf⟩, hc.run C.A { s with heap := h₂, toks := t₂ } (C.ex σ) vs _ _ (O₂.base W) O₂.tab (O₂.live W) r₂ W.handled hd1 hu1 fun v h₃ t₃ k₃ r₃ => h v h₃ t₃ (k₁.trans (k₂.trans k₃)) r₃⟩
  rw [star_cons hn] at this ⊢
  exact evalArgs_plain this
theorem Ok.callM {h h' : Heap} {ob' : List (Addr × List D)} (O : Ok C h σ) (k : KpB σ.addrs h h') (tb : TabOk h') (ow : Own (C.L :: C.X) h' ob') (had : adr ob' = σ.addrs) (h0 : ∀ a ∈ σ.addrs, C.h₀.get? a = none) : Ok C h' ⟨σ.vars, ob'⟩ := by
  have hL := O.objL
  obtain ⟨⟨m, F, hv⟩, ho, hn, ht, hg⟩ := O
  have hex : C.ex ⟨σ.vars, ob'⟩ = C.ex σ := by
    show C.L :: (C.X ++ adr ob') = C.L :: (C.X ++ σ.addrs)
    rw [had]
  have hk : ∀ (b : Addr) (o : Obj), b ∉ C.ex σ → h.get? b = some o → SeqO o → h'.get? b = some o ∧ b ∉ C.ex σ := fun b o hb e q => ⟨k b o (fun z => hb (.tail _ (List.mem_append_right _ z))) q.fix e, hb⟩
  refine ⟨⟨m, ⟨?_, fun b o e => k b o (fun z => by rw [h0 b z] at e; cases e) (.inl (gh_fix hg e)) (F.keep b o e), F.above⟩, fun i x d h1 h2 => ?_⟩, fun b es hm => ?_, ow.nodup, tb, hg⟩
  · have hLT := ht.nsT F.ns
    obtain ⟨oL, es, ep, e, r⟩ := F.ns
    exact ⟨oL, es, ep, k _ _ (fun z => hL _ z rfl) (.inl hLT) e, r⟩
  · obtain ⟨v, e, r⟩ := hv i x d h1 h2
    exact ⟨v, e, hex ▸ r.walk hk⟩
  · obtain ⟨vs, n, e, r, q⟩ := ow.at' b es hm
    have hb : b ∈ σ.addrs := had ▸ List.mem_map_of_mem (f := (·.1)) hm
    exact ⟨vs, n, e, r, h0 b hb, fun z => q (z ▸ .head _)⟩
theorem ex_callM (W : Wf C) {x : PySem.Str} {p q p' : Pos} {f : Addr} {k : Nat} {o : Obj} {fd : FuncData} {e : Expr} {es : List Expr} {ds : List D} {ob' : List (Addr × List D)} (hx : (x, D.obj f) ∈ C.cv) (ho : C.B.K.lookup f = some o) (hf : o.data = .func fd) (hs : Evs C σ (e :: es) ds)
    (hc : FnO C.B f k ds σ.objs ob' .none) (had : adr ob' = σ.addrs) (hd1 : C.A.depth + k < recursionLimit) (hu1 : C.A.units + 8 * k < cLine) (h : Φ .next ⟨σ.vars, ob'⟩)
    (hn : nst e = true := by rfl) (hi : interactive C.env = false := by rfl) (hd : (x == ("__debug__" : PySem.Str)) = false := by rfl) (hd' : (x == ("__classdict__" : PySem.Str)) = false := by rfl) :
    Ex C σ (.Expr (.Call (.Name x p) (e :: es) [] q) p') Φ := .mk fun s Q E O kk => by
  refine wpAny_Expr ?_ hi (swaps_of rfl _ _ _)
  refine Call_Name rfl ((ev_cons W hx hd hd').run s _ E O fun v h₁ t₁ k₁ r₁ => ?_)
  cases r₁
  have O₁ := O.keep k₁
  refine callWith_function (o := o) (fd := fd) ?_
  have := hs.run q { s with heap := h₁, toks := t₁ } (fun vs s' => (s'.heap.get? f = some o ∧ o.data = .func fd) ∧ wpAny C.M C.A (call (.ref f) ([] ++ vs) []) (fun v s'' => match v with | .ref _ => False | _ => Q .next s'') E s') E O₁ fun vs h₂ t₂ k₂ r₂ => by
    have O₂ := O₁.keep k₂
    have hz : ∀ a ∈ σ.addrs, C.h₀.get? a = none := fun a ha => by
      obtain ⟨p, hp, rfl⟩ := List.mem_map.mp ha
      obtain ⟨_, _, _, _, q0, _⟩ := O.objs p.1 p.2 hp
      exact q0
    have ow : Own (C.L :: C.X) h₂ σ.objs := by
      refine ⟨fun a l hm => ?_, O₂.nodup⟩
      obtain ⟨ws, n, e, rs, q0, qL⟩ := O₂.objs a l hm
      refine ⟨ws, n, e, rs, fun hx => ?_⟩
      rcases List.mem_cons.mp hx with hx | hx
      · exact qL hx
      · obtain ⟨o, z⟩ := W.old a hx
        rw [q0] at z; cases z
    refine ⟨⟨(O₂.base W).K _ _ ho, hf⟩, hc.run C.A { s with heap := h₂, toks := t₂ } (C.L :: C.X) vs _ _ (O₂.base W) O₂.tab (fun x hx => O₂.live W x (by
      rcases List.mem_cons.mp hx with rfl | hx
      · exact .head _
      · exact .tail _ (List.mem_append_left _ hx))) ow r₂ W.handled hd1 hu1 fun v h₃ t₃ k₃ tb ow' r₃ => ?_⟩
    have O₃ := O₂.callM k₃ tb ow' had hz
    cases r₃
    refine kk .next .next _ h₃ t₃ .next O₃ ?_ (fun a ha => .inl (by rw [St.addrs] at ha; rw [← had]; exact ha)) h
    exact kpB_kp (k₁.trans k₂) (kpB_weak k₃ fun a ha => .tail _ ha)
  rw [star_cons hn] at this ⊢
  exact evalArgs_plain this
/-- an item of a list of the frame's own stored -/
theorem ex_setitem {eo ei ev : Expr} {pos pos' : Pos} {a : Addr} {ds : List D} {objs' : List (Addr × List D)} {k : Int} {d : D} (hv : Ev C σ ev d) (ho : Ev C σ eo (.obj a)) (hi : Ev C σ ei (.int k)) (u : Up a ds (ds.set k.toNat d) σ.objs objs') (h0 : 0 ≤ k) (hk : k < ds.length) (hf : k < 2 ^ 63) (h : Φ .next ⟨σ.vars, objs'⟩)
    (hs : noComp ev = true := by rfl) : Ex C σ (.Assign [.Subscript eo ei pos'] ev pos) Φ := .mk fun s Q E O kk => by
  refine wpAny_Assign_Subscript (hv.run s _ E O fun v h₁ t₁ k₁ r₁ => ho.run _ _ E (O.keep k₁) fun ov h₂ t₂ k₂ r₂ => hi.run _ _ E ((O.keep k₁).keep k₂) fun iv h₃ t₃ k₃ r₃ => ?_) (swaps_of hs _ _ _)
  have O₃ := ((O.keep k₁).keep k₂).keep k₃
  cases r₂; cases r₃
  have rv := (r₁.keep k₂).keep k₃
  obtain ⟨vs, n, hA, rs, q0, qL⟩ := O₃.objs _ _ u.mem
  refine ki_setAt (s := { s with heap := h₃, toks := t₃ }) (items := ⟨vs⟩) (n := n) hA h0 hf (by show k < ((vs.length : Nat) : Int); rw [rs.length]; exact hk) ?_
  have kB : ∀ b o, b ≠ a → h₃.get? b = some o → (h₃.update a (Obj.mapSeq (·.setIfInBounds k.toNat v))).get? b = some o := fun b o hb e => (Heap.get?_update_ne _ _ _ _ hb).trans e
  have e₃ : ∃ n', (h₃.update a (Obj.mapSeq (·.setIfInBounds k.toNat v))).get? a = some (lob (vs.set k.toNat v) n') := by
    refine ⟨n, ?_⟩
    rw [Heap.get?_update_self _ hA (by simp [lob, Obj.mapSeq, Obj.isFreed])]
    simp [lob, Obj.mapSeq]
  obtain ⟨n', e₃⟩ := e₃
  have rs' : Reps (C.ex σ) h₃ (vs.set k.toNat v) (ds.set k.toNat d) := rs.set _ rv
  refine kk _ .next _ _ t₃ .next (O₃.upObj u e₃ rs' kB) ?_ (fun b hb => .inl (by rw [St.addrs, u.addrs] at hb; exact hb)) h
  exact kpB_kp (k₁.trans (k₂.trans k₃)) fun b o hb _ e => kB b o (fun z => hb (z ▸ .tail _ (List.mem_map_of_mem (f := (·.1)) u.mem))) e
/-- an item of a list that stands in the base -/
theorem ev_item_base (W : Wf C) {ea ei : Expr} {p : Pos} {a : Addr} {o : Obj} {vs : List Value} {n : Nat} {k : Int} {v : Value} {d : D} (ha : Ev C σ ea (.obj a)) (hl : C.B.K.lookup a = some o) (hc : o.cls = .type "list") (hd : o.data = .seq vs.toArray n) (hi : Ev C σ ei (.int k)) (h0 : 0 ≤ k) (hk : k < 2 ^ 63) (hx : vs[k.toNat]? = some v) (hr : ∀ X h, Rep X h v d)
    (hs : notSlice ei = true := by rfl) : Ev C σ (.Subscript ea ei p) d := .mk fun s Q E O h =>
  Subscript_ (ha.run s _ E O fun v' h₁ t₁ k₁ r₁ => hi.run _ _ E (O.keep k₁) fun u h₂ t₂ k₂ r₂ => by
    cases r₁; cases r₂
    have il : h₂.IsList a vs.toArray := ⟨o, (((O.keep k₁).keep k₂).base W).K _ _ hl, hc, n, hd⟩
    exact tail_any il.typeIs slot_list_getitem.lookup (wpAny_getItem_list il h0 hk (by simpa using hx) (h v h₂ t₂ (k₁.trans k₂) (hr _ _))) (sub_of hs _ _))
end
end Mine
-- part FW11
namespace Mine
/-- objects of a heap, by their addresses -/
def fragOf (h : Heap) : List Addr → Frag
  | [] => []
  | a :: as => match h.get? a with
    | some o => (a, o) :: fragOf h as
    | none => fragOf h as
theorem fragOf_get {h : Heap} : ∀ {as : List Addr} {K : Frag} {a : Addr} {o : Obj}, a ∈ as → h.get? a = some o → (fragOf h as ++ K).lookup a = some o
  | [], _, _, _, hm, _ => nomatch hm
  | b :: as, K, a, o, hm, e => by
    unfold fragOf
    by_cases hab : a = b
    · subst hab
      rw [e]
      show List.lookup a ((a, o) :: (fragOf h as ++ K)) = _
      rw [List.lookup_cons_self]
    · have hm' : a ∈ as := (List.mem_cons.mp hm).resolve_left hab
      cases hb : h.get? b with
      | none => exact fragOf_get hm' e
      | some o' =>
        show List.lookup a ((b, o') :: (fragOf h as ++ K)) = _
        rw [List.lookup_cons]
        have : (a == b) = false := by simpa using hab
        rw [this]
        exact fragOf_get hm' e
theorem fragOf_is {h : Heap} : ∀ {as : List Addr} {K : Frag} {a : Addr} {o : Obj}, (fragOf h as ++ K).lookup a = some o → (a ∈ as ∧ h.get? a = some o) ∨ K.lookup a = some o
  | [], _, _, _, e => .inr e
  | b :: as, K, a, o, e => by
    unfold fragOf at e
    cases hb : h.get? b with
    | none =>
      rw [hb] at e
      exact (fragOf_is e).imp (fun q => ⟨.tail _ q.1, q.2⟩) id
    | some o' =>
      rw [hb] at e
      change List.lookup a ((b, o') :: (fragOf h as ++ K)) = _ at e
      rw [List.lookup_cons] at e
      cases hab : a == b with
      | true =>
        rw [hab] at e
        have := eq_of_beq hab
        subst this
        cases e
        exact .inl ⟨.head _, hb⟩
      | false =>
        rw [hab] at e
        exact (fragOf_is e).imp (fun q => ⟨.tail _ q.1, q.2⟩) id
/-- a base with more objects in it -/
def Bs.ext (B : Bs) (h : Heap) (as : List Addr) (has : ∀ a ∈ as, a ∉ TT) : Bs :=
  { B with K := fragOf h as ++ B.K, hT := fun a o e => (fragOf_is e).elim (fun q => has a q.1) (B.hT a o) }
theorem Bs.ext_in {B : Bs} {h : Heap} {as : List Addr} {has : ∀ a ∈ as, a ∉ TT} (x : B.In h) : (B.ext h as has).In h :=
  ⟨fun a o e => (fragOf_is e).elim (fun q => q.2) (x.K a o), x.g, x.b, x.lim⟩
theorem TabOk.codeT {h : Heap} (x : TabOk h) {c : Addr} {q : PySem.Str} (r : h.CodeRec (.ref c) q) : c ∉ TT := fun ht => by
  obtain ⟨c', oc, vs, t, e, h1, h2, h3⟩ := r
  cases e
  have key : ∀ l k q', tab1 h c l k q' → False := by
    rintro l k q' ⟨ps, e1, e2⟩
    rw [h1] at e1; cases e1
    cases h2
    rcases e2 with rfl | ⟨c2, rfl, _⟩
    · cases h3
    · cases h3
  rcases List.mem_cons.mp ht with rfl | ht
  · exact key _ _ _ x.a
  · rw [List.mem_singleton] at ht; subst ht
    exact key _ _ _ x.b
theorem IsCell.T {h : Heap} (x : TabOk h) {c : Addr} {v : Option Value} (hc : h.IsCell c v) : c ∉ TT := by
  obtain ⟨o, e, hd⟩ := hc
  exact x.ne e (.inr fun vs z => by rw [hd] at z; cases z)
theorem IsCell.kp {h h' : Heap} {c : Addr} {v : Option Value} (hc : h.IsCell c v) (x : TabOk h) (k : Kp h h') : h'.IsCell c v := by
  have hT := IsCell.T x hc
  obtain ⟨o, e, hd⟩ := hc
  exact ⟨o, k.keep _ _ (.inl hT) e, hd⟩
theorem CodeRec.kp {h h' : Heap} {c : Addr} {q : PySem.Str} (r : h.CodeRec (.ref c) q) (x : TabOk h) (k : Kp h h') : h'.CodeRec (.ref c) q := by
  have hT := x.codeT r
  obtain ⟨c', oc, vs, t, e, h1, h2⟩ := r
  cases e
  exact ⟨c, oc, vs, t, rfl, k.keep _ _ (.inl hT) h1, h2⟩
/-- one cell turned -/
theorem tab_cell {h h' : Heap} {c : Addr} {v : Option Value} (x : TabOk h) (hc : h.IsCell c v) (hs : Heap.SameBut c h h') : TabOk h' := by
  obtain ⟨o, e, hd⟩ := hc
  exact x.one e (fun vs z => by rw [hd] at z; cases z) fun b ob hb e => (hs.2 b hb).trans e
theorem Reps.int {X : List Addr} {h : Heap} {vs : List Value} {l : List Int} (r : Reps X h vs (l.map .int)) : ∀ (i : Nat) x, l[i]? = some x → ∃ t, vs[i]? = some (.int x t) := fun i x e => by
  obtain ⟨v, e1, r1⟩ := r.get (i := i) (d := .int x) (by rw [List.getElem?_map, e]; rfl)
  cases r1
  exact ⟨_, e1⟩
end Mine
-- part FW12
namespace Mine
theorem mulL {prog : Program} {w : World} {A : Around} {E : Value → Shared → Prop} {s : Shared} {l : Addr} {vs : List Value} {x : Int} {u : Tok} {Q : Value → Shared → Prop} (hl : s.heap.IsList l vs.toArray) (hlo : -(2 ^ 63 : Int) ≤ x) (hhi : x < 2 ^ 63) (hsz : vs.length * x.toNat ≤ 2 ^ 24)
    (h : Q (.ref s.heap.objs.size) { s with heap := s.heap.push (lob (List.replicate x.toNat vs).flatten 0) }) : wpAny (model prog w) A (binaryOp .Mult (.ref l) (.int x u)) Q E s := by
  obtain ⟨⟨cls, d, data, sl⟩, ho, hcl, k, hd⟩ := id hl
  simp only at hcl hd
  subst hcl hd
  have hsz' : vs.toArray.size * x.toNat ≤ 2 ^ 24 := by simpa using hsz
  refine wpAny_binaryOp_repeat_ref (T := "list") (U := "int") (by decide) ⟨_, ho, rfl⟩ (fun s' => typeIs_int s' x u) noFill_list_mul F.fills_int_mul F.slot_int_rmul repeat_list F.slot_int_index.lookup
    (call_meets F.slot_int_rmul (typeIs_int s x u) F.entry_int_rmul (F.args_int_rmul_2 _ _) (lm_int_rmul_list_any x u l vs.toArray k d sl)
      ⟨ho, rfl, ⟨_, ho, rfl⟩, call_meets F.slot_list_mul ⟨_, ho, rfl⟩ F.entry_list_mul (F.args_list_mul_2 _ _)
        (lm_list_mul_any l vs.toArray k d sl x u (by simp [Builtin.List.listFitsIndex]; omega) (by omega) (by simp [Builtin.List.listTooLong, sizeLine]; omega))
        ⟨ho, ?_⟩⟩)
  rw [listMul_foldl_if]
  exact h
theorem Reps.rep {X : List Addr} {h : Heap} {vs : List Value} {ds : List D} (r : Reps X h vs ds) : ∀ n, Reps X h (List.replicate n vs).flatten (List.replicate n ds).flatten
  | 0 => .nil
  | n + 1 => by simp only [List.replicate_succ, List.flatten_cons]; exact r.append (r.rep n)
section
variable {C : Cx} {σ : St}
theorem ev_mulL (W : Wf C) {a b : Expr} {p : Pos} {d : D} {ds : List D} {x : Int} (ha : Ev C σ a d) (hl : LstOf σ d ds) (hb : Ev C σ b (.int x)) (hlo : -(2 ^ 63 : Int) ≤ x) (hhi : x < 2 ^ 63) (hsz : ds.length * x.toNat ≤ 2 ^ 24) : Ev C σ (.BinOp a .Mult b p) (.lst (List.replicate x.toNat ds).flatten) :=
  ev_bin ha hb fun s Q E v u O r1 r2 h => by
    obtain ⟨l, vs, rfl, il, rs⟩ := hl.get O r1
    cases r2
    refine mulL il hlo hhi (by rw [rs.length]; exact hsz) (h _ _ s.toks Kp.push (.lst ⟨_, Heap.get?_push_size _ rfl, rfl, 0, rfl⟩ (O.freshA W) ?_))
    exact (rs.keep Kp.push).rep _
end
theorem fragOf_none {h : Heap} {as : List Addr} {K : Frag} {a : Addr} (h1 : a ∉ as) (h2 : K.lookup a = none) : (fragOf h as ++ K).lookup a = none := by
  cases e : (fragOf h as ++ K).lookup a with
  | none => rfl
  | some o =>
    rcases fragOf_is e with ⟨q, _⟩ | q
    · exact absurd q h1
    · rw [h2] at q; cases q
theorem lt_bits {x : Int} (h : 0 ≤ x) : x < 2 ^ (Builtin.Int.intBits x) := by
  unfold Builtin.Int.intBits
  split
  · rename_i e
    have : x.natAbs = 0 := by simpa using e
    have : x = 0 := by omega
    subst this; decide
  · rename_i e
    have h0 : x.natAbs ≠ 0 := by simpa using e
    have := Nat.lt_log2_self (n := x.natAbs)
    have h2 : ((x.natAbs : Nat) : Int) < ((2 ^ (x.natAbs.log2 + 1) : Nat) : Int) := Int.ofNat_lt.mpr this
    push_cast at h2
    omega
/-- how many digits of n bits -/
def nd (x : Int) (n : Nat) : Nat := (Builtin.Int.intBits x + n - 1) / n
theorem nd_bits (x : Int) {n : Nat} (hn : 0 < n) : Builtin.Int.intBits x ≤ n * nd x n := by
  unfold nd
  have h1 := Nat.div_add_mod (Builtin.Int.intBits x + n - 1) n
  have h2 := Nat.mod_lt (Builtin.Int.intBits x + n - 1) hn
  omega
theorem lt_nd {x : Int} (h : 0 ≤ x) {n : Nat} (hn : 0 < n) : x < 2 ^ (n * nd x n) := by
  have h1 := lt_bits h
  have h2 : (2 : Int) ^ (Builtin.Int.intBits x) ≤ 2 ^ (n * nd x n) := by
    have := Nat.pow_le_pow_right (n := 2) (by omega) (nd_bits x hn)
    have h3 : (((2 ^ (Builtin.Int.intBits x) : Nat)) : Int) ≤ ((2 ^ (n * nd x n) : Nat) : Int) := Int.ofNat_le.mpr this
    push_cast at h3; exact h3
  omega
end Mine
-- part FW13
namespace Mine
/-- the context of a comprehension -/
def compCx (C : Cx) (scope : Scope) (h₀ : Heap) (X : List Addr) (L : Addr) (x : PySem.Str) : Cx := ⟨C.B, C.A, compEnvC scope [] L C.env, h₀, X, [x], []⟩
section
variable {C : Cx} {σ : St} {Φ : Fl → St → Prop}
/-- a test in a comprehension -/
structure TsC (C : Cx) (σ : St) (ifs : List Expr) (b : Bool) : Prop where
  run : ∀ (s : Shared) (Q : Bool → Shared → Prop) (E : Value → Shared → Prop), Ok C s.heap σ → (∀ h' t', Kp s.heap h' → Q b { s with heap := h', toks := t' }) →
    wpAny C.M C.A (forIn ifs true fun c r => if r = true then do let ok ← isTrue c C.env (eval c C.env); pure (ForInStep.yield ok) else pure (ForInStep.yield r)) Q E s
theorem tsC_nil : TsC C σ [] true := .mk fun s Q E O h => wpAny_tests_nil (h s.heap s.toks Kp.refl)
theorem tsC_one {e : Expr} {b : Bool} (ht : Ts C σ e b) : TsC C σ [e] b := .mk fun s Q E O h => wpAny_tests_one (ht.run s Q E O h)
theorem sub_in {B : Bs} {h h' : Heap} (x : B.In h) (k : ∀ b o, h.get? b = some o → h'.get? b = some o) : B.In h' := x.full k
/-- the turns of a comprehension -/
theorem comp_core (W : Wf C) {elt iter : Expr} {x : PySem.Str} {px : Pos} {ifs : List Expr} {scope : Scope} {pos : Pos} {ds : List D} (p : D → Bool) (g : D → D)
    (hcell : ∀ y ∈ scope.names, y.2 ≠ .cell) (hkind : scope.kind = .function) (hx : scope.names.lookup x = some .local) (hsz : ds.length ≤ 100000)
    (ht : ∀ h₀ X L d ob, Wf (compCx C scope h₀ X L x) → d ∈ ds → TsC (compCx C scope h₀ X L x) ⟨[some d], ob⟩ ifs (p d))
    (he : ∀ h₀ X L d ob, Wf (compCx C scope h₀ X L x) → d ∈ ds → p d = true → Ev (compCx C scope h₀ X L x) ⟨[some d], ob⟩ elt (g d))
    {s₂ : Shared} (O : Ok C s₂.heap σ) {I : Addr} (hI0 : C.h₀.get? I = none) (it : Iter C σ I ds s₂.heap) {E : Value → Shared → Prop} {RR : Value → Addr → Result → Shared → Prop}
    (hRR : ∀ (D L : Addr) h' tk m, s₂.heap.get? D = none → s₂.heap.get? L = none → D ≠ L → h'.Ns L m → Rep (L :: C.ex σ) h' (.ref D) (.lst ((ds.filter p).map g)) → TabOk h' → KpB [I] s₂.heap h' → RR (.ref D) L (.ok .next) { s₂ with heap := h', toks := tk }) :
    wpAny C.M C.A (newList []) (fun acc s₃ => wpAny C.M C.A (newFunctionEnv scope C.env.globals [] [] C.env.qual none .none (some C.env)) (fun cenv s₄ =>
      codeAny C.M C.A (.compStart (.ListComp elt [⟨.Name x px, iter, ifs, 0⟩] scope pos) 0 (.ref I) acc { cenv with scope := relabel scope C.env }) (RR acc cenv.locals) s₄) E s₃) E s₂ := by
  refine wpAny_newObj_type (wpAny_newFunctionEnv hcell (by intro y hy; simp at hy) (fun h₁ hns₁ hsb₁ => ?_) hkind)
  dsimp only at hns₁ hsb₁ ⊢
  obtain ⟨D, hDe⟩ : ∃ D, s₂.heap.objs.size = D := ⟨_, rfl⟩
  obtain ⟨L, hLe⟩ : ∃ L, (s₂.heap.push { cls := .type "list", dict := none, data := .seq ([] : List Value).toArray }).objs.size = L := ⟨_, rfl⟩
  have hLD : L = D + 1 := by rw [← hLe, ← hDe, Heap.size_push]
  rw [hLe] at hns₁ hsb₁ ⊢
  rw [hDe]
  have hDL : D ≠ L := by rw [hLD]; exact Nat.ne_of_lt (Nat.lt_succ_self _)
  have lt : ∀ {b o}, s₂.heap.get? b = some o → b < D := fun e => hDe ▸ Heap.lt_size e
  have hD0 : s₂.heap.get? D = none := by rw [← hDe]; exact get_fresh
  have hL0 : s₂.heap.get? L = none := by
    cases e : s₂.heap.get? L with
    | none => rfl
    | some o => have := lt e; rw [hLD] at this; exact absurd this (Nat.not_lt.mpr (Nat.le_succ _))
  have old : ∀ b o, s₂.heap.get? b = some o → h₁.get? b = some o := fun b o e =>
    hsb₁.extBut b o (fun z => by rw [z, hL0] at e; cases e) (Heap.get?_push_of_some _ (Heap.get?_push_of_some _ e))
  have accD : h₁.get? D = some (lob [] 0) := (hsb₁.2 D hDL).trans (Heap.get?_push_of_some _ (by rw [← hDe]; exact Heap.get?_push_size _ rfl))
  have hIfp : I ∈ it.fp := it.walks.sub I (.head _)
  obtain ⟨hIex, hIT, oI, hoI⟩ := it.apart I hIfp
  have hID : I ≠ D := Nat.ne_of_lt (lt hoI)
  have hIL : I ≠ L := fun z => by rw [z, hL0] at hoI; cases hoI
  have hDT : D ∉ TT := fun m => by obtain ⟨ps, e⟩ := O.tab.at m; rw [hD0] at e; cases e
  have hLT : L ∉ TT := fun m => by obtain ⟨ps, e⟩ := O.tab.at m; rw [hL0] at e; cases e
  obtain ⟨h₀, hh₀⟩ : ∃ h₀, hideAll s₂.heap (I :: TT) = h₀ := ⟨_, rfl⟩
  have up₀ : ∀ b o, h₀.get? b = some o → s₂.heap.get? b = some o := fun b o e => by rw [← hh₀] at e; exact of_hideAll _ e
  have in₀ : ∀ b o, s₂.heap.get? b = some o → b ≠ I → b ∉ TT → h₀.get? b = some o := fun b o e h1 h2 => by rw [← hh₀]; exact hideAll_get _ e fun m => (List.mem_cons.mp m).elim h1 h2
  have no₀ : ∀ b, s₂.heap.get? b = none → h₀.get? b = none := fun b e => by
    cases z : h₀.get? b with
    | none => rfl
    | some o => rw [up₀ b o z] at e; cases e
  have hI00 : h₀.get? I = none := by rw [← hh₀]; exact hideAll_none _ (.head _)
  have exl : ∀ b ∈ C.ex σ, ∃ o, h₀.get? b = some o := fun b hb => by
    obtain ⟨h1, o, e⟩ := O.live W b hb
    exact ⟨o, in₀ b o e (fun z => hIex (z ▸ hb)) h1⟩
  have Bh₀ : C.B.In h₀ := W.base.full fun b o e => in₀ b o (O.kp0 b o e) (fun z => by rw [z, hI0] at e; cases e) (gh_fix O.gh e)
  have W' : Wf (compCx C scope h₀ (C.ex σ) L x) :=
    { kind := hkind, gl := W.gl, bl := W.bl, loc := fun y hy => by rw [List.mem_singleton.mp hy]; exact lookup_relabel_local hx, nd := List.nodup_cons.mpr ⟨fun q => (nomatch q), .nil⟩, base := Bh₀, old := exl, handled := W.handled, cons := fun _ _ h => (nomatch h) }
  have O₁ : Ok (compCx C scope h₀ (C.ex σ) L x) h₁ ⟨[none], [(D, [])]⟩ := by
    refine ⟨⟨_, ⟨hns₁, fun b o e => old b o (up₀ b o e), ?_⟩, fun i y d h1 h2 => ?_⟩, fun a es hm => ?_, List.nodup_cons.mpr ⟨fun q => (nomatch q), .nil⟩, O.tab.full old, fun t ht => ?_⟩
    · show h₀.objs.size ≤ L
      rw [← hh₀, hideAll_size, hDe, hLD]; exact Nat.le_succ _
    · exfalso
      match i with
      | 0 => cases h2
      | i + 1 => cases h2
    · rw [List.mem_singleton] at hm; cases hm
      exact ⟨[], 0, accD, .nil, no₀ D hD0, hDL⟩
    · rw [← hh₀]; exact hideAll_none _ (.tail _ ht)
  have hex : C.ex σ ⊆ (compCx C scope h₀ (C.ex σ) L x).X := fun a ha => ha
  have exno : ∀ a o, s₂.heap.get? a = some o → SeqO o → a ∉ C.ex σ → a ∉ L :: (C.ex σ ++ [D]) := fun a o e q ha m => by
    rcases List.mem_cons.mp m with rfl | m
    · rw [hL0] at e; cases e
    rcases List.mem_append.mp m with m | m
    · exact ha m
    · rw [List.mem_singleton] at m; subst m; rw [hD0] at e; cases e
  have loop : ∀ s₃ : Shared, s₃ = { s₂ with heap := h₁, toks := s₂.toks + ([] : List (PySem.Str × Value)).length } →
      codeAny C.M C.A (.compLoop (.ListComp elt [⟨.Name x px, iter, ifs, 0⟩] scope pos) 0 (.ref I) (.ref D) (compEnvC scope [] L C.env)) (RR (.ref D) L) s₃ := by
    rintro s₃ rfl
    refine codeAny_compLoop_tests (fun n s' => ∃ j a h t, n = ds.length + 1 - j ∧ j ≤ ds.length ∧ s' = { s₂ with heap := h, toks := t } ∧ it.St j h ∧ Ok (compCx C scope h₀ (C.ex σ) L x) h ⟨[a], [(D, ((ds.take j).filter p).map g)]⟩ ∧ KpB [I, D, L] h₁ h)
      ?_ (ds.length + 1) ⟨0, none, h₁, _, rfl, Nat.zero_le _, rfl, it.walks.frame 0 _ _ it.start (fun b _ o e => old b o e), O₁, KpB.refl⟩
    rintro n _ ⟨j, a, h, t, rfl, hj, rfl, hSt, Oj, hk⟩
    obtain ⟨o', hoI', hns, hnc⟩ := it.kind j h hSt
    obtain ⟨o₁, hoI₁, hns₁', _⟩ := it.kind 0 _ it.start
    rcases Nat.lt_or_eq_of_le hj with hlt | rfl
    · refine it.walks.item j _ _ _ hlt hSt fun v h₂ t₂ hP hSt₂ hk₂ => ?_
      have hd : ds[j]? = some ds[j] := List.getElem?_eq_getElem hlt
      have hdm : ds[j] ∈ ds := List.getElem_mem hlt
      have hk₂' : ∀ b ob, b ≠ I → h.get? b = some ob → h₂.get? b = some ob := fun b ob hb e => hk₂ b ob (fun z => hb (List.mem_singleton.mp z)) e
      have O₂ := Oj.turn hoI' hns hnc hIL hI00 hk₂'
      have to2 : ∀ b o, Fix b o → s₂.heap.get? b = some o → b ≠ I → h₂.get? b = some o := fun b o fx e hb => hk₂' b o hb (hk b o (fun m => by
        rcases List.mem_cons.mp m with m | m
        · exact hb m
        rcases List.mem_cons.mp m with rfl | m
        · rw [hD0] at e; cases e
        · rw [List.mem_singleton] at m; subst m; rw [hL0] at e; cases e) fx (old b o e))
      have r : Rep ((compCx C scope h₀ (C.ex σ) L x).ex ⟨[a], [(D, ((ds.take j).filter p).map g)]⟩) h₂ v ds[j] := (it.items j v _ hP hd).walk fun b o ha e q =>
        ⟨to2 b o q.fix e (fun z => by subst z; rw [hoI₁] at e; cases e; exact hns₁' q), exno b o e q ha⟩
      refine wpAny_assign_Name (store_ok (C := compCx C scope h₀ (C.ex σ) L x) W' (i := 0) (s := { s₂ with heap := h₂, toks := t₂ }) rfl O₂ r fun h₃ t₃ O₃ k₃ => ?_)
      have O₃' : Ok (compCx C scope h₀ (C.ex σ) L x) h₃ ⟨[some ds[j]], [(D, ((ds.take j).filter p).map g)]⟩ := O₃
      have step : ∀ h₄ es, Ok (compCx C scope h₀ (C.ex σ) L x) h₄ ⟨[some ds[j]], [(D, es)]⟩ → es = ((ds.take (j + 1)).filter p).map g → KpB [D] h₃ h₄ → ∀ t₄, ∃ m, m < ds.length + 1 - j ∧ ∃ j' a' h' t', m = ds.length + 1 - j' ∧ j' ≤ ds.length ∧ ({ s₂ with heap := h₄, toks := t₄ } : Shared) = { s₂ with heap := h', toks := t' } ∧ it.St j' h' ∧ Ok (compCx C scope h₀ (C.ex σ) L x) h' ⟨[a'], [(D, ((ds.take j').filter p).map g)]⟩ ∧ KpB [I, D, L] h₁ h' := fun h₄ es O₄ hes k₄ t₄ => by
        have K24 : ∀ b o, b ≠ D → b ≠ L → Fix b o → h₂.get? b = some o → h₄.get? b = some o := fun b o h1 h2 fx e => k₄ b o (fun m => h1 (List.mem_singleton.mp m)) fx (k₃ b o (fun m => h2 (List.mem_singleton.mp m)) fx e)
        refine ⟨ds.length + 1 - (j + 1), by omega, j + 1, _, h₄, t₄, rfl, hlt, rfl, it.walks.frame (j + 1) h₂ h₄ hSt₂ (fun b hb o e => ?_), hes ▸ O₄, fun b o hb fx e => ?_⟩
        · obtain ⟨_, hbT, ob, hob⟩ := it.apart b hb
          exact K24 b o (fun z => by subst z; rw [hD0] at hob; cases hob) (fun z => by subst z; rw [hL0] at hob; cases hob) (.inl hbT) e
        · exact K24 b o (fun z => hb (z ▸ .tail _ (.head _))) (fun z => hb (z ▸ .tail _ (.tail _ (.head _)))) fx (hk₂' b o (fun z => hb (z ▸ .head _)) (hk b o hb fx e))
      have tk : ds.take (j + 1) = ds.take j ++ [ds[j]] := List.take_succ_eq_append_getElem hlt
      refine (ht h₀ (C.ex σ) L ds[j] _ W' hdm).run { s₂ with heap := h₃, toks := t₃ } _ _ O₃' fun h₄ t₄ k₄ => ?_
      have O₄ := O₃'.keep k₄
      cases hp : p ds[j] with
      | false =>
        rw [if_neg Bool.false_ne_true]
        refine step h₄ _ O₄ ?_ k₄.but t₄
        rw [tk, List.filter_append, List.filter_cons, hp]
        simp
      | true =>
        rw [if_pos rfl]
        refine (he h₀ (C.ex σ) L ds[j] _ W' hdm hp).run { s₂ with heap := h₄, toks := t₄ } _ _ O₄ fun y h₅ t₅ k₅ r₅ => ?_
        have O₅ := O₄.keep k₅
        obtain ⟨vs, n, hA, rs, q0, qL⟩ := O₅.objs _ _ (.head _)
        refine wpAny_list_append_plain (s := { s₂ with heap := h₅, toks := t₅ }) (items := ⟨vs⟩) ⟨n, hA⟩ (fun h₆ hp₆ hsb => ?_) ?_
        · obtain ⟨n₆, e₆⟩ := hp₆
          have kB : ∀ b o, b ≠ D → h₅.get? b = some o → h₆.get? b = some o := fun b o hb e => (hsb.2 b hb).trans e
          refine step h₆ _ (O₅.upObj .here (vs' := vs ++ [y]) (n' := n₆) (by rw [e₆]; simp [lob]) (rs.append (.cons r₅ .nil)) kB) ?_ (fun b o hb fx e => kB b o (fun z => hb (z ▸ .head _)) (k₅.keep b o fx (k₄.keep b o fx e))) t₅
          rw [tk, List.filter_append, List.filter_cons, hp]
          simp
        · show vs.length ≤ sizeLine
          rw [rs.length, List.length_map, sizeLine_eq]
          have h1 : ((ds.take j).filter p).length ≤ (ds.take j).length := List.length_filter_le _ _
          have h2 : (ds.take j).length ≤ j := by rw [List.length_take]; omega
          omega
    · refine it.walks.done _ _ _ hSt fun h₂ t₂ hk₂ => ?_
      have hk₂' : ∀ b ob, b ≠ I → h.get? b = some ob → h₂.get? b = some ob := fun b ob hb e => hk₂ b ob (fun z => hb (List.mem_singleton.mp z)) e
      have O₂ := Oj.turn hoI' hns hnc hIL hI00 hk₂'
      obtain ⟨m, F⟩ := O₂.fr
      obtain ⟨vs, n, hA, rs, q0, qL⟩ := O₂.objs _ _ (.head _)
      rw [List.take_of_length_le (Nat.le_refl _)] at rs
      refine hRR D L h₂ t₂ m hD0 hL0 hDL F.ns (.lst (vs := vs) ⟨_, hA, rfl, n, rfl⟩ (fun q => ?_) (rs.mono fun a ha => (List.mem_cons.mp ha).elim (fun z => z ▸ .head _) fun ha => .tail _ (List.mem_append_left _ ha))) O₂.tab fun b o hb fx e => ?_
      · rcases List.mem_cons.mp q with q | q
        · exact hDL q
        obtain ⟨_, o, e⟩ := O.live W D q
        rw [hD0] at e; cases e
      · have hbI : b ≠ I := fun z => hb (z ▸ .head _)
        refine hk₂' b o hbI (hk b o (fun m => ?_) fx (old b o e))
        rcases List.mem_cons.mp m with m | m
        · exact hbI m
        rcases List.mem_cons.mp m with rfl | m
        · rw [hD0] at e; cases e
        · rw [List.mem_singleton] at m; subst m; rw [hL0] at e; cases e
  exact codeAny_compStart_list (loop _ rfl) (it.walks.self 0 _ _ _ (it.walks.frame 0 _ _ it.start (fun b _ o e => old b o e)) (loop _ rfl))
theorem ns_noC {h : Heap} {L : Addr} {m : PySem.Str → Option Value} (n : h.Ns L m) : ∃ o, h.get? L = some o ∧ NoC o := by
  obtain ⟨o', es, ep, e', hd, hc, _⟩ := n
  exact ⟨o', e', .dict ⟨_, _, hd⟩⟩
theorem tab_same {h h' : Heap} {L : Addr} {m : PySem.Str → Option Value} (x : TabOk h) (n : h.Ns L m) (hs : Heap.SameBut L h h') : TabOk h' := by
  obtain ⟨o, e, hc⟩ := ns_noC n
  exact x.one e hc fun b ob hb e => (hs.2 b hb).trans e
theorem ev_listcomp (W : Wf C) {elt iter : Expr} {x : PySem.Str} {px : Pos} {ifs : List Expr} {scope : Scope} {pos : Pos} {ds : List D} (p : D → Bool) (g : D → D) (hi : EvIt C σ iter ds)
    (hclos : closureFor scope C.env = pure []) (hcell : ∀ y ∈ scope.names, y.2 ≠ .cell) (hkind : scope.kind = .function) (hnames : ∀ y ∈ scope.names, y.2 = .local → scope.names.lookup y.1 = some .local) (hx : scope.names.lookup x = some .local) (hsz : ds.length ≤ 100000)
    (ht : ∀ h₀ X L d ob, Wf (compCx C scope h₀ X L x) → d ∈ ds → TsC (compCx C scope h₀ X L x) ⟨[some d], ob⟩ ifs (p d))
    (he : ∀ h₀ X L d ob, Wf (compCx C scope h₀ X L x) → d ∈ ds → p d = true → Ev (compCx C scope h₀ X L x) ⟨[some d], ob⟩ elt (g d))
    (hs : notSet iter = true := by rfl) : Ev C σ (.ListComp elt [⟨.Name x px, iter, ifs, 0⟩] scope pos) (.lst ((ds.filter p).map g)) := .mk fun s Q E O h => by
  rw [eval_ListComp]
  refine wpAny_comprehension_free (use := none) rfl (folded_of hs _) hclos hkind hnames ?_
  refine hi.run s _ E O fun I h₁ t₁ k₁ hI it => ?_
  have hI0 : C.h₀.get? I = none := by
    cases z : C.h₀.get? I with
    | none => rfl
    | some o => rw [O.kp0 _ _ z] at hI; cases hI
  refine comp_core W p g hcell hkind hx hsz ht he (s₂ := { s with heap := h₁, toks := t₁ }) (O.keep k₁) hI0 it (RR := fun acc L => compPost C.M C.A E none Q acc L) fun D L h' tk m hD hL hDL hns r tb kB => ?_
  refine ⟨m, hns, fun h'' hs'' => h (.ref D) h'' tk ⟨fun b o fx e => ?_, fun _ => tab_same tb hns hs''⟩ (r.walk fun a o ha e _ => ⟨(hs''.2 a fun z => ha (z ▸ .head _)).trans e, fun q => ha (.tail _ q)⟩)⟩
  have e₁ := k₁.keep b o fx e
  refine (hs''.2 b fun z => ?_).trans (kB b o (fun m => ?_) fx e₁)
  · subst z; rw [show h₁.get? b = none from hL] at e₁; cases e₁
  · rw [List.mem_singleton] at m; subst m; rw [hI] at e; cases e
theorem ex_assign_comp (W : Wf C) {elt iter : Expr} {x y : PySem.Str} {px py : Pos} {ifs : List Expr} {scope : Scope} {pos spos : Pos} {ds : List D} (p : D → Bool) (g : D → D) (i : Nat) (hy : C.names[i]? = some y) (hi : EvIt C σ iter ds)
    (hclos : closureFor scope C.env = pure []) (hcell : ∀ y ∈ scope.names, y.2 ≠ .cell) (hkind : scope.kind = .function) (hnames : ∀ y ∈ scope.names, y.2 = .local → scope.names.lookup y.1 = some .local) (hx : scope.names.lookup x = some .local) (hsz : ds.length ≤ 100000)
    (ht : ∀ h₀ X L d ob, Wf (compCx C scope h₀ X L x) → d ∈ ds → TsC (compCx C scope h₀ X L x) ⟨[some d], ob⟩ ifs (p d))
    (he : ∀ h₀ X L d ob, Wf (compCx C scope h₀ X L x) → d ∈ ds → p d = true → Ev (compCx C scope h₀ X L x) ⟨[some d], ob⟩ elt (g d))
    (hsw : swapsWith (.ListComp elt [⟨.Name x px, iter, ifs, 0⟩] scope pos) (some (.Name y py)) spos.line C.env = pure true) (h : Φ .next (σ.set i (.lst ((ds.filter p).map g))))
    (hs : notSet iter = true := by rfl) : Ex C σ (.Assign [.Name y py] (.ListComp elt [⟨.Name x px, iter, ifs, 0⟩] scope pos) spos) Φ := .mk fun s Q E O k => by
  rw [exec_Assign_Name_used _ _ _ _ hsw]
  refine wpAny_bind (wpAny_standAt (wpAny_bind ?_))
  show wpAny _ C.A (do let _ ← comprehension (.ListComp elt [⟨.Name x px, iter, ifs, 0⟩] scope pos) scope C.env _ (newList []) false (eval iter C.env) (some (assign (.Name y py) C.env))) _ _ s
  refine wpAny_bind (wpAny_mono (wpAny_comprehension_free (use := some (assign (.Name y py) C.env)) (Q := fun _ s' => Q .next s') rfl (folded_of hs _) hclos hkind hnames ?_) (fun _ s' hq => wpAny_pure (wpAny_pure hq)) fun _ _ e => e)
  refine hi.run s _ E O fun I h₁ t₁ k₁ hI it => ?_
  have hI0 : C.h₀.get? I = none := by
    cases z : C.h₀.get? I with
    | none => rfl
    | some o => rw [O.kp0 _ _ z] at hI; cases hI
  have O₁ := O.keep k₁
  have hIfp : I ∈ it.fp := it.walks.sub I (.head _)
  obtain ⟨hIex, hIT, oI, hoI⟩ := it.apart I hIfp
  obtain ⟨oI', hoI', hnsI, _⟩ := it.kind 0 _ it.start
  refine comp_core W p g hcell hkind hx hsz ht he (s₂ := { s with heap := h₁, toks := t₁ }) O₁ hI0 it (RR := fun acc L => compPost C.M C.A E (some (assign (.Name y py) C.env)) (fun _ s' => Q .next s') acc L) fun D L h' tk m hD hL hDL hns r tb kB => ?_
  show wpAny _ C.A (assign (.Name y py) C.env (.ref D)) _ _ _
  obtain ⟨⟨mf, F, hv⟩, ho, hn, htb, hg⟩ := O₁
  have hLT : C.L ∉ TT := htb.nsT F.ns
  have hCL : C.L ≠ L := fun z => by
    obtain ⟨oL, es, ep, e, _⟩ := F.ns
    rw [z] at e; rw [show h₁.get? L = none from hL] at e; cases e
  have nsL : h'.Ns C.L mf := by
    obtain ⟨oL, es, ep, e, q⟩ := F.ns
    exact ⟨oL, es, ep, kB _ _ (fun m => hIex (by rw [List.mem_singleton] at m; rw [← m]; exact .head _)) (.inl hLT) e, q⟩
  refine wpAny_assign_Name (wpAny_storeName_local (W.loc y (List.mem_of_getElem? hy)) nsL (fun h₂ hns₂ hsb₂ => ?_) (by rw [W.kind]; rfl))
  have nsL2 : h₂.Ns L m := hns.sameBut hsb₂ (Ne.symm hCL)
  have tb₂ : TabOk h₂ := tab_same tb nsL hsb₂
  refine ⟨m, nsL2, fun h₃ hsb₃ => ?_⟩
  have tb₃ : TabOk h₃ := tab_same tb₂ nsL2 hsb₃
  have to3 : ∀ b o, Fix b o → b ≠ I → b ≠ C.L → b ≠ L → h₁.get? b = some o → h₃.get? b = some o := fun b o fx h1 h2 h3 e => (hsb₃.2 b h3).trans ((hsb₂.2 b h2).trans (kB b o (fun m => h1 (List.mem_singleton.mp m)) fx e))
  have nL : ∀ {b o}, h₁.get? b = some o → b ≠ L := fun e z => by rw [z] at e; rw [show h₁.get? L = none from hL] at e; cases e
  have hk : ∀ (b : Addr) (o : Obj), b ∉ C.ex σ → h₁.get? b = some o → SeqO o → h₃.get? b = some o ∧ b ∉ C.ex σ := fun b o hb e q => ⟨to3 b o q.fix (fun z => by subst z; rw [hoI'] at e; cases e; exact hnsI q) (fun z => hb (z ▸ .head _)) (nL e) e, hb⟩
  have rD : Rep (C.ex σ) h₃ (.ref D) (.lst ((ds.filter p).map g)) := r.walk fun a o ha e q => ⟨(hsb₃.2 a fun z => ha (z ▸ .head _)).trans ((hsb₂.2 a fun z => ha (z ▸ .tail _ (.head _))).trans e), fun q => ha (.tail _ q)⟩
  have O₃ : Ok C h₃ (σ.set i (.lst ((ds.filter p).map g))) := by
    refine ⟨⟨_, ⟨hns₂.sameBut hsb₃ hCL, fun b o e => ?_, F.above⟩, fun j z d' h1 h2 => ?_⟩, fun a es hm => ?_, hn, tb₃, hg⟩
    · have e1 := F.keep b o e
      refine to3 b o (.inl (gh_fix hg e)) (fun z => by rw [z, hI0] at e; cases e) (fun z => ?_) (nL e1) e1
      have h1 := Heap.lt_size e
      rw [z] at h1
      exact absurd h1 (Nat.not_lt.mpr F.above)
    · by_cases e : z = y
      · subst e
        have hij : j = i := nodup_idx W.nd h1 hy
        subst hij
        have hd : d' = .lst ((ds.filter p).map g) := by
          simp only [St.set, List.getElem?_set_self'] at h2
          cases q : σ.vars[j]? with
          | none => rw [q] at h2; cases h2
          | some z => rw [q] at h2; cases h2; rfl
        subst hd
        exact ⟨_, by simp, rD⟩
      · have hij : i ≠ j := fun q => e (by subst q; exact Option.some.inj (h1.symm.trans hy))
        simp only [St.set, List.getElem?_set_ne hij] at h2
        obtain ⟨u, e1, r1⟩ := hv j z d' h1 h2
        exact ⟨u, by simp [e, e1], r1.walk hk⟩
    · obtain ⟨vs, n, e, rs, q1, q2⟩ := ho a es hm
      refine ⟨vs, n, to3 a _ (.inr nofun) (fun z => ?_) q2 (nL e) e, rs.walk hk, q1, q2⟩
      exact hIex (z ▸ .tail _ (List.mem_append_right _ (List.mem_map_of_mem (f := (·.1)) hm)))
  refine k _ .next _ h₃ _ .next O₃ (fun b o hb fx e => ?_) (fun a ha => .inl ha) h
  have e₁ := k₁.keep b o fx e
  exact to3 b o fx (fun z => by subst z; rw [hI] at e; cases e) (fun z => hb (z ▸ .head _)) (nL e₁) e₁
end
end Mine
-- part FW14
namespace Mine
section
variable {C : Cx} {σ : St} {Φ : Fl → St → Prop}
theorem back1 {e : Expr} {q : Pos} {env : Env} (hn : nst e = true) : backTo q (starEach [e] env) = [(false, eval e env)] := by rw [star_cons hn]; rfl
/-- a global name's object -/
theorem ev_gref (W : Wf C) {x : PySem.Str} {p : Pos} {a : Addr} (hk : C.env.kindOf x = some .globalImplicit) (hg : C.B.mg x = some (.ref a)) (hd : (x == ("__debug__" : PySem.Str)) = false := by rfl) : Ev C σ (.Name x p) (.obj a) := .mk fun s Q E O h =>
  name_global W O hk hg (h _ s.heap s.toks Kp.refl (.obj _)) hd
theorem co_inset (W : Wf C) {x : Int} {a : Addr} {S : Int → Bool} {n : Nat} (hS : ∀ h, C.B.In h → h.SetOf (intKind C.B.prog C.B.w) a S n) : CmpOn C σ .In (.int x) (.obj a) (S x) := fun s Q E v u O r1 r2 h => by
  cases r1; cases r2
  exact wpAny_inSet_of (knd := intKind C.B.prog C.B.w) (k := x) (by simp [intKind, Value.isInt]) rfl (hS _ (O.base W)) (h _ _ Kp.refl)
theorem co_isnot_str {x : PySem.Str} : CmpOn C σ .IsNot (.str x) .none true := fun s Q E v u O r1 r2 h => by cases r1; cases r2; exact isnot_str_none (h _ _ Kp.refl)
theorem co_isnot_none : CmpOn C σ .IsNot .none .none false := fun s Q E v u O r1 r2 h => by cases r1; cases r2; exact wpAny_isNot_self rfl (h _ _ Kp.refl)
/-- get of a dict by ints that stands in the base -/
theorem ev_dict_get (W : Wf C) {o e : Expr} {ap pos : Pos} {a : Addr} {x : Int} {f : Int → Option Value} {r : D} {pl : Sem Bool} (ho : Ev C σ o (.obj a)) (he : Ev C σ e (.int x)) (ha : (a == sysModules) = false) (hm : ∀ h, C.B.In h → h.MapOf (intKind C.B.prog C.B.w) a f) (hr : ∀ X h, Rep X h ((f x).getD .none) r)
    (hn : nst e = true := by rfl)
    (hc : eval (.Call (.Attribute o (PySem.Str.ofString "get") ap) [e] [] pos) C.env = (do
      let ov ← eval o C.env
      standAt ap.atName
      let (f, first) ← holding [ov] (getMethod ov (PySem.Str.ofString "get") pl)
      callWith pos f first (backTo pos (starEach [e] C.env)) []) := by rfl) : Ev C σ (.Call (.Attribute o (PySem.Str.ofString "get") ap) [e] [] pos) r := .mk fun s Q E O h => by
  refine MethodCall_ (ho.run s _ E O fun v h₁ t₁ k₁ r₁ => ?_) hc
  cases r₁
  have O₁ := O.keep k₁
  have m₁ := hm h₁ (O₁.base W)
  refine getMethod_builtin (s := { s with heap := h₁, toks := t₁ }) m₁.typeIs PySem.F.plainAttrs_dict PySem.F.slot_dict_get PySem.F.type_dict_get m₁.noDict ?_
  rw [back1 hn]
  refine wpAny_dict_get1 (knd := intKind C.B.prog C.B.w) ha (he.run _ _ E O₁ fun u h₂ t₂ k₂ r₂ => ?_)
  cases r₂
  exact ⟨x, f, by simp [intKind, Value.isInt], hm h₂ ((O₁.keep k₂).base W), h _ h₂ _ (k₁.trans k₂) (hr _ _)⟩
theorem ev_lower {o : Expr} {apos pos : Pos} {x : PySem.Str} {pl : Sem Bool} (ha : Ev C σ o (.str x)) (hx : Builtin.Str.tooLong (Txt.lower x).length = false)
    (he : eval (.Call (.Attribute o (PySem.Str.ofString "lower") apos) [] [] pos) C.env = (do
      let ov ← eval o C.env
      standAt apos.atName
      let (f, first) ← holding [ov] (getMethod ov (PySem.Str.ofString "lower") pl)
      callWith pos f first (backTo pos (starEach [] C.env)) []) := by rfl) : Ev C σ (.Call (.Attribute o (PySem.Str.ofString "lower") apos) [] [] pos) (.str (Txt.lower x)) :=
  ev_meth0 (id := "str.lower") ha (fun s v Q E O r h => by cases r; exact GM.lower h) (fun s Q E v O r h => by cases r; exact SC.lower hx (h _ _ _ Kp.refl (.str _ _))) he
theorem Reps.strs {X : List Addr} {h : Heap} : ∀ {vs : List Value} {ts : List PySem.Str}, Reps X h vs (ts.map .str) → ∃ l : List (PySem.Str × Tok), vs = strValues l ∧ l.map (·.1) = ts
  | [], [], _ => ⟨[], rfl, rfl⟩
  | [], _ :: _, h => nomatch h
  | _ :: _, [], h => nomatch h
  | v :: vs, t :: ts, .cons r rs => by
    obtain ⟨l, e1, e2⟩ := Reps.strs (ts := ts) rs
    cases r with
    | str _ tk => exact ⟨(t, tk) :: l, by simp [strValues, e1], by simp [e2]⟩
theorem ev_join (W : Wf C) {o e : Expr} {ap pos : Pos} {x : PySem.Str} {d : D} {ts : List PySem.Str} {pl : Sem Bool} (ho : Ev C σ o (.str x)) (he : Ev C σ e d) (hl : LstOf σ d (ts.map .str)) (hj : JoinOk x ts = true)
    (hn : nst e = true := by rfl)
    (hc : eval (.Call (.Attribute o (PySem.Str.ofString "join") ap) [e] [] pos) C.env = (do
      let ov ← eval o C.env
      standAt ap.atName
      let (f, first) ← holding [ov] (getMethod ov (PySem.Str.ofString "join") pl)
      callWith pos f first (backTo pos (starEach [e] C.env)) []) := by rfl) : Ev C σ (.Call (.Attribute o (PySem.Str.ofString "join") ap) [e] [] pos) (.str (Txt.join x ts)) := .mk fun s Q E O h => by
  refine MethodCall_ (ho.run s _ E O fun v h₁ t₁ k₁ r₁ => ?_) hc
  cases r₁
  have O₁ := O.keep k₁
  refine GM.join ?_
  rw [back1 hn]
  refine callWith_builtin rfl (evalArgs_plain (spliced_cons (he.run _ _ E O₁ fun u h₂ t₂ k₂ r₂ => spliced_nil ?_)))
  obtain ⟨l, vs, rfl, il, rs⟩ := hl.get (O₁.keep k₂) r₂
  obtain ⟨l', e1, e2⟩ := rs.strs
  subst e1
  exact SC.join (s := { s with heap := h₂, toks := t₂ }) il e2 hj fun t' k => h _ h₂ k (k₁.trans k₂) (.str _ _)
end
end Mine
-- part FW15
namespace Mine
section
variable {C : Cx} {σ : St} {Φ : Fl → St → Prop}
/-- a written str -/
def cstr : Expr → Option PySem.Str
  | .Constant c _ _ => match c with
    | .str k => some k
    | _ => none
  | _ => none
theorem cstr_is {e : Expr} {k : PySem.Str} (h : cstr e = some k) : ∃ n p, e = .Constant (.str k) n p := by
  unfold cstr at h
  split at h
  · split at h
    · cases h; exact ⟨_, _, rfl⟩
    · cases h
  · cases h
/-- a written dict of strs by strs -/
def dlit : List (Option Expr) → List Expr → Option (List (PySem.Str × PySem.Str))
  | [], [] => some []
  | some a :: ks, b :: vs => (cstr a).bind fun k => (cstr b).bind fun v => (dlit ks vs).map ((k, v) :: ·)
  | _, _ => none
/-- written pairs as values -/
inductive Lits : List (Value × Value) → List (PySem.Str × PySem.Str) → Prop
  | nil : Lits [] []
  | cons {k v : PySem.Str} {t u : Tok} {vs l} : Lits vs l → Lits ((.str k t, .str v u) :: vs) ((k, v) :: l)
theorem lits_walk {env : Env} {pos : Pos} : ∀ {ks : List (Option Expr)} {vs : List Expr} {l : List (PySem.Str × PySem.Str)}, dlit ks vs = some l → ∀ {s : Shared} {Q : List (Value × Value) → Shared → Prop} {E : Value → Shared → Prop}, (∀ r t, Lits r l → Q r { s with toks := t }) → wpAny C.M C.A (evalPairs (pairTrees ks vs env pos)) Q E s
  | [], [], _, h, s, Q, E, q => by cases h; exact pairTrees_nil_walk (q _ s.toks .nil)
  | [], _ :: _, _, h, _, _, _, _ => nomatch h
  | some _ :: _, [], _, h, _, _, _, _ => nomatch h
  | none :: _, _, _, h, _, _, _, _ => nomatch h
  | some a :: ks, b :: vs, l, h, s, Q, E, q => by
    simp only [dlit, Option.bind_eq_some_iff, Option.map_eq_some_iff] at h
    obtain ⟨k, hk, v, hv, l', hl, rfl⟩ := h
    obtain ⟨_, _, rfl⟩ := cstr_is hk
    obtain ⟨_, _, rfl⟩ := cstr_is hv
    refine pairTrees_cons_walk (wpAny_Constant_str (wpAny_Constant_str (lits_walk hl fun r t hr => ?_)))
    exact q _ t (.cons hr)
theorem lits_carries {prog : Program} {w : World} : ∀ {vs : List (Value × Value)} {l : List (PySem.Str × PySem.Str)}, Lits vs l → ∃ kvs : List (PySem.Str × Value), Carries (strKind prog w) vs kvs ∧ kvs.map (·.1) = l.map (·.1) ∧ ∀ k, match l.lookup k with | some v => ∃ t, valueAt kvs k = some (.str v t) | none => valueAt kvs k = none
  | _, _, .nil => ⟨[], trivial, rfl, fun k => rfl⟩
  | _, _, .cons (k := k) (v := v) (t := t) (u := u) r => by
    obtain ⟨kvs, h1, h2, h3⟩ := lits_carries (prog := prog) (w := w) r
    refine ⟨(k, .str v u) :: kvs, ⟨by simp [PySem.strKind, Value.isStrOf], rfl, h1⟩, by simp [h2], fun j => ?_⟩
    rw [List.lookup_cons]
    by_cases e : j = k
    · subst e
      simp only [beq_self_eq_true]
      exact ⟨u, by simp [valueAt]⟩
    · have e1 : (j == k) = false := by simpa using e
      rw [e1]
      have : valueAt ((k, Value.str v u) :: kvs) j = valueAt kvs j := by
        unfold valueAt
        rw [List.find?_cons]
        have : decide (k = j) = false := by simpa using fun z => e z.symm
        simp [this]
      rw [this]
      exact h3 j
theorem merged_new : ∀ (more acc : List (PySem.Str × Value)), (acc.map (·.1) ++ more.map (·.1)).Nodup → merged acc more = acc ++ more
  | [], acc, _ => by simp [merged]
  | (k, v) :: more, acc, h => by
    have hk : stored acc k v = acc ++ [(k, v)] := by
      unfold stored
      rw [if_neg]
      intro q
      obtain ⟨x, hx, e⟩ := List.any_eq_true.mp q
      have e : x.1 = k := by simpa using e
      have h1 := (List.nodup_append.mp h).2.2 x.1 (List.mem_map_of_mem hx) k (by simp)
      exact h1 e
    show merged (stored acc k v) more = _
    rw [hk, merged_new more (acc ++ [(k, v)]) (by simpa using h)]
    simp
theorem ev_dict (W : Wf C) {ks : List (Option Expr)} {vs : List Expr} {p : Pos} {l : List (PySem.Str × PySem.Str)} (hl : dlit ks vs = some l) (hn : (l.map (·.1)).Nodup) (hall : ks.all (·.isSome) = true) (hlen : ks.length = vs.length) (h0 : ks ≠ []) (h15 : ks.length ≤ 15) :
    Ev C σ (.Dict ks vs p) (.dic (hashStr C.B.w) l) := .mk fun s Q E O h => by
  refine wpAny_Dict_walk (knd := strKind C.B.prog C.B.w) hall hlen h0 h15 ?_
  refine lits_walk (s := { s with heap := s.heap.push { cls := .type "dict", data := .dict #[] } }) hl fun r t hr => ?_
  obtain ⟨kvs, h1, h2, h3⟩ := lits_carries (prog := C.B.prog) (w := C.B.w) hr
  refine ⟨kvs, h1, Heap.DictOf.new _, fun h' hd hs => ?_⟩
  have hm : merged [] kvs = kvs := merged_new kvs [] (by simpa [h2] using hn)
  rw [hm] at hd
  have hmo := hd.mapOf
  obtain ⟨o, es, ep, e, hx, hdat, hk, hf⟩ := hmo
  obtain ⟨x1, x2, x3⟩ := hx
  obtain ⟨cls, dd, data, sl⟩ := o
  simp only at x1 x2 x3 hdat
  subst x1 x2 x3 hdat
  have hsz : (s.heap.objs.size == sysModules) = false := by
    have hB := O.base W
    have := hB.g.lt
    have : s.heap.objs.size ≠ sysModules := fun z => by rw [z] at this; exact absurd this (by decide)
    simpa using this
  have kp : Kp s.heap h' := .full fun b o e => (hs.2 b (Nat.ne_of_lt (Heap.lt_size e))).trans (Heap.get?_push_of_some _ e)
  refine h _ h' _ kp (.dic e ⟨fun en hen => hk en hen, fun k => ?_⟩ hsz (O.freshA W))
  have e3 := h3 k
  rw [← hf k] at e3
  exact e3
theorem dic_map {B : Bs} {h : Heap} {a : Addr} {es : Array DictEntry} {n : Nat} {l : List (PySem.Str × PySem.Str)} (e : h.get? a = some (dicO es n)) (d : DicOk (hashStr B.w) l es) : h.MapOf (strKind B.prog B.w) a (findBy Value.isStrOf es) :=
  ⟨_, es, n, e, ⟨rfl, rfl, rfl⟩, rfl, d.keys, fun _ => rfl⟩
theorem co_indic {x : PySem.Str} {l : List (PySem.Str × PySem.Str)} : CmpOn C σ .In (.str x) (.dic (hashStr C.B.w) l) (l.lookup x).isSome := fun s Q E v u O r1 r2 h => by
  cases r1
  cases r2 with
  | dic e d hm ha =>
    refine wpAny_in_of (knd := strKind C.B.prog C.B.w) (k := x) (by simp [PySem.strKind, Value.isStrOf]) hm (dic_map e d) ?_
    have := d.find x
    cases q : l.lookup x with
    | none => rw [q] at this; rw [this]; rw [q] at h; exact h _ _ Kp.refl
    | some v => rw [q] at this; obtain ⟨t, e'⟩ := this; rw [e']; rw [q] at h; exact h _ _ Kp.refl
theorem ev_dic_item {a i : Expr} {p : Pos} {x y : PySem.Str} {l : List (PySem.Str × PySem.Str)} (ha : Ev C σ a (.dic (hashStr C.B.w) l)) (hi : Ev C σ i (.str x)) (hx : l.lookup x = some y) (hs : notSlice i = true := by rfl) : Ev C σ (.Subscript a i p) (.str y) := .mk fun s Q E O h =>
  Subscript_ (ha.run s _ E O fun v h₁ t₁ k₁ r₁ => hi.run _ _ E (O.keep k₁) fun u h₂ t₂ k₂ r₂ => by
    obtain ⟨t₀, rfl⟩ : ∃ t, u = .str x t := by cases r₂; exact ⟨_, rfl⟩
    cases r₁ with
    | dic e d hm _ =>
      have e₂ := k₂.keep _ _ (.inr (by simp [dicO])) e
      have hf := d.find x
      rw [hx] at hf
      obtain ⟨t, hf⟩ := hf
      have mo := dic_map (B := C.B) (h := h₂) e₂ d
      exact tail_any mo.typeIs slot_dict_getitem.lookup (wpAny_getItem_of (knd := strKind C.B.prog C.B.w) (k := x) (by simp [PySem.strKind, Value.isStrOf]) mo hf (h _ h₂ _ (k₁.trans k₂) (.str _ _))) (sub_of hs _ _))
end
end Mine
-- part FW16
namespace Mine
section
variable {C : Cx} {σ : St} {Φ : Fl → St → Prop}
theorem kp_push2 {h : Heap} {a b : Obj} : Kp h ((h.push a).push b) := Kp.push.trans Kp.push
/-- the first items of a list -/
theorem ev_take (W : Wf C) {a b : Expr} {p pos : Pos} {d : D} {ds : List D} {k : Int} (ha : Ev C σ a d) (hl : LstOf σ d ds) (hb : Ev C σ b (.int k)) (h0 : 0 ≤ k) (hz : ds.length ≤ 100000) : Ev C σ (.Subscript a (.Slice none (some b) none p) pos) (.lst (ds.take k.toNat)) := .mk fun s Q E O h => by
  refine Subscript_ (ha.run s _ E O fun v h₁ t₁ k₁ r₁ => wpAny_Slice (evalPart_none_step (evalPart_some_step (hb.run { s with heap := h₁, toks := t₁ } _ E (O.keep k₁) fun u h₂ t₂ k₂ r₂ => ?_))))
  have O₂ := (O.keep k₁).keep k₂
  obtain ⟨l, vs, rfl, il, rs⟩ := hl.get O₂ (r₁.keep k₂)
  obtain ⟨t, rfl⟩ : ∃ t, u = .int k t := by cases r₂; exact ⟨_, rfl⟩
  have e : slicePick vs.toArray none (some k) none = (vs.take k.toNat).toArray := by
    have ek : k = (k.toNat : Int) := by omega
    conv => lhs; rw [ek]
    rw [slicePick_upto']
  rw [evalPart_none]
  refine wpAny_pure (tail_any (il.push _).typeIs slot_list_getitem.lookup (wpAny_getItem_list_slice (lo := none) (hi := (some k)) (st := none) (il.push _) (Heap.IsSliceOf.new ..) .none (.int _ _) .none (by simp) ?_ (by rw [List.size_toArray, rs.length, sizeLine_eq]; omega)) rfl)
  rw [e, Heap.size_push]
  refine h _ _ t₂ (k₁.trans (k₂.trans kp_push2)) (.lst (vs := vs.take k.toNat) ⟨_, by rw [show h₂.objs.size + 1 = (h₂.push _).objs.size from (Heap.size_push ..).symm]; exact Heap.get?_push_size _ rfl, rfl, 0, rfl⟩ (fun q => ?_) ((rs.take _).keep kp_push2))
  obtain ⟨_, o, e'⟩ := O₂.live W _ q
  exact absurd (Heap.lt_size e') (Nat.not_lt.mpr (Nat.le_succ _))
/-- the items of a list from a place -/
theorem ev_drop (W : Wf C) {a b : Expr} {p pos : Pos} {d : D} {ds : List D} {k : Int} (ha : Ev C σ a d) (hl : LstOf σ d ds) (hb : Ev C σ b (.int k)) (h0 : 0 ≤ k) (hz : ds.length ≤ 100000) : Ev C σ (.Subscript a (.Slice (some b) none none p) pos) (.lst (ds.drop k.toNat)) := .mk fun s Q E O h => by
  refine Subscript_ (ha.run s _ E O fun v h₁ t₁ k₁ r₁ => wpAny_Slice (evalPart_some_step (hb.run { s with heap := h₁, toks := t₁ } _ E (O.keep k₁) fun u h₂ t₂ k₂ r₂ => evalPart_none_step ?_)))
  have O₂ := (O.keep k₁).keep k₂
  obtain ⟨l, vs, rfl, il, rs⟩ := hl.get O₂ (r₁.keep k₂)
  obtain ⟨t, rfl⟩ : ∃ t, u = .int k t := by cases r₂; exact ⟨_, rfl⟩
  have e : slicePick vs.toArray (some k) none none = (vs.drop k.toNat).toArray := by
    have ek : k = (k.toNat : Int) := by omega
    conv => lhs; rw [ek]
    rw [slicePick_from']
  rw [evalPart_none]
  refine wpAny_pure (tail_any (il.push _).typeIs slot_list_getitem.lookup (wpAny_getItem_list_slice (lo := (some k)) (hi := none) (st := none) (il.push _) (Heap.IsSliceOf.new ..) (.int _ _) .none .none (by simp) ?_ (by rw [List.size_toArray, rs.length, sizeLine_eq]; omega)) rfl)
  rw [e, Heap.size_push]
  refine h _ _ t₂ (k₁.trans (k₂.trans kp_push2)) (.lst (vs := vs.drop k.toNat) ⟨_, by rw [show h₂.objs.size + 1 = (h₂.push _).objs.size from (Heap.size_push ..).symm]; exact Heap.get?_push_size _ rfl, rfl, 0, rfl⟩ (fun q => ?_) ((rs.drop _).keep kp_push2))
  obtain ⟨_, o, e'⟩ := O₂.live W _ q
  exact absurd (Heap.lt_size e') (Nat.not_lt.mpr (Nat.le_succ _))
theorem ev_addL (W : Wf C) {a b : Expr} {p : Pos} {d e : D} {ds es : List D} (ha : Ev C σ a d) (hl : LstOf σ d ds) (hb : Ev C σ b e) (hm : LstOf σ e es) (hz : ds.length + es.length ≤ 100000) : Ev C σ (.BinOp a .Add b p) (.lst (ds ++ es)) :=
  ev_bin ha hb fun s Q E v u O r1 r2 h => by
    obtain ⟨l, vs, rfl, il, rs⟩ := hl.get O r1
    obtain ⟨m, ws, rfl, im, rt⟩ := hm.get O r2
    obtain ⟨⟨cls, dd, data, sl⟩, ho, hc, n, hd⟩ := id il
    obtain ⟨⟨cls2, dd2, data2, sl2⟩, ho2, hc2, n2, hd2⟩ := id im
    simp only at hc hd hc2 hd2
    subst hc hd hc2 hd2
    have e : vs.toArray ++ ws.toArray = (vs ++ ws).toArray := by simp
    refine concat_meets ⟨_, ho, rfl⟩ ⟨_, ho2, rfl⟩ noFill_list_add seq_list_add PySem.F.slot_list_add PySem.F.entry_list_add (PySem.F.args_list_add_2 _ _) (list_addW l m vs.toArray ws.toArray n n2 dd dd2 sl sl2 (by
      simp only [List.size_toArray]; rw [rs.length, rt.length, sizeLine_eq]; omega)) ⟨ho, ho2, ?_⟩
    rw [e]
    exact h _ _ s.toks Kp.push (.lst (vs := vs ++ ws) ⟨_, Heap.get?_push_size _ rfl, rfl, 0, rfl⟩ (O.freshA W) ((rs.append rt).keep Kp.push))
theorem Reps.ints {X : List Addr} {h : Heap} : ∀ {vs : List Value} {l : List Int}, Reps X h vs (l.map .int) → ∃ ys : List (Int × Tok), vs = ys.map (fun p => .int p.1 p.2) ∧ ys.map (·.1) = l
  | [], [], _ => ⟨[], rfl, rfl⟩
  | [], _ :: _, h => nomatch h
  | _ :: _, [], h => nomatch h
  | v :: vs, t :: ts, .cons r rs => by
    obtain ⟨l, e1, e2⟩ := Reps.ints (l := ts) rs
    cases r with
    | int _ tk => exact ⟨(t, tk) :: l, by simp [e1], by simp [e2]⟩
theorem ev_sum (W : Wf C) {p q : Pos} {e : Expr} {d : D} {l : List Int} (hk : C.env.kindOf (PySem.Str.ofString "sum") = some .globalImplicit) (hg : C.B.mg (PySem.Str.ofString "sum") = none) (hb : C.B.mb (PySem.Str.ofString "sum") = some (.builtin "sum")) (he : Ev C σ e d) (hl : LstOf σ d (l.map .int))
    (hn : nst e = true := by rfl) : Ev C σ (.Call (.Name (PySem.Str.ofString "sum") p) [e] [] q) (.int l.sum) :=
  ev_call_builtin W hk hg hb (evs_cons he evs_nil hn) (fun s Q E vs O rs h => by
    cases rs with
    | cons r1 rn =>
      cases rn
      obtain ⟨a, ws, rfl, il, rt⟩ := hl.get O r1
      obtain ⟨ys, rfl, e2⟩ := rt.ints
      have e1 : (ys.map fun p => Value.int p.1 p.2).toArray = intItems ys.toArray := by simp [intItems]
      rw [e1] at il
      refine sum_intListG W.handled il fun h' tk t' hk => ?_
      have e3 : preSum (numAt ys.toArray) ys.toArray.size = l.sum := by
        rw [preSum_eq]
        simp only [List.size_toArray]
        rw [List.take_of_length_le (by simp), e2]
      rw [e3]
      exact h _ h' tk (.full hk) (.int _ _)) (by simp [nsts, hn])
theorem co_netup2 (W : Wf C) (hu : C.A.units < cLine) {a b x y : Int} : CmpOn C σ .NotEq (.tup [.int a, .int b]) (.tup [.int x, .int y]) (!(a == x && b == y)) := fun s Q E v u O r1 r2 h => by
  cases r1 with
  | tup t1 _ rs1 =>
    cases r2 with
    | tup t2 _ rs2 =>
      cases rs1 with
      | cons ra rs1 => cases rs1 with
        | cons rb rs1 => cases rs1; cases ra; cases rb; cases rs2 with
          | cons rx rs2 => cases rs2 with
            | cons ry rs2 =>
              cases rs2; cases rx; cases ry
              refine PySem.SeqAt.RcNeAt.tuples (e := fun j => if j = 0 then a == x else b == y) t1 t2 hu (fun j h1 h2 => ?_) C.B.prog C.B.w E Q ?_
              · match j, h1 with
                | 0, _ => exact PySem.SeqAt.EqAt.int_int _ _ _ _
                | 1, _ => exact PySem.SeqAt.EqAt.int_int _ _ _ _
              · have : (!((List.range (min 2 2)).all (fun j => if j = 0 then a == x else b == y) && true)) = (!(a == x && b == y)) := by simp [List.range, List.range.loop]
                exact this ▸ h s.heap s.toks Kp.refl
end
end Mine
-- part BS01
set_option maxHeartbeats 0
namespace Mine
noncomputable section
def fdO (o : Obj) : FuncData := match o.data with
  | .func f => f
  | _ => default
/-- the names of the text and of the built-ins, behind the top -/
def KN (P : Params) : Frag := (KK P).filter fun p => !TT.contains p.1
theorem lookup_filter (q : Addr → Bool) : ∀ (l : List (Addr × Obj)) (a : Addr), (l.filter fun p => q p.1).lookup a = if q a then l.lookup a else none
  | [], a => by simp
  | (b, o) :: l, a => by
    have ih := lookup_filter q l a
    by_cases hb : q b = true
    · rw [List.filter_cons_of_pos (by simpa using hb), List.lookup_cons, List.lookup_cons, ih]
      cases e : a == b with
      | true => rw [eq_of_beq e, hb]; rfl
      | false => rfl
    · rw [List.filter_cons_of_neg (by simpa using hb), ih, List.lookup_cons]
      cases e : a == b with
      | true => rw [eq_of_beq e]; simp [hb]
      | false => rfl
theorem KN_T (P : Params) (a : Addr) (o : Obj) (h : (KN P).lookup a = some o) : a ∉ TT := by
  unfold KN at h
  rw [lookup_filter (fun a => !TT.contains a)] at h
  split at h
  · rename_i e; simpa using e
  · cases h
theorem KN_in {P : Params} {h : Heap} (k : (KK P).In h) : (KN P).In h := fun a o e => by
  unfold KN at e
  rw [lookup_filter (fun a => !TT.contains a)] at e
  split at e
  · exact k a o e
  · cases e
def B1 (w : World) : Bs := { prog := pw, w := w, mg := (H1 w.params).nsMap mainGlobals, mb := (H1 w.params).nsMap builtinsNs, K := KN w.params, hT := KN_T w.params }
theorem ns_carry {h h' : Heap} {a : Addr} {o : Obj} (x : h.isNs a = true) (e : h.get? a = some o) (e' : h'.get? a = some o) : h'.Ns a (h.nsMap a) := by
  obtain ⟨o', es, ep, h1, r⟩ := Heap.Ns.of_isNs x
  rw [e] at h1; cases h1
  exact ⟨o, es, ep, e', r⟩
theorem B1_in {w : World} {h : Heap} (k : (KK w.params).In h) : (B1 w).In h where
  K := KN_in k
  g := ns_carry (h := H1 w.params) (a := mainGlobals) (o := o3_22 w.params) (by kernel_rfl) (by kernel_rfl) (k _ _ (by kernel_rfl))
  b := ns_carry (h := H1 w.params) (a := builtinsNs) (o := boot_o_0 w.params) (by kernel_rfl) (by kernel_rfl) (k _ _ (by kernel_rfl))
  lim := ⟨_, ns_carry (o := boot_o_2 w.params) (h := H1 w.params) (by kernel_rfl) (by kernel_rfl) (k _ _ (by kernel_rfl)), by kernel_rfl⟩
theorem len_cons {vs : List Value} {n : Nat} (h : vs.length = n + 1) : ∃ a r, vs = a :: r ∧ r.length = n := by
  cases vs with
  | nil => cases h
  | cons a r => exact ⟨a, r, rfl, Nat.succ.inj h⟩
theorem args1 (P : List Value → Prop) (h : ∀ a0, P [a0]) : ∀ vs : List Value, vs.length = 1 → P vs := fun vs e => by
  obtain ⟨a0, r0, e0, f0⟩ := len_cons e
  rw [e0, List.eq_nil_of_length_eq_zero f0]
  exact h a0
theorem args2 (P : List Value → Prop) (h : ∀ a0 a1, P [a0, a1]) : ∀ vs : List Value, vs.length = 2 → P vs := fun vs e => by
  obtain ⟨a0, r0, e0, f0⟩ := len_cons e
  obtain ⟨a1, r1, e1, f1⟩ := len_cons f0
  rw [e0, e1, List.eq_nil_of_length_eq_zero f1]
  exact h a0 a1
theorem args3 (P : List Value → Prop) (h : ∀ a0 a1 a2, P [a0, a1, a2]) : ∀ vs : List Value, vs.length = 3 → P vs := fun vs e => by
  obtain ⟨a0, r0, e0, f0⟩ := len_cons e
  obtain ⟨a1, r1, e1, f1⟩ := len_cons f0
  obtain ⟨a2, r2, e2, f2⟩ := len_cons f1
  rw [e0, e1, e2, List.eq_nil_of_length_eq_zero f2]
  exact h a0 a1 a2
theorem args4 (P : List Value → Prop) (h : ∀ a0 a1 a2 a3, P [a0, a1, a2, a3]) : ∀ vs : List Value, vs.length = 4 → P vs := fun vs e => by
  obtain ⟨a0, r0, e0, f0⟩ := len_cons e
  obtain ⟨a1, r1, e1, f1⟩ := len_cons f0
  obtain ⟨a2, r2, e2, f2⟩ := len_cons f1
  obtain ⟨a3, r3, e3, f3⟩ := len_cons f2
  rw [e0, e1, e2, e3, List.eq_nil_of_length_eq_zero f3]
  exact h a0 a1 a2 a3
theorem args5 (P : List Value → Prop) (h : ∀ a0 a1 a2 a3 a4, P [a0, a1, a2, a3, a4]) : ∀ vs : List Value, vs.length = 5 → P vs := fun vs e => by
  obtain ⟨a0, r0, e0, f0⟩ := len_cons e
  obtain ⟨a1, r1, e1, f1⟩ := len_cons f0
  obtain ⟨a2, r2, e2, f2⟩ := len_cons f1
  obtain ⟨a3, r3, e3, f3⟩ := len_cons f2
  obtain ⟨a4, r4, e4, f4⟩ := len_cons f3
  rw [e0, e1, e2, e3, e4, List.eq_nil_of_length_eq_zero f4]
  exact h a0 a1 a2 a3 a4
theorem args6 (P : List Value → Prop) (h : ∀ a0 a1 a2 a3 a4 a5, P [a0, a1, a2, a3, a4, a5]) : ∀ vs : List Value, vs.length = 6 → P vs := fun vs e => by
  obtain ⟨a0, r0, e0, f0⟩ := len_cons e
  obtain ⟨a1, r1, e1, f1⟩ := len_cons f0
  obtain ⟨a2, r2, e2, f2⟩ := len_cons f1
  obtain ⟨a3, r3, e3, f3⟩ := len_cons f2
  obtain ⟨a4, r4, e4, f4⟩ := len_cons f3
  obtain ⟨a5, r5, e5, f5⟩ := len_cons f4
  rw [e0, e1, e2, e3, e4, e5, List.eq_nil_of_length_eq_zero f5]
  exact h a0 a1 a2 a3 a4 a5
def fd_div2n1n : FuncData := fdO o21_9
def ns_div2n1n : List PySem.Str := [PySem.Str.ofString "a", PySem.Str.ofString "b", PySem.Str.ofString "n", PySem.Str.ofString "pad", PySem.Str.ofString "half_n", PySem.Str.ofString "mask", PySem.Str.ofString "b1", PySem.Str.ofString "b2", PySem.Str.ofString "q1", PySem.Str.ofString "r", PySem.Str.ofString "q2"]
theorem s1_div2n1n (w : World) : (B1 w).K.lookup 21 = some ⟨.type "function", none, .func fd_div2n1n, ⟨[]⟩⟩ := by kernel_rfl
theorem s2_div2n1n (w : World) : codeIn (B1 w).K fd_div2n1n.code fd_div2n1n.qualname = true := by kernel_rfl
theorem s3_div2n1n : fd_div2n1n.body = .stmts (fdB (stAt 2)) := by kernel_rfl
def ps_div2n1n : List PySem.Str := [PySem.Str.ofString "a", PySem.Str.ofString "b", PySem.Str.ofString "n"]
theorem s4_div2n1n : ∀ vs : List Value, vs.length = ps_div2n1n.length → bindArgs fd_div2n1n ⟨vs, []⟩ = pure (ps_div2n1n.zip vs) := args3 _ fun _ _ _ => by kernel_rfl
theorem s5_div2n1n : ns_div2n1n.Nodup := by decide +kernel
theorem s6_div2n1n : ns_div2n1n.take ps_div2n1n.length = ps_div2n1n := by kernel_rfl
theorem s7_div2n1n : ∀ x ∈ ns_div2n1n, fd_div2n1n.scope.names.lookup x = some .local := by decide +kernel
theorem s8_div2n1n : ∀ x ∈ fd_div2n1n.scope.names, x.2 ≠ .cell := by decide +kernel
theorem s9_div2n1n : fd_div2n1n.scope.kind = .function := by kernel_rfl
theorem s10_div2n1n : fd_div2n1n.scope.isCoroutine = false := by kernel_rfl
theorem s11_div2n1n : fd_div2n1n.scope.isGenerator = false := by kernel_rfl
theorem s12_div2n1n : fd_div2n1n.globals = mainGlobals := by kernel_rfl
theorem s13_div2n1n : fd_div2n1n.builtins = builtinsNs := by kernel_rfl
structure In_div2n1n (w : World) (C : Cx) : Prop where
  W : Wf C
  B : C.B = B1 w
  N : C.names = ns_div2n1n
  E : ∃ L, C.env = callEnv fd_div2n1n L 21
theorem fn_div2n1n {w : World} {ds : List D} {r : D} {k : Nat} (hl : ps_div2n1n.length = ds.length)
    (H : ∀ C : Cx, In_div2n1n w C → C.A.depth + k < recursionLimit → C.A.units + 8 * k < cLine →
      Exs C ⟨ds.map some ++ List.replicate (ns_div2n1n.length - ds.length) none, []⟩ (fdB (stAt 2)) (fun fl _ => fl = .ret r ∨ (fl = .next ∧ r = .none))) : Fn (B1 w) 21 (k + 1) ds r := by
  refine fn_of_body (s1_div2n1n w) (s2_div2n1n w) s3_div2n1n s4_div2n1n hl s5_div2n1n s6_div2n1n s7_div2n1n s8_div2n1n s9_div2n1n s10_div2n1n s11_div2n1n s12_div2n1n s13_div2n1n ?_
  intro A L h₀ X W hd hu
  with_reducible exact H _ ⟨W, rfl, rfl, L, rfl⟩ hd hu
theorem nx_div2n1n_a {w : World} {C : Cx} (I : In_div2n1n w C) : C.names[0]? = some (PySem.Str.ofString "a") := by rw [I.N]; kernel_rfl
theorem nx_div2n1n_b {w : World} {C : Cx} (I : In_div2n1n w C) : C.names[1]? = some (PySem.Str.ofString "b") := by rw [I.N]; kernel_rfl
theorem nx_div2n1n_n {w : World} {C : Cx} (I : In_div2n1n w C) : C.names[2]? = some (PySem.Str.ofString "n") := by rw [I.N]; kernel_rfl
theorem nx_div2n1n_pad {w : World} {C : Cx} (I : In_div2n1n w C) : C.names[3]? = some (PySem.Str.ofString "pad") := by rw [I.N]; kernel_rfl
theorem nx_div2n1n_half_n {w : World} {C : Cx} (I : In_div2n1n w C) : C.names[4]? = some (PySem.Str.ofString "half_n") := by rw [I.N]; kernel_rfl
theorem nx_div2n1n_mask {w : World} {C : Cx} (I : In_div2n1n w C) : C.names[5]? = some (PySem.Str.ofString "mask") := by rw [I.N]; kernel_rfl
theorem nx_div2n1n_b1 {w : World} {C : Cx} (I : In_div2n1n w C) : C.names[6]? = some (PySem.Str.ofString "b1") := by rw [I.N]; kernel_rfl
theorem nx_div2n1n_b2 {w : World} {C : Cx} (I : In_div2n1n w C) : C.names[7]? = some (PySem.Str.ofString "b2") := by rw [I.N]; kernel_rfl
theorem nx_div2n1n_q1 {w : World} {C : Cx} (I : In_div2n1n w C) : C.names[8]? = some (PySem.Str.ofString "q1") := by rw [I.N]; kernel_rfl
theorem nx_div2n1n_r {w : World} {C : Cx} (I : In_div2n1n w C) : C.names[9]? = some (PySem.Str.ofString "r") := by rw [I.N]; kernel_rfl
theorem nx_div2n1n_q2 {w : World} {C : Cx} (I : In_div2n1n w C) : C.names[10]? = some (PySem.Str.ofString "q2") := by rw [I.N]; kernel_rfl
def fd_div3n2n : FuncData := fdO o28_9
def ns_div3n2n : List PySem.Str := [PySem.Str.ofString "a12", PySem.Str.ofString "a3", PySem.Str.ofString "b", PySem.Str.ofString "b1", PySem.Str.ofString "b2", PySem.Str.ofString "n", PySem.Str.ofString "q", PySem.Str.ofString "r"]
theorem s1_div3n2n (w : World) : (B1 w).K.lookup 28 = some ⟨.type "function", none, .func fd_div3n2n, ⟨[]⟩⟩ := by kernel_rfl
theorem s2_div3n2n (w : World) : codeIn (B1 w).K fd_div3n2n.code fd_div3n2n.qualname = true := by kernel_rfl
theorem s3_div3n2n : fd_div3n2n.body = .stmts (fdB (stAt 3)) := by kernel_rfl
def ps_div3n2n : List PySem.Str := [PySem.Str.ofString "a12", PySem.Str.ofString "a3", PySem.Str.ofString "b", PySem.Str.ofString "b1", PySem.Str.ofString "b2", PySem.Str.ofString "n"]
theorem s4_div3n2n : ∀ vs : List Value, vs.length = ps_div3n2n.length → bindArgs fd_div3n2n ⟨vs, []⟩ = pure (ps_div3n2n.zip vs) := args6 _ fun _ _ _ _ _ _ => by kernel_rfl
theorem s5_div3n2n : ns_div3n2n.Nodup := by decide +kernel
theorem s6_div3n2n : ns_div3n2n.take ps_div3n2n.length = ps_div3n2n := by kernel_rfl
theorem s7_div3n2n : ∀ x ∈ ns_div3n2n, fd_div3n2n.scope.names.lookup x = some .local := by decide +kernel
theorem s8_div3n2n : ∀ x ∈ fd_div3n2n.scope.names, x.2 ≠ .cell := by decide +kernel
theorem s9_div3n2n : fd_div3n2n.scope.kind = .function := by kernel_rfl
theorem s10_div3n2n : fd_div3n2n.scope.isCoroutine = false := by kernel_rfl
theorem s11_div3n2n : fd_div3n2n.scope.isGenerator = false := by kernel_rfl
theorem s12_div3n2n : fd_div3n2n.globals = mainGlobals := by kernel_rfl
theorem s13_div3n2n : fd_div3n2n.builtins = builtinsNs := by kernel_rfl
structure In_div3n2n (w : World) (C : Cx) : Prop where
  W : Wf C
  B : C.B = B1 w
  N : C.names = ns_div3n2n
  E : ∃ L, C.env = callEnv fd_div3n2n L 28
theorem fn_div3n2n {w : World} {ds : List D} {r : D} {k : Nat} (hl : ps_div3n2n.length = ds.length)
    (H : ∀ C : Cx, In_div3n2n w C → C.A.depth + k < recursionLimit → C.A.units + 8 * k < cLine →
      Exs C ⟨ds.map some ++ List.replicate (ns_div3n2n.length - ds.length) none, []⟩ (fdB (stAt 3)) (fun fl _ => fl = .ret r ∨ (fl = .next ∧ r = .none))) : Fn (B1 w) 28 (k + 1) ds r := by
  refine fn_of_body (s1_div3n2n w) (s2_div3n2n w) s3_div3n2n s4_div3n2n hl s5_div3n2n s6_div3n2n s7_div3n2n s8_div3n2n s9_div3n2n s10_div3n2n s11_div3n2n s12_div3n2n s13_div3n2n ?_
  intro A L h₀ X W hd hu
  with_reducible exact H _ ⟨W, rfl, rfl, L, rfl⟩ hd hu
theorem nx_div3n2n_a12 {w : World} {C : Cx} (I : In_div3n2n w C) : C.names[0]? = some (PySem.Str.ofString "a12") := by rw [I.N]; kernel_rfl
theorem nx_div3n2n_a3 {w : World} {C : Cx} (I : In_div3n2n w C) : C.names[1]? = some (PySem.Str.ofString "a3") := by rw [I.N]; kernel_rfl
theorem nx_div3n2n_b {w : World} {C : Cx} (I : In_div3n2n w C) : C.names[2]? = some (PySem.Str.ofString "b") := by rw [I.N]; kernel_rfl
theorem nx_div3n2n_b1 {w : World} {C : Cx} (I : In_div3n2n w C) : C.names[3]? = some (PySem.Str.ofString "b1") := by rw [I.N]; kernel_rfl
theorem nx_div3n2n_b2 {w : World} {C : Cx} (I : In_div3n2n w C) : C.names[4]? = some (PySem.Str.ofString "b2") := by rw [I.N]; kernel_rfl
theorem nx_div3n2n_n {w : World} {C : Cx} (I : In_div3n2n w C) : C.names[5]? = some (PySem.Str.ofString "n") := by rw [I.N]; kernel_rfl
theorem nx_div3n2n_q {w : World} {C : Cx} (I : In_div3n2n w C) : C.names[6]? = some (PySem.Str.ofString "q") := by rw [I.N]; kernel_rfl
theorem nx_div3n2n_r {w : World} {C : Cx} (I : In_div3n2n w C) : C.names[7]? = some (PySem.Str.ofString "r") := by rw [I.N]; kernel_rfl
def fd_int2digits : FuncData := fdO o35_9
def ns_int2digits : List PySem.Str := [PySem.Str.ofString "a", PySem.Str.ofString "n", PySem.Str.ofString "a_digits", PySem.Str.ofString "inner"]
def fd_digits2int : FuncData := fdO o42_9
def ns_digits2int : List PySem.Str := [PySem.Str.ofString "digits", PySem.Str.ofString "n", PySem.Str.ofString "inner"]
def fd_divmod_pos : FuncData := fdO o49_9
def ns_divmod_pos : List PySem.Str := [PySem.Str.ofString "a", PySem.Str.ofString "b", PySem.Str.ofString "n", PySem.Str.ofString "a_digits", PySem.Str.ofString "r", PySem.Str.ofString "q_digits", PySem.Str.ofString "a_digit", PySem.Str.ofString "q_digit", PySem.Str.ofString "q"]
theorem s1_divmod_pos (w : World) : (B1 w).K.lookup 49 = some ⟨.type "function", none, .func fd_divmod_pos, ⟨[]⟩⟩ := by kernel_rfl
theorem s2_divmod_pos (w : World) : codeIn (B1 w).K fd_divmod_pos.code fd_divmod_pos.qualname = true := by kernel_rfl
theorem s3_divmod_pos : fd_divmod_pos.body = .stmts (fdB (stAt 6)) := by kernel_rfl
def ps_divmod_pos : List PySem.Str := [PySem.Str.ofString "a", PySem.Str.ofString "b"]
theorem s4_divmod_pos : ∀ vs : List Value, vs.length = ps_divmod_pos.length → bindArgs fd_divmod_pos ⟨vs, []⟩ = pure (ps_divmod_pos.zip vs) := args2 _ fun _ _ => by kernel_rfl
theorem s5_divmod_pos : ns_divmod_pos.Nodup := by decide +kernel
theorem s6_divmod_pos : ns_divmod_pos.take ps_divmod_pos.length = ps_divmod_pos := by kernel_rfl
theorem s7_divmod_pos : ∀ x ∈ ns_divmod_pos, fd_divmod_pos.scope.names.lookup x = some .local := by decide +kernel
theorem s8_divmod_pos : ∀ x ∈ fd_divmod_pos.scope.names, x.2 ≠ .cell := by decide +kernel
theorem s9_divmod_pos : fd_divmod_pos.scope.kind = .function := by kernel_rfl
theorem s10_divmod_pos : fd_divmod_pos.scope.isCoroutine = false := by kernel_rfl
theorem s11_divmod_pos : fd_divmod_pos.scope.isGenerator = false := by kernel_rfl
theorem s12_divmod_pos : fd_divmod_pos.globals = mainGlobals := by kernel_rfl
theorem s13_divmod_pos : fd_divmod_pos.builtins = builtinsNs := by kernel_rfl
structure In_divmod_pos (w : World) (C : Cx) : Prop where
  W : Wf C
  B : C.B = B1 w
  N : C.names = ns_divmod_pos
  E : ∃ L, C.env = callEnv fd_divmod_pos L 49
theorem fn_divmod_pos {w : World} {ds : List D} {r : D} {k : Nat} (hl : ps_divmod_pos.length = ds.length)
    (H : ∀ C : Cx, In_divmod_pos w C → C.A.depth + k < recursionLimit → C.A.units + 8 * k < cLine →
      Exs C ⟨ds.map some ++ List.replicate (ns_divmod_pos.length - ds.length) none, []⟩ (fdB (stAt 6)) (fun fl _ => fl = .ret r ∨ (fl = .next ∧ r = .none))) : Fn (B1 w) 49 (k + 1) ds r := by
  refine fn_of_body (s1_divmod_pos w) (s2_divmod_pos w) s3_divmod_pos s4_divmod_pos hl s5_divmod_pos s6_divmod_pos s7_divmod_pos s8_divmod_pos s9_divmod_pos s10_divmod_pos s11_divmod_pos s12_divmod_pos s13_divmod_pos ?_
  intro A L h₀ X W hd hu
  with_reducible exact H _ ⟨W, rfl, rfl, L, rfl⟩ hd hu
theorem nx_divmod_pos_a {w : World} {C : Cx} (I : In_divmod_pos w C) : C.names[0]? = some (PySem.Str.ofString "a") := by rw [I.N]; kernel_rfl
theorem nx_divmod_pos_b {w : World} {C : Cx} (I : In_divmod_pos w C) : C.names[1]? = some (PySem.Str.ofString "b") := by rw [I.N]; kernel_rfl
theorem nx_divmod_pos_n {w : World} {C : Cx} (I : In_divmod_pos w C) : C.names[2]? = some (PySem.Str.ofString "n") := by rw [I.N]; kernel_rfl
theorem nx_divmod_pos_a_digits {w : World} {C : Cx} (I : In_divmod_pos w C) : C.names[3]? = some (PySem.Str.ofString "a_digits") := by rw [I.N]; kernel_rfl
theorem nx_divmod_pos_r {w : World} {C : Cx} (I : In_divmod_pos w C) : C.names[4]? = some (PySem.Str.ofString "r") := by rw [I.N]; kernel_rfl
theorem nx_divmod_pos_q_digits {w : World} {C : Cx} (I : In_divmod_pos w C) : C.names[5]? = some (PySem.Str.ofString "q_digits") := by rw [I.N]; kernel_rfl
theorem nx_divmod_pos_a_digit {w : World} {C : Cx} (I : In_divmod_pos w C) : C.names[6]? = some (PySem.Str.ofString "a_digit") := by rw [I.N]; kernel_rfl
theorem nx_divmod_pos_q_digit {w : World} {C : Cx} (I : In_divmod_pos w C) : C.names[7]? = some (PySem.Str.ofString "q_digit") := by rw [I.N]; kernel_rfl
theorem nx_divmod_pos_q {w : World} {C : Cx} (I : In_divmod_pos w C) : C.names[8]? = some (PySem.Str.ofString "q") := by rw [I.N]; kernel_rfl
def fd_int_divmod : FuncData := fdO o56_9
def ns_int_divmod : List PySem.Str := [PySem.Str.ofString "a", PySem.Str.ofString "b", PySem.Str.ofString "q", PySem.Str.ofString "r"]
theorem s1_int_divmod (w : World) : (B1 w).K.lookup 56 = some ⟨.type "function", none, .func fd_int_divmod, ⟨[]⟩⟩ := by kernel_rfl
theorem s2_int_divmod (w : World) : codeIn (B1 w).K fd_int_divmod.code fd_int_divmod.qualname = true := by kernel_rfl
theorem s3_int_divmod : fd_int_divmod.body = .stmts (fdB (stAt 7)) := by kernel_rfl
def ps_int_divmod : List PySem.Str := [PySem.Str.ofString "a", PySem.Str.ofString "b"]
theorem s4_int_divmod : ∀ vs : List Value, vs.length = ps_int_divmod.length → bindArgs fd_int_divmod ⟨vs, []⟩ = pure (ps_int_divmod.zip vs) := args2 _ fun _ _ => by kernel_rfl
theorem s5_int_divmod : ns_int_divmod.Nodup := by decide +kernel
theorem s6_int_divmod : ns_int_divmod.take ps_int_divmod.length = ps_int_divmod := by kernel_rfl
theorem s7_int_divmod : ∀ x ∈ ns_int_divmod, fd_int_divmod.scope.names.lookup x = some .local := by decide +kernel
theorem s8_int_divmod : ∀ x ∈ fd_int_divmod.scope.names, x.2 ≠ .cell := by decide +kernel
theorem s9_int_divmod : fd_int_divmod.scope.kind = .function := by kernel_rfl
theorem s10_int_divmod : fd_int_divmod.scope.isCoroutine = false := by kernel_rfl
theorem s11_int_divmod : fd_int_divmod.scope.isGenerator = false := by kernel_rfl
theorem s12_int_divmod : fd_int_divmod.globals = mainGlobals := by kernel_rfl
theorem s13_int_divmod : fd_int_divmod.builtins = builtinsNs := by kernel_rfl
structure In_int_divmod (w : World) (C : Cx) : Prop where
  W : Wf C
  B : C.B = B1 w
  N : C.names = ns_int_divmod
  E : ∃ L, C.env = callEnv fd_int_divmod L 56
theorem fn_int_divmod {w : World} {ds : List D} {r : D} {k : Nat} (hl : ps_int_divmod.length = ds.length)
    (H : ∀ C : Cx, In_int_divmod w C → C.A.depth + k < recursionLimit → C.A.units + 8 * k < cLine →
      Exs C ⟨ds.map some ++ List.replicate (ns_int_divmod.length - ds.length) none, []⟩ (fdB (stAt 7)) (fun fl _ => fl = .ret r ∨ (fl = .next ∧ r = .none))) : Fn (B1 w) 56 (k + 1) ds r := by
  refine fn_of_body (s1_int_divmod w) (s2_int_divmod w) s3_int_divmod s4_int_divmod hl s5_int_divmod s6_int_divmod s7_int_divmod s8_int_divmod s9_int_divmod s10_int_divmod s11_int_divmod s12_int_divmod s13_int_divmod ?_
  intro A L h₀ X W hd hu
  with_reducible exact H _ ⟨W, rfl, rfl, L, rfl⟩ hd hu
theorem nx_int_divmod_a {w : World} {C : Cx} (I : In_int_divmod w C) : C.names[0]? = some (PySem.Str.ofString "a") := by rw [I.N]; kernel_rfl
theorem nx_int_divmod_b {w : World} {C : Cx} (I : In_int_divmod w C) : C.names[1]? = some (PySem.Str.ofString "b") := by rw [I.N]; kernel_rfl
theorem nx_int_divmod_q {w : World} {C : Cx} (I : In_int_divmod w C) : C.names[2]? = some (PySem.Str.ofString "q") := by rw [I.N]; kernel_rfl
theorem nx_int_divmod_r {w : World} {C : Cx} (I : In_int_divmod w C) : C.names[3]? = some (PySem.Str.ofString "r") := by rw [I.N]; kernel_rfl
def fd_in_table_b1 : FuncData := fdO o74_11
def ns_in_table_b1 : List PySem.Str := [PySem.Str.ofString "code"]
theorem s1_in_table_b1 (w : World) : (B1 w).K.lookup 74 = some ⟨.type "function", none, .func fd_in_table_b1, ⟨[]⟩⟩ := by kernel_rfl
theorem s2_in_table_b1 (w : World) : codeIn (B1 w).K fd_in_table_b1.code fd_in_table_b1.qualname = true := by kernel_rfl
theorem s3_in_table_b1 : fd_in_table_b1.body = .stmts (fdB (stAt 10)) := by kernel_rfl
def ps_in_table_b1 : List PySem.Str := [PySem.Str.ofString "code"]
theorem s4_in_table_b1 : ∀ vs : List Value, vs.length = ps_in_table_b1.length → bindArgs fd_in_table_b1 ⟨vs, []⟩ = pure (ps_in_table_b1.zip vs) := args1 _ fun _ => by kernel_rfl
theorem s5_in_table_b1 : ns_in_table_b1.Nodup := by decide +kernel
theorem s6_in_table_b1 : ns_in_table_b1.take ps_in_table_b1.length = ps_in_table_b1 := by kernel_rfl
theorem s7_in_table_b1 : ∀ x ∈ ns_in_table_b1, fd_in_table_b1.scope.names.lookup x = some .local := by decide +kernel
theorem s8_in_table_b1 : ∀ x ∈ fd_in_table_b1.scope.names, x.2 ≠ .cell := by decide +kernel
theorem s9_in_table_b1 : fd_in_table_b1.scope.kind = .function := by kernel_rfl
theorem s10_in_table_b1 : fd_in_table_b1.scope.isCoroutine = false := by kernel_rfl
theorem s11_in_table_b1 : fd_in_table_b1.scope.isGenerator = false := by kernel_rfl
theorem s12_in_table_b1 : fd_in_table_b1.globals = mainGlobals := by kernel_rfl
theorem s13_in_table_b1 : fd_in_table_b1.builtins = builtinsNs := by kernel_rfl
structure In_in_table_b1 (w : World) (C : Cx) : Prop where
  W : Wf C
  B : C.B = B1 w
  N : C.names = ns_in_table_b1
  E : ∃ L, C.env = callEnv fd_in_table_b1 L 74
theorem fn_in_table_b1 {w : World} {ds : List D} {r : D} {k : Nat} (hl : ps_in_table_b1.length = ds.length)
    (H : ∀ C : Cx, In_in_table_b1 w C → C.A.depth + k < recursionLimit → C.A.units + 8 * k < cLine →
      Exs C ⟨ds.map some ++ List.replicate (ns_in_table_b1.length - ds.length) none, []⟩ (fdB (stAt 10)) (fun fl _ => fl = .ret r ∨ (fl = .next ∧ r = .none))) : Fn (B1 w) 74 (k + 1) ds r := by
  refine fn_of_body (s1_in_table_b1 w) (s2_in_table_b1 w) s3_in_table_b1 s4_in_table_b1 hl s5_in_table_b1 s6_in_table_b1 s7_in_table_b1 s8_in_table_b1 s9_in_table_b1 s10_in_table_b1 s11_in_table_b1 s12_in_table_b1 s13_in_table_b1 ?_
  intro A L h₀ X W hd hu
  with_reducible exact H _ ⟨W, rfl, rfl, L, rfl⟩ hd hu
theorem nx_in_table_b1_code {w : World} {C : Cx} (I : In_in_table_b1 w C) : C.names[0]? = some (PySem.Str.ofString "code") := by rw [I.N]; kernel_rfl
def fd_map_table_b3 : FuncData := fdO o120_22
def ns_map_table_b3 : List PySem.Str := [PySem.Str.ofString "code", PySem.Str.ofString "r"]
theorem s1_map_table_b3 (w : World) : (B1 w).K.lookup 120 = some ⟨.type "function", none, .func fd_map_table_b3, ⟨[]⟩⟩ := by kernel_rfl
theorem s2_map_table_b3 (w : World) : codeIn (B1 w).K fd_map_table_b3.code fd_map_table_b3.qualname = true := by kernel_rfl
theorem s3_map_table_b3 : fd_map_table_b3.body = .stmts (fdB (stAt 12)) := by kernel_rfl
def ps_map_table_b3 : List PySem.Str := [PySem.Str.ofString "code"]
theorem s4_map_table_b3 : ∀ vs : List Value, vs.length = ps_map_table_b3.length → bindArgs fd_map_table_b3 ⟨vs, []⟩ = pure (ps_map_table_b3.zip vs) := args1 _ fun _ => by kernel_rfl
theorem s5_map_table_b3 : ns_map_table_b3.Nodup := by decide +kernel
theorem s6_map_table_b3 : ns_map_table_b3.take ps_map_table_b3.length = ps_map_table_b3 := by kernel_rfl
theorem s7_map_table_b3 : ∀ x ∈ ns_map_table_b3, fd_map_table_b3.scope.names.lookup x = some .local := by decide +kernel
theorem s8_map_table_b3 : ∀ x ∈ fd_map_table_b3.scope.names, x.2 ≠ .cell := by decide +kernel
theorem s9_map_table_b3 : fd_map_table_b3.scope.kind = .function := by kernel_rfl
theorem s10_map_table_b3 : fd_map_table_b3.scope.isCoroutine = false := by kernel_rfl
theorem s11_map_table_b3 : fd_map_table_b3.scope.isGenerator = false := by kernel_rfl
theorem s12_map_table_b3 : fd_map_table_b3.globals = mainGlobals := by kernel_rfl
theorem s13_map_table_b3 : fd_map_table_b3.builtins = builtinsNs := by kernel_rfl
structure In_map_table_b3 (w : World) (C : Cx) : Prop where
  W : Wf C
  B : C.B = B1 w
  N : C.names = ns_map_table_b3
  E : ∃ L, C.env = callEnv fd_map_table_b3 L 120
theorem fn_map_table_b3 {w : World} {ds : List D} {r : D} {k : Nat} (hl : ps_map_table_b3.length = ds.length)
    (H : ∀ C : Cx, In_map_table_b3 w C → C.A.depth + k < recursionLimit → C.A.units + 8 * k < cLine →
      Exs C ⟨ds.map some ++ List.replicate (ns_map_table_b3.length - ds.length) none, []⟩ (fdB (stAt 12)) (fun fl _ => fl = .ret r ∨ (fl = .next ∧ r = .none))) : Fn (B1 w) 120 (k + 1) ds r := by
  refine fn_of_body (s1_map_table_b3 w) (s2_map_table_b3 w) s3_map_table_b3 s4_map_table_b3 hl s5_map_table_b3 s6_map_table_b3 s7_map_table_b3 s8_map_table_b3 s9_map_table_b3 s10_map_table_b3 s11_map_table_b3 s12_map_table_b3 s13_map_table_b3 ?_
  intro A L h₀ X W hd hu
  with_reducible exact H _ ⟨W, rfl, rfl, L, rfl⟩ hd hu
theorem nx_map_table_b3_code {w : World} {C : Cx} (I : In_map_table_b3 w C) : C.names[0]? = some (PySem.Str.ofString "code") := by rw [I.N]; kernel_rfl
theorem nx_map_table_b3_r {w : World} {C : Cx} (I : In_map_table_b3 w C) : C.names[1]? = some (PySem.Str.ofString "r") := by rw [I.N]; kernel_rfl
def fd_law_prepared : FuncData := fdO o125_22
def ns_law_prepared : List PySem.Str := [PySem.Str.ofString "text"]
theorem s1_law_prepared (w : World) : (B1 w).K.lookup 125 = some ⟨.type "function", none, .func fd_law_prepared, ⟨[]⟩⟩ := by kernel_rfl
theorem s2_law_prepared (w : World) : codeIn (B1 w).K fd_law_prepared.code fd_law_prepared.qualname = true := by kernel_rfl
theorem s3_law_prepared : fd_law_prepared.body = .stmts (fdB (stAt 14)) := by kernel_rfl
def ps_law_prepared : List PySem.Str := [PySem.Str.ofString "text"]
theorem s4_law_prepared : ∀ vs : List Value, vs.length = ps_law_prepared.length → bindArgs fd_law_prepared ⟨vs, []⟩ = pure (ps_law_prepared.zip vs) := args1 _ fun _ => by kernel_rfl
theorem s5_law_prepared : ns_law_prepared.Nodup := by decide +kernel
theorem s6_law_prepared : ns_law_prepared.take ps_law_prepared.length = ps_law_prepared := by kernel_rfl
theorem s7_law_prepared : ∀ x ∈ ns_law_prepared, fd_law_prepared.scope.names.lookup x = some .local := by decide +kernel
theorem s8_law_prepared : ∀ x ∈ fd_law_prepared.scope.names, x.2 ≠ .cell := by decide +kernel
theorem s9_law_prepared : fd_law_prepared.scope.kind = .function := by kernel_rfl
theorem s10_law_prepared : fd_law_prepared.scope.isCoroutine = false := by kernel_rfl
theorem s11_law_prepared : fd_law_prepared.scope.isGenerator = false := by kernel_rfl
theorem s12_law_prepared : fd_law_prepared.globals = mainGlobals := by kernel_rfl
theorem s13_law_prepared : fd_law_prepared.builtins = builtinsNs := by kernel_rfl
structure In_law_prepared (w : World) (C : Cx) : Prop where
  W : Wf C
  B : C.B = B1 w
  N : C.names = ns_law_prepared
  E : ∃ L, C.env = callEnv fd_law_prepared L 125
theorem fn_law_prepared {w : World} {ds : List D} {r : D} {k : Nat} (hl : ps_law_prepared.length = ds.length)
    (H : ∀ C : Cx, In_law_prepared w C → C.A.depth + k < recursionLimit → C.A.units + 8 * k < cLine →
      Exs C ⟨ds.map some ++ List.replicate (ns_law_prepared.length - ds.length) none, []⟩ (fdB (stAt 14)) (fun fl _ => fl = .ret r ∨ (fl = .next ∧ r = .none))) : Fn (B1 w) 125 (k + 1) ds r := by
  refine fn_of_body (s1_law_prepared w) (s2_law_prepared w) s3_law_prepared s4_law_prepared hl s5_law_prepared s6_law_prepared s7_law_prepared s8_law_prepared s9_law_prepared s10_law_prepared s11_law_prepared s12_law_prepared s13_law_prepared ?_
  intro A L h₀ X W hd hu
  with_reducible exact H _ ⟨W, rfl, rfl, L, rfl⟩ hd hu
theorem nx_law_prepared_text {w : World} {C : Cx} (I : In_law_prepared w C) : C.names[0]? = some (PySem.Str.ofString "text") := by rw [I.N]; kernel_rfl
def fd_law_line : FuncData := fdO o132_22
def ns_law_line : List PySem.Str := [PySem.Str.ofString "ons", PySem.Str.ofString "ups", PySem.Str.ofString "on", PySem.Str.ofString "up", PySem.Str.ofString "whole", PySem.Str.ofString "word", PySem.Str.ofString "k"]
theorem s1_law_line (w : World) : (B1 w).K.lookup 132 = some ⟨.type "function", none, .func fd_law_line, ⟨[]⟩⟩ := by kernel_rfl
theorem s2_law_line (w : World) : codeIn (B1 w).K fd_law_line.code fd_law_line.qualname = true := by kernel_rfl
theorem s3_law_line : fd_law_line.body = .stmts (fdB (stAt 15)) := by kernel_rfl
def ps_law_line : List PySem.Str := [PySem.Str.ofString "ons", PySem.Str.ofString "ups", PySem.Str.ofString "on", PySem.Str.ofString "up"]
theorem s4_law_line : ∀ vs : List Value, vs.length = ps_law_line.length → bindArgs fd_law_line ⟨vs, []⟩ = pure (ps_law_line.zip vs) := args4 _ fun _ _ _ _ => by kernel_rfl
theorem s5_law_line : ns_law_line.Nodup := by decide +kernel
theorem s6_law_line : ns_law_line.take ps_law_line.length = ps_law_line := by kernel_rfl
theorem s7_law_line : ∀ x ∈ ns_law_line, fd_law_line.scope.names.lookup x = some .local := by decide +kernel
theorem s8_law_line : ∀ x ∈ fd_law_line.scope.names, x.2 ≠ .cell := by decide +kernel
theorem s9_law_line : fd_law_line.scope.kind = .function := by kernel_rfl
theorem s10_law_line : fd_law_line.scope.isCoroutine = false := by kernel_rfl
theorem s11_law_line : fd_law_line.scope.isGenerator = false := by kernel_rfl
theorem s12_law_line : fd_law_line.globals = mainGlobals := by kernel_rfl
theorem s13_law_line : fd_law_line.builtins = builtinsNs := by kernel_rfl
structure In_law_line (w : World) (C : Cx) : Prop where
  W : Wf C
  B : C.B = B1 w
  N : C.names = ns_law_line
  E : ∃ L, C.env = callEnv fd_law_line L 132
theorem fn_law_line {w : World} {ds : List D} {r : D} {k : Nat} (hl : ps_law_line.length = ds.length)
    (H : ∀ C : Cx, In_law_line w C → C.A.depth + k < recursionLimit → C.A.units + 8 * k < cLine →
      Exs C ⟨ds.map some ++ List.replicate (ns_law_line.length - ds.length) none, []⟩ (fdB (stAt 15)) (fun fl _ => fl = .ret r ∨ (fl = .next ∧ r = .none))) : Fn (B1 w) 132 (k + 1) ds r := by
  refine fn_of_body (s1_law_line w) (s2_law_line w) s3_law_line s4_law_line hl s5_law_line s6_law_line s7_law_line s8_law_line s9_law_line s10_law_line s11_law_line s12_law_line s13_law_line ?_
  intro A L h₀ X W hd hu
  with_reducible exact H _ ⟨W, rfl, rfl, L, rfl⟩ hd hu
theorem nx_law_line_ons {w : World} {C : Cx} (I : In_law_line w C) : C.names[0]? = some (PySem.Str.ofString "ons") := by rw [I.N]; kernel_rfl
theorem nx_law_line_ups {w : World} {C : Cx} (I : In_law_line w C) : C.names[1]? = some (PySem.Str.ofString "ups") := by rw [I.N]; kernel_rfl
theorem nx_law_line_on {w : World} {C : Cx} (I : In_law_line w C) : C.names[2]? = some (PySem.Str.ofString "on") := by rw [I.N]; kernel_rfl
theorem nx_law_line_up {w : World} {C : Cx} (I : In_law_line w C) : C.names[3]? = some (PySem.Str.ofString "up") := by rw [I.N]; kernel_rfl
theorem nx_law_line_whole {w : World} {C : Cx} (I : In_law_line w C) : C.names[4]? = some (PySem.Str.ofString "whole") := by rw [I.N]; kernel_rfl
theorem nx_law_line_word {w : World} {C : Cx} (I : In_law_line w C) : C.names[5]? = some (PySem.Str.ofString "word") := by rw [I.N]; kernel_rfl
theorem nx_law_line_k {w : World} {C : Cx} (I : In_law_line w C) : C.names[6]? = some (PySem.Str.ofString "k") := by rw [I.N]; kernel_rfl
def fd_law_form : FuncData := fdO o139_22
def ns_law_form : List PySem.Str := [PySem.Str.ofString "letter", PySem.Str.ofString "n", PySem.Str.ofString "kind", PySem.Str.ofString "alphabet"]
theorem s1_law_form (w : World) : (B1 w).K.lookup 139 = some ⟨.type "function", none, .func fd_law_form, ⟨[]⟩⟩ := by kernel_rfl
theorem s2_law_form (w : World) : codeIn (B1 w).K fd_law_form.code fd_law_form.qualname = true := by kernel_rfl
theorem s3_law_form : fd_law_form.body = .stmts (fdB (stAt 16)) := by kernel_rfl
def ps_law_form : List PySem.Str := [PySem.Str.ofString "letter", PySem.Str.ofString "n"]
theorem s4_law_form : ∀ vs : List Value, vs.length = ps_law_form.length → bindArgs fd_law_form ⟨vs, []⟩ = pure (ps_law_form.zip vs) := args2 _ fun _ _ => by kernel_rfl
theorem s5_law_form : ns_law_form.Nodup := by decide +kernel
theorem s6_law_form : ns_law_form.take ps_law_form.length = ps_law_form := by kernel_rfl
theorem s7_law_form : ∀ x ∈ ns_law_form, fd_law_form.scope.names.lookup x = some .local := by decide +kernel
theorem s8_law_form : ∀ x ∈ fd_law_form.scope.names, x.2 ≠ .cell := by decide +kernel
theorem s9_law_form : fd_law_form.scope.kind = .function := by kernel_rfl
theorem s10_law_form : fd_law_form.scope.isCoroutine = false := by kernel_rfl
theorem s11_law_form : fd_law_form.scope.isGenerator = false := by kernel_rfl
theorem s12_law_form : fd_law_form.globals = mainGlobals := by kernel_rfl
theorem s13_law_form : fd_law_form.builtins = builtinsNs := by kernel_rfl
structure In_law_form (w : World) (C : Cx) : Prop where
  W : Wf C
  B : C.B = B1 w
  N : C.names = ns_law_form
  E : ∃ L, C.env = callEnv fd_law_form L 139
theorem fn_law_form {w : World} {ds : List D} {r : D} {k : Nat} (hl : ps_law_form.length = ds.length)
    (H : ∀ C : Cx, In_law_form w C → C.A.depth + k < recursionLimit → C.A.units + 8 * k < cLine →
      Exs C ⟨ds.map some ++ List.replicate (ns_law_form.length - ds.length) none, []⟩ (fdB (stAt 16)) (fun fl _ => fl = .ret r ∨ (fl = .next ∧ r = .none))) : Fn (B1 w) 139 (k + 1) ds r := by
  refine fn_of_body (s1_law_form w) (s2_law_form w) s3_law_form s4_law_form hl s5_law_form s6_law_form s7_law_form s8_law_form s9_law_form s10_law_form s11_law_form s12_law_form s13_law_form ?_
  intro A L h₀ X W hd hu
  with_reducible exact H _ ⟨W, rfl, rfl, L, rfl⟩ hd hu
theorem nx_law_form_letter {w : World} {C : Cx} (I : In_law_form w C) : C.names[0]? = some (PySem.Str.ofString "letter") := by rw [I.N]; kernel_rfl
theorem nx_law_form_n {w : World} {C : Cx} (I : In_law_form w C) : C.names[1]? = some (PySem.Str.ofString "n") := by rw [I.N]; kernel_rfl
theorem nx_law_form_kind {w : World} {C : Cx} (I : In_law_form w C) : C.names[2]? = some (PySem.Str.ofString "kind") := by rw [I.N]; kernel_rfl
theorem nx_law_form_alphabet {w : World} {C : Cx} (I : In_law_form w C) : C.names[3]? = some (PySem.Str.ofString "alphabet") := by rw [I.N]; kernel_rfl
def fd_law_unseen : FuncData := fdO o146_22
def ns_law_unseen : List PySem.Str := [PySem.Str.ofString "n", PySem.Str.ofString "kind"]
theorem s1_law_unseen (w : World) : (B1 w).K.lookup 146 = some ⟨.type "function", none, .func fd_law_unseen, ⟨[]⟩⟩ := by kernel_rfl
theorem s2_law_unseen (w : World) : codeIn (B1 w).K fd_law_unseen.code fd_law_unseen.qualname = true := by kernel_rfl
theorem s3_law_unseen : fd_law_unseen.body = .stmts (fdB (stAt 17)) := by kernel_rfl
def ps_law_unseen : List PySem.Str := [PySem.Str.ofString "n"]
theorem s4_law_unseen : ∀ vs : List Value, vs.length = ps_law_unseen.length → bindArgs fd_law_unseen ⟨vs, []⟩ = pure (ps_law_unseen.zip vs) := args1 _ fun _ => by kernel_rfl
theorem s5_law_unseen : ns_law_unseen.Nodup := by decide +kernel
theorem s6_law_unseen : ns_law_unseen.take ps_law_unseen.length = ps_law_unseen := by kernel_rfl
theorem s7_law_unseen : ∀ x ∈ ns_law_unseen, fd_law_unseen.scope.names.lookup x = some .local := by decide +kernel
theorem s8_law_unseen : ∀ x ∈ fd_law_unseen.scope.names, x.2 ≠ .cell := by decide +kernel
theorem s9_law_unseen : fd_law_unseen.scope.kind = .function := by kernel_rfl
theorem s10_law_unseen : fd_law_unseen.scope.isCoroutine = false := by kernel_rfl
theorem s11_law_unseen : fd_law_unseen.scope.isGenerator = false := by kernel_rfl
theorem s12_law_unseen : fd_law_unseen.globals = mainGlobals := by kernel_rfl
theorem s13_law_unseen : fd_law_unseen.builtins = builtinsNs := by kernel_rfl
structure In_law_unseen (w : World) (C : Cx) : Prop where
  W : Wf C
  B : C.B = B1 w
  N : C.names = ns_law_unseen
  E : ∃ L, C.env = callEnv fd_law_unseen L 146
theorem fn_law_unseen {w : World} {ds : List D} {r : D} {k : Nat} (hl : ps_law_unseen.length = ds.length)
    (H : ∀ C : Cx, In_law_unseen w C → C.A.depth + k < recursionLimit → C.A.units + 8 * k < cLine →
      Exs C ⟨ds.map some ++ List.replicate (ns_law_unseen.length - ds.length) none, []⟩ (fdB (stAt 17)) (fun fl _ => fl = .ret r ∨ (fl = .next ∧ r = .none))) : Fn (B1 w) 146 (k + 1) ds r := by
  refine fn_of_body (s1_law_unseen w) (s2_law_unseen w) s3_law_unseen s4_law_unseen hl s5_law_unseen s6_law_unseen s7_law_unseen s8_law_unseen s9_law_unseen s10_law_unseen s11_law_unseen s12_law_unseen s13_law_unseen ?_
  intro A L h₀ X W hd hu
  with_reducible exact H _ ⟨W, rfl, rfl, L, rfl⟩ hd hu
theorem nx_law_unseen_n {w : World} {C : Cx} (I : In_law_unseen w C) : C.names[0]? = some (PySem.Str.ofString "n") := by rw [I.N]; kernel_rfl
theorem nx_law_unseen_kind {w : World} {C : Cx} (I : In_law_unseen w C) : C.names[1]? = some (PySem.Str.ofString "kind") := by rw [I.N]; kernel_rfl
def fd_law_run : FuncData := fdO o153_22
def ns_law_run : List PySem.Str := [PySem.Str.ofString "letter", PySem.Str.ofString "count", PySem.Str.ofString "n", PySem.Str.ofString "twice", PySem.Str.ofString "text"]
theorem s1_law_run (w : World) : (B1 w).K.lookup 153 = some ⟨.type "function", none, .func fd_law_run, ⟨[]⟩⟩ := by kernel_rfl
theorem s2_law_run (w : World) : codeIn (B1 w).K fd_law_run.code fd_law_run.qualname = true := by kernel_rfl
theorem s3_law_run : fd_law_run.body = .stmts (fdB (stAt 18)) := by kernel_rfl
def ps_law_run : List PySem.Str := [PySem.Str.ofString "letter", PySem.Str.ofString "count", PySem.Str.ofString "n"]
theorem s4_law_run : ∀ vs : List Value, vs.length = ps_law_run.length → bindArgs fd_law_run ⟨vs, []⟩ = pure (ps_law_run.zip vs) := args3 _ fun _ _ _ => by kernel_rfl
theorem s5_law_run : ns_law_run.Nodup := by decide +kernel
theorem s6_law_run : ns_law_run.take ps_law_run.length = ps_law_run := by kernel_rfl
theorem s7_law_run : ∀ x ∈ ns_law_run, fd_law_run.scope.names.lookup x = some .local := by decide +kernel
theorem s8_law_run : ∀ x ∈ fd_law_run.scope.names, x.2 ≠ .cell := by decide +kernel
theorem s9_law_run : fd_law_run.scope.kind = .function := by kernel_rfl
theorem s10_law_run : fd_law_run.scope.isCoroutine = false := by kernel_rfl
theorem s11_law_run : fd_law_run.scope.isGenerator = false := by kernel_rfl
theorem s12_law_run : fd_law_run.globals = mainGlobals := by kernel_rfl
theorem s13_law_run : fd_law_run.builtins = builtinsNs := by kernel_rfl
structure In_law_run (w : World) (C : Cx) : Prop where
  W : Wf C
  B : C.B = B1 w
  N : C.names = ns_law_run
  E : ∃ L, C.env = callEnv fd_law_run L 153
theorem fn_law_run {w : World} {ds : List D} {r : D} {k : Nat} (hl : ps_law_run.length = ds.length)
    (H : ∀ C : Cx, In_law_run w C → C.A.depth + k < recursionLimit → C.A.units + 8 * k < cLine →
      Exs C ⟨ds.map some ++ List.replicate (ns_law_run.length - ds.length) none, []⟩ (fdB (stAt 18)) (fun fl _ => fl = .ret r ∨ (fl = .next ∧ r = .none))) : Fn (B1 w) 153 (k + 1) ds r := by
  refine fn_of_body (s1_law_run w) (s2_law_run w) s3_law_run s4_law_run hl s5_law_run s6_law_run s7_law_run s8_law_run s9_law_run s10_law_run s11_law_run s12_law_run s13_law_run ?_
  intro A L h₀ X W hd hu
  with_reducible exact H _ ⟨W, rfl, rfl, L, rfl⟩ hd hu
theorem nx_law_run_letter {w : World} {C : Cx} (I : In_law_run w C) : C.names[0]? = some (PySem.Str.ofString "letter") := by rw [I.N]; kernel_rfl
theorem nx_law_run_count {w : World} {C : Cx} (I : In_law_run w C) : C.names[1]? = some (PySem.Str.ofString "count") := by rw [I.N]; kernel_rfl
theorem nx_law_run_n {w : World} {C : Cx} (I : In_law_run w C) : C.names[2]? = some (PySem.Str.ofString "n") := by rw [I.N]; kernel_rfl
theorem nx_law_run_twice {w : World} {C : Cx} (I : In_law_run w C) : C.names[3]? = some (PySem.Str.ofString "twice") := by rw [I.N]; kernel_rfl
theorem nx_law_run_text {w : World} {C : Cx} (I : In_law_run w C) : C.names[4]? = some (PySem.Str.ofString "text") := by rw [I.N]; kernel_rfl
def fd_law_signs : FuncData := fdO o160_22
def ns_law_signs : List PySem.Str := [PySem.Str.ofString "n"]
theorem s1_law_signs (w : World) : (B1 w).K.lookup 160 = some ⟨.type "function", none, .func fd_law_signs, ⟨[]⟩⟩ := by kernel_rfl
theorem s2_law_signs (w : World) : codeIn (B1 w).K fd_law_signs.code fd_law_signs.qualname = true := by kernel_rfl
theorem s3_law_signs : fd_law_signs.body = .stmts (fdB (stAt 19)) := by kernel_rfl
def ps_law_signs : List PySem.Str := [PySem.Str.ofString "n"]
theorem s4_law_signs : ∀ vs : List Value, vs.length = ps_law_signs.length → bindArgs fd_law_signs ⟨vs, []⟩ = pure (ps_law_signs.zip vs) := args1 _ fun _ => by kernel_rfl
theorem s5_law_signs : ns_law_signs.Nodup := by decide +kernel
theorem s6_law_signs : ns_law_signs.take ps_law_signs.length = ps_law_signs := by kernel_rfl
theorem s7_law_signs : ∀ x ∈ ns_law_signs, fd_law_signs.scope.names.lookup x = some .local := by decide +kernel
theorem s8_law_signs : ∀ x ∈ fd_law_signs.scope.names, x.2 ≠ .cell := by decide +kernel
theorem s9_law_signs : fd_law_signs.scope.kind = .function := by kernel_rfl
theorem s10_law_signs : fd_law_signs.scope.isCoroutine = false := by kernel_rfl
theorem s11_law_signs : fd_law_signs.scope.isGenerator = false := by kernel_rfl
theorem s12_law_signs : fd_law_signs.globals = mainGlobals := by kernel_rfl
theorem s13_law_signs : fd_law_signs.builtins = builtinsNs := by kernel_rfl
structure In_law_signs (w : World) (C : Cx) : Prop where
  W : Wf C
  B : C.B = B1 w
  N : C.names = ns_law_signs
  E : ∃ L, C.env = callEnv fd_law_signs L 160
theorem fn_law_signs {w : World} {ds : List D} {r : D} {k : Nat} (hl : ps_law_signs.length = ds.length)
    (H : ∀ C : Cx, In_law_signs w C → C.A.depth + k < recursionLimit → C.A.units + 8 * k < cLine →
      Exs C ⟨ds.map some ++ List.replicate (ns_law_signs.length - ds.length) none, []⟩ (fdB (stAt 19)) (fun fl _ => fl = .ret r ∨ (fl = .next ∧ r = .none))) : Fn (B1 w) 160 (k + 1) ds r := by
  refine fn_of_body (s1_law_signs w) (s2_law_signs w) s3_law_signs s4_law_signs hl s5_law_signs s6_law_signs s7_law_signs s8_law_signs s9_law_signs s10_law_signs s11_law_signs s12_law_signs s13_law_signs ?_
  intro A L h₀ X W hd hu
  with_reducible exact H _ ⟨W, rfl, rfl, L, rfl⟩ hd hu
theorem nx_law_signs_n {w : World} {C : Cx} (I : In_law_signs w C) : C.names[0]? = some (PySem.Str.ofString "n") := by rw [I.N]; kernel_rfl
def fd_law_rewritten : FuncData := fdO o167_22
def ns_law_rewritten : List PySem.Str := [PySem.Str.ofString "word", PySem.Str.ofString "signs", PySem.Str.ofString "times", PySem.Str.ofString "upward", PySem.Str.ofString "n", PySem.Str.ofString "on", PySem.Str.ofString "up", PySem.Str.ofString "pair", PySem.Str.ofString "three", PySem.Str.ofString "text", PySem.Str.ofString "letter"]
theorem s1_law_rewritten (w : World) : (B1 w).K.lookup 167 = some ⟨.type "function", none, .func fd_law_rewritten, ⟨[]⟩⟩ := by kernel_rfl
theorem s2_law_rewritten (w : World) : codeIn (B1 w).K fd_law_rewritten.code fd_law_rewritten.qualname = true := by kernel_rfl
theorem s3_law_rewritten : fd_law_rewritten.body = .stmts (fdB (stAt 20)) := by kernel_rfl
def ps_law_rewritten : List PySem.Str := [PySem.Str.ofString "word", PySem.Str.ofString "signs", PySem.Str.ofString "times", PySem.Str.ofString "upward", PySem.Str.ofString "n"]
theorem s4_law_rewritten : ∀ vs : List Value, vs.length = ps_law_rewritten.length → bindArgs fd_law_rewritten ⟨vs, []⟩ = pure (ps_law_rewritten.zip vs) := args5 _ fun _ _ _ _ _ => by kernel_rfl
theorem s5_law_rewritten : ns_law_rewritten.Nodup := by decide +kernel
theorem s6_law_rewritten : ns_law_rewritten.take ps_law_rewritten.length = ps_law_rewritten := by kernel_rfl
theorem s7_law_rewritten : ∀ x ∈ ns_law_rewritten, fd_law_rewritten.scope.names.lookup x = some .local := by decide +kernel
theorem s8_law_rewritten : ∀ x ∈ fd_law_rewritten.scope.names, x.2 ≠ .cell := by decide +kernel
theorem s9_law_rewritten : fd_law_rewritten.scope.kind = .function := by kernel_rfl
theorem s10_law_rewritten : fd_law_rewritten.scope.isCoroutine = false := by kernel_rfl
theorem s11_law_rewritten : fd_law_rewritten.scope.isGenerator = false := by kernel_rfl
theorem s12_law_rewritten : fd_law_rewritten.globals = mainGlobals := by kernel_rfl
theorem s13_law_rewritten : fd_law_rewritten.builtins = builtinsNs := by kernel_rfl
structure In_law_rewritten (w : World) (C : Cx) : Prop where
  W : Wf C
  B : C.B = B1 w
  N : C.names = ns_law_rewritten
  E : ∃ L, C.env = callEnv fd_law_rewritten L 167
theorem fn_law_rewritten {w : World} {ds : List D} {r : D} {k : Nat} (hl : ps_law_rewritten.length = ds.length)
    (H : ∀ C : Cx, In_law_rewritten w C → C.A.depth + k < recursionLimit → C.A.units + 8 * k < cLine →
      Exs C ⟨ds.map some ++ List.replicate (ns_law_rewritten.length - ds.length) none, []⟩ (fdB (stAt 20)) (fun fl _ => fl = .ret r ∨ (fl = .next ∧ r = .none))) : Fn (B1 w) 167 (k + 1) ds r := by
  refine fn_of_body (s1_law_rewritten w) (s2_law_rewritten w) s3_law_rewritten s4_law_rewritten hl s5_law_rewritten s6_law_rewritten s7_law_rewritten s8_law_rewritten s9_law_rewritten s10_law_rewritten s11_law_rewritten s12_law_rewritten s13_law_rewritten ?_
  intro A L h₀ X W hd hu
  with_reducible exact H _ ⟨W, rfl, rfl, L, rfl⟩ hd hu
theorem nx_law_rewritten_word {w : World} {C : Cx} (I : In_law_rewritten w C) : C.names[0]? = some (PySem.Str.ofString "word") := by rw [I.N]; kernel_rfl
theorem nx_law_rewritten_signs {w : World} {C : Cx} (I : In_law_rewritten w C) : C.names[1]? = some (PySem.Str.ofString "signs") := by rw [I.N]; kernel_rfl
theorem nx_law_rewritten_times {w : World} {C : Cx} (I : In_law_rewritten w C) : C.names[2]? = some (PySem.Str.ofString "times") := by rw [I.N]; kernel_rfl
theorem nx_law_rewritten_upward {w : World} {C : Cx} (I : In_law_rewritten w C) : C.names[3]? = some (PySem.Str.ofString "upward") := by rw [I.N]; kernel_rfl
theorem nx_law_rewritten_n {w : World} {C : Cx} (I : In_law_rewritten w C) : C.names[4]? = some (PySem.Str.ofString "n") := by rw [I.N]; kernel_rfl
theorem nx_law_rewritten_on {w : World} {C : Cx} (I : In_law_rewritten w C) : C.names[5]? = some (PySem.Str.ofString "on") := by rw [I.N]; kernel_rfl
theorem nx_law_rewritten_up {w : World} {C : Cx} (I : In_law_rewritten w C) : C.names[6]? = some (PySem.Str.ofString "up") := by rw [I.N]; kernel_rfl
theorem nx_law_rewritten_pair {w : World} {C : Cx} (I : In_law_rewritten w C) : C.names[7]? = some (PySem.Str.ofString "pair") := by rw [I.N]; kernel_rfl
theorem nx_law_rewritten_three {w : World} {C : Cx} (I : In_law_rewritten w C) : C.names[8]? = some (PySem.Str.ofString "three") := by rw [I.N]; kernel_rfl
theorem nx_law_rewritten_text {w : World} {C : Cx} (I : In_law_rewritten w C) : C.names[9]? = some (PySem.Str.ofString "text") := by rw [I.N]; kernel_rfl
theorem nx_law_rewritten_letter {w : World} {C : Cx} (I : In_law_rewritten w C) : C.names[10]? = some (PySem.Str.ofString "letter") := by rw [I.N]; kernel_rfl
def fd_law : FuncData := fdO o172_22
def ns_law : List PySem.Str := [PySem.Str.ofString "script", PySem.Str.ofString "cells", PySem.Str.ofString "ons", PySem.Str.ofString "ups", PySem.Str.ofString "signs", PySem.Str.ofString "size", PySem.Str.ofString "unit", PySem.Str.ofString "far", PySem.Str.ofString "high", PySem.Str.ofString "rows", PySem.Str.ofString "steps", PySem.Str.ofString "flat", PySem.Str.ofString "steep", PySem.Str.ofString "turns", PySem.Str.ofString "upward", PySem.Str.ofString "times", PySem.Str.ofString "count", PySem.Str.ofString "over", PySem.Str.ofString "seed", PySem.Str.ofString "text", PySem.Str.ofString "k", PySem.Str.ofString "word", PySem.Str.ofString "refusal"]
theorem s1_law (w : World) : (B1 w).K.lookup 172 = some ⟨.type "function", none, .func fd_law, ⟨[]⟩⟩ := by kernel_rfl
theorem s2_law (w : World) : codeIn (B1 w).K fd_law.code fd_law.qualname = true := by kernel_rfl
theorem s3_law : fd_law.body = .stmts (fdB (stAt 21)) := by kernel_rfl
def ps_law : List PySem.Str := [PySem.Str.ofString "script"]
theorem s4_law : ∀ vs : List Value, vs.length = ps_law.length → bindArgs fd_law ⟨vs, []⟩ = pure (ps_law.zip vs) := args1 _ fun _ => by kernel_rfl
theorem s5_law : ns_law.Nodup := by decide +kernel
theorem s6_law : ns_law.take ps_law.length = ps_law := by kernel_rfl
theorem s7_law : ∀ x ∈ ns_law, fd_law.scope.names.lookup x = some .local := by decide +kernel
theorem s8_law : ∀ x ∈ fd_law.scope.names, x.2 ≠ .cell := by decide +kernel
theorem s9_law : fd_law.scope.kind = .function := by kernel_rfl
theorem s10_law : fd_law.scope.isCoroutine = false := by kernel_rfl
theorem s11_law : fd_law.scope.isGenerator = false := by kernel_rfl
theorem s12_law : fd_law.globals = mainGlobals := by kernel_rfl
theorem s13_law : fd_law.builtins = builtinsNs := by kernel_rfl
structure In_law (w : World) (C : Cx) : Prop where
  W : Wf C
  B : C.B = B1 w
  N : C.names = ns_law
  E : ∃ L, C.env = callEnv fd_law L 172
theorem fn_law {w : World} {ds : List D} {r : D} {k : Nat} (hl : ps_law.length = ds.length)
    (H : ∀ C : Cx, In_law w C → C.A.depth + k < recursionLimit → C.A.units + 8 * k < cLine →
      Exs C ⟨ds.map some ++ List.replicate (ns_law.length - ds.length) none, []⟩ (fdB (stAt 21)) (fun fl _ => fl = .ret r ∨ (fl = .next ∧ r = .none))) : Fn (B1 w) 172 (k + 1) ds r := by
  refine fn_of_body (s1_law w) (s2_law w) s3_law s4_law hl s5_law s6_law s7_law s8_law s9_law s10_law s11_law s12_law s13_law ?_
  intro A L h₀ X W hd hu
  with_reducible exact H _ ⟨W, rfl, rfl, L, rfl⟩ hd hu
theorem nx_law_script {w : World} {C : Cx} (I : In_law w C) : C.names[0]? = some (PySem.Str.ofString "script") := by rw [I.N]; kernel_rfl
theorem nx_law_cells {w : World} {C : Cx} (I : In_law w C) : C.names[1]? = some (PySem.Str.ofString "cells") := by rw [I.N]; kernel_rfl
theorem nx_law_ons {w : World} {C : Cx} (I : In_law w C) : C.names[2]? = some (PySem.Str.ofString "ons") := by rw [I.N]; kernel_rfl
theorem nx_law_ups {w : World} {C : Cx} (I : In_law w C) : C.names[3]? = some (PySem.Str.ofString "ups") := by rw [I.N]; kernel_rfl
theorem nx_law_signs {w : World} {C : Cx} (I : In_law w C) : C.names[4]? = some (PySem.Str.ofString "signs") := by rw [I.N]; kernel_rfl
theorem nx_law_size {w : World} {C : Cx} (I : In_law w C) : C.names[5]? = some (PySem.Str.ofString "size") := by rw [I.N]; kernel_rfl
theorem nx_law_unit {w : World} {C : Cx} (I : In_law w C) : C.names[6]? = some (PySem.Str.ofString "unit") := by rw [I.N]; kernel_rfl
theorem nx_law_far {w : World} {C : Cx} (I : In_law w C) : C.names[7]? = some (PySem.Str.ofString "far") := by rw [I.N]; kernel_rfl
theorem nx_law_high {w : World} {C : Cx} (I : In_law w C) : C.names[8]? = some (PySem.Str.ofString "high") := by rw [I.N]; kernel_rfl
theorem nx_law_rows {w : World} {C : Cx} (I : In_law w C) : C.names[9]? = some (PySem.Str.ofString "rows") := by rw [I.N]; kernel_rfl
theorem nx_law_steps {w : World} {C : Cx} (I : In_law w C) : C.names[10]? = some (PySem.Str.ofString "steps") := by rw [I.N]; kernel_rfl
theorem nx_law_flat {w : World} {C : Cx} (I : In_law w C) : C.names[11]? = some (PySem.Str.ofString "flat") := by rw [I.N]; kernel_rfl
theorem nx_law_steep {w : World} {C : Cx} (I : In_law w C) : C.names[12]? = some (PySem.Str.ofString "steep") := by rw [I.N]; kernel_rfl
theorem nx_law_turns {w : World} {C : Cx} (I : In_law w C) : C.names[13]? = some (PySem.Str.ofString "turns") := by rw [I.N]; kernel_rfl
theorem nx_law_upward {w : World} {C : Cx} (I : In_law w C) : C.names[14]? = some (PySem.Str.ofString "upward") := by rw [I.N]; kernel_rfl
theorem nx_law_times {w : World} {C : Cx} (I : In_law w C) : C.names[15]? = some (PySem.Str.ofString "times") := by rw [I.N]; kernel_rfl
theorem nx_law_count {w : World} {C : Cx} (I : In_law w C) : C.names[16]? = some (PySem.Str.ofString "count") := by rw [I.N]; kernel_rfl
theorem nx_law_over {w : World} {C : Cx} (I : In_law w C) : C.names[17]? = some (PySem.Str.ofString "over") := by rw [I.N]; kernel_rfl
theorem nx_law_seed {w : World} {C : Cx} (I : In_law w C) : C.names[18]? = some (PySem.Str.ofString "seed") := by rw [I.N]; kernel_rfl
theorem nx_law_text {w : World} {C : Cx} (I : In_law w C) : C.names[19]? = some (PySem.Str.ofString "text") := by rw [I.N]; kernel_rfl
theorem nx_law_k {w : World} {C : Cx} (I : In_law w C) : C.names[20]? = some (PySem.Str.ofString "k") := by rw [I.N]; kernel_rfl
theorem nx_law_word {w : World} {C : Cx} (I : In_law w C) : C.names[21]? = some (PySem.Str.ofString "word") := by rw [I.N]; kernel_rfl
theorem nx_law_refusal {w : World} {C : Cx} (I : In_law w C) : C.names[22]? = some (PySem.Str.ofString "refusal") := by rw [I.N]; kernel_rfl
theorem kn_div2n1n_DIV_LIMIT {w : World} {C : Cx} (I : In_div2n1n w C) : C.env.kindOf (PySem.Str.ofString "_DIV_LIMIT") = some .globalImplicit := by obtain ⟨L, e⟩ := I.E; rw [e]; kernel_rfl
theorem kn_div2n1n_divmod {w : World} {C : Cx} (I : In_div2n1n w C) : C.env.kindOf (PySem.Str.ofString "divmod") = some .globalImplicit := by obtain ⟨L, e⟩ := I.E; rw [e]; kernel_rfl
theorem kn_div2n1n_div3n2n {w : World} {C : Cx} (I : In_div2n1n w C) : C.env.kindOf (PySem.Str.ofString "_div3n2n") = some .globalImplicit := by obtain ⟨L, e⟩ := I.E; rw [e]; kernel_rfl
theorem kn_div3n2n_div2n1n {w : World} {C : Cx} (I : In_div3n2n w C) : C.env.kindOf (PySem.Str.ofString "_div2n1n") = some .globalImplicit := by obtain ⟨L, e⟩ := I.E; rw [e]; kernel_rfl
theorem kn_int2digits_len (L : Addr) : (callEnv fd_int2digits L 35).kindOf (PySem.Str.ofString "len") = some .globalImplicit := by kernel_rfl
theorem kn_digits2int_len (L : Addr) : (callEnv fd_digits2int L 42).kindOf (PySem.Str.ofString "len") = some .globalImplicit := by kernel_rfl
theorem kn_divmod_pos_int2digits {w : World} {C : Cx} (I : In_divmod_pos w C) : C.env.kindOf (PySem.Str.ofString "_int2digits") = some .globalImplicit := by obtain ⟨L, e⟩ := I.E; rw [e]; kernel_rfl
theorem kn_divmod_pos_reversed {w : World} {C : Cx} (I : In_divmod_pos w C) : C.env.kindOf (PySem.Str.ofString "reversed") = some .globalImplicit := by obtain ⟨L, e⟩ := I.E; rw [e]; kernel_rfl
theorem kn_divmod_pos_div2n1n {w : World} {C : Cx} (I : In_divmod_pos w C) : C.env.kindOf (PySem.Str.ofString "_div2n1n") = some .globalImplicit := by obtain ⟨L, e⟩ := I.E; rw [e]; kernel_rfl
theorem kn_divmod_pos_digits2int {w : World} {C : Cx} (I : In_divmod_pos w C) : C.env.kindOf (PySem.Str.ofString "_digits2int") = some .globalImplicit := by obtain ⟨L, e⟩ := I.E; rw [e]; kernel_rfl
theorem kn_int_divmod_ZeroDivisionError {w : World} {C : Cx} (I : In_int_divmod w C) : C.env.kindOf (PySem.Str.ofString "ZeroDivisionError") = some .globalImplicit := by obtain ⟨L, e⟩ := I.E; rw [e]; kernel_rfl
theorem kn_int_divmod_int_divmod {w : World} {C : Cx} (I : In_int_divmod w C) : C.env.kindOf (PySem.Str.ofString "int_divmod") = some .globalImplicit := by obtain ⟨L, e⟩ := I.E; rw [e]; kernel_rfl
theorem kn_int_divmod_divmod_pos {w : World} {C : Cx} (I : In_int_divmod w C) : C.env.kindOf (PySem.Str.ofString "_divmod_pos") = some .globalImplicit := by obtain ⟨L, e⟩ := I.E; rw [e]; kernel_rfl
theorem kn_in_table_b1_ord {w : World} {C : Cx} (I : In_in_table_b1 w C) : C.env.kindOf (PySem.Str.ofString "ord") = some .globalImplicit := by obtain ⟨L, e⟩ := I.E; rw [e]; kernel_rfl
theorem kn_in_table_b1_b1_set {w : World} {C : Cx} (I : In_in_table_b1 w C) : C.env.kindOf (PySem.Str.ofString "b1_set") = some .globalImplicit := by obtain ⟨L, e⟩ := I.E; rw [e]; kernel_rfl
theorem kn_map_table_b3_b3_exceptions {w : World} {C : Cx} (I : In_map_table_b3 w C) : C.env.kindOf (PySem.Str.ofString "b3_exceptions") = some .globalImplicit := by obtain ⟨L, e⟩ := I.E; rw [e]; kernel_rfl
theorem kn_map_table_b3_ord {w : World} {C : Cx} (I : In_map_table_b3 w C) : C.env.kindOf (PySem.Str.ofString "ord") = some .globalImplicit := by obtain ⟨L, e⟩ := I.E; rw [e]; kernel_rfl
theorem kn_law_line_range {w : World} {C : Cx} (I : In_law_line w C) : C.env.kindOf (PySem.Str.ofString "range") = some .globalImplicit := by obtain ⟨L, e⟩ := I.E; rw [e]; kernel_rfl
theorem kn_law_form_chr {w : World} {C : Cx} (I : In_law_form w C) : C.env.kindOf (PySem.Str.ofString "chr") = some .globalImplicit := by obtain ⟨L, e⟩ := I.E; rw [e]; kernel_rfl
theorem kn_law_form_ord {w : World} {C : Cx} (I : In_law_form w C) : C.env.kindOf (PySem.Str.ofString "ord") = some .globalImplicit := by obtain ⟨L, e⟩ := I.E; rw [e]; kernel_rfl
theorem kn_law_unseen_chr {w : World} {C : Cx} (I : In_law_unseen w C) : C.env.kindOf (PySem.Str.ofString "chr") = some .globalImplicit := by obtain ⟨L, e⟩ := I.E; rw [e]; kernel_rfl
theorem kn_law_run_law_form {w : World} {C : Cx} (I : In_law_run w C) : C.env.kindOf (PySem.Str.ofString "_law_form") = some .globalImplicit := by obtain ⟨L, e⟩ := I.E; rw [e]; kernel_rfl
theorem kn_law_rewritten_law_run {w : World} {C : Cx} (I : In_law_rewritten w C) : C.env.kindOf (PySem.Str.ofString "_law_run") = some .globalImplicit := by obtain ⟨L, e⟩ := I.E; rw [e]; kernel_rfl
theorem kn_law_rewritten_law_form {w : World} {C : Cx} (I : In_law_rewritten w C) : C.env.kindOf (PySem.Str.ofString "_law_form") = some .globalImplicit := by obtain ⟨L, e⟩ := I.E; rw [e]; kernel_rfl
theorem kn_law_rewritten_law_unseen {w : World} {C : Cx} (I : In_law_rewritten w C) : C.env.kindOf (PySem.Str.ofString "_law_unseen") = some .globalImplicit := by obtain ⟨L, e⟩ := I.E; rw [e]; kernel_rfl
theorem kn_law_len {w : World} {C : Cx} (I : In_law w C) : C.env.kindOf (PySem.Str.ofString "len") = some .globalImplicit := by obtain ⟨L, e⟩ := I.E; rw [e]; kernel_rfl
theorem kn_law_law_signs {w : World} {C : Cx} (I : In_law w C) : C.env.kindOf (PySem.Str.ofString "_law_signs") = some .globalImplicit := by obtain ⟨L, e⟩ := I.E; rw [e]; kernel_rfl
theorem kn_law_int_divmod {w : World} {C : Cx} (I : In_law w C) : C.env.kindOf (PySem.Str.ofString "int_divmod") = some .globalImplicit := by obtain ⟨L, e⟩ := I.E; rw [e]; kernel_rfl
theorem kn_law_sum {w : World} {C : Cx} (I : In_law w C) : C.env.kindOf (PySem.Str.ofString "sum") = some .globalImplicit := by obtain ⟨L, e⟩ := I.E; rw [e]; kernel_rfl
theorem kn_law_law_run {w : World} {C : Cx} (I : In_law w C) : C.env.kindOf (PySem.Str.ofString "_law_run") = some .globalImplicit := by obtain ⟨L, e⟩ := I.E; rw [e]; kernel_rfl
theorem kn_law_range {w : World} {C : Cx} (I : In_law w C) : C.env.kindOf (PySem.Str.ofString "range") = some .globalImplicit := by obtain ⟨L, e⟩ := I.E; rw [e]; kernel_rfl
theorem kn_law_law_prepared {w : World} {C : Cx} (I : In_law w C) : C.env.kindOf (PySem.Str.ofString "_law_prepared") = some .globalImplicit := by obtain ⟨L, e⟩ := I.E; rw [e]; kernel_rfl
theorem kn_law_law_line {w : World} {C : Cx} (I : In_law w C) : C.env.kindOf (PySem.Str.ofString "_law_line") = some .globalImplicit := by obtain ⟨L, e⟩ := I.E; rw [e]; kernel_rfl
theorem kn_law_law_rewritten {w : World} {C : Cx} (I : In_law w C) : C.env.kindOf (PySem.Str.ofString "_law_rewritten") = some .globalImplicit := by obtain ⟨L, e⟩ := I.E; rw [e]; kernel_rfl
theorem kn_law_ZeroDivisionError {w : World} {C : Cx} (I : In_law w C) : C.env.kindOf (PySem.Str.ofString "ZeroDivisionError") = some .globalImplicit := by obtain ⟨L, e⟩ := I.E; rw [e]; kernel_rfl
theorem mg_ZeroDivisionError {w : World} {C : Cx} (h : C.B = B1 w) : C.B.mg (PySem.Str.ofString "ZeroDivisionError") = none := by rw [h]; kernel_rfl
theorem mb_ZeroDivisionError {w : World} {C : Cx} (h : C.B = B1 w) : C.B.mb (PySem.Str.ofString "ZeroDivisionError") = some (.type "ZeroDivisionError") := by rw [h]; kernel_rfl
theorem mg_DIV_LIMIT {w : World} {C : Cx} (h : C.B = B1 w) : C.B.mg (PySem.Str.ofString "_DIV_LIMIT") = some (.int 4000 189) := by rw [h]; kernel_rfl
theorem mg_digits2int {w : World} {C : Cx} (h : C.B = B1 w) : C.B.mg (PySem.Str.ofString "_digits2int") = some (.ref 42) := by rw [h]; kernel_rfl
theorem mg_div2n1n {w : World} {C : Cx} (h : C.B = B1 w) : C.B.mg (PySem.Str.ofString "_div2n1n") = some (.ref 21) := by rw [h]; kernel_rfl
theorem mg_div3n2n {w : World} {C : Cx} (h : C.B = B1 w) : C.B.mg (PySem.Str.ofString "_div3n2n") = some (.ref 28) := by rw [h]; kernel_rfl
theorem mg_divmod_pos {w : World} {C : Cx} (h : C.B = B1 w) : C.B.mg (PySem.Str.ofString "_divmod_pos") = some (.ref 49) := by rw [h]; kernel_rfl
theorem mg_int2digits {w : World} {C : Cx} (h : C.B = B1 w) : C.B.mg (PySem.Str.ofString "_int2digits") = some (.ref 35) := by rw [h]; kernel_rfl
theorem mg_law_form {w : World} {C : Cx} (h : C.B = B1 w) : C.B.mg (PySem.Str.ofString "_law_form") = some (.ref 139) := by rw [h]; kernel_rfl
theorem mg_law_line {w : World} {C : Cx} (h : C.B = B1 w) : C.B.mg (PySem.Str.ofString "_law_line") = some (.ref 132) := by rw [h]; kernel_rfl
theorem mg_law_prepared {w : World} {C : Cx} (h : C.B = B1 w) : C.B.mg (PySem.Str.ofString "_law_prepared") = some (.ref 125) := by rw [h]; kernel_rfl
theorem mg_law_rewritten {w : World} {C : Cx} (h : C.B = B1 w) : C.B.mg (PySem.Str.ofString "_law_rewritten") = some (.ref 167) := by rw [h]; kernel_rfl
theorem mg_law_run {w : World} {C : Cx} (h : C.B = B1 w) : C.B.mg (PySem.Str.ofString "_law_run") = some (.ref 153) := by rw [h]; kernel_rfl
theorem mg_law_signs {w : World} {C : Cx} (h : C.B = B1 w) : C.B.mg (PySem.Str.ofString "_law_signs") = some (.ref 160) := by rw [h]; kernel_rfl
theorem mg_law_unseen {w : World} {C : Cx} (h : C.B = B1 w) : C.B.mg (PySem.Str.ofString "_law_unseen") = some (.ref 146) := by rw [h]; kernel_rfl
theorem mg_b1_set {w : World} {C : Cx} (h : C.B = B1 w) : C.B.mg (PySem.Str.ofString "b1_set") = some (.ref 64) := by rw [h]; kernel_rfl
theorem mg_b3_exceptions {w : World} {C : Cx} (h : C.B = B1 w) : C.B.mg (PySem.Str.ofString "b3_exceptions") = some (.ref 75) := by rw [h]; kernel_rfl
theorem mg_chr {w : World} {C : Cx} (h : C.B = B1 w) : C.B.mg (PySem.Str.ofString "chr") = none := by rw [h]; kernel_rfl
theorem mb_chr {w : World} {C : Cx} (h : C.B = B1 w) : C.B.mb (PySem.Str.ofString "chr") = some (.builtin "chr") := by rw [h]; kernel_rfl
theorem mg_divmod {w : World} {C : Cx} (h : C.B = B1 w) : C.B.mg (PySem.Str.ofString "divmod") = none := by rw [h]; kernel_rfl
theorem mb_divmod {w : World} {C : Cx} (h : C.B = B1 w) : C.B.mb (PySem.Str.ofString "divmod") = some (.builtin "divmod") := by rw [h]; kernel_rfl
theorem mg_in_table_b1 {w : World} {C : Cx} (h : C.B = B1 w) : C.B.mg (PySem.Str.ofString "in_table_b1") = some (.ref 74) := by rw [h]; kernel_rfl
theorem mg_int_divmod {w : World} {C : Cx} (h : C.B = B1 w) : C.B.mg (PySem.Str.ofString "int_divmod") = some (.ref 56) := by rw [h]; kernel_rfl
theorem mg_len {w : World} {C : Cx} (h : C.B = B1 w) : C.B.mg (PySem.Str.ofString "len") = none := by rw [h]; kernel_rfl
theorem mb_len {w : World} {C : Cx} (h : C.B = B1 w) : C.B.mb (PySem.Str.ofString "len") = some (.builtin "len") := by rw [h]; kernel_rfl
theorem mg_map_table_b3 {w : World} {C : Cx} (h : C.B = B1 w) : C.B.mg (PySem.Str.ofString "map_table_b3") = some (.ref 120) := by rw [h]; kernel_rfl
theorem mg_ord {w : World} {C : Cx} (h : C.B = B1 w) : C.B.mg (PySem.Str.ofString "ord") = none := by rw [h]; kernel_rfl
theorem mb_ord {w : World} {C : Cx} (h : C.B = B1 w) : C.B.mb (PySem.Str.ofString "ord") = some (.builtin "ord") := by rw [h]; kernel_rfl
theorem mg_range {w : World} {C : Cx} (h : C.B = B1 w) : C.B.mg (PySem.Str.ofString "range") = none := by rw [h]; kernel_rfl
theorem mb_range {w : World} {C : Cx} (h : C.B = B1 w) : C.B.mb (PySem.Str.ofString "range") = some (.type "range") := by rw [h]; kernel_rfl
theorem mg_reversed {w : World} {C : Cx} (h : C.B = B1 w) : C.B.mg (PySem.Str.ofString "reversed") = none := by rw [h]; kernel_rfl
theorem mb_reversed {w : World} {C : Cx} (h : C.B = B1 w) : C.B.mb (PySem.Str.ofString "reversed") = some (.type "reversed") := by rw [h]; kernel_rfl
theorem mg_sum {w : World} {C : Cx} (h : C.B = B1 w) : C.B.mg (PySem.Str.ofString "sum") = none := by rw [h]; kernel_rfl
theorem mb_sum {w : World} {C : Cx} (h : C.B = B1 w) : C.B.mb (PySem.Str.ofString "sum") = some (.builtin "sum") := by rw [h]; kernel_rfl
end
end Mine
-- part M1
namespace Mine
theorem toNat_mul_pow {x : Int} (hx : 0 ≤ x) (k : Nat) : (x * 2 ^ k).toNat = x.toNat <<< k := by
  obtain ⟨n, rfl⟩ := Int.eq_ofNat_of_zero_le hx
  rw [Nat.shiftLeft_eq]
  have : ((n : Int) * 2 ^ k) = ((n * 2 ^ k : Nat) : Int) := by push_cast; rfl
  rw [this, Int.toNat_natCast, Int.toNat_natCast]
theorem two_pow_pos (k : Nat) : (0 : Int) < 2 ^ k := Int.pow_pos (by omega)
theorem or_disj {x y : Int} {k : Nat} (hx : 0 ≤ x) (hy : 0 ≤ y) (h : y < 2 ^ k) : Builtin.bitOr (x * 2 ^ k) y = x * 2 ^ k + y := by
  have hp := two_pow_pos k
  rw [bitOr_and, bitAnd_pp (Int.mul_nonneg hx (Int.le_of_lt hp)) hy, toNat_mul_pow hx]
  have : (x.toNat <<< k) &&& y.toNat = 0 := by
    obtain ⟨m, rfl⟩ := Int.eq_ofNat_of_zero_le hy
    have hm : m < 2 ^ k := by
      have : ((m : Int) < ((2 ^ k : Nat) : Int)) := by push_cast; exact h
      exact Int.ofNat_lt.mp this
    apply Nat.eq_of_testBit_eq
    intro i
    simp only [Nat.testBit_and, Nat.testBit_shiftLeft, Nat.zero_testBit, Int.toNat_natCast]
    by_cases hi : i < k
    · have : ¬ (k ≤ i) := by omega
      simp [this]
    · have : m.testBit i = false := Nat.testBit_lt_two_pow (Nat.lt_of_lt_of_le hm (Nat.pow_le_pow_right (by omega) (by omega)))
      simp [this]
  rw [this]; simp
theorem xor_hi {x : Int} (k : Nat) (hx : 0 ≤ x) : Builtin.bitXor x ((x / 2 ^ k) * 2 ^ k) = x % 2 ^ k := by
  have hp := two_pow_pos k
  have hq : 0 ≤ x / 2 ^ k := Int.ediv_nonneg hx (Int.le_of_lt hp)
  have hm := Int.emod_add_mul_ediv x (2 ^ k)
  rw [bitXor_and, bitAnd_pp hx (Int.mul_nonneg hq (Int.le_of_lt hp)), toNat_mul_pow hq]
  have : x.toNat &&& ((x / 2 ^ k).toNat <<< k) = (x / 2 ^ k).toNat <<< k := by
    obtain ⟨m, rfl⟩ := Int.eq_ofNat_of_zero_le hx
    have e : ((m : Int) / 2 ^ k).toNat = m >>> k := by
      rw [Nat.shiftRight_eq_div_pow]
      have : ((m : Int) / 2 ^ k) = ((m / 2 ^ k : Nat) : Int) := by push_cast; rfl
      rw [this, Int.toNat_natCast]
    rw [e, Int.toNat_natCast]
    apply Nat.eq_of_testBit_eq
    intro i
    simp only [Nat.testBit_and, Nat.testBit_shiftLeft, Nat.testBit_shiftRight]
    by_cases hi : k ≤ i
    · have : k + (i - k) = i := by omega
      simp [hi, this]
    · simp [hi]
  rw [this, ← toNat_mul_pow hq, Int.toNat_of_nonneg (Int.mul_nonneg hq (Int.le_of_lt hp))]
  have : (x / 2 ^ k) * 2 ^ k = 2 ^ k * (x / 2 ^ k) := Int.mul_comm _ _
  omega
theorem dm_of {A b q r : Int} (h : A = q * b + r) (h0 : 0 ≤ r) (h1 : r < b) : A / b = q ∧ A % b = r := by
  have hb : 0 < b := by omega
  subst h
  constructor
  · rw [Int.add_comm, Int.mul_comm, Int.add_mul_ediv_left _ _ (by omega), Int.ediv_eq_zero_of_lt h0 h1]; omega
  · rw [Int.add_comm, Int.mul_comm, Int.add_mul_emod_self_left, Int.emod_eq_of_lt h0 h1]
/-- the estimate of the three-by-two step -/
theorem d32_est {a12 a3 b b1 b2 q r P : Int} (hP : 0 < P) (hb : b = b1 * P + b2) (h1 : 0 < b1) (h2 : 0 ≤ b2) (h2' : b2 < P) (h3 : 0 ≤ a3) (h3' : a3 < P) (ha : 0 ≤ a12) (ha' : a12 < b)
    (hq : (a12 / P = b1 ∧ q = P - 1 ∧ r = a12 - b1 * P + b1) ∨ (a12 < b1 * P ∧ q = a12 / b1 ∧ r = a12 % b1)) :
    0 ≤ q ∧ q ≤ P ∧ 0 ≤ r ∧ a12 * P + a3 = q * b + ((r * P + a3) - q * b2) ∧ (r * P + a3) - q * b2 < b := by
  rcases hq with ⟨e1, rfl, rfl⟩ | ⟨e1, rfl, rfl⟩
  · have hlo : b1 * P ≤ a12 := by
      have := Int.mul_ediv_self_le (x := a12) (k := P) (by omega)
      rw [e1, Int.mul_comm] at this; exact this
    refine ⟨by omega, by omega, by omega, ?_, ?_⟩
    · subst hb; grind
    · have : (a12 - b1 * P + b1) * P + a3 - (P - 1) * b2 = (a12 * P + a3) - (P - 1) * b := by subst hb; grind
      rw [this]
      have h4 : a12 * P ≤ (b - 1) * P := Int.mul_le_mul_of_nonneg_right (by omega) (by omega)
      grind
  · have hm := Int.emod_add_mul_ediv a12 b1
    have m0 := Int.emod_nonneg a12 (b := b1) (by omega)
    have m1 := Int.emod_lt_of_pos a12 h1
    have q0 : 0 ≤ a12 / b1 := Int.ediv_nonneg ha (by omega)
    have q1 : a12 / b1 < P := by
      apply Int.ediv_lt_of_lt_mul h1
      rw [Int.mul_comm]; exact e1
    generalize a12 / b1 = q at *
    generalize a12 % b1 = r at *
    refine ⟨q0, by omega, m0, ?_, ?_⟩
    · subst hb; rw [← hm]; grind
    · have h4 : r * P ≤ (b1 - 1) * P := Int.mul_le_mul_of_nonneg_right (by omega) (by omega)
      have h5 : 0 ≤ q * b2 := Int.mul_nonneg q0 h2
      grind
end Mine
-- part M2
namespace Mine
theorem d21_step {a b P a12 mid low q1 r1 q2 r2 : Int} (hP : 0 < P) (hb : 0 < b) (ha : 0 ≤ a) (ha' : a < b * (P * P)) (e12 : a12 = a / (P * P)) (em : mid = a / P % P) (el : low = a % P)
    (e1 : q1 = (a12 * P + mid) / b) (e2 : r1 = (a12 * P + mid) % b) (e3 : q2 = (r1 * P + low) / b) (e4 : r2 = (r1 * P + low) % b) :
    (0 ≤ a12 ∧ a12 < b ∧ 0 ≤ mid ∧ mid < P ∧ 0 ≤ low ∧ low < P ∧ 0 ≤ r1 ∧ r1 < b) ∧ 0 ≤ q1 ∧ 0 ≤ q2 ∧ q2 < P ∧ a / b = q1 * P + q2 ∧ a % b = r2 := by
  have hPP : 0 < P * P := Int.mul_pos hP hP
  have a0 : 0 ≤ a12 := e12 ▸ Int.ediv_nonneg ha (Int.le_of_lt hPP)
  have a1 : a12 < b := e12 ▸ Int.ediv_lt_of_lt_mul hPP ha'
  have m0 : 0 ≤ mid := em ▸ Int.emod_nonneg _ (by omega)
  have m1 : mid < P := em ▸ Int.emod_lt_of_pos _ hP
  have l0 : 0 ≤ low := el ▸ Int.emod_nonneg _ (by omega)
  have l1 : low < P := el ▸ Int.emod_lt_of_pos _ hP
  have r0 : 0 ≤ r1 := e2 ▸ Int.emod_nonneg _ (by omega)
  have r1' : r1 < b := e2 ▸ Int.emod_lt_of_pos _ hb
  have x1 := Int.emod_add_mul_ediv (a12 * P + mid) b
  have x2 := Int.emod_add_mul_ediv (r1 * P + low) b
  have x3 := Int.emod_add_mul_ediv a P
  have x4 := Int.emod_add_mul_ediv (a / P) P
  rw [Int.ediv_ediv_of_nonneg (Int.le_of_lt hP), ← e12, ← em] at x4
  rw [← el] at x3
  rw [← e1, ← e2] at x1
  rw [← e3, ← e4] at x2
  have y0 : 0 ≤ r2 := e4 ▸ Int.emod_nonneg _ (by omega)
  have y1 : r2 < b := e4 ▸ Int.emod_lt_of_pos _ hb
  have q10 : 0 ≤ q1 := e1 ▸ Int.ediv_nonneg (by have := Int.mul_nonneg a0 (Int.le_of_lt hP); omega) (by omega)
  have q20 : 0 ≤ q2 := e3 ▸ Int.ediv_nonneg (by have := Int.mul_nonneg r0 (Int.le_of_lt hP); omega) (by omega)
  have q21 : q2 < P := by
    rw [e3]
    apply Int.ediv_lt_of_lt_mul hb
    have : r1 * P ≤ (b - 1) * P := Int.mul_le_mul_of_nonneg_right (by omega) (by omega)
    grind
  have tot : a = (q1 * P + q2) * b + r2 := by
    grind
  obtain ⟨z1, z2⟩ := dm_of tot y0 y1
  exact ⟨⟨a0, a1, m0, m1, l0, l1, r0, r1'⟩, q10, q20, q21, z1, z2⟩
end Mine
-- part M3
namespace Mine
/-- the digits of a number, the lowest first -/
def digs (n : Nat) : Int → Nat → List Int
  | _, 0 => []
  | x, m + 1 => x % 2 ^ n :: digs n (x / 2 ^ n) m
def dval (n : Nat) : List Int → Int
  | [] => 0
  | d :: l => d + 2 ^ n * dval n l
theorem digs_length (n : Nat) : ∀ (m : Nat) (x : Int), (digs n x m).length = m
  | 0, _ => rfl
  | m + 1, x => by simp [digs, digs_length n m]
theorem digs_add (n : Nat) : ∀ (a b : Nat) (x : Int), digs n x (a + b) = digs n x a ++ digs n (x / 2 ^ (n * a)) b
  | 0, b, x => by simp [digs]
  | a + 1, b, x => by
    rw [show a + 1 + b = (a + b) + 1 by omega]
    simp only [digs, List.cons_append]
    rw [digs_add n a b, Int.ediv_ediv_of_nonneg (Int.le_of_lt (two_pow_pos n)), ← Int.pow_add, show n * (a + 1) = n + n * a by rw [Nat.mul_succ]; omega]
theorem digs_mod (n : Nat) : ∀ (a : Nat) (x : Int), digs n (x % 2 ^ (n * a)) a = digs n x a
  | 0, x => rfl
  | a + 1, x => by
    simp only [digs]
    have hp := two_pow_pos n
    have hq := two_pow_pos (n * a)
    have e : (2 : Int) ^ (n * (a + 1)) = 2 ^ n * 2 ^ (n * a) := by rw [← Int.pow_add]; congr 1; rw [Nat.mul_succ]; omega
    rw [e]
    have h1 : x % (2 ^ n * 2 ^ (n * a)) % 2 ^ n = x % 2 ^ n := Int.emod_emod_of_dvd _ (Int.dvd_mul_right _ _)
    have h2 : x % (2 ^ n * 2 ^ (n * a)) / 2 ^ n = x / 2 ^ n % 2 ^ (n * a) := by
      have := Int.emod_add_mul_ediv x (2 ^ n * 2 ^ (n * a))
      have e2 := Int.emod_add_mul_ediv (x / 2 ^ n) (2 ^ (n * a))
      rw [Int.ediv_ediv_of_nonneg (Int.le_of_lt hp)] at e2
      have e3 : x = x % 2 ^ n + 2 ^ n * (x / 2 ^ n) := (Int.emod_add_mul_ediv x (2 ^ n)).symm
      have e4 : x % (2 ^ n * 2 ^ (n * a)) = x % 2 ^ n + 2 ^ n * (x / 2 ^ n % 2 ^ (n * a)) := by grind
      rw [e4, Int.add_mul_ediv_left _ _ (by omega), Int.ediv_eq_zero_of_lt (Int.emod_nonneg _ (by omega)) (Int.emod_lt_of_pos _ hp)]
      omega
    rw [h1, h2, digs_mod n a]
theorem dval_append (n : Nat) : ∀ (a b : List Int), dval n (a ++ b) = dval n a + 2 ^ (n * a.length) * dval n b
  | [], b => by simp [dval]
  | d :: a, b => by
    simp only [List.cons_append, dval, dval_append n a b, List.length_cons]
    have e : (2 : Int) ^ (n * (a.length + 1)) = 2 ^ n * 2 ^ (n * a.length) := by rw [← Int.pow_add]; congr 1; rw [Nat.mul_succ]; omega
    rw [e]; grind
theorem dval_range (n : Nat) : ∀ (l : List Int), (∀ d ∈ l, 0 ≤ d ∧ d < 2 ^ n) → 0 ≤ dval n l ∧ dval n l < 2 ^ (n * l.length)
  | [], _ => by simp [dval]
  | d :: l, h => by
    obtain ⟨h1, h2⟩ := dval_range n l fun x hx => h x (.tail _ hx)
    obtain ⟨h3, h4⟩ := h d (.head _)
    have hp := two_pow_pos n
    simp only [dval, List.length_cons]
    have e : (2 : Int) ^ (n * (l.length + 1)) = 2 ^ n * 2 ^ (n * l.length) := by rw [← Int.pow_add]; congr 1; rw [Nat.mul_succ]; omega
    rw [e]
    have h5 : 0 ≤ 2 ^ n * dval n l := Int.mul_nonneg (Int.le_of_lt hp) h1
    have h6 : 2 ^ n * dval n l ≤ 2 ^ n * (2 ^ (n * l.length) - 1) := Int.mul_le_mul_of_nonneg_left (by omega) (Int.le_of_lt hp)
    grind
theorem dval_digs (n : Nat) : ∀ (m : Nat) (x : Int), dval n (digs n x m) = x % 2 ^ (n * m)
  | 0, x => by simp [digs, dval, Int.emod_one]
  | m + 1, x => by
    simp only [digs, dval, dval_digs n m]
    have hp := two_pow_pos n
    have e : (2 : Int) ^ (n * (m + 1)) = 2 ^ n * 2 ^ (n * m) := by rw [← Int.pow_add]; congr 1; rw [Nat.mul_succ]; omega
    rw [e]
    have := Int.emod_add_mul_ediv x (2 ^ n * 2 ^ (n * m))
    have e2 := Int.emod_add_mul_ediv (x / 2 ^ n) (2 ^ (n * m))
    rw [Int.ediv_ediv_of_nonneg (Int.le_of_lt hp)] at e2
    have e3 : x = x % 2 ^ n + 2 ^ n * (x / 2 ^ n) := (Int.emod_add_mul_ediv x (2 ^ n)).symm
    grind
theorem digs_range (n : Nat) : ∀ (m : Nat) (x : Int), ∀ d ∈ digs n x m, 0 ≤ d ∧ d < 2 ^ n
  | 0, _, d, h => by cases h
  | m + 1, x, d, h => by
    have hp := two_pow_pos n
    rcases List.mem_cons.mp h with rfl | h
    · exact ⟨Int.emod_nonneg _ (by omega), Int.emod_lt_of_pos _ hp⟩
    · exact digs_range n m _ d h
/-- a part of a list -/
def part (l : List Int) (a b : Nat) : List Int := (l.drop a).take (b - a)
theorem part_split (l : List Int) {a m b : Nat} (h1 : a ≤ m) (h2 : m ≤ b) : part l a b = part l a m ++ part l m b := by
  unfold part
  rw [show b - a = (m - a) + (b - m) by omega, List.take_add, List.drop_drop, show a + (m - a) = m by omega]
theorem part_length (l : List Int) {a b : Nat} (h2 : b ≤ l.length) : (part l a b).length = b - a := by
  unfold part; rw [List.length_take, List.length_drop]; omega
theorem part_one (l : List Int) {a : Nat} {x : Int} (h : l[a]? = some x) : part l a (a + 1) = [x] := by
  unfold part
  rw [show a + 1 - a = 1 by omega, List.take_one, List.head?_drop, h]; rfl
theorem part_all (l : List Int) : part l 0 l.length = l := by unfold part; simp
theorem part_mem {l : List Int} {a b : Nat} {x : Int} (h : x ∈ part l a b) : x ∈ l := List.mem_of_mem_drop (List.mem_of_mem_take h)
/-- a row written into a list -/
def wr (l : List Int) (a : Nat) (r : List Int) : List Int := l.take a ++ r ++ l.drop (a + r.length)
theorem wr_length (l : List Int) {a : Nat} {r : List Int} (h : a + r.length ≤ l.length) : (wr l a r).length = l.length := by
  unfold wr; simp only [List.length_append, List.length_take, List.length_drop]; omega
theorem wr_one (l : List Int) {a : Nat} (x : Int) (h : a < l.length) : wr l a [x] = l.set a x := by
  unfold wr
  rw [List.set_eq_take_append_cons_drop, if_pos h]; simp
theorem wr_wr (l : List Int) {a : Nat} {r t : List Int} (h : a + r.length + t.length ≤ l.length) : wr (wr l a r) (a + r.length) t = wr l a (r ++ t) := by
  unfold wr
  have e1 : (l.take a ++ r).length = a + r.length := by simp only [List.length_append, List.length_take]; omega
  rw [List.take_append_of_le_length (by omega), ← e1, List.take_length]
  rw [List.drop_append, List.drop_eq_nil_of_le (by omega)]
  simp only [List.append_assoc, List.nil_append, List.length_append, List.drop_drop]
  congr 4
  simp only [List.length_take]; omega
theorem wr_all (l r : List Int) (h : r.length = l.length) : wr l 0 r = r := by unfold wr; simp [h]
end Mine
-- part T1
namespace Mine
set_option maxHeartbeats 0
def unseenL : List Int := [173, 847, 6150, 6155, 6156, 6157, 8203, 8204, 8205, 8288, 65279]
def unseen (n : Int) : PySem.Str :=
  let k := n.fmod 40
  if k < 11 then ⟨⟨[(unseenL.getD k.toNat 0).toNat]⟩⟩ else if k < 27 then ⟨⟨[(65013 + k).toNat]⟩⟩ else ⟨⟨[]⟩⟩
theorem f_unseen {w : World} (n : Int) : Fn (B1 w) 146 1 [.int n] (.str (unseen n)) := by
  refine fn_law_unseen rfl fun C I hd hu => ?_
  have W := I.W
  obtain ⟨hk0, hk1⟩ := fmod_range n (m := 40) (by omega)
  refine exs_assign W 1 (nx_law_unseen_kind I) (ev_mod (ev_name W 0 (nx_law_unseen_n I) rfl) ev_int (by decide)) ?_
  refine exs_if_leave (ts_cmp (ev_name W 1 (nx_law_unseen_kind I) rfl) ev_int co_lt) (fun q => ?_) (fun q => ?_)
  · have q : n.fmod 40 < 11 := of_decide_eq_true q
    obtain ⟨x, hx⟩ : ∃ x, unseenL[(n.fmod 40).toNat]? = some x := ⟨_, List.getElem?_eq_getElem (by show _ < 11; omega)⟩
    have hb : 0 ≤ x ∧ x ≤ 1114111 := (by decide : ∀ x ∈ unseenL, 0 ≤ x ∧ x ≤ 1114111) x (List.mem_of_getElem? hx)
    refine exs_ret (d := .str (unseen n)) ?_ (.inl rfl)
    refine ev_conv (ev_chr (i := x) W (kn_law_unseen_chr I) (mg_chr I.B) (mb_chr I.B) ?c1 hb.1 hb.2) ?c2
    case c1 =>
      refine ev_item (ds := unseenL.map .int) (k := n.fmod 40) (x := .int x) ?a1 (.lst _) (ev_name W 1 (nx_law_unseen_kind I) rfl) hk0 ?a5 ?a6
      case a5 => omega
      case a6 => rw [List.getElem?_map, hx]; rfl
      case a1 => refine ev_list W ?_; exact evs_cons ev_int (evs_cons ev_int (evs_cons ev_int (evs_cons ev_int (evs_cons ev_int (evs_cons ev_int (evs_cons ev_int (evs_cons ev_int (evs_cons ev_int (evs_cons ev_int (evs_cons ev_int evs_nil))))))))))
    case c2 => simp only [unseen, if_pos q, List.getD_eq_getElem?_getD, hx]; rfl
  · have q : ¬ n.fmod 40 < 11 := of_decide_eq_false q
    refine exs_if_leave (ts_cmp (ev_name W 1 (nx_law_unseen_kind I) rfl) ev_int co_lt) (fun q' => ?_) (fun q' => ?_)
    · have q' : n.fmod 40 < 27 := of_decide_eq_true q'
      refine exs_ret (d := .str (unseen n)) ?_ (.inl rfl)
      refine ev_conv (ev_chr (i := 65013 + n.fmod 40) W (kn_law_unseen_chr I) (mg_chr I.B) (mb_chr I.B) (ev_add ev_int (ev_name W 1 (nx_law_unseen_kind I) rfl)) (by omega) (by omega)) ?_
      simp only [unseen, if_neg q, if_pos q']
    · have q' : ¬ n.fmod 40 < 27 := of_decide_eq_false q'
      refine exs_ret (d := .str (unseen n)) ?_ (.inl rfl)
      refine ev_conv ev_str ?_
      simp only [unseen, if_neg q, if_neg q']
      rfl
end Mine
-- part T2
namespace Mine
set_option maxHeartbeats 0
def c1 (c : Nat) : PySem.Str := ⟨⟨[c]⟩⟩
def formL : List Int := [0, 1, 2, 4, 7, 8, 9, 10, 11, 12]
def form (c : Nat) (n : Int) : Nat :=
  let k := n.fmod 12
  if k = 0 then c else if k = 1 then c - 32 else (119808 + 52 * (formL.getD (k - 2).toNat 0) + c - 97).toNat
theorem f_form {w : World} (c : Nat) (n : Int) (h1 : 97 ≤ c) (h2 : c ≤ 122) : Fn (B1 w) 139 1 [.str (c1 c), .int n] (.str (c1 (form c n))) := by
  refine fn_law_form rfl fun C I hd hu => ?_
  have W := I.W
  obtain ⟨hk0, hk1⟩ := fmod_range n (m := 12) (by omega)
  refine exs_assign W 2 (nx_law_form_kind I) (ev_mod (ev_name W 1 (nx_law_form_n I) rfl) ev_int (by decide)) ?_
  refine exs_if_leave (ts_cmp (ev_name W 2 (nx_law_form_kind I) rfl) ev_int co_eq) (fun q => ?_) (fun q => ?_)
  · have q : n.fmod 12 = 0 := by simpa using q
    refine exs_ret (d := .str (c1 (form c n))) ?_ (.inl rfl)
    refine ev_conv (ev_name W 0 (nx_law_form_letter I) rfl) ?_
    simp only [form, if_pos q]
  · have q : ¬ n.fmod 12 = 0 := by simpa using q
    refine exs_if_leave (ts_cmp (ev_name W 2 (nx_law_form_kind I) rfl) ev_int co_eq) (fun q' => ?_) (fun q' => ?_)
    · have q' : n.fmod 12 = 1 := by simpa using q'
      refine exs_ret (d := .str (c1 (form c n))) ?_ (.inl rfl)
      refine ev_conv (ev_chr (i := (c : Int) - 32) W (kn_law_form_chr I) (mg_chr I.B) (mb_chr I.B) (ev_sub (ev_ord W (kn_law_form_ord I) (mg_ord I.B) (mb_ord I.B) (ev_name W 0 (nx_law_form_letter I) rfl)) ev_int) (by omega) (by omega)) ?_
      simp only [form, if_neg q, if_pos q', c1]
      congr; omega
    · have q' : ¬ n.fmod 12 = 1 := by simpa using q'
      obtain ⟨x, hx⟩ : ∃ x, formL[(n.fmod 12 - 2).toNat]? = some x := ⟨_, List.getElem?_eq_getElem (by show _ < 10; omega)⟩
      have hb : 0 ≤ x ∧ x ≤ 12 := (by decide : ∀ x ∈ formL, 0 ≤ x ∧ x ≤ 12) x (List.mem_of_getElem? hx)
      refine exs_assign (d := .int x) W 3 (nx_law_form_alphabet I) ?a ?_
      case a =>
        refine ev_item (ds := formL.map .int) (k := n.fmod 12 - 2) (x := .int x) (ev_list W ?_) (.lst _) (ev_sub (ev_name W 2 (nx_law_form_kind I) rfl) ev_int) (by omega) (by omega) ?_
        · exact evs_cons ev_int (evs_cons ev_int (evs_cons ev_int (evs_cons ev_int (evs_cons ev_int (evs_cons ev_int (evs_cons ev_int (evs_cons ev_int (evs_cons ev_int (evs_cons ev_int evs_nil)))))))))
        · rw [List.getElem?_map, hx]; rfl
      refine exs_ret (d := .str (c1 (form c n))) ?_ (.inl rfl)
      refine ev_conv (ev_chr (i := 119808 + 52 * x + (c : Int) - 97) W (kn_law_form_chr I) (mg_chr I.B) (mb_chr I.B) (ev_sub (ev_add (ev_add ev_int (ev_mul ev_int (ev_name W 3 (nx_law_form_alphabet I) rfl) (.of_left (intBits_le_64 (by omega) (by omega))))) (ev_ord W (kn_law_form_ord I) (mg_ord I.B) (mb_ord I.B) (ev_name W 0 (nx_law_form_letter I) rfl))) ev_int) (by omega) (by omega)) ?_
      simp only [form, if_neg q, if_neg q', c1, List.getD_eq_getElem?_getD, hx]; rfl
end Mine
-- part T3
namespace Mine
theorem ev_def {w : World} {C : Cx} {σ : St} (W : Wf C) (hB : C.B = B1 w) {x : PySem.Str} {p q : Pos} {f : Addr} {k : Nat} {o : Obj} {fd : FuncData} {e : Expr} {es : List Expr} {ds : List D} {r : D} (hk : C.env.kindOf x = some .globalImplicit) (hg : C.B.mg x = some (.ref f)) (ho : (B1 w).K.lookup f = some o) (hf : o.data = .func fd) (hs : Evs C σ (e :: es) ds)
    (hc : Fn (B1 w) f k ds r) (hd1 : C.A.depth + k < recursionLimit) (hu1 : C.A.units + 8 * k < cLine)
    (hn : nst e = true := by rfl) (hd : (x == ("__debug__" : PySem.Str)) = false := by rfl) :
    Ev C σ (.Call (.Name x p) (e :: es) [] q) r := ev_call_def W hk hg (hB ▸ ho) hf hs (hB ▸ hc) hd1 hu1 hn hd
theorem exs_conv {C : Cx} {σ σ' : St} {l : List Stmt} {Φ : Fl → St → Prop} (h : Exs C σ' l Φ) (e : σ = σ') : Exs C σ l Φ := e ▸ h
theorem bits_le {x : Int} {m : Nat} (h0 : 0 ≤ x) (h : x < 2 ^ m) : Builtin.Int.intBits x ≤ m := by
  unfold Builtin.Int.intBits
  split
  · exact Nat.zero_le _
  · rename_i hx
    have h0' : x.natAbs ≠ 0 := by simpa using hx
    have hn : x.natAbs < 2 ^ m := by
      have : ((x.natAbs : Nat) : Int) < ((2 ^ m : Nat) : Int) := by push_cast; omega
      exact Int.ofNat_lt.mp this
    have := (Nat.log2_lt h0').mpr hn
    omega
set_option maxHeartbeats 0
def exactBits (b : Int) (n : Nat) : Prop := 2 ^ n ≤ 2 * b ∧ b < 2 ^ n ∧ 0 < b
theorem f_div3n2n {w : World} {k : Nat} {a12 a3 b b1 b2 : Int} {n : Nat} (hb : b = b1 * 2 ^ n + b2) (h1 : 0 < b1) (h2 : 0 ≤ b2) (h2' : b2 < 2 ^ n) (h3 : 0 ≤ a3) (h3' : a3 < 2 ^ n) (ha : 0 ≤ a12) (ha' : a12 < b) (hbn : b1 < 2 ^ n) (hn : n ≤ 1000000)
    (H : a12 < b1 * 2 ^ n → Fn (B1 w) 21 k [.int a12, .int b1, .int n] (.tup [.int (a12 / b1), .int (a12 % b1)])) :
    Fn (B1 w) 28 (k + 1) [.int a12, .int a3, .int b, .int b1, .int b2, .int n] (.tup [.int ((a12 * 2 ^ n + a3) / b), .int ((a12 * 2 ^ n + a3) % b)]) := by
  refine fn_div3n2n rfl fun C I hd hu => ?_
  have W := I.W
  have hp := two_pow_pos n
  have key : ∀ q r, ((a12 / 2 ^ n = b1 ∧ q = 2 ^ n - 1 ∧ r = a12 - b1 * 2 ^ n + b1) ∨ (a12 < b1 * 2 ^ n ∧ q = a12 / b1 ∧ r = a12 % b1)) → Exs C ⟨[some (.int a12), some (.int a3), some (.int b), some (.int b1), some (.int b2), some (.int n), some (.int q), some (.int r)], []⟩ ((fdB (stAt 3)).drop 1) (fun fl _ => fl = .ret (.tup [.int ((a12 * 2 ^ n + a3) / b), .int ((a12 * 2 ^ n + a3) % b)]) ∨ (fl = .next ∧ (D.tup [.int ((a12 * 2 ^ n + a3) / b), .int ((a12 * 2 ^ n + a3) % b)]) = .none)) := by
    intro q r hq
    obtain ⟨q0, q1, r0, e1, e2⟩ := d32_est hp hb h1 h2 h2' h3 h3' ha ha' hq
    have hr : r < 2 ^ (n + 1) := by
      have e : (2 : Int) ^ (n + 1) = 2 ^ n + 2 ^ n := by rw [Int.pow_succ]; omega
      rcases hq with ⟨x1, x2, x3⟩ | ⟨x1, x2, x3⟩
      · omega
      · have := Int.emod_lt_of_pos a12 h1
        omega
    have hq' : q < 2 ^ (n + 1) := by
      have e : (2 : Int) ^ (n + 1) = 2 ^ n + 2 ^ n := by rw [Int.pow_succ]; omega
      omega
    have hbr := bits_le r0 hr
    have hbq := bits_le q0 hq'
    have hb2 := bits_le h2 h2'
    refine exs_assign (d := .int ((r * 2 ^ n + a3) - q * b2)) W 7 (nx_div3n2n_r I) ?e ?_
    case e =>
      refine ev_conv (ev_sub (ev_or (ev_shl (ev_name W 7 (nx_div3n2n_r I) rfl) (ev_name W 5 (nx_div3n2n_n I) rfl) (by omega) (by omega)) (ev_name W 1 (nx_div3n2n_a3 I) rfl)) (ev_mul (ev_name W 6 (nx_div3n2n_q I) rfl) (ev_name W 4 (nx_div3n2n_b2 I) rfl) (IntMulOk.of_le hbq hb2 (by omega)))) ?_
      rw [Int.toNat_natCast, or_disj r0 h3 h3']
    refine exs_cons (ex_while (fun m σ => ∃ q r, σ = ⟨[some (.int a12), some (.int a3), some (.int b), some (.int b1), some (.int b2), some (.int n), some (.int q), some (.int r)], []⟩ ∧ a12 * 2 ^ n + a3 = q * b + r ∧ r < b ∧ m = (-r).toNat) ?_ _ ⟨_, _, rfl, e1, e2, rfl⟩)
    rintro m _ ⟨q, r, rfl, i1, i2, i3⟩
    refine ⟨_, ts_cmp (ev_name W 7 (nx_div3n2n_r I) rfl) ev_int co_lt, fun c => ?_, fun c => ?_⟩
    · have c : r < 0 := of_decide_eq_true c
      refine exs_cons (ex_aug_sub W 6 (nx_div3n2n_q I) rfl ev_int ?_)
      refine exs_cons (ex_aug_add W 7 (nx_div3n2n_r I) rfl (ev_name W 2 (nx_div3n2n_b I) rfl) ?_)
      refine exs_nil ?_
      have hb0 : 0 < b := by omega
      refine ⟨(-(r + b)).toNat, by omega, q - 1, r + b, rfl, ?_, by omega, rfl⟩
      rw [i1]; grind
    · have c : ¬ r < 0 := of_decide_eq_false c
      obtain ⟨z1, z2⟩ := dm_of i1 (by omega) i2
      refine exs_ret (d := .tup [.int q, .int r]) (ev_tuple W (evs_cons (ev_name W 6 (nx_div3n2n_q I) rfl) (evs_cons (ev_name W 7 (nx_div3n2n_r I) rfl) evs_nil))) (.inl ?_)
      rw [z1, z2]
  have hd1 : C.A.depth + k < recursionLimit := by omega
  refine exs_if (ts_cmp (ev_shr (ev_name W 0 (nx_div3n2n_a12 I) rfl) (ev_name W 5 (nx_div3n2n_n I) rfl) (by omega)) (ev_name W 3 (nx_div3n2n_b1 I) rfl) co_eq) (fun c => ?_) (fun c => ?_)
  · have c : a12.fdiv (2 ^ (n : Int).toNat) = b1 := by simpa using c
    rw [Int.toNat_natCast, Int.fdiv_eq_ediv_of_nonneg _ (Int.le_of_lt hp)] at c
    have hb1 := bits_le (Int.le_of_lt h1) hbn
    have hone : Builtin.Int.intBits 1 ≤ 1 := bits_le (m := 1) (by omega) (by decide)
    refine exs_cons (ex_tuple_swap (is := [6, 7]) (xs := [PySem.Str.ofString "q", PySem.Str.ofString "r"]) (ds := [.int (2 ^ n - 1), .int (a12 - b1 * 2 ^ n + b1)]) W ?e ?x rfl rfl ?_ ?w)
    case e =>
      refine ev_tuple W (evs_cons ?_ (evs_cons ?_ evs_nil))
      · refine ev_conv (ev_sub (ev_shl ev_int (ev_name W 5 (nx_div3n2n_n I) rfl) (by omega) (by omega)) ev_int) ?_
        rw [Int.toNat_natCast, Int.one_mul]
      · refine ev_conv (ev_add (ev_sub (ev_name W 0 (nx_div3n2n_a12 I) rfl) (ev_shl (ev_name W 3 (nx_div3n2n_b1 I) rfl) (ev_name W 5 (nx_div3n2n_n I) rfl) (by omega) (by omega))) (ev_name W 3 (nx_div3n2n_b1 I) rfl)) ?_
        rw [Int.toNat_natCast]
    case x =>
      intro j i hj
      match j with
      | 0 => cases hj; exact ⟨_, rfl, nx_div3n2n_r I⟩
      | 1 => cases hj; exact ⟨_, rfl, nx_div3n2n_q I⟩
      | j + 2 => exact absurd hj (by simp)
    case w => obtain ⟨L, e⟩ := I.E; rw [e]; kernel_rfl
    refine exs_nil ?_
    exact key _ _ (.inl ⟨c, rfl, rfl⟩)
  · have c : ¬ a12.fdiv (2 ^ (n : Int).toNat) = b1 := by simpa using c
    rw [Int.toNat_natCast, Int.fdiv_eq_ediv_of_nonneg _ (Int.le_of_lt hp)] at c
    have hlt : a12 < b1 * 2 ^ n := by
      have h5 : a12 / 2 ^ n ≤ b1 := by
        have : a12 / 2 ^ n < b1 + 1 := by
          apply Int.ediv_lt_of_lt_mul hp
          rw [Int.add_mul]; omega
        omega
      have h6 : a12 / 2 ^ n < b1 := by omega
      exact Int.lt_mul_of_ediv_lt hp h6
    refine exs_tuple (is := [6, 7]) (ds := [.int (a12 / b1), .int (a12 % b1)]) W (.cons 6 (nx_div3n2n_q I) (.cons 7 (nx_div3n2n_r I) .nil)) (ev_def W I.B (kn_div3n2n_div2n1n I) (mg_div2n1n I.B) (s1_div2n1n w) rfl (evs_cons (ev_name W 0 (nx_div3n2n_a12 I) rfl) (evs_cons (ev_name W 3 (nx_div3n2n_b1 I) rfl) (evs_cons (ev_name W 5 (nx_div3n2n_n I) rfl) evs_nil))) (H hlt) hd hu) rfl ?_
    refine exs_nil ?_
    exact key _ _ (.inr ⟨hlt, rfl, rfl⟩)
end Mine
-- part T4
namespace Mine
set_option maxHeartbeats 0
abbrev dm (a b : Int) : D := .tup [.int (a / b), .int (a % b)]
theorem nopy {a b : Int} {n : Nat} (hb : 0 < b) (h : b < 2 ^ n) (hn : n ≤ 8500) : Builtin.divisionGoesByPylong a b = false := by
  refine PyProof.noPylong_of_log2 ?_
  have h1 : b.natAbs < 2 ^ n := by
    have : ((b.natAbs : Nat) : Int) < ((2 ^ n : Nat) : Int) := by push_cast; omega
    exact Int.ofNat_lt.mp this
  have := (Nat.log2_lt (n := b.natAbs) (by omega)).mpr h1
  omega
section
variable {C : Cx} {σ : St}
theorem ev_shr' {a b : Expr} {p : Pos} {x : Int} {m : Nat} (ha : Ev C σ a (.int x)) (hb : Ev C σ b (.int m)) : Ev C σ (.BinOp a .RShift b p) (.int (x / 2 ^ m)) :=
  ev_conv (ev_shr ha hb (by omega)) (by rw [Int.toNat_natCast, Int.fdiv_eq_ediv_of_nonneg _ (Int.le_of_lt (two_pow_pos m))])
theorem ev_shl' {a b : Expr} {p : Pos} {x : Int} {m : Nat} (ha : Ev C σ a (.int x)) (hb : Ev C σ b (.int m)) (hz : Builtin.Int.intBits x + m ≤ 2 ^ 27) : Ev C σ (.BinOp a .LShift b p) (.int (x * 2 ^ m)) :=
  ev_conv (ev_shl ha hb (by omega) (by omega)) (by rw [Int.toNat_natCast])
theorem ev_mask {a b : Expr} {p : Pos} {x y : Int} {m : Nat} (ha : Ev C σ a (.int x)) (hb : Ev C σ b (.int y)) (hy : y = 2 ^ m - 1) : Ev C σ (.BinOp a .BitAnd b p) (.int (x % 2 ^ m)) :=
  ev_conv (ev_and ha hb) (by rw [hy, kbt_mask])
end
theorem exactBits_half {b : Int} {h : Nat} (hb : exactBits b (h + h)) (h0 : 0 < h) : exactBits (b / 2 ^ h) h ∧ b = b / 2 ^ h * 2 ^ h + b % 2 ^ h := by
  obtain ⟨h1, h2, h3⟩ := hb
  unfold exactBits
  have hp := two_pow_pos h
  have e := Int.emod_add_mul_ediv b (2 ^ h)
  have m0 := Int.emod_nonneg b (b := 2 ^ h) (by omega)
  have m1 := Int.emod_lt_of_pos b hp
  obtain ⟨g, rfl⟩ : ∃ g, h = g + 1 := ⟨h - 1, by omega⟩
  have e2 : (2 : Int) ^ (g + 1) = 2 * 2 ^ g := by rw [Int.pow_succ]; omega
  rw [Int.pow_add] at h1 h2
  generalize b / 2 ^ (g + 1) = b1 at *
  generalize b % 2 ^ (g + 1) = b2 at *
  have hg := two_pow_pos g
  generalize (2 : Int) ^ (g + 1) = P at *
  generalize (2 : Int) ^ g = G at *
  have k1 : b1 < P := by
    refine Classical.byContradiction fun hc => ?_
    have : P * P ≤ P * b1 := Int.mul_le_mul_of_nonneg_left (by omega) (by omega)
    omega
  have k2 : P ≤ 2 * b1 := by
    refine Classical.byContradiction fun hc => ?_
    have h7 : P * b1 ≤ P * (G - 1) := Int.mul_le_mul_of_nonneg_left (by omega) (by omega)
    rw [Int.mul_sub, Int.mul_one] at h7
    have h8 : P * P = 2 * (P * G) := by subst e2; grind
    omega
  refine ⟨⟨k2, k1, by omega⟩, ?_⟩
  rw [Int.mul_comm]; omega
theorem f_div2n1n_0 {w : World} {a b : Int} {n : Nat} (hb : exactBits b n) (ha : 0 ≤ a) (ha' : a < b * 2 ^ n) (hn : n ≤ 4000) : Fn (B1 w) 21 1 [.int a, .int b, .int n] (dm a b) := by
  refine fn_div2n1n rfl fun C I hd hu => ?_
  have W := I.W
  obtain ⟨b1, b2, b3⟩ := hb
  have hbits : Builtin.Int.intBits a ≤ n + n := by
    refine bits_le ha (Int.lt_trans ha' ?_)
    rw [Int.pow_add]
    exact Int.mul_lt_mul_of_pos_right b2 (two_pow_pos n)
  refine exs_if_leave (ts_cmp (ev_sub (ev_bitlen (ev_name W 0 (nx_div2n1n_a I) rfl)) (ev_name W 2 (nx_div2n1n_n I) rfl)) (ev_gint W (kn_div2n1n_DIV_LIMIT I) (mg_DIV_LIMIT I.B)) co_le) (fun q => ?_) (fun q => ?_)
  · refine exs_ret (d := dm a b) ?_ (.inl rfl)
    refine ev_conv (ev_divmod W (kn_div2n1n_divmod I) (mg_divmod I.B) (mb_divmod I.B) (ev_name W 0 (nx_div2n1n_a I) rfl) (ev_name W 1 (nx_div2n1n_b I) rfl) (by omega) (nopy b3 b2 (by omega))) ?_
    rw [Int.fdiv_eq_ediv_of_nonneg _ (by omega), Int.fmod_eq_emod_of_nonneg _ (by omega)]
  · have q := of_decide_eq_false q
    exact absurd q (by omega)
theorem f_div2n1n {w : World} {a b : Int} {n : Nat} (hb : exactBits b n) (ha : 0 ≤ a) (ha' : a < b * 2 ^ n) (hn : n ≤ 7998) : Fn (B1 w) 21 3 [.int a, .int b, .int n] (dm a b) := by
  by_cases hs : n ≤ 4000
  · exact (f_div2n1n_0 hb ha ha' hs).le (by omega)
  refine fn_div2n1n rfl fun C I hd hu => ?_
  have W := I.W
  have key : ∀ (a' b' : Int) (h pad : Nat), exactBits b' (h + h) → 0 ≤ a' → a' < b' * 2 ^ (h + h) → 0 < h → h ≤ 4000 → (pad = 0 ∧ a' = a ∧ b' = b ∨ pad = 1 ∧ a' = a * 2 ∧ b' = b * 2) →
      Exs C ⟨[some (.int a'), some (.int b'), some (.int ((h + h : Nat) : Int)), some (.int pad), none, none, none, none, none, none, none], []⟩ ((fdB (stAt 2)).drop 3) (fun fl _ => fl = .ret (dm a b) ∨ (fl = .next ∧ dm a b = .none)) := by
    intro a' b' h pad hb' h0 h1 hh hh' hpad
    obtain ⟨x1, x2⟩ := exactBits_half hb' hh
    have hp := two_pow_pos h
    have hone : Builtin.Int.intBits 1 ≤ 1 := bits_le (m := 1) (by omega) (by decide)
    have hPP : (2 : Int) ^ (h + h) = 2 ^ h * 2 ^ h := Int.pow_add ..
    obtain ⟨⟨a0, a1, m0, m1, l0, l1, r0, r1'⟩, q10, q20, q21, z1, z2⟩ := d21_step (a := a') (b := b') (P := 2 ^ h) hp hb'.2.2 h0 (hPP ▸ h1) rfl rfl rfl rfl rfl rfl rfl
    rw [← hPP] at *
    refine exs_assign (d := .int h) W 4 (nx_div2n1n_half_n I) (ev_conv (ev_shr' (m := 1) (ev_name W 2 (nx_div2n1n_n I) rfl) ev_int) ?_) ?_
    · congr 1; omega
    refine exs_assign (d := .int (2 ^ h - 1)) W 5 (nx_div2n1n_mask I) (ev_conv (ev_sub (ev_shl' ev_int (ev_name W 4 (nx_div2n1n_half_n I) rfl) (by omega)) ev_int) ?_) ?_
    · rw [Int.one_mul]
    refine exs_cons (ex_tuple_swap (is := [6, 7]) (xs := [PySem.Str.ofString "b1", PySem.Str.ofString "b2"]) (ds := [.int (b' / 2 ^ h), .int (b' % 2 ^ h)]) W ?e ?x rfl rfl ?_ ?w)
    case e => exact ev_tuple W (evs_cons (ev_shr' (ev_name W 1 (nx_div2n1n_b I) rfl) (ev_name W 4 (nx_div2n1n_half_n I) rfl)) (evs_cons (ev_mask (ev_name W 1 (nx_div2n1n_b I) rfl) (ev_name W 5 (nx_div2n1n_mask I) rfl) rfl) evs_nil))
    case x =>
      intro j i hj
      match j with
      | 0 => cases hj; exact ⟨_, rfl, nx_div2n1n_b2 I⟩
      | 1 => cases hj; exact ⟨_, rfl, nx_div2n1n_b1 I⟩
      | j + 2 => exact absurd hj (by simp)
    case w => obtain ⟨L, e⟩ := I.E; rw [e]; kernel_rfl
    have F : ∀ (u v : Int), 0 ≤ u → u < b' → 0 ≤ v → v < 2 ^ h → Fn (B1 w) 28 2 [.int u, .int v, .int b', .int (b' / 2 ^ h), .int (b' % 2 ^ h), .int h] (dm (u * 2 ^ h + v) b') := fun u v u0 u1 v0 v1 =>
      f_div3n2n x2 x1.2.2 (Int.emod_nonneg _ (by omega)) (Int.emod_lt_of_pos _ hp) v0 v1 u0 u1 x1.2.1 (by omega) fun hu => f_div2n1n_0 x1 u0 hu hh'
    refine exs_tuple (is := [8, 9]) (ds := [.int ((a' / 2 ^ (h + h) * 2 ^ h + a' / 2 ^ h % 2 ^ h) / b'), .int ((a' / 2 ^ (h + h) * 2 ^ h + a' / 2 ^ h % 2 ^ h) % b')]) W (.cons 8 (nx_div2n1n_q1 I) (.cons 9 (nx_div2n1n_r I) .nil)) (ev_def W I.B (kn_div2n1n_div3n2n I) (mg_div3n2n I.B) (s1_div3n2n w) rfl ?e1 (F _ _ a0 a1 m0 m1) hd hu) rfl ?_
    case e1 => exact evs_cons (ev_shr' (ev_name W 0 (nx_div2n1n_a I) rfl) (ev_name W 2 (nx_div2n1n_n I) rfl)) (evs_cons (ev_mask (ev_shr' (ev_name W 0 (nx_div2n1n_a I) rfl) (ev_name W 4 (nx_div2n1n_half_n I) rfl)) (ev_name W 5 (nx_div2n1n_mask I) rfl) rfl) (evs_cons (ev_name W 1 (nx_div2n1n_b I) rfl) (evs_cons (ev_name W 6 (nx_div2n1n_b1 I) rfl) (evs_cons (ev_name W 7 (nx_div2n1n_b2 I) rfl) (evs_cons (ev_name W 4 (nx_div2n1n_half_n I) rfl) evs_nil)))))
    generalize (a' / 2 ^ (h + h) * 2 ^ h + a' / 2 ^ h % 2 ^ h) / b' = q1 at *
    generalize (a' / 2 ^ (h + h) * 2 ^ h + a' / 2 ^ h % 2 ^ h) % b' = r1 at *
    refine exs_tuple (is := [10, 9]) (ds := [.int ((r1 * 2 ^ h + a' % 2 ^ h) / b'), .int ((r1 * 2 ^ h + a' % 2 ^ h) % b')]) W (.cons 10 (nx_div2n1n_q2 I) (.cons 9 (nx_div2n1n_r I) .nil)) (ev_def W I.B (kn_div2n1n_div3n2n I) (mg_div3n2n I.B) (s1_div3n2n w) rfl ?e2 (F _ _ r0 r1' l0 l1) hd hu) rfl ?_
    case e2 => exact evs_cons (ev_name W 9 (nx_div2n1n_r I) rfl) (evs_cons (ev_mask (ev_name W 0 (nx_div2n1n_a I) rfl) (ev_name W 5 (nx_div2n1n_mask I) rfl) rfl) (evs_cons (ev_name W 1 (nx_div2n1n_b I) rfl) (evs_cons (ev_name W 6 (nx_div2n1n_b1 I) rfl) (evs_cons (ev_name W 7 (nx_div2n1n_b2 I) rfl) (evs_cons (ev_name W 4 (nx_div2n1n_half_n I) rfl) evs_nil)))))
    rw [← z2]
    generalize (r1 * 2 ^ h + a' % 2 ^ h) / b' = q2 at *
    have hq1 : q1 < 2 ^ (h + h) := by
      have y1 : a' / b' < 2 ^ (h + h) := by
        apply Int.ediv_lt_of_lt_mul hb'.2.2
        rw [Int.mul_comm]; exact h1
      have y2 : q1 * 1 ≤ q1 * 2 ^ h := Int.mul_le_mul_of_nonneg_left (by omega) q10
      omega
    have hbq := bits_le q10 hq1
    have last : ∀ r', r' = a % b → Exs C ⟨[some (.int a'), some (.int b'), some (.int ((h + h : Nat) : Int)), some (.int pad), some (.int h), some (.int (2 ^ h - 1)), some (.int (b' / 2 ^ h)), some (.int (b' % 2 ^ h)), some (.int q1), some (.int r'), some (.int q2)], []⟩ ((fdB (stAt 2)).drop 9) (fun fl _ => fl = .ret (dm a b) ∨ (fl = .next ∧ dm a b = .none)) := by
      rintro r' rfl
      refine exs_ret (d := dm a b) ?_ (.inl rfl)
      refine ev_conv (ev_tuple W (evs_cons (ev_or (ev_shl' (ev_name W 8 (nx_div2n1n_q1 I) rfl) (ev_name W 4 (nx_div2n1n_half_n I) rfl) (by omega)) (ev_name W 10 (nx_div2n1n_q2 I) rfl)) (evs_cons (ev_name W 9 (nx_div2n1n_r I) rfl) evs_nil))) ?_
      rw [or_disj q10 q20 q21, ← z1]
      rcases hpad with ⟨_, rfl, rfl⟩ | ⟨_, rfl, rfl⟩
      · rfl
      · rw [Int.mul_ediv_mul_of_pos_left _ _ (by omega)]
    refine exs_if_leave (ts_val (ev_name W 3 (nx_div2n1n_pad I) rfl) tr_int) (fun c => ?_) (fun c => ?_)
    · rcases hpad with ⟨rfl, e1, e2⟩ | ⟨rfl, e1, e2⟩
      · exact absurd c (by decide)
      refine exs_cons (ex_aug_shr W 9 (nx_div2n1n_r I) rfl ev_int (by omega) ?_)
      refine exs_nil ?_
      refine last _ ?_
      rw [e1, e2, Int.mul_comm a 2, Int.mul_comm b 2, Int.mul_emod_mul_of_pos _ _ (by omega)]
      show (2 * (a % b)).fdiv (2 ^ 1) = _
      rw [Int.fdiv_eq_ediv_of_nonneg _ (by omega)]
      omega
    · rcases hpad with ⟨rfl, e1, e2⟩ | ⟨rfl, e1, e2⟩
      · exact last _ (by rw [e1, e2])
      · exact absurd c (by decide)
  obtain ⟨b1, b2, b3⟩ := hb
  refine exs_if_leave (ts_cmp (ev_sub (ev_bitlen (ev_name W 0 (nx_div2n1n_a I) rfl)) (ev_name W 2 (nx_div2n1n_n I) rfl)) (ev_gint W (kn_div2n1n_DIV_LIMIT I) (mg_DIV_LIMIT I.B)) co_le) (fun q => ?_) (fun q => ?_)
  · refine exs_ret (d := dm a b) ?_ (.inl rfl)
    refine ev_conv (ev_divmod W (kn_div2n1n_divmod I) (mg_divmod I.B) (mb_divmod I.B) (ev_name W 0 (nx_div2n1n_a I) rfl) (ev_name W 1 (nx_div2n1n_b I) rfl) (by omega) (nopy b3 b2 (by omega))) ?_
    rw [Int.fdiv_eq_ediv_of_nonneg _ (by omega), Int.fmod_eq_emod_of_nonneg _ (by omega)]
  refine exs_assign (d := .int ((n % 2 : Nat) : Int)) W 3 (nx_div2n1n_pad I) (ev_conv (ev_and (ev_name W 2 (nx_div2n1n_n I) rfl) ev_int) ?_) ?_
  · rw [bitAnd_m1]; rfl
  have hbits : Builtin.Int.intBits a ≤ n + n := by
    refine bits_le ha (Int.lt_trans ha' ?_)
    rw [Int.pow_add]
    exact Int.mul_lt_mul_of_pos_right b2 (two_pow_pos n)
  have hbb := bits_le (Int.le_of_lt b3) b2
  refine exs_if_leave (ts_val (ev_name W 3 (nx_div2n1n_pad I) rfl) tr_int) (fun c => ?_) (fun c => ?_)
  · have hodd : n % 2 = 1 := by
      have : ((n % 2 : Nat) : Int) ≠ 0 := by simpa using c
      omega
    obtain ⟨h, hh⟩ : ∃ h, n + 1 = h + h := ⟨(n + 1) / 2, by omega⟩
    rw [hodd]
    have hone : Builtin.Int.intBits 1 ≤ 1 := bits_le (m := 1) (by omega) (by decide)
    refine exs_cons (ex_aug_shl W 0 (nx_div2n1n_a I) rfl ev_int (by omega) (by omega) ?_)
    refine exs_cons (ex_aug_shl W 1 (nx_div2n1n_b I) rfl ev_int (by omega) (by omega) ?_)
    refine exs_cons (ex_aug_add W 2 (nx_div2n1n_n I) rfl ev_int ?_)
    refine exs_nil ?_
    have ep : (2 : Int) ^ (n + 1) = 2 ^ n * 2 := Int.pow_succ ..
    have hp := two_pow_pos n
    have k := key (a * 2) (b * 2) h 1 (hh ▸ ⟨by omega, by omega, by omega⟩) (by omega) (by
      rw [← hh, ep, Int.mul_assoc]
      have : b * (2 ^ n) ≤ b * (2 ^ n * 2) := Int.mul_le_mul_of_nonneg_left (by omega) (by omega)
      rw [show b * (2 * (2 ^ n * 2)) = b * (2 ^ n * 2) * 2 by grind]
      omega) (by omega) (by omega) (.inr ⟨rfl, rfl, rfl⟩)
    rw [← hh] at k
    exact k
  · have heven : n % 2 = 0 := by
      have : ((n % 2 : Nat) : Int) = 0 := by simpa using c
      omega
    obtain ⟨h, rfl⟩ : ∃ h, n = h + h := ⟨n / 2, by omega⟩
    rw [heven]
    exact key a b h 0 ⟨b1, b2, b3⟩ ha ha' (by omega) (by omega) (.inl ⟨rfl, rfl, rfl⟩)
end Mine
-- part T5
set_option maxHeartbeats 0
namespace Mine
noncomputable section
abbrev S (x : String) : PySem.Str := PySem.Str.ofString x
def in5 : Stmt := (fdB (stAt 5)).headD (.Pass default)
def qD : PySem.Str := S "_digits2int.<locals>.inner"
def fdD (clos : List (PySem.Str × Addr)) (doc pm : Value) (c' : Addr) (ctv : Value) : FuncData := fnX (S "inner") qD (fdA in5) (fdB in5) (fdS in5) clos .none .none doc pm none (.ref c') ctv
def nsD : List PySem.Str := [S "L", S "R", S "mid", S "shift"]
theorem d1 : ∀ x ∈ nsD, (fdS in5).names.lookup x = some .local := by decide +kernel
theorem d2 : ∀ x ∈ (fdS in5).names, x.2 ≠ .cell := by decide +kernel
theorem d3 : (fdS in5).names.lookup (S "digits") = some .free ∧ (fdS in5).names.lookup (S "inner") = some .free ∧ (fdS in5).names.lookup (S "n") = some .free := by decide +kernel
theorem d4 (clos doc pm c' ctv) : ∀ vs : List Value, vs.length = [S "L", S "R"].length → bindArgs (fdD clos doc pm c' ctv) ⟨vs, []⟩ = pure ([S "L", S "R"].zip vs) := args2 _ fun _ _ => by kernel_rfl
theorem d5 : nsD.Nodup := by decide +kernel
theorem d6 : (fdS in5).kind = .function ∧ (fdS in5).isCoroutine = false ∧ (fdS in5).isGenerator = false := by decide +kernel
/-- what stands behind the inner def -/
structure EnvD (B : Bs) (f a : Addr) (l : List Int) (n : Nat) : Prop where
  fn : ∃ clos doc pm c' ctv, B.K.lookup f = some ⟨.type "function", none, .func (fdD clos doc pm c' ctv), #[]⟩ ∧ (∀ h, B.In h → h.CodeRec (.ref c') qD) ∧
    (∃ c o, clos.lookup (S "digits") = some c ∧ B.K.lookup c = some o ∧ o.data = .cell (some (.ref a))) ∧
    (∃ c o, clos.lookup (S "inner") = some c ∧ B.K.lookup c = some o ∧ o.data = .cell (some (.ref f))) ∧
    (∃ c o t, clos.lookup (S "n") = some c ∧ B.K.lookup c = some o ∧ o.data = .cell (some (.int n t)))
  ls : ∃ o vs k, B.K.lookup a = some o ∧ o.cls = .type "list" ∧ o.data = .seq (vs : List Value).toArray k ∧ ∀ (i : Nat) x, l[i]? = some x → ∃ t, vs[i]? = some (.int x t)
structure In5 (B : Bs) (f a : Addr) (n : Nat) (C : Cx) : Prop where
  W : Wf C
  B : C.B = B
  N : C.names = nsD
  V : C.cv = [(S "digits", .obj a), (S "inner", .obj f), (S "n", .int n)]
section
variable {B : Bs} {f a : Addr} {n : Nat} {C : Cx} (I : In5 B f a n C)
include I
theorem nx5_L : C.names[0]? = some (S "L") := by rw [I.N]; kernel_rfl
theorem nx5_R : C.names[1]? = some (S "R") := by rw [I.N]; kernel_rfl
theorem nx5_mid : C.names[2]? = some (S "mid") := by rw [I.N]; kernel_rfl
theorem nx5_shift : C.names[3]? = some (S "shift") := by rw [I.N]; kernel_rfl
theorem cv5_digits : (S "digits", D.obj a) ∈ C.cv := by rw [I.V]; exact .head _
theorem cv5_inner : (S "inner", D.obj f) ∈ C.cv := by rw [I.V]; exact .tail _ (.head _)
theorem cv5_n : (S "n", D.int n) ∈ C.cv := by rw [I.V]; exact .tail _ (.tail _ (.head _))
end
theorem enter5 {B : Bs} {f a : Addr} {l : List Int} {n : Nat} (V : EnvD B f a l n) {k : Nat} {x y : Int} {r : D}
    (H : ∀ C : Cx, In5 B f a n C → C.A.depth + k < recursionLimit → C.A.units + 8 * k < cLine → Exs C ⟨[some (.int x), some (.int y), none, none], []⟩ (fdB in5) (fun fl σ => (fl = .ret r ∨ (fl = .next ∧ r = .none)) ∧ σ.objs = [])) : Fn B f (k + 1) [.int x, .int y] r := by
  obtain ⟨⟨clos, doc, pm, c', ctv, hf, hcd, ⟨c1, o1, e11, e12, e13⟩, ⟨c2, o2, e21, e22, e23⟩, ⟨c3, o3, t3, e31, e32, e33⟩⟩, _⟩ := V
  refine fn_of_fno (fno_of_body (fd := fdD clos doc pm c' ctv) (ps := [S "L", S "R"]) (names := nsD) [(S "digits", .obj a), (S "inner", .obj f), (S "n", .int n)] [] [] hf hcd rfl (d4 clos doc pm c' ctv) rfl d5 rfl d1 d2 d6.1 d6.2.1 d6.2.2 rfl rfl ?_ (fun _ h => nomatch h) ?_)
  · intro x d hm
    rcases List.mem_cons.mp hm with e | hm
    · cases e; exact ⟨d3.1, c1, _, o1, e11, e12, e13, fun _ _ => .obj _⟩
    rcases List.mem_cons.mp hm with e | hm
    · cases e; exact ⟨d3.2.1, c2, _, o2, e21, e22, e23, fun _ _ => .obj _⟩
    rw [List.mem_singleton] at hm; cases hm
    exact ⟨d3.2.2, c3, _, o3, e31, e32, e33, fun _ _ => .int _ _⟩
  · intro A L' h₀ X W hd hu
    refine exs_conv (H _ ⟨W, rfl, rfl, rfl⟩ hd hu) ?_
    rfl
theorem inner5 {B : Bs} {f a : Addr} {l : List Int} {n : Nat} (V : EnvD B f a l n) (hl : ∀ d ∈ l, 0 ≤ d ∧ d < 2 ^ n) (hz : n * l.length ≤ 2 ^ 25) (hll : l.length ≤ 2 ^ 20) (hn : n ≤ 2 ^ 25) : ∀ (k L R : Nat), L < R → R ≤ l.length → R - L ≤ 2 ^ k → Fn B f (k + 1) [.int L, .int R] (.int (dval n (part l L R))) := by
  intro k
  induction k with
  | zero =>
    intro L R h1 h2 h3
    obtain rfl : R = L + 1 := by omega
    obtain ⟨x, hx⟩ : ∃ x, l[L]? = some x := ⟨_, List.getElem?_eq_getElem (by omega)⟩
    rw [part_one l hx, show dval n [x] = x by simp [dval]]
    refine enter5 V fun C I hd hu => ?_
    have W := I.W
    obtain ⟨_, oa, vs, ka, ha1, ha2, ha3, ha4⟩ := V
    obtain ⟨t, hv⟩ := ha4 L x hx
    refine exs_if_leave (ts_cmp (ev_add (ev_name W 0 (nx5_L I) rfl) ev_int) (ev_name W 1 (nx5_R I) rfl) co_eq) (fun q => ?_) (fun q => ?_)
    · exact exs_ret (d := .int x) (ev_item_base W (ev_cons W (cv5_digits I)) (I.B ▸ ha1) ha2 ha3 (ev_name W 0 (nx5_L I) rfl) (by omega) (by omega) (by simpa using hv) (fun _ _ => .int _ _)) ⟨.inl rfl, rfl⟩
    · exact absurd q (by simp)
  | succ k ih =>
    intro L R h1 h2 h3
    by_cases h4 : R - L ≤ 2 ^ k
    · exact (ih L R h1 h2 h4).le (by omega)
    have hp : 0 < 2 ^ k := Nat.two_pow_pos k
    have hp2 : 2 ^ (k + 1) = 2 * 2 ^ k := by rw [Nat.pow_succ]; omega
    refine enter5 V fun C I hd hu => ?_
    have W := I.W
    obtain ⟨⟨clos, doc, pm, c', ctv, hf, _⟩, _⟩ := id V
    obtain ⟨m, hm⟩ : ∃ m, (L + R) / 2 = m := ⟨_, rfl⟩
    have hLm : L < m := by omega
    have hmR : m < R := by omega
    refine exs_if_leave (ts_cmp (ev_add (ev_name W 0 (nx5_L I) rfl) ev_int) (ev_name W 1 (nx5_R I) rfl) co_eq) (fun q => ?_) (fun q => ?_)
    · exact absurd q (by simp; omega)
    refine exs_assign (d := .int m) W 2 (nx5_mid I) (ev_conv (ev_shr' (m := 1) (ev_add (ev_name W 0 (nx5_L I) rfl) (ev_name W 1 (nx5_R I) rfl)) ev_int) ?_) ?_
    · congr 1; omega
    refine exs_assign (d := .int ((n * (m - L) : Nat) : Int)) W 3 (nx5_shift I) (ev_conv (ev_mul (ev_sub (ev_name W 2 (nx5_mid I) rfl) (ev_name W 0 (nx5_L I) rfl)) (ev_cons W (cv5_n I)) (.of_left (intBits_le_64 (by omega) (by omega)))) ?_) ?_
    · congr 1; rw [Int.mul_comm, Int.natCast_mul, Int.ofNat_sub (by omega)]
    have F1 := ih m R hmR h2 (by omega)
    have F2 := ih L m hLm (by omega) (by omega)
    obtain ⟨r0, r1⟩ := dval_range n (part l m R) fun d hd => hl d (part_mem hd)
    rw [part_length l h2] at r1
    have hb := bits_le r0 r1
    have hmul : n * (R - m) + n * (m - L) ≤ n * l.length := by rw [← Nat.mul_add]; exact Nat.mul_le_mul_left _ (by omega)
    have hcat : dval n (part l L R) = dval n (part l L m) + 2 ^ (n * (m - L)) * dval n (part l m R) := by
      rw [part_split l (Nat.le_of_lt hLm) (Nat.le_of_lt hmR), dval_append, part_length l (by omega)]
    refine exs_ret (d := .int (dval n (part l L R))) (ev_conv (ev_add (ev_shl' (ev_call_cons W (cv5_inner I) (I.B ▸ hf) rfl (evs_cons (ev_name W 2 (nx5_mid I) rfl) (evs_cons (ev_name W 1 (nx5_R I) rfl) evs_nil)) (I.B ▸ F1) hd hu) (ev_name W 3 (nx5_shift I) rfl) (by omega)) (ev_call_cons W (cv5_inner I) (I.B ▸ hf) rfl (evs_cons (ev_name W 0 (nx5_L I) rfl) (evs_cons (ev_name W 2 (nx5_mid I) rfl) evs_nil)) (I.B ▸ F2) hd hu)) ?_) ⟨.inl rfl, rfl⟩
    rw [hcat, Int.mul_comm, Int.add_comm]
end
end Mine
-- part T6
set_option maxHeartbeats 0
namespace Mine
noncomputable section
theorem codeHd34 {w : World} {h : Heap} (hB : (B1 w).In h) : CodeHd h 34 30 := by
  refine ⟨_, _, _, _, _, _, _, _, _, hB.K 34 o34_9 (by kernel_rfl), rfl, rfl, rfl, rfl, rfl, rfl, rfl, rfl, by decide⟩
theorem codeHd41 {w : World} {h : Heap} (hB : (B1 w).In h) : CodeHd h 41 37 := by
  refine ⟨_, _, _, _, _, _, _, _, _, hB.K 41 o41_9 (by kernel_rfl), rfl, rfl, rfl, rfl, rfl, rfl, rfl, rfl, by decide⟩
theorem mgb (w : World) : (B1 w).mg (S "__builtins__") = some (.ref 4) := by kernel_rfl
theorem builtAt {w : World} {h : Heap} (hB : (B1 w).In h) {P : Addr} (hP : P ∈ TT) : h.BuiltinsAt (B1 w).mg P := by
  refine ⟨4, boot_o_4 w.params, mgb w, by decide, by decide, ?_, hB.K 4 (boot_o_4 w.params) (by kernel_rfl), by kernel_rfl, by kernel_rfl, by kernel_rfl⟩
  rintro rfl; exact absurd hP (by decide)
theorem tab1.ext {h h' : Heap} {t P : Addr} {l c : Nat} {q : PySem.Str} (x : tab1 h t l c q) (hP : h.get? P = some (tabObj #[])) (ne : t ≠ P) (k : Heap.ExtBut P h h') : tab1 h' t l c q := by
  obtain ⟨ps, e, r⟩ := x
  refine ⟨ps, k _ _ ne e, r.imp id fun ⟨c, e1, c', oc, vs, tk, f1, f2, f3, f4⟩ => ⟨c, e1, c', oc, vs, tk, f1, k _ _ (fun z => ?_) f2, f3, f4⟩⟩
  subst z; rw [hP] at f2; cases f2; cases f3; cases f4
/-- the def inside a def -/
theorem makeInner {w : World} {A : Around} {s : Shared} {Q E : Value → Shared → Prop} {name qual : PySem.Str} {params : Arguments} {body : List Stmt} {scope : Scope} {env : Env} {clos : List (PySem.Str × Addr)} {pos : Pos} {fl : Nat} {c P : Addr}
    (hB : (B1 w).In s.heap) (tb : TabOk s.heap) (hP : P ∈ TT) (ht : tab1 s.heap P pos.line pos.col qual) (hto : ∀ h', Heap.ExtBut P s.heap h' → s.heap.get? P = some (tabObj #[]) → tab1 h' P pos.line pos.col qual → TabOk h') (hcd : env.code = .ref c) (hC : CodeHd s.heap c P)
    (hcl : closureFor scope env = pure clos) (hgl : env.globals = mainGlobals)
    (h : ∀ c' ctv doc h' tk, Kp s.heap h' → h'.CodeRec (.ref c') qual → s.heap.objs.size ≤ h'.objs.size →
      Q (.ref h'.objs.size) { s with heap := h'.push (fnMade name qual params body scope clos doc (((B1 w).mg "__name__").getD .none) c' ctv), toks := tk }) :
    wpAny (model pw w) A (makeFunction name qual params (.stmts body) scope env [] [] [] pos fl) Q E s := by
  obtain ⟨ps, hp, r⟩ := ht
  have hgP : mainGlobals ≠ P := by rintro rfl; exact absurd hP (by decide)
  rcases r with rfl | ⟨c', rfl, hrec⟩
  · refine makeFunction_K hcl hgl hB.g hcd hC hp trivial rfl hgP (builtAt hB hP) fun c' ctv doc h' tk hx hge hlt hrec htb => ?_
    refine h c' ctv doc h' tk ⟨fun b o f e => hx b o ?_ e, fun _ => hto h' hx hp ⟨_, htb, .inr ⟨c', by simp, hrec⟩⟩⟩ hrec (by omega)
    rintro rfl
    rw [hp] at e; cases e
    rcases f with f | f
    · exact f hP
    · exact f rfl
  · refine makeFunction_hit hcl hgl hB.g hcd hC hp (by simp [TriplesOk, rawInt]) (cv := .ref c') (by simp [codeAmong, rawInt]) (builtAt hB hP) fun ctv doc h' tk hk hsz => ?_
    exact h c' ctv doc h' tk (.full hk) (hrec.keeps hk) hsz
end
end Mine
-- part T7
set_option maxHeartbeats 0
namespace Mine
noncomputable section
abbrev env5 (L : Addr) : Env := callEnvC fd_digits2int L 42
theorem g5_1 (w : World) : (B1 w).K.lookup 42 = some ⟨.type "function", none, .func fd_digits2int, ⟨[]⟩⟩ := by kernel_rfl
theorem g5_2 (w : World) : codeIn (B1 w).K fd_digits2int.code fd_digits2int.qualname = true := by kernel_rfl
theorem g5_3 : fd_digits2int.body = .stmts (fdB (stAt 5)) := by kernel_rfl
theorem g5_4 : ∀ vs : List Value, vs.length = 2 → bindArgs fd_digits2int ⟨vs, []⟩ = pure ([S "digits", S "n"].zip vs) := args2 _ fun _ _ => by kernel_rfl
theorem g5_5 : fd_digits2int.closure = [] := by kernel_rfl
theorem g5_6a (n : Nat) : fd_digits2int.scope.names.lookup (S "digits") = some .cell ∧ ((cellsFrom n fd_digits2int.scope.names []).lookup (S "digits")).isSome = true := ⟨by kernel_rfl, by kernel_rfl⟩
theorem g5_6b (n : Nat) : fd_digits2int.scope.names.lookup (S "n") = some .cell ∧ ((cellsFrom n fd_digits2int.scope.names []).lookup (S "n")).isSome = true := ⟨by kernel_rfl, by kernel_rfl⟩
theorem g5_7 (L : Addr) : (env5 L).cells.lookup (S "digits") = some (L + 1) ∧ (env5 L).cells.lookup (S "n") = some (L + 1 + 1) ∧ (env5 L).cells.lookup (S "inner") = some (L + 1 + 1 + 1) := ⟨by kernel_rfl, by kernel_rfl, by kernel_rfl⟩
theorem g5_8 (L : Addr) (a b : Value) : bindC (env5 L).kindOf [(S "digits", a), (S "n", b)] (fun _ => none) (S "digits") = some a ∧ bindC (env5 L).kindOf [(S "digits", a), (S "n", b)] (fun _ => none) (S "n") = some b ∧ bindC (env5 L).kindOf [(S "digits", a), (S "n", b)] (fun _ => none) (S "inner") = none := ⟨by kernel_rfl, by kernel_rfl, by kernel_rfl⟩
theorem g5_9 (L : Addr) : (env5 L).scope.kind = .function ∧ (env5 L).kindOf (S "digits") = some .cell ∧ (env5 L).kindOf (S "inner") = some .cell ∧ (env5 L).kindOf (S "len") = some .globalImplicit := ⟨by kernel_rfl, by kernel_rfl, by kernel_rfl, by kernel_rfl⟩
theorem g5_10 (L : Addr) : (env5 L).code = .ref 41 := by kernel_rfl
theorem g5_11 (L : Addr) : closureFor (fdS in5) (env5 L) = pure [(S "n", L + 1 + 1), (S "inner", L + 1 + 1 + 1), (S "digits", L + 1)] := by kernel_rfl
theorem g5_12 (L : Addr) : qualnameIn (env5 L) (S "inner") (S "inner") = qD := by kernel_rfl
theorem g5_13 (L : Addr) : annTrees (fdA in5) none (env5 L) = [] := by kernel_rfl
theorem g5_14 : (fdA in5).defaults = [] ∧ (fdA in5).kw_defaults = [] := ⟨by kernel_rfl, by kernel_rfl⟩
theorem g5_15 (L : Addr) : (env5 L).globals = mainGlobals ∧ (env5 L).builtins = builtinsNs := ⟨by kernel_rfl, by kernel_rfl⟩
def ret5 : Stmt := (fdB (stAt 5)).getD 1 (.Pass default)
theorem b5 : fdB (stAt 5) = [in5, ret5] := by kernel_rfl
theorem in5_is : in5 = .FunctionDef (S "inner") (fdA in5) (fdB in5) [] none [] (fdS in5) none (S "inner") (fdP in5) := by kernel_rfl
theorem pos5 : (fdP in5).line = 47 ∧ (fdP in5).col = 4 := ⟨by kernel_rfl, by kernel_rfl⟩
theorem Heap.IsCell.kpB {h h' : Heap} {c cc : Addr} {v : Option Value} (x : h.IsCell c v) (tb : TabOk h) (hne : c ≠ cc) (k : KpB [cc] h h') : h'.IsCell c v := by
  have hT := IsCell.T tb x
  obtain ⟨o, e, hd⟩ := x
  exact ⟨o, k _ _ (fun m => hne (List.mem_singleton.mp m)) (.inl hT) e, hd⟩
theorem mg0_len (w : World) : (B1 w).mg (S "len") = none := by kernel_rfl
theorem mb0_len (w : World) : (B1 w).mb (S "len") = some (.builtin "len") := by kernel_rfl
section
variable {M : Model} {A : Around} {E : Value → Shared → Prop} {s : Shared} {env : Env} {q : Pos} {e : Expr} {es : List Expr}
theorem spl_cons {Q : List Value → Shared → Prop} (h : wpAny M A (eval e env) (fun v s₁ => wpAny M A (spliced (backTo q (starEach es env))) (fun vs s₂ => Q (v :: vs) s₂) E s₁) E s) (hn : nst e = true) : wpAny M A (spliced (backTo q (starEach (e :: es) env))) Q E s := by
  rw [star_cons hn]; exact spliced_cons h
theorem spl_nil {Q : List Value → Shared → Prop} (h : Q [] s) : wpAny M A (spliced (backTo q (starEach [] env))) Q E s := spliced_nil h
theorem args_star {f : Value} {Q : Args → Shared → Prop} (h : wpAny M A (spliced (backTo q (starEach (e :: es) env))) (fun vs s' => Q { pos := vs } s') E s) (hn : nst e = true) : wpAny M A (evalArgs f true (backTo q (starEach (e :: es) env)) []) Q E s := by
  rw [star_cons hn] at h ⊢; exact evalArgs_plain h
end
theorem adr_ne1 (L : Nat) : L + 1 ≠ L + 1 + 1 + 1 := by omega
theorem adr_ne2 (L : Nat) : L + 1 + 1 ≠ L + 1 + 1 + 1 := by omega
theorem adr_lt3 (L : Nat) : ¬ L + 1 + 1 + 1 < L := by omega
/-- the statement of a def inside a def, its name in a cell -/
theorem exec_inner {w : World} {A : Around} {s : Shared} {Q : Flow → Shared → Prop} {E : Value → Shared → Prop} {name qual : PySem.Str} {params : Arguments} {body : List Stmt} {scope : Scope} {env : Env} {clos : List (PySem.Str × Addr)} {pos : Pos} {c P cc : Addr}
    (hB : (B1 w).In s.heap) (tb : TabOk s.heap) (hP : P ∈ TT) (ht : tab1 s.heap P pos.line pos.col qual) (hto : ∀ h', Heap.ExtBut P s.heap h' → s.heap.get? P = some (tabObj #[]) → tab1 h' P pos.line pos.col qual → TabOk h') (hcd : env.code = .ref c) (hC : CodeHd s.heap c P)
    (hcl : closureFor scope env = pure clos) (hgl : env.globals = mainGlobals) (hq : qualnameIn env name name = qual) (hd0 : params.defaults = []) (hk0 : params.kw_defaults = []) (han : annTrees params none env = [])
    (hk : env.scope.kind = .function) (hl : env.kindOf name = some .cell) (hc : env.cells.lookup name = some cc) (hv : s.heap.IsCell cc none)
    (h : ∀ f c' ctv doc h' tk, KpB [cc] s.heap h' → TabOk h' → s.heap.objs.size ≤ f → h'.get? f = some (fnMade name qual params body scope clos doc (((B1 w).mg "__name__").getD .none) c' ctv) → h'.CodeRec (.ref c') qual → h'.IsCell cc (some (.ref f)) →
      Q .next { s with heap := h', toks := tk }) :
    wpAny (model pw w) A (exec (.FunctionDef name params body [] none [] scope none name pos) env) Q E s := by
  refine nestDef_K hd0 hk0 han ?_
  rw [hq]
  refine makeInner hB tb hP ht hto hcd hC hcl hgl fun c' ctv doc h' tk kp hrec hsz => ?_
  have hv' : h'.IsCell cc none := IsCell.kp hv tb kp
  have tb' := kp.tab tb
  have hlt : cc < h'.objs.size := hv'.lt
  have hv2 : (h'.push (fnMade name qual params body scope clos doc (((B1 w).mg "__name__").getD .none) c' ctv)).IsCell cc none := hv'.keeps fun b o e => Heap.get?_push_of_some _ e
  refine wpAny_storeName_cell (s := { s with heap := h'.push _, toks := tk }) hk hl hc hv2 fun h'' hc'' hs'' => ?_
  have tb2 : TabOk (h'.push (fnMade name qual params body scope clos doc (((B1 w).mg "__name__").getD .none) c' ctv)) := Kp.push.tab tb'
  have hcn : cc ∉ TT := IsCell.T tb hv
  refine h h'.objs.size c' ctv doc h'' tk (fun b o hb f e => ?_) (tab_cell tb2 hv2 hs'') hsz ?_ ?_ hc''
  · have hb' : b ≠ cc := fun z => hb (z ▸ .head _)
    exact (hs''.2 b hb').trans (Heap.get?_push_of_some _ (kp.keep b o f e))
  · exact (hs''.2 _ (Nat.ne_of_gt hlt)).trans (Heap.get?_push_size _ rfl)
  · obtain ⟨c2, oc, vs, tk', e0, e1, e2, e3⟩ := hrec
    refine ⟨c2, oc, vs, tk', e0, (hs''.2 c2 fun z => ?_).trans (Heap.get?_push_of_some _ e1), e2, e3⟩
    obtain ⟨o, q1, q2⟩ := hv'
    rw [z, q1] at e1; cases e1
    rw [q2] at e2; cases e2
theorem f_digits2int {w : World} {l : List Int} {n : Nat} (hl : ∀ d ∈ l, 0 ≤ d ∧ d < 2 ^ n) (hz : n * l.length ≤ 2 ^ 25) (hll : l.length ≤ 32) (hn : n ≤ 2 ^ 25) : Fn (B1 w) 42 7 [.lst (l.map .int), .int n] (.int (dval n l)) := by
  constructor
  intro A s X vs Q E hB hTb hX hrep hh hdep hun hQ
  obtain ⟨la, ws, t, rfl, il, hla, rws⟩ : ∃ la ws t, vs = [.ref la, .int n t] ∧ s.heap.IsList la ws.toArray ∧ la ∉ X ∧ Reps X s.heap ws (l.map .int) := by
    cases hrep with
    | cons r1 r2 => cases r2 with
      | cons r2 r3 => cases r3; cases r2; cases r1 with
        | lst h1 h2 h3 => exact ⟨_, _, _, rfl, h1, h2, h3⟩
  have hlim : s.heap.NoLimit := hB.lim
  refine wpAny_call (codeAny_call_cells (fd := fd_digits2int) (binds := [(S "digits", .ref la), (S "n", .int n t)]) (by omega) (hB.K _ _ (g5_1 w)) rfl hlim (codeRec_of hB.K (g5_2 w)) g5_3 (g5_4 [_, _] rfl) g5_5 ?hkind (fun s₁ I => ?_) (by kernel_rfl) (by kernel_rfl) (by kernel_rfl))
  case hkind =>
    intro x hx
    rcases List.mem_cons.mp hx with rfl | hx
    · exact .inr (g5_6a _)
    · rw [List.mem_singleton] at hx; subst hx; exact .inr (g5_6b _)
  obtain ⟨h₁, t₁, rfl, hk1⟩ := I.done
  obtain ⟨L, hL⟩ : ∃ L, s.heap.objs.size = L := ⟨_, rfl⟩
  rw [hL] at I ⊢
  change InCallC s (env5 L).locals _ (env5 L).cells _ _ at I
  show wpAny (model pw w) (A.deeper (env5 L)) (execs (fdB (stAt 5)) (env5 L)) _ _ _
  have hd1 : (A.deeper (env5 L)).depth = A.depth + 1 := rfl
  have hu1 : (A.deeper (env5 L)).units = A.units + 3 := rfl
  obtain ⟨A', hA'⟩ : ∃ A', A.deeper (env5 L) = A' := ⟨_, rfl⟩
  have hh' : A'.handled = none := by rw [← hA']; exact hh
  rw [hA'] at hd1 hu1 ⊢
  obtain ⟨k1, k2, k3⟩ := g5_7 L
  obtain ⟨v1, v2, v3⟩ := g5_8 L (.ref la) (.int n t)
  have c1 : h₁.IsCell (L + 1) (some (.ref la)) := v1 ▸ I.cell _ _ k1
  have c2 : h₁.IsCell (L + 1 + 1) (some (.int n t)) := v2 ▸ I.cell _ _ k2
  have c3 : h₁.IsCell (L + 1 + 1 + 1) none := v3 ▸ I.cell _ _ k3
  have hB1 : (B1 w).In h₁ := hB.full hk1
  have tb1 : TabOk h₁ := hTb.full hk1
  obtain ⟨kind, kd, ki, kl⟩ := g5_9 L
  refine wpAny_mono (Q := fun fl s' => Q (match fl with | .ret v => v | _ => .none) s') (E := fun _ _ => False) ?_ (fun fl s' h => h) (fun _ _ h => h.elim)
  rw [b5]
  refine wpAny_execs_cons ?_
  rw [in5_is]
  refine exec_inner (P := 37) (c := 41) (qual := qD) hB1 tb1 (by decide) ?ht ?hto (g5_10 L) (codeHd41 hB1) (g5_11 L) (g5_15 L).1 (g5_12 L) g5_14.1 g5_14.2 (g5_13 L) kind ki k3 c3 ?_
  case ht => rw [pos5.1, pos5.2]; exact tb1.b
  case hto =>
    rw [pos5.1, pos5.2]
    intro h' hx hp ht
    exact ⟨tb1.a.ext hp (by decide) hx, ht⟩
  intro f c' ctv doc h₂ t₂ kB tb2 hf fO cr c3'
  have c1' := Heap.IsCell.kpB c1 tb1 (adr_ne1 L) kB
  have c2' := Heap.IsCell.kpB c2 tb1 (adr_ne2 L) kB
  have hlo : ∀ b o, s.heap.get? b = some o → Fix b o → h₂.get? b = some o := fun b o e fx => kB b o (fun m => by
    rw [List.mem_singleton] at m
    have h1 := Heap.lt_size e
    rw [m, hL] at h1
    exact adr_lt3 L h1) fx (hk1 b o e)
  have kp : Kp s.heap h₂ := ⟨fun b o fx e => hlo b o e fx, fun _ => tb2⟩
  have hB2 : (B1 w).In h₂ := hB.keep kp
  have il2 : h₂.IsList la ws.toArray := isList_kpB (xs := []) il kp.but (fun q => by cases q)
  have hlT : la ∉ TT := listT tb2 il2
  have hsz : ws.length = l.length := by rw [rws.length, List.length_map]
  -- the return
  refine wpAny_execs_cons ?_
  show wpAny (model pw w) A' (exec ret5 (env5 L)) _ _ _
  have cases5 : l = [] ∨ 0 < l.length := by cases l with
    | nil => exact .inl rfl
    | cons a r => exact .inr (Nat.succ_pos _)
  refine wpAny_Return_some (wpAny_IfExp (wpAny_isTrue_value (wpAny_Name (wpAny_loadName_cell kind kd k1 c1' (wpAny_truthy_list il2 (by rw [List.size_toArray, hsz]; omega) ?_)) (by kernel_rfl)) rfl))
  rcases cases5 with rfl | hpos
  · have hw : ws = [] := List.length_eq_zero_iff.mp (by simpa using hsz)
    subst hw
    refine wpAny_Constant_int ?_
    exact hQ _ h₂ _ kp (.int _ _)
  have hne : ws.toArray.isEmpty = false := by
    cases ws with
    | nil => simp at hsz; omega
    | cons a r => rfl
  rw [hne]
  obtain ⟨oc1, ec1, dc1⟩ := id c1'
  obtain ⟨oc2, ec2, dc2⟩ := id c2'
  obtain ⟨oc3, ec3, dc3⟩ := id c3'
  obtain ⟨cr0, ocr, vcr, tcr, e0, ecr, dcr, vcr1⟩ := id cr
  cases e0
  obtain ⟨oll, ell, cll, nll, dll⟩ := id il2
  have has : ∀ a ∈ [L + 1, L + 1 + 1, L + 1 + 1 + 1, f, c', la], a ∉ TT := by
    intro a ha
    simp only [List.mem_cons, List.not_mem_nil, or_false] at ha
    rcases ha with rfl | rfl | rfl | rfl | rfl | rfl
    · exact IsCell.T tb2 c1'
    · exact IsCell.T tb2 c2'
    · exact IsCell.T tb2 c3'
    · exact tb2.ne fO (.inl nofun)
    · exact tb2.codeT cr
    · exact hlT
  have hB' : ((B1 w).ext h₂ _ has).In h₂ := Bs.ext_in hB2
  have V : EnvD ((B1 w).ext h₂ _ has) f la l n := by
    refine ⟨⟨_, doc, _, c', ctv, fragOf_get (by simp) fO, fun h hi => ⟨c', ocr, vcr, tcr, rfl, hi.K _ _ (fragOf_get (by simp) ecr), dcr, vcr1⟩, ⟨_, oc1, by kernel_rfl, fragOf_get (by simp) ec1, dc1⟩, ⟨_, oc3, by kernel_rfl, fragOf_get (by simp) ec3, dc3⟩, ⟨_, oc2, t, by kernel_rfl, fragOf_get (by simp) ec2, dc2⟩⟩, oll, ws, nll, fragOf_get (by simp) ell, cll, dll, fun i x e => rws.int i x e⟩
  have F := inner5 V hl hz (by omega) hn 5 0 l.length hpos (Nat.le_refl _) (by omega)
  rw [part_all] at F
  refine Call_Name rfl (wpAny_Name (wpAny_loadName_cell kind ki k3 c3' ?_) (by kernel_rfl))
  refine callWith_function (o := fnMade (S "inner") qD (fdA in5) (fdB in5) (fdS in5) [(S "n", L + 1 + 1), (S "inner", L + 1 + 1 + 1), (S "digits", L + 1)] doc (((B1 w).mg "__name__").getD .none) c' ctv) (fd := fdD [(S "n", L + 1 + 1), (S "inner", L + 1 + 1 + 1), (S "digits", L + 1)] doc (((B1 w).mg "__name__").getD .none) c' ctv) ?_
  refine args_star (spl_cons (wpAny_Constant_int (spl_cons ?_ rfl)) rfl) rfl
  refine Call_Name rfl (Name_function_global kind kl (loadGlobal_builtin (env := env5 L) (by rw [(g5_15 L).1]; exact hB2.g) (mg0_len w) (by rw [(g5_15 L).2]; exact hB2.b) (mb0_len w) ?_) (by kernel_rfl))
  refine callWith_builtin rfl (args_star (spl_cons (wpAny_Name (wpAny_loadName_cell kind kd k1 c1' (spl_nil ?_)) (by kernel_rfl)) rfl) rfl)
  refine len_list il2 (by rw [List.size_toArray, hsz]; omega) (spl_nil ?_)
  refine ⟨⟨fO, rfl⟩, ?_⟩
  have hsz' : (ws.toArray.size : Int) = (l.length : Nat) := by rw [List.size_toArray, hsz]
  rw [hsz']
  refine F.run A' { s with heap := h₂, toks := _ } X _ _ _ hB' tb2 (fun x hx => ⟨(hX x hx).1, ?_⟩) (.cons (.int _ _) (.cons (.int _ _) .nil)) hh' (by omega) (by omega) fun v h₃ t₃ k₃ r₃ => ?_
  · obtain ⟨o, e⟩ := (hX x hx).2
    exact ⟨o, hlo x o e (.inl (hX x hx).1)⟩
  · exact hQ v h₃ t₃ (kp.trans k₃) r₃
end
end Mine
-- part T8
set_option maxHeartbeats 0
namespace Mine
noncomputable section
def in4 : Stmt := (fdB (stAt 4)).getD 1 (.Pass default)
def qI : PySem.Str := S "_int2digits.<locals>.inner"
def fdI (clos : List (PySem.Str × Addr)) (doc pm : Value) (c' : Addr) (ctv : Value) : FuncData := fnX (S "inner") qI (fdA in4) (fdB in4) (fdS in4) clos .none .none doc pm none (.ref c') ctv
def nsI : List PySem.Str := [S "x", S "L", S "R", S "mid", S "shift", S "upper", S "lower"]
theorem e1 : ∀ x ∈ nsI, (fdS in4).names.lookup x = some .local := by decide +kernel
theorem e2 : ∀ x ∈ (fdS in4).names, x.2 ≠ .cell := by decide +kernel
theorem e3 : (fdS in4).names.lookup (S "a_digits") = some .free ∧ (fdS in4).names.lookup (S "inner") = some .free ∧ (fdS in4).names.lookup (S "n") = some .free := by decide +kernel
theorem e4 (clos doc pm c' ctv) : ∀ vs : List Value, vs.length = [S "x", S "L", S "R"].length → bindArgs (fdI clos doc pm c' ctv) ⟨vs, []⟩ = pure ([S "x", S "L", S "R"].zip vs) := args3 _ fun _ _ _ => by kernel_rfl
theorem e5 : nsI.Nodup := by decide +kernel
theorem e6 : (fdS in4).kind = .function ∧ (fdS in4).isCoroutine = false ∧ (fdS in4).isGenerator = false := by decide +kernel
/-- what stands behind the inner def -/
structure EnvI (B : Bs) (f a : Addr) (n : Nat) : Prop where
  fn : ∃ clos doc pm c' ctv, B.K.lookup f = some ⟨.type "function", none, .func (fdI clos doc pm c' ctv), #[]⟩ ∧ (∀ h, B.In h → h.CodeRec (.ref c') qI) ∧
    (∃ c o, clos.lookup (S "a_digits") = some c ∧ B.K.lookup c = some o ∧ o.data = .cell (some (.ref a))) ∧
    (∃ c o, clos.lookup (S "inner") = some c ∧ B.K.lookup c = some o ∧ o.data = .cell (some (.ref f))) ∧
    (∃ c o t, clos.lookup (S "n") = some c ∧ B.K.lookup c = some o ∧ o.data = .cell (some (.int n t)))
  no : B.K.lookup a = none
structure In4 (B : Bs) (f a : Addr) (n : Nat) (C : Cx) : Prop where
  W : Wf C
  B : C.B = B
  N : C.names = nsI
  V : C.cv = [(S "a_digits", .obj a), (S "inner", .obj f), (S "n", .int n)]
  E : ∃ fd L, C.env = callEnv fd L f ∧ fd.scope.kind = .function
section
variable {B : Bs} {f a : Addr} {n : Nat} {C : Cx} (I : In4 B f a n C)
include I
theorem nx4_x : C.names[0]? = some (S "x") := by rw [I.N]; kernel_rfl
theorem nx4_L : C.names[1]? = some (S "L") := by rw [I.N]; kernel_rfl
theorem nx4_R : C.names[2]? = some (S "R") := by rw [I.N]; kernel_rfl
theorem nx4_mid : C.names[3]? = some (S "mid") := by rw [I.N]; kernel_rfl
theorem nx4_shift : C.names[4]? = some (S "shift") := by rw [I.N]; kernel_rfl
theorem nx4_upper : C.names[5]? = some (S "upper") := by rw [I.N]; kernel_rfl
theorem nx4_lower : C.names[6]? = some (S "lower") := by rw [I.N]; kernel_rfl
theorem cv4_a : (S "a_digits", D.obj a) ∈ C.cv := by rw [I.V]; exact .head _
theorem cv4_inner : (S "inner", D.obj f) ∈ C.cv := by rw [I.V]; exact .tail _ (.head _)
theorem cv4_n : (S "n", D.int n) ∈ C.cv := by rw [I.V]; exact .tail _ (.tail _ (.head _))
theorem int4 : interactive C.env = false := by obtain ⟨fd, L, e, h⟩ := I.E; rw [e]; show (fd.scope.kind == .module && _) = false; rw [h]; rfl
end
theorem enter4 {B : Bs} {f a : Addr} {n : Nat} (V : EnvI B f a n) {k : Nat} {x y z : Int} {l l' : List D}
    (H : ∀ C : Cx, In4 B f a n C → C.A.depth + k < recursionLimit → C.A.units + 8 * k < cLine → Exs C ⟨[some (.int x), some (.int y), some (.int z), none, none, none, none], [(a, l)]⟩ (fdB in4) (fun fl σ => (fl = .ret .none ∨ (fl = .next ∧ D.none = .none)) ∧ σ.objs = [(a, l')])) : FnO B f (k + 1) [.int x, .int y, .int z] [(a, l)] [(a, l')] .none := by
  obtain ⟨⟨clos, doc, pm, c', ctv, hf, hcd, ⟨c1, o1, e11, e12, e13⟩, ⟨c2, o2, e21, e22, e23⟩, ⟨c3, o3, t3, e31, e32, e33⟩⟩, hno⟩ := V
  refine fno_of_body (fd := fdI clos doc pm c' ctv) (ps := [S "x", S "L", S "R"]) (names := nsI) [(S "a_digits", .obj a), (S "inner", .obj f), (S "n", .int n)] [(a, l)] [(a, l')] hf hcd rfl (e4 clos doc pm c' ctv) rfl e5 rfl e1 e2 e6.1 e6.2.1 e6.2.2 rfl rfl ?_ (fun b hb => ?_) ?_
  · intro x d hm
    rcases List.mem_cons.mp hm with e | hm
    · cases e; exact ⟨e3.1, c1, _, o1, e11, e12, e13, fun _ _ => .obj _⟩
    rcases List.mem_cons.mp hm with e | hm
    · cases e; exact ⟨e3.2.1, c2, _, o2, e21, e22, e23, fun _ _ => .obj _⟩
    rw [List.mem_singleton] at hm; cases hm
    exact ⟨e3.2.2, c3, _, o3, e31, e32, e33, fun _ _ => .int _ _⟩
  · obtain rfl : b = a := List.mem_singleton.mp hb
    exact hno
  · intro A L' h₀ X W hd hu
    refine exs_conv (H _ ⟨W, rfl, rfl, rfl, _, L', rfl, e6.1⟩ hd hu) ?_
    rfl
theorem inner4 {B : Bs} {f a : Addr} {n : Nat} (V : EnvI B f a n) {N : Nat} (hN : n * N ≤ 2 ^ 25) (hNN : N ≤ 2 ^ 20) (hn : n ≤ 2 ^ 25) : ∀ (k L R : Nat) (x : Int) (l : List Int), l.length = N → L < R → R ≤ N → R - L ≤ 2 ^ k → 0 ≤ x → x < 2 ^ (n * (R - L)) →
    FnO B f (k + 1) [.int x, .int L, .int R] [(a, l.map .int)] [(a, (wr l L (digs n x (R - L))).map .int)] .none := by
  intro k
  induction k with
  | zero =>
    intro L R x l hl h1 h2 h3 h4 h5
    obtain rfl : R = L + 1 := by omega
    rw [show L + 1 - L = 1 by omega] at h5 ⊢
    have hx : x % 2 ^ n = x := Int.emod_eq_of_lt h4 (by simpa using h5)
    rw [show digs n x 1 = [x] by simp [digs, hx], wr_one l x (by omega)]
    refine enter4 V fun C I hd hu => ?_
    have W := I.W
    refine exs_if_leave (ts_cmp (ev_add (ev_name W 1 (nx4_L I) rfl) ev_int) (ev_name W 2 (nx4_R I) rfl) co_eq) (fun q => ?_) (fun q => ?_)
    · refine exs_cons (ex_setitem (k := L) (ds := l.map .int) (d := .int x) (ev_name W 0 (nx4_x I) rfl) (ev_cons W (cv4_a I)) (ev_name W 1 (nx4_L I) rfl) .here (by omega) (by rw [List.length_map]; omega) (by omega) ?_)
      refine exs_cons (ex_ret0 ⟨.inl rfl, ?_⟩)
      simp
    · exact absurd q (by simp)
  | succ k ih =>
    intro L R x l hl h1 h2 h3 h4 h5
    by_cases h6 : R - L ≤ 2 ^ k
    · exact (ih L R x l hl h1 h2 h6 h4 h5).le (by omega)
    have hp : 0 < 2 ^ k := Nat.two_pow_pos k
    have hp2 : 2 ^ (k + 1) = 2 * 2 ^ k := by rw [Nat.pow_succ]; omega
    refine enter4 V fun C I hd hu => ?_
    have W := I.W
    obtain ⟨⟨clos, doc, pm, c', ctv, hf, _⟩, _⟩ := id V
    obtain ⟨m, hm⟩ : ∃ m, (L + R) / 2 = m := ⟨_, rfl⟩
    have hLm : L < m := by omega
    have hmR : m < R := by omega
    have hsum : n * (R - L) = n * (m - L) + n * (R - m) := by rw [← Nat.mul_add]; congr 1; omega
    have hmul : n * (R - L) ≤ n * N := Nat.mul_le_mul_left _ (by omega)
    have hS := two_pow_pos (n * (m - L))
    have hu0 : 0 ≤ x / 2 ^ (n * (m - L)) := Int.ediv_nonneg h4 (Int.le_of_lt hS)
    have hu1 : x / 2 ^ (n * (m - L)) < 2 ^ (n * (R - m)) := by
      apply Int.ediv_lt_of_lt_mul hS
      rw [← Int.pow_add, Nat.add_comm, ← hsum]; exact h5
    have hl0 := Int.emod_nonneg x (b := 2 ^ (n * (m - L))) (by omega)
    have hl1 := Int.emod_lt_of_pos x hS
    have hbu := bits_le hu0 hu1
    refine exs_if_leave (ts_cmp (ev_add (ev_name W 1 (nx4_L I) rfl) ev_int) (ev_name W 2 (nx4_R I) rfl) co_eq) (fun q => ?_) (fun q => ?_)
    · exact absurd q (by simp; omega)
    refine exs_assign (d := .int m) W 3 (nx4_mid I) (ev_conv (ev_shr' (m := 1) (ev_add (ev_name W 1 (nx4_L I) rfl) (ev_name W 2 (nx4_R I) rfl)) ev_int) ?_) ?_
    · congr 1; omega
    refine exs_assign (d := .int ((n * (m - L) : Nat) : Int)) W 4 (nx4_shift I) (ev_conv (ev_mul (ev_sub (ev_name W 3 (nx4_mid I) rfl) (ev_name W 1 (nx4_L I) rfl)) (ev_cons W (cv4_n I)) (.of_left (intBits_le_64 (by omega) (by omega)))) ?_) ?_
    · congr 1; rw [Int.mul_comm, Int.natCast_mul, Int.ofNat_sub (by omega)]
    refine exs_assign (d := .int (x / 2 ^ (n * (m - L)))) W 5 (nx4_upper I) (ev_shr' (ev_name W 0 (nx4_x I) rfl) (ev_name W 4 (nx4_shift I) rfl)) ?_
    refine exs_assign (d := .int (x % 2 ^ (n * (m - L)))) W 6 (nx4_lower I) (ev_conv (ev_xor (ev_name W 0 (nx4_x I) rfl) (ev_shl' (ev_name W 5 (nx4_upper I) rfl) (ev_name W 4 (nx4_shift I) rfl) (by omega))) ?_) ?_
    · rw [xor_hi _ h4]
    have F1 := ih L m (x % 2 ^ (n * (m - L))) l hl hLm (by omega) (by omega) hl0 hl1
    have F2 := ih m R (x / 2 ^ (n * (m - L))) (wr l L (digs n (x % 2 ^ (n * (m - L))) (m - L))) (by rw [wr_length, hl]; rw [digs_length]; omega) hmR h2 (by omega) hu0 hu1
    refine exs_cons (ex_callM (ob' := [(a, (wr l L (digs n (x % 2 ^ (n * (m - L))) (m - L))).map .int)]) W (cv4_inner I) (I.B ▸ hf) rfl (evs_cons (ev_name W 6 (nx4_lower I) rfl) (evs_cons (ev_name W 1 (nx4_L I) rfl) (evs_cons (ev_name W 3 (nx4_mid I) rfl) evs_nil))) (I.B ▸ F1) rfl hd hu ?_ (hi := int4 I))
    refine exs_cons (ex_callM (ob' := [(a, (wr (wr l L (digs n (x % 2 ^ (n * (m - L))) (m - L))) m (digs n (x / 2 ^ (n * (m - L))) (R - m))).map .int)]) W (cv4_inner I) (I.B ▸ hf) rfl (evs_cons (ev_name W 5 (nx4_upper I) rfl) (evs_cons (ev_name W 3 (nx4_mid I) rfl) (evs_cons (ev_name W 2 (nx4_R I) rfl) evs_nil))) (I.B ▸ F2) rfl hd hu ?_ (hi := int4 I))
    refine exs_nil ⟨.inr ⟨rfl, rfl⟩, ?_⟩
    have hd0 : m = L + (digs n (x % 2 ^ (n * (m - L))) (m - L)).length := by rw [digs_length]; omega
    have e1 : wr (wr l L (digs n (x % 2 ^ (n * (m - L))) (m - L))) m (digs n (x / 2 ^ (n * (m - L))) (R - m)) = wr l L (digs n x (R - L)) := by
      conv => lhs; arg 2; rw [hd0]
      rw [wr_wr _ (by rw [digs_length, digs_length]; omega), digs_mod, ← digs_add, show m - L + (R - m) = R - L by omega]
    rw [e1]
end
end Mine
-- part T9
set_option maxHeartbeats 0
namespace Mine
noncomputable section
abbrev env4 (L : Addr) : Env := callEnvC fd_int2digits L 35
theorem g4_1 (w : World) : (B1 w).K.lookup 35 = some ⟨.type "function", none, .func fd_int2digits, ⟨[]⟩⟩ := by kernel_rfl
theorem g4_2 (w : World) : codeIn (B1 w).K fd_int2digits.code fd_int2digits.qualname = true := by kernel_rfl
theorem g4_3 : fd_int2digits.body = .stmts (fdB (stAt 4)) := by kernel_rfl
theorem g4_4 : ∀ vs : List Value, vs.length = 2 → bindArgs fd_int2digits ⟨vs, []⟩ = pure ([S "a", S "n"].zip vs) := args2 _ fun _ _ => by kernel_rfl
theorem g4_5 : fd_int2digits.closure = [] := by kernel_rfl
theorem g4_6a : fd_int2digits.scope.names.lookup (S "a") = some .local := by kernel_rfl
theorem g4_6b (n : Nat) : fd_int2digits.scope.names.lookup (S "n") = some .cell ∧ ((cellsFrom n fd_int2digits.scope.names []).lookup (S "n")).isSome = true := ⟨by kernel_rfl, by kernel_rfl⟩
theorem g4_7 (L : Addr) : (env4 L).cells.lookup (S "n") = some (L + 1) ∧ (env4 L).cells.lookup (S "a_digits") = some (L + 1 + 1) ∧ (env4 L).cells.lookup (S "inner") = some (L + 1 + 1 + 1) := ⟨by kernel_rfl, by kernel_rfl, by kernel_rfl⟩
theorem g4_8 (L : Addr) (a b : Value) : bindC (env4 L).kindOf [(S "a", a), (S "n", b)] (fun _ => none) (S "n") = some b ∧ bindC (env4 L).kindOf [(S "a", a), (S "n", b)] (fun _ => none) (S "a_digits") = none ∧ bindC (env4 L).kindOf [(S "a", a), (S "n", b)] (fun _ => none) (S "inner") = none ∧ bindL (env4 L).kindOf [(S "a", a), (S "n", b)] (fun _ => none) (S "a") = some a := ⟨by kernel_rfl, by kernel_rfl, by kernel_rfl, by kernel_rfl⟩
theorem g4_9 (L : Addr) : (env4 L).scope.kind = .function ∧ (env4 L).kindOf (S "n") = some .cell ∧ (env4 L).kindOf (S "a_digits") = some .cell ∧ (env4 L).kindOf (S "inner") = some .cell ∧ (env4 L).kindOf (S "len") = some .globalImplicit ∧ (env4 L).kindOf (S "a") = some .local := ⟨by kernel_rfl, by kernel_rfl, by kernel_rfl, by kernel_rfl, by kernel_rfl, by kernel_rfl⟩
theorem g4_10 (L : Addr) : (env4 L).code = .ref 34 := by kernel_rfl
theorem g4_11 (L : Addr) : closureFor (fdS in4) (env4 L) = pure [(S "n", L + 1), (S "inner", L + 1 + 1 + 1), (S "a_digits", L + 1 + 1)] := by kernel_rfl
theorem g4_12 (L : Addr) : qualnameIn (env4 L) (S "inner") (S "inner") = qI := by kernel_rfl
theorem g4_13 (L : Addr) : annTrees (fdA in4) none (env4 L) = [] := by kernel_rfl
theorem g4_14 : (fdA in4).defaults = [] ∧ (fdA in4).kw_defaults = [] := ⟨by kernel_rfl, by kernel_rfl⟩
theorem g4_15 (L : Addr) : (env4 L).globals = mainGlobals ∧ (env4 L).builtins = builtinsNs := ⟨by kernel_rfl, by kernel_rfl⟩
def as4 : Stmt := (fdB (stAt 4)).getD 0 (.Pass default)
def if4 : Stmt := (fdB (stAt 4)).getD 2 (.Pass default)
def ret4 : Stmt := (fdB (stAt 4)).getD 3 (.Pass default)
theorem b4 : fdB (stAt 4) = [as4, in4, if4, ret4] := by kernel_rfl
theorem in4_is : in4 = .FunctionDef (S "inner") (fdA in4) (fdB in4) [] none [] (fdS in4) none (S "inner") (fdP in4) := by kernel_rfl
theorem pos4 : (fdP in4).line = 32 ∧ (fdP in4).col = 4 := ⟨by kernel_rfl, by kernel_rfl⟩
theorem ns_kpB {h h' : Heap} {a : Addr} {m : PySem.Str → Option Value} {xs : List Addr} (x : h.Ns a m) (tb : TabOk h) (k : KpB xs h h') (ha : a ∉ xs) : h'.Ns a m := by
  obtain ⟨oL, es, ep, e, hd, r⟩ := x
  exact ⟨oL, es, ep, k _ _ ha (.inl (tb.nsT ⟨oL, es, ep, e, hd, r⟩)) e, hd, r⟩
theorem adr4_1 (L : Nat) : L + 1 ≠ L + 1 + 1 + 1 ∧ L + 1 + 1 ≠ L + 1 + 1 + 1 ∧ L + 1 ≠ L + 1 + 1 ∧ L + 1 + 1 + 1 ≠ L + 1 + 1 := by omega
theorem adr4_2 (L : Nat) : ¬ L + 1 + 1 + 1 < L ∧ ¬ L + 1 + 1 < L := by omega
/-- behind the def inside: the test, the call, the return -/
theorem rest4 {w : World} {x : Int} {n : Nat} (hx : 0 ≤ x) (hn0 : 0 < n) (hz : n * nd x n ≤ 2 ^ 25) (hll : nd x n ≤ 32) (hn : n ≤ 2 ^ 20) {A' : Around} {s : Shared} {X : List Addr} {Q : Value → Shared → Prop} {L la f c' : Nat} {h₄ : Heap} {t₄ : Nat} {t u : Tok} {ctv doc : Value} {Z : List Value} {m : PySem.Str → Option Value}
    (hh' : A'.handled = none) (hd1 : A'.depth + 6 < recursionLimit) (hu1 : A'.units + 48 < cLine) (hX : ∀ x ∈ X, x ∉ TT ∧ ∃ o, h₄.get? x = some o) (kp : Kp s.heap h₄) (tb4 : TabOk h₄) (hB4 : (B1 w).In h₄) (hns4 : h₄.Ns L m) (v4 : m (S "a") = some (.int x u))
    (c1d : h₄.IsCell (L + 1) (some (.int n t))) (c2d : h₄.IsCell (L + 1 + 1) (some (.ref la))) (c3d : h₄.IsCell (L + 1 + 1 + 1) (some (.ref f)))
    (fO : h₄.get? f = some (fnMade (S "inner") qI (fdA in4) (fdB in4) (fdS in4) [(S "n", L + 1), (S "inner", L + 1 + 1 + 1), (S "a_digits", L + 1 + 1)] doc (((B1 w).mg "__name__").getD .none) c' ctv)) (cr : h₄.CodeRec (.ref c') qI)
    (laO4 : h₄.get? la = some (lob Z 0)) (laX : la ∉ X) (laK : (B1 w).K.lookup la = none) (laS : s.heap.get? la = none) (hZr : ∀ Y h, Reps Y h Z ((List.replicate (nd x n) (0 : Int)).map .int))
    (hQ : ∀ v h' t', Kp s.heap h' → Rep X h' v (.lst ((digs n x (nd x n)).map .int)) → Q v { s with heap := h', toks := t' }) :
    wpAny (model pw w) A' (execs [if4, ret4] (env4 L)) (fun fl s' => Q (match fl with | .ret v => v | _ => .none) s') (fun _ _ => False) { s with heap := h₄, toks := t₄ } := by
  obtain ⟨k1, k2, k3⟩ := g4_7 L
  obtain ⟨kind, kn, ka, ki, kl, kx⟩ := g4_9 L
  have tail : ∀ (h₅ : Heap) (t₅ : Nat) ws n₅, h₅.IsCell (L + 1 + 1) (some (.ref la)) → h₅.get? la = some (lob ws n₅) → Reps X h₅ ws ((digs n x (nd x n)).map .int) → Kp s.heap h₅ → wpAny (model pw w) A' (execs [ret4] (env4 L)) (fun fl s' => Q (match fl with | .ret v => v | _ => .none) s') (fun _ _ => False) { s with heap := h₅, toks := t₅ } := fun h₅ t₅ ws n₅ hc e r k => by
    refine wpAny_execs_cons ?_
    refine wpAny_Return_some (wpAny_Name (wpAny_loadName_cell kind ka k2 hc ?_) (by kernel_rfl))
    exact hQ _ h₅ _ k (.lst ⟨_, e, rfl, n₅, rfl⟩ laX r)
  refine wpAny_execs_cons ?_
  show wpAny (model pw w) A' (exec if4 (env4 L)) _ _ _
  refine wpAny_If (wpAny_isTrue_value (wpAny_Name (wpAny_loadName_local kind kx hns4 v4 (P.truthy_int ?_)) (by kernel_rfl)) rfl)
  by_cases hx0 : x = 0
  · rw [if_neg (by simp [hx0])]
    refine wpAny_execs_nil ?_
    have hnd : nd x n = 0 := by
      subst hx0
      unfold nd
      rw [show Builtin.Int.intBits 0 = 0 from rfl]
      exact Nat.div_eq_of_lt (by omega)
    refine tail h₄ _ Z 0 c2d laO4 ?_ kp
    have := hZr X h₄
    rw [hnd] at this ⊢
    exact this
  · rw [if_pos (by simpa using hx0)]
    have hpos : 0 < nd x n := by
      rcases Nat.eq_zero_or_pos (nd x n) with z | z
      · exfalso
        have h1 := lt_nd hx hn0
        rw [z, Nat.mul_zero] at h1
        have : (2 : Int) ^ 0 = 1 := rfl
        omega
      · exact z
    obtain ⟨oc1, ec1, dc1⟩ := id c1d
    obtain ⟨oc2, ec2, dc2⟩ := id c2d
    obtain ⟨oc3, ec3, dc3⟩ := id c3d
    obtain ⟨cr0, ocr, vcr, tcr, e0, ecr, dcr, vcr1⟩ := id cr
    cases e0
    have has : ∀ a ∈ [L + 1, L + 1 + 1, L + 1 + 1 + 1, f, c'], a ∉ TT := by
      intro a ha
      simp only [List.mem_cons, List.not_mem_nil, or_false] at ha
      rcases ha with rfl | rfl | rfl | rfl | rfl
      · exact IsCell.T tb4 c1d
      · exact IsCell.T tb4 c2d
      · exact IsCell.T tb4 c3d
      · exact tb4.ne fO (.inl nofun)
      · exact tb4.codeT cr
    have hB' : ((B1 w).ext h₄ _ has).In h₄ := Bs.ext_in hB4
    have hno : ((B1 w).ext h₄ _ has).K.lookup la = none := by
      refine fragOf_none (fun m => ?_) ?_
      · simp only [List.mem_cons, List.not_mem_nil, or_false] at m
        rcases m with rfl | rfl | rfl | rfl | rfl
        · rw [laO4] at ec1; cases ec1; cases dc1
        · rw [laO4] at ec2; cases ec2; cases dc2
        · rw [laO4] at ec3; cases ec3; cases dc3
        · rw [laO4] at fO; exact absurd (congrArg Obj.data (Option.some.inj fO)) nofun
        · rw [laO4] at ecr; cases ecr; cases dcr
      · exact laK
    have V : EnvI ((B1 w).ext h₄ _ has) f la n := by
      refine ⟨⟨_, doc, _, c', ctv, fragOf_get (by simp) fO, fun h hi => ⟨c', ocr, vcr, tcr, rfl, hi.K _ _ (fragOf_get (by simp) ecr), dcr, vcr1⟩, ⟨_, oc2, by kernel_rfl, fragOf_get (by simp) ec2, dc2⟩, ⟨_, oc3, by kernel_rfl, fragOf_get (by simp) ec3, dc3⟩, ⟨_, oc1, t, by kernel_rfl, fragOf_get (by simp) ec1, dc1⟩⟩, hno⟩
    have F := inner4 V (N := nd x n) (by omega) (by omega) (by omega) 5 0 (nd x n) x (List.replicate (nd x n) 0) (by rw [List.length_replicate]) hpos (Nat.le_refl _) (by omega) hx (by rw [Nat.sub_zero]; exact lt_nd hx hn0)
    rw [Nat.sub_zero, wr_all _ _ (by rw [digs_length, List.length_replicate])] at F
    refine wpAny_execs_cons (wpAny_Expr (Call_Name rfl (wpAny_Name (wpAny_loadName_cell kind ki k3 c3d ?_) (by kernel_rfl))) (by kernel_rfl) rfl)
    refine callWith_function (o := fnMade (S "inner") qI (fdA in4) (fdB in4) (fdS in4) [(S "n", L + 1), (S "inner", L + 1 + 1 + 1), (S "a_digits", L + 1 + 1)] doc (((B1 w).mg "__name__").getD .none) c' ctv) (fd := fdI [(S "n", L + 1), (S "inner", L + 1 + 1 + 1), (S "a_digits", L + 1 + 1)] doc (((B1 w).mg "__name__").getD .none) c' ctv) ?_
    refine args_star (spl_cons (wpAny_Name (wpAny_loadName_local kind kx hns4 v4 (spl_cons (wpAny_Constant_int (spl_cons ?_ rfl)) rfl)) (by kernel_rfl)) rfl) rfl
    refine Call_Name rfl (Name_function_global kind kl (loadGlobal_builtin (env := env4 L) (by rw [(g4_15 L).1]; exact hB4.g) (mg0_len w) (by rw [(g4_15 L).2]; exact hB4.b) (mb0_len w) ?_) (by kernel_rfl))
    refine callWith_builtin rfl (args_star (spl_cons (wpAny_Name (wpAny_loadName_cell kind ka k2 c2d (spl_nil ?_)) (by kernel_rfl)) rfl) rfl)
    have hZl : Z.length = nd x n := by rw [(hZr X h₄).length, List.length_map, List.length_replicate]
    have il4 : h₄.IsList la Z.toArray := ⟨_, laO4, rfl, 0, rfl⟩
    refine len_list il4 (by rw [List.size_toArray, hZl]; omega) (spl_nil ?_)
    refine ⟨⟨fO, rfl⟩, ?_⟩
    have hsz' : (Z.toArray.size : Int) = (nd x n : Nat) := by rw [List.size_toArray, hZl]
    rw [hsz']
    refine F.run A' { s with heap := h₄, toks := _ } X _ _ _ hB' tb4 (fun y hy => ⟨(hX y hy).1, ?_⟩) ⟨fun a l hm => ?_, ?_⟩ (.cons (.int _ _) (.cons (.int _ _) (.cons (.int _ _) .nil))) hh' (by omega) (by omega) fun v h₅ t₅ k₅ tb5 ow r₅ => ?_
    · obtain ⟨o, e⟩ := (hX y hy).2
      exact ⟨o, e⟩
    · rw [List.mem_singleton] at hm; cases hm
      exact ⟨Z, 0, laO4, hZr _ _, laX⟩
    · exact List.nodup_cons.mpr ⟨fun q => (nomatch q), .nil⟩
    · cases r₅
      refine wpAny_execs_nil ?_
      obtain ⟨ws, n₅, e5, r5, _⟩ := ow.at' la _ (.head _)
      refine tail h₅ _ ws n₅ ?_ e5 (r5.mono fun a ha => List.mem_append_left _ ha) ⟨fun b o fx e => k₅ b o (fun m => ?_) fx (kp.keep b o fx e), fun _ => tb5⟩
      · exact ⟨oc2, k₅ _ _ (fun m => by rw [List.mem_singleton.mp m, laO4] at ec2; cases ec2; cases dc2) (.inl (IsCell.T tb4 c2d)) ec2, dc2⟩
      · have hb1 : b = la := List.mem_singleton.mp m
        subst hb1
        rw [laS] at e; cases e
theorem f_int2digits {w : World} {x : Int} {n : Nat} (hx : 0 ≤ x) (hn0 : 0 < n) (hz : n * nd x n ≤ 2 ^ 25) (hll : nd x n ≤ 32) (hn : n ≤ 2 ^ 20) (hb : Builtin.Int.intBits x ≤ 2 ^ 25) : Fn (B1 w) 35 7 [.int x, .int n] (.lst ((digs n x (nd x n)).map .int)) := by
  constructor
  intro A s X vs Q E hB hTb hX hrep hh hdep hun hQ
  obtain ⟨u, t, rfl⟩ : ∃ u t, vs = [.int x u, .int n t] := by
    cases hrep with
    | cons r1 r2 => cases r2 with
      | cons r2 r3 => cases r3; cases r2; cases r1; exact ⟨_, _, rfl⟩
  have hlim : s.heap.NoLimit := hB.lim
  refine wpAny_call (codeAny_call_cells (fd := fd_int2digits) (binds := [(S "a", .int x u), (S "n", .int n t)]) (by omega) (hB.K _ _ (g4_1 w)) rfl hlim (codeRec_of hB.K (g4_2 w)) g4_3 (g4_4 [_, _] rfl) g4_5 ?hkind (fun s₁ I => ?_) (by kernel_rfl) (by kernel_rfl) (by kernel_rfl))
  case hkind =>
    intro x hx
    rcases List.mem_cons.mp hx with rfl | hx
    · exact .inl g4_6a
    · rw [List.mem_singleton] at hx; subst hx; exact .inr (g4_6b _)
  obtain ⟨h₁, t₁, rfl, hk1⟩ := I.done
  obtain ⟨L, hL⟩ : ∃ L, s.heap.objs.size = L := ⟨_, rfl⟩
  rw [hL] at I ⊢
  change InCallC s (env4 L).locals _ (env4 L).cells _ _ at I
  show wpAny (model pw w) (A.deeper (env4 L)) (execs (fdB (stAt 4)) (env4 L)) _ _ _
  have hd1 : (A.deeper (env4 L)).depth = A.depth + 1 := rfl
  have hu1 : (A.deeper (env4 L)).units = A.units + 3 := rfl
  obtain ⟨A', hA'⟩ : ∃ A', A.deeper (env4 L) = A' := ⟨_, rfl⟩
  have hh' : A'.handled = none := by rw [← hA']; exact hh
  rw [hA'] at hd1 hu1 ⊢
  obtain ⟨k1, k2, k3⟩ := g4_7 L
  obtain ⟨v1, v2, v3, v4⟩ := g4_8 L (.int x u) (.int n t)
  have c1 : h₁.IsCell (L + 1) (some (.int n t)) := v1 ▸ I.cell _ _ k1
  have c2 : h₁.IsCell (L + 1 + 1) none := v2 ▸ I.cell _ _ k2
  have c3 : h₁.IsCell (L + 1 + 1 + 1) none := v3 ▸ I.cell _ _ k3
  have hns := I.toInCall.ns
  have hB1 : (B1 w).In h₁ := hB.full hk1
  have tb1 : TabOk h₁ := hTb.full hk1
  obtain ⟨kind, kn, ka, ki, kl, kx⟩ := g4_9 L
  refine wpAny_mono (Q := fun fl s' => Q (match fl with | .ret v => v | _ => .none) s') (E := fun _ _ => False) ?_ (fun fl s' h => h) (fun _ _ h => h.elim)
  rw [b4]
  refine wpAny_execs_cons ?_
  show wpAny (model pw w) A' (exec as4 (env4 L)) _ _ _
  refine wpAny_Assign_Name (wpAny_BinOp (List_ (spl_cons (wpAny_Constant_int (spl_nil (wpAny_newObj_type ?_ ?_))) rfl))) rfl
  rotate_left
  · show (1 : Nat) ≤ sizeLine; rw [sizeLine_eq]; omega
  refine wpAny_BinOp (wpAny_BinOp (wpAny_BinOp (MethodCall_ (wpAny_Name (wpAny_loadName_local kind kx (hns.keeps fun b o e => Heap.get?_push_of_some _ e) v4 (getMethod_int_bit_length (callWith_method0 (call_int_bit_length ?_)))) (by kernel_rfl)) rfl)))
  have kpn : ∀ (o' : Obj) b o, h₁.get? b = some o → (h₁.push o').get? b = some o := fun o' b o e => Heap.get?_push_of_some _ e
  have hfd : ((Builtin.Int.intBits x : Int) + n - 1).fdiv n = (nd x n : Int) := by
    rw [Int.fdiv_eq_ediv_of_nonneg _ (by omega)]
    unfold nd
    rw [Int.natCast_ediv, Int.ofNat_sub (by omega), Int.natCast_add]; rfl
  refine wpAny_Name (wpAny_loadName_cell kind kn k1 (c1.keeps (kpn _)) (P.add_int ?_)) (by kernel_rfl)
  refine wpAny_Constant_int (P.sub_int ?_)
  refine wpAny_Name (wpAny_loadName_cell kind kn k1 (c1.keeps (kpn _)) (floordiv_int (by omega) ?_ (.inl (nopy (n := 21) (by omega) ?_ (by omega))))) (by kernel_rfl)
  rotate_left
  · have : (2 : Int) ^ 21 = 2097152 := by decide
    have : (2 : Nat) ^ 20 = 1048576 := by decide
    omega
  rw [hfd]
  refine mulL (vs := [.int 0 _]) ⟨_, Heap.get?_push_size _ rfl, rfl, 0, rfl⟩ (by omega) (by omega) ?_ ?_
  · rw [Int.toNat_natCast, List.length_singleton]; omega
  rw [Int.toNat_natCast]
  generalize hh2 : h₁.push _ = h₂
  have kp2 : ∀ b o, h₁.get? b = some o → h₂.get? b = some o := fun b o e => hh2 ▸ kpn _ b o e
  have c1b := c1.keeps kp2
  have c2b := c2.keeps kp2
  have c3b := c3.keeps kp2
  have tb2 : TabOk h₂ := tb1.full kp2
  obtain ⟨la, hla⟩ : ∃ la, h₂.objs.size = la := ⟨_, rfl⟩
  rw [hla]
  generalize hZ : (List.replicate (nd x n) [_]).flatten = Z
  have hZr : ∀ Y h, Reps Y h Z ((List.replicate (nd x n) (0 : Int)).map .int) := fun Y h => by
    have := (Reps.cons (.int 0 (t₁ : Tok)) (Reps.nil (X := Y) (h := h))).rep (nd x n)
    rw [← hZ, List.map_replicate]
    rw [List.flatten_replicate_singleton (a := D.int 0)] at this
    exact this
  have kp3 : ∀ b o, h₂.get? b = some o → (h₂.push (lob Z 0)).get? b = some o := fun b o e => Heap.get?_push_of_some _ e
  refine wpAny_storeName_cell (s := { s with heap := h₂.push (lob Z 0), toks := _ }) kind ka k2 (c2b.keeps kp3) fun h₃ c2c hs3 => ?_
  dsimp only at hs3
  obtain ⟨n1, n2, n3, n4⟩ := adr4_1 L
  obtain ⟨n5, n6⟩ := adr4_2 L
  have tb3 : TabOk h₃ := tab_cell (tb2.full kp3) (c2b.keeps kp3) hs3
  have c1c := (c1b.keeps kp3).sameBut hs3 n3
  have c3c := (c3b.keeps kp3).sameBut hs3 n4
  have laL : la ≠ L + 1 + 1 := fun z => by have := c2b.lt; rw [hla, z] at this; exact Nat.lt_irrefl _ this
  have laL3 : la ≠ L + 1 + 1 + 1 := fun z => by have := c3b.lt; rw [hla, z] at this; exact Nat.lt_irrefl _ this
  have laO : h₃.get? la = some (lob Z 0) := (hs3.2 la laL).trans (by rw [← hla]; exact Heap.get?_push_size _ rfl)
  have hs0 : ∀ b o, s.heap.get? b = some o → h₃.get? b = some o := fun b o e => (hs3.2 b fun z => by
    have h1 := Heap.lt_size e
    rw [z, hL] at h1
    exact n6 h1).trans (kp3 _ _ (kp2 _ _ (hk1 _ _ e)))
  have hns3 := ((hns.keeps kp2).keeps kp3).sameBut hs3 (show L ≠ L + 1 + 1 from by omega)
  have hB3 : (B1 w).In h₃ := hB.full hs0
  have laX : la ∉ X := fun q => by
    obtain ⟨_, o, e⟩ := hX la q
    have := Heap.lt_size (kp2 _ _ (hk1 _ _ e))
    rw [hla] at this; exact Nat.lt_irrefl _ this
  have laT : la ∉ TT := tb3.ne laO (.inl nofun)
  have laS : s.heap.get? la = none := by
    cases e : s.heap.get? la with
    | none => rfl
    | some o => have := Heap.lt_size (kp2 _ _ (hk1 _ _ e)); rw [hla] at this; exact absurd this (Nat.lt_irrefl _)
  refine wpAny_execs_cons ?_
  rw [in4_is]
  refine exec_inner (P := 30) (c := 34) (qual := qI) hB3 tb3 (by decide) ?ht ?hto (g4_10 L) (codeHd34 hB3) (g4_11 L) (g4_15 L).1 (g4_12 L) g4_14.1 g4_14.2 (g4_13 L) kind ki k3 c3c ?_
  case ht => rw [pos4.1, pos4.2]; exact tb3.a
  case hto =>
    rw [pos4.1, pos4.2]
    intro h' hx hp ht
    exact ⟨ht, tb3.b.ext hp (by decide) hx⟩
  intro f c' ctv doc h₄ t₄ kB tb4 hf fO cr c3d
  have c1d := Heap.IsCell.kpB c1c tb3 n1 kB
  have c2d := Heap.IsCell.kpB c2c tb3 n2 kB
  have laO4 : h₄.get? la = some (lob Z 0) := kB la _ (fun m => laL3 (List.mem_singleton.mp m)) (.inl laT) laO
  have hlo : ∀ b o, s.heap.get? b = some o → Fix b o → h₄.get? b = some o := fun b o e fx => kB b o (fun m => by
    rw [List.mem_singleton] at m
    have h1 := Heap.lt_size e
    rw [m, hL] at h1
    exact n5 h1) fx (hs0 b o e)
  have kp : Kp s.heap h₄ := ⟨fun b o fx e => hlo b o e fx, fun _ => tb4⟩
  have hB4 : (B1 w).In h₄ := hB.keep kp
  have hns4 := ns_kpB hns3 tb3 kB (fun m => by rw [List.mem_singleton] at m; exact absurd (show L = L + 1 + 1 + 1 from m) (by omega))
  refine rest4 (s := s) hx hn0 hz hll hn hh' (by omega) (by omega) (fun y hy => ⟨(hX y hy).1, ?_⟩) kp tb4 hB4 hns4 v4 c1d c2d c3d fO cr laO4 laX ?_ laS hZr hQ
  · obtain ⟨o, e⟩ := (hX y hy).2
    exact ⟨o, hlo y o e (.inl (hX y hy).1)⟩
  · cases e : (B1 w).K.lookup la with
    | none => rfl
    | some o => have := hB.K _ _ e; rw [laS] at this; cases this
end
end Mine
-- part T10
set_option maxHeartbeats 0
namespace Mine
noncomputable section
theorem exact_bits {b : Int} (h : 0 < b) : exactBits b (Builtin.Int.intBits b) := by
  refine ⟨?_, lt_bits (by omega), h⟩
  unfold Builtin.Int.intBits
  have h0 : b.natAbs ≠ 0 := by omega
  rw [if_neg (by simpa using h0)]
  have h1 := Nat.log2_self_le h0
  have h2 : ((2 ^ b.natAbs.log2 : Nat) : Int) ≤ ((b.natAbs : Nat) : Int) := Int.ofNat_le.mpr h1
  push_cast at h2
  rw [Int.pow_succ]
  omega
theorem nd_le {x : Int} {n m : Nat} (h0 : 0 ≤ x) (hn : 0 < n) (h : x < 2 ^ (m * n)) : nd x n ≤ m := by
  have h1 := bits_le h0 h
  unfold nd
  rcases Nat.eq_zero_or_pos m with rfl | hm
  · have : Builtin.Int.intBits x = 0 := by omega
    rw [this]
    exact Nat.le_of_eq (Nat.div_eq_of_lt (by omega))
  · have : (Builtin.Int.intBits x + n - 1) / n < m + 1 := by
      rw [Nat.div_lt_iff_lt_mul hn, Nat.add_mul]; omega
    omega
/-- what stands behind the digits read from the top -/
def tops (n : Nat) (ds : List Int) (j : Nat) : Int := dval n ((ds.reverse.take j).reverse)
theorem tops_succ {n : Nat} {ds : List Int} {j : Nat} {d : Int} (h : ds.reverse[j]? = some d) : tops n ds (j + 1) = tops n ds j * 2 ^ n + d := by
  unfold tops
  have hj : j < ds.reverse.length := by
    have := List.getElem?_eq_some_iff.mp h
    exact this.1
  have hd : ds.reverse[j] = d := by
    have := List.getElem?_eq_some_iff.mp h
    exact this.2
  rw [List.take_succ_eq_append_getElem hj, List.reverse_append, hd]
  simp only [List.reverse_cons, List.reverse_nil, List.nil_append, List.singleton_append, dval]
  grind
theorem tops_step {V b P d : Int} (hb : 0 < b) (hP : 0 < P) : (V * P + d) / b = V / b * P + (V % b * P + d) / b ∧ (V * P + d) % b = (V % b * P + d) % b := by
  have e := Int.emod_add_mul_ediv V b
  have : V * P + d = (V % b * P + d) + b * (V / b * P) := by
    have : V * P = (V % b + b * (V / b)) * P := by rw [e]
    grind
  rw [this]
  constructor
  · rw [Int.add_mul_ediv_left _ _ (by omega)]; omega
  · rw [Int.add_mul_emod_self_left]
theorem f_divmod_pos {w : World} {a b : Int} (ha : 0 ≤ a) (hb : 0 < b) (hn : Builtin.Int.intBits b ≤ 7998) (hab : a < 2 ^ (32 * Builtin.Int.intBits b)) : Fn (B1 w) 49 8 [.int a, .int b] (dm a b) := by
  have hex := exact_bits hb
  generalize hnn : Builtin.Int.intBits b = n at *
  have hn0 : 0 < n := by
    rcases Nat.eq_zero_or_pos n with rfl | h
    · obtain ⟨h1, h2, h3⟩ := hex
      have : (2 : Int) ^ 0 = 1 := rfl
      omega
    · exact h
  have hm := nd_le ha hn0 hab
  have hba := bits_le ha hab
  obtain ⟨m, hmm⟩ : ∃ m, nd a n = m := ⟨_, rfl⟩
  have hnm : n * m ≤ n * 32 := Nat.mul_le_mul_left _ (by omega)
  have hlt := lt_nd ha hn0
  rw [hmm] at hm hlt
  obtain ⟨ds, hds⟩ : ∃ ds, digs n a m = ds := ⟨_, rfl⟩
  have hdl : ds.length = m := by rw [← hds, digs_length]
  have hdr : ∀ d ∈ ds, 0 ≤ d ∧ d < 2 ^ n := by rw [← hds]; exact digs_range n m a
  have hp := two_pow_pos n
  refine fn_divmod_pos rfl fun C I hd hu => ?_
  have W := I.W
  have F1 : Fn (B1 w) 35 7 [.int a, .int n] (.lst (ds.map .int)) := by
    have := f_int2digits (w := w) ha hn0 (by rw [hmm]; omega) (by rw [hmm]; exact hm) (by omega) (by omega)
    rw [hmm, hds] at this; exact this
  refine exs_assign (d := .int n) W 2 (nx_divmod_pos_n I) (ev_conv (ev_bitlen (ev_name W 1 (nx_divmod_pos_b I) rfl)) (by rw [hnn])) ?_
  refine exs_assign (d := .lst (ds.map .int)) W 3 (nx_divmod_pos_a_digits I) (ev_def W I.B (kn_divmod_pos_int2digits I) (mg_int2digits I.B) (g4_1 w) rfl (evs_cons (ev_name W 0 (nx_divmod_pos_a I) rfl) (evs_cons (ev_name W 2 (nx_divmod_pos_n I) rfl) evs_nil)) F1 hd hu) ?_
  refine exs_assign (d := .int 0) W 4 (nx_divmod_pos_r I) ev_int ?_
  refine exs_cons (ex_own W 5 (nx_divmod_pos_q_digits I) evs_nil rfl fun qa _ => ?_)
  let V := tops n ds
  refine exs_cons (ex_for W (ds := (ds.map .int).reverse) 6 (nx_divmod_pos_a_digit I) (evIt_rev W (kn_divmod_pos_reversed I) (mg_reversed I.B) (mb_reversed I.B) (ev_name W 3 (nx_divmod_pos_a_digits I) rfl)) (fun j σ => ∃ (e1 e2 : Option D) (qs : List Int), σ = ⟨[some (.int a), some (.int b), some (.int n), some (.lst (ds.map .int)), some (.int (V j % b)), some (.obj qa), e1, e2, none], [(qa, qs.map .int)]⟩ ∧ qs.length = j ∧ (∀ q ∈ qs, 0 ≤ q ∧ q < 2 ^ n) ∧ dval n qs.reverse = V j / b) ?_ ?_ ?_)
  · refine ⟨none, none, [], ?_, rfl, fun q h => (nomatch h), ?_⟩
    · have : V 0 % b = 0 := by show dval n _ % b = 0; simp [dval]
      rw [this]; rfl
    · show dval n [] = dval n _ / b
      simp [dval]
  · rintro j d _ hj ⟨e1, e2, qs, rfl, h1, h2, h3⟩
    rw [← List.map_reverse, List.getElem?_map] at hj
    obtain ⟨d', hd', rfl⟩ : ∃ d', ds.reverse[j]? = some d' ∧ d = .int d' := by
      cases e : ds.reverse[j]? with
      | none => rw [e] at hj; cases hj
      | some x => rw [e] at hj; cases hj; exact ⟨_, rfl, rfl⟩
    have hjl : j < ds.length := by
      have := (List.getElem?_eq_some_iff.mp hd').1
      simpa using this
    obtain ⟨d0, d1⟩ := hdr d' (List.mem_reverse.mp (List.mem_of_getElem? hd'))
    have r0 := Int.emod_nonneg (V j) (b := b) (by omega)
    have r1 := Int.emod_lt_of_pos (V j) hb
    have hA0 : 0 ≤ V j % b * 2 ^ n + d' := by have := Int.mul_nonneg r0 (Int.le_of_lt hp); omega
    have hA1 : V j % b * 2 ^ n + d' < b * 2 ^ n := by
      have : V j % b * 2 ^ n ≤ (b - 1) * 2 ^ n := Int.mul_le_mul_of_nonneg_right (by omega) (Int.le_of_lt hp)
      grind
    have hbr := bits_le r0 (m := n) (by have := hex.2.1; omega)
    have F2 := f_div2n1n (w := w) hex hA0 hA1 hn
    refine exs_tuple (is := [7, 4]) (ds := [.int ((V j % b * 2 ^ n + d') / b), .int ((V j % b * 2 ^ n + d') % b)]) W (.cons 7 (nx_divmod_pos_q_digit I) (.cons 4 (nx_divmod_pos_r I) .nil)) (ev_def W I.B (kn_divmod_pos_div2n1n I) (mg_div2n1n I.B) (s1_div2n1n w) rfl (evs_cons (ev_add (ev_shl' (ev_name W 4 (nx_divmod_pos_r I) rfl) (ev_name W 2 (nx_divmod_pos_n I) rfl) (by omega)) (ev_name W 6 (nx_divmod_pos_a_digit I) rfl)) (evs_cons (ev_name W 1 (nx_divmod_pos_b I) rfl) (evs_cons (ev_name W 2 (nx_divmod_pos_n I) rfl) evs_nil))) (F2.le (by omega)) hd hu) rfl ?_
    refine exs_cons (ex_append (ds := qs.map .int) (d := .int ((V j % b * 2 ^ n + d') / b)) W 5 (nx_divmod_pos_q_digits I) rfl (ev_name W 7 (nx_divmod_pos_q_digit I) rfl) .here (by rw [List.length_map]; omega) ?_ (hi := ?_))
    · refine exs_nil ?_
      obtain ⟨s1, s2⟩ := tops_step (V := V j) (d := d') hb hp
      have hV : V (j + 1) = V j * 2 ^ n + d' := tops_succ hd'
      have q0 : 0 ≤ (V j % b * 2 ^ n + d') / b := Int.ediv_nonneg hA0 (by omega)
      have q1 : (V j % b * 2 ^ n + d') / b < 2 ^ n := Int.ediv_lt_of_lt_mul hb (by rw [Int.mul_comm (2 ^ n) b]; exact hA1)
      refine ⟨some (.int d'), some (.int ((V j % b * 2 ^ n + d') / b)), qs ++ [(V j % b * 2 ^ n + d') / b], ?_, by simp [h1], ?_, ?_⟩
      · rw [hV, s2, List.map_append]; rfl
      · intro q hq
        rcases List.mem_append.mp hq with hq | hq
        · exact h2 q hq
        · rw [List.mem_singleton] at hq; subst hq; exact ⟨q0, q1⟩
      · rw [hV, s1, List.reverse_append]
        show (V j % b * 2 ^ n + d') / b + 2 ^ n * dval n qs.reverse = _
        rw [h3]; grind
    · obtain ⟨L, e⟩ := I.E; rw [e]; kernel_rfl
  · rintro _ ⟨e1, e2, qs, rfl, h1, h2, h3⟩
    have hlen : ((ds.map D.int).reverse).length = m := by rw [List.length_reverse, List.length_map, hdl]
    rw [hlen] at h1 h3 ⊢
    have hVm : V m = a := by
      show dval n _ = a
      rw [List.take_of_length_le (by rw [List.length_reverse]; omega), List.reverse_reverse, ← hds, dval_digs, Int.emod_eq_of_lt ha hlt]
    rw [hVm] at h3 ⊢
    have F3 := f_digits2int (w := w) (l := qs.reverse) (n := n) (fun d hd => h2 d (List.mem_reverse.mp hd)) (by rw [List.length_reverse, h1]; omega) (by rw [List.length_reverse, h1]; exact hm) (by omega)
    rw [h3] at F3
    refine exs_cons (ex_reverse W 5 (nx_divmod_pos_q_digits I) rfl .here (by rw [List.length_map]; omega) ?_ (hi := ?_))
    · refine exs_freeze W 5 rfl ?_
      refine exs_assign (d := .int (a / b)) W 8 (nx_divmod_pos_q I) (ev_def W I.B (kn_divmod_pos_digits2int I) (mg_digits2int I.B) (g5_1 w) rfl (evs_cons (ev_name W 5 (nx_divmod_pos_q_digits I) rfl) (evs_cons (ev_name W 2 (nx_divmod_pos_n I) rfl) evs_nil)) (List.map_reverse (f := D.int) (l := qs) ▸ F3) hd hu) ?_
      exact exs_ret (d := dm a b) (ev_tuple W (evs_cons (ev_name W 8 (nx_divmod_pos_q I) rfl) (evs_cons (ev_name W 4 (nx_divmod_pos_r I) rfl) evs_nil))) (.inl rfl)
    · obtain ⟨L, e⟩ := I.E; rw [e]; kernel_rfl
end
end Mine
-- part T11
set_option maxHeartbeats 0
namespace Mine
noncomputable section
abbrev fdm (a b : Int) : D := .tup [.int (a.fdiv b), .int (a.fmod b)]
theorem bitNot_is (x : Int) : Builtin.bitNot x = -x - 1 := by
  unfold Builtin.bitNot
  omega
theorem fdm_pos {a b : Int} (ha : 0 ≤ a) (hb : 0 < b) : dm a b = fdm a b := by
  unfold dm fdm
  rw [Int.fdiv_eq_ediv_of_nonneg _ (Int.le_of_lt hb), Int.fmod_eq_emod_of_nonneg _ (Int.le_of_lt hb)]
theorem fdm_neg {a b : Int} (hb : 0 < b) : -((-a - 1) / b) - 1 = a.fdiv b ∧ b + (-((-a - 1) % b) - 1) = a.fmod b := by
  rw [Int.fdiv_eq_ediv_of_nonneg _ (Int.le_of_lt hb), Int.fmod_eq_emod_of_nonneg _ (Int.le_of_lt hb)]
  have h1 := Int.emod_add_mul_ediv (-a - 1) b
  have h2 := Int.emod_nonneg (-a - 1) (b := b) (by omega)
  have h3 := Int.emod_lt_of_pos (-a - 1) hb
  obtain ⟨z1, z2⟩ := dm_of (A := a) (b := b) (q := -((-a - 1) / b) - 1) (r := b + (-((-a - 1) % b) - 1)) (by grind) (by omega) (by omega)
  exact ⟨z1.symm, z2.symm⟩
theorem f_int_divmod_pos {w : World} {a b : Int} (ha : 0 ≤ a) (hb : 0 < b) (hn : Builtin.Int.intBits b ≤ 7998) (hab : a < 2 ^ (32 * Builtin.Int.intBits b)) : Fn (B1 w) 56 9 [.int a, .int b] (fdm a b) := by
  rw [← fdm_pos ha hb]
  refine fn_int_divmod rfl fun C I hd hu => ?_
  have W := I.W
  refine exs_if (ts_cmp (ev_name W 1 (nx_int_divmod_b I) rfl) ev_int co_eq) (fun q => absurd q (by simp; omega)) (fun _ => ?_)
  refine exs_if (ts_cmp (ev_name W 1 (nx_int_divmod_b I) rfl) ev_int co_lt) (fun q => absurd q (by simp; omega)) (fun _ => ?_)
  refine exs_if (ts_cmp (ev_name W 0 (nx_int_divmod_a I) rfl) ev_int co_lt) (fun q => absurd q (by simp; omega)) (fun _ => ?_)
  exact exs_ret (d := dm a b) (ev_def W I.B (kn_int_divmod_divmod_pos I) (mg_divmod_pos I.B) (s1_divmod_pos w) rfl (evs_cons (ev_name W 0 (nx_int_divmod_a I) rfl) (evs_cons (ev_name W 1 (nx_int_divmod_b I) rfl) evs_nil)) (f_divmod_pos ha hb hn hab) hd hu) (.inl rfl)
theorem f_int_divmod_b {w : World} {a b : Int} (hb : 0 < b) (hn : Builtin.Int.intBits b ≤ 7998) (h1 : a < 2 ^ (32 * Builtin.Int.intBits b)) (h2 : -a ≤ 2 ^ (32 * Builtin.Int.intBits b)) : Fn (B1 w) 56 10 [.int a, .int b] (fdm a b) := by
  by_cases ha : 0 ≤ a
  · exact (f_int_divmod_pos ha hb hn h1).le (by omega)
  obtain ⟨z1, z2⟩ := fdm_neg (a := a) hb
  have F := f_int_divmod_pos (w := w) (a := -a - 1) (b := b) (by omega) hb hn (by omega)
  rw [← fdm_pos (by omega) hb] at F
  refine fn_int_divmod rfl fun C I hd hu => ?_
  have W := I.W
  refine exs_if (ts_cmp (ev_name W 1 (nx_int_divmod_b I) rfl) ev_int co_eq) (fun q => absurd q (by simp; omega)) (fun _ => ?_)
  refine exs_if (ts_cmp (ev_name W 1 (nx_int_divmod_b I) rfl) ev_int co_lt) (fun q => absurd q (by simp; omega)) (fun _ => ?_)
  refine exs_if (ts_cmp (ev_name W 0 (nx_int_divmod_a I) rfl) ev_int co_lt) (fun _ => ?_) (fun q => absurd q (by simp; omega))
  refine exs_tuple (is := [2, 3]) (ds := [.int ((-a - 1) / b), .int ((-a - 1) % b)]) W (.cons 2 (nx_int_divmod_q I) (.cons 3 (nx_int_divmod_r I) .nil)) (ev_def W I.B (kn_int_divmod_int_divmod I) (mg_int_divmod I.B) (s1_int_divmod w) rfl (evs_cons (ev_conv (ev_inv (ev_name W 0 (nx_int_divmod_a I) rfl)) (by rw [bitNot_is])) (evs_cons (ev_name W 1 (nx_int_divmod_b I) rfl) evs_nil)) F hd hu) rfl ?_
  refine exs_ret (d := fdm a b) (ev_conv (ev_tuple W (evs_cons (ev_inv (ev_name W 2 (nx_int_divmod_q I) rfl)) (evs_cons (ev_add (ev_name W 1 (nx_int_divmod_b I) rfl) (ev_inv (ev_name W 3 (nx_int_divmod_r I) rfl))) evs_nil))) ?_) (.inl rfl)
  rw [bitNot_is, bitNot_is, z1, z2]
theorem f_int_divmod {w : World} {a b : Int} (hb : b ≠ 0) (hn : Builtin.Int.intBits b ≤ 7998) (h : a.natAbs < 2 ^ (32 * Builtin.Int.intBits b)) : Fn (B1 w) 56 11 [.int a, .int b] (fdm a b) := by
  have h' : ((a.natAbs : Nat) : Int) < ((2 ^ (32 * Builtin.Int.intBits b) : Nat) : Int) := Int.ofNat_lt.mpr h
  rw [Int.natCast_pow] at h'
  have h2 : ((2 : Nat) : Int) ^ (32 * Builtin.Int.intBits b) = 2 ^ (32 * Builtin.Int.intBits b) := rfl
  rw [h2] at h'
  rcases Int.lt_or_lt_of_ne hb with hb' | hb'
  · have e : Builtin.Int.intBits (-b) = Builtin.Int.intBits b := by unfold Builtin.Int.intBits; simp
    have F := f_int_divmod_b (w := w) (a := -a) (b := -b) (by omega) (by rw [e]; exact hn) (by rw [e]; omega) (by rw [e]; omega)
    refine fn_int_divmod rfl fun C I hd hu => ?_
    have W := I.W
    refine exs_if (ts_cmp (ev_name W 1 (nx_int_divmod_b I) rfl) ev_int co_eq) (fun q => absurd q (by simp; omega)) (fun _ => ?_)
    refine exs_if (ts_cmp (ev_name W 1 (nx_int_divmod_b I) rfl) ev_int co_lt) (fun _ => ?_) (fun q => absurd q (by simp; omega))
    refine exs_tuple (is := [2, 3]) (ds := [.int ((-a).fdiv (-b)), .int ((-a).fmod (-b))]) W (.cons 2 (nx_int_divmod_q I) (.cons 3 (nx_int_divmod_r I) .nil)) (ev_def W I.B (kn_int_divmod_int_divmod I) (mg_int_divmod I.B) (s1_int_divmod w) rfl (evs_cons (ev_neg (ev_name W 0 (nx_int_divmod_a I) rfl)) (evs_cons (ev_neg (ev_name W 1 (nx_int_divmod_b I) rfl)) evs_nil)) F hd hu) rfl ?_
    refine exs_ret (d := fdm a b) (ev_conv (ev_tuple W (evs_cons (ev_name W 2 (nx_int_divmod_q I) rfl) (evs_cons (ev_neg (ev_name W 3 (nx_int_divmod_r I) rfl)) evs_nil))) ?_) (.inl rfl)
    have h5 := Int.mul_fdiv_add_fmod (-a) (-b)
    have h6 := Int.mul_fdiv_add_fmod a b
    have h7 : (-a).fdiv (-b) = a.fdiv b := Int.neg_fdiv_neg a b
    rw [h7] at h5 ⊢
    have h8 : -((-a).fmod (-b)) = a.fmod b := by grind
    rw [h8]
  · exact (f_int_divmod_b hb' hn (by omega) (by omega)).le (by omega)
end
end Mine
-- part T12
set_option maxHeartbeats 0
namespace Mine
noncomputable section
def setO (P : Params) : Obj := o64_10 P
def setEs : List (Int × Value) := [(65024, .int 65024 287), (65025, .int 65025 288), (65026, .int 65026 289), (65027, .int 65027 290), (65028, .int 65028 291), (65029, .int 65029 292), (6150, .int 6150 273), (65030, .int 65030 293), (65031, .int 65031 294), (65032, .int 65032 295), (65033, .int 65033 296), (6155, .int 6155 274), (6156, .int 6156 275), (6157, .int 6157 276), (8203, .int 8203 277), (8204, .int 8204 278), (8205, .int 8205 279), (65034, .int 65034 297), (65035, .int 65035 298), (65036, .int 65036 299), (65037, .int 65037 300), (65038, .int 65038 301), (65039, .int 65039 302), (173, .int 173 271), (847, .int 847 272), (8288, .int 8288 280), (65279, .int 65279 281)]
theorem set_lookup (w : World) : (B1 w).K.lookup 64 = some (setO w.params) := by kernel_rfl
theorem set_chk : (setEs.all fun e => match e.2 with | .int k _ => e.1 == hashInt k | _ => false) = true := by kernel_rfl
theorem set_scan : (setEs.all fun e => e.2.scannable) = true := by kernel_rfl
def inB1 (c : Nat) : Bool := setEs.any fun e => Value.isInt c e.2
theorem set_of (w : World) : ∀ h, (B1 w).In h → h.SetOf (intKind (B1 w).prog (B1 w).w) 64 (fun k => setEs.any fun e => Value.isInt k e.2) 27 := fun h hB => by
  refine ⟨setO w.params, ⟨setEs⟩, 29, _, hB.K _ _ (set_lookup w), ⟨rfl, rfl, rfl⟩, rfl, fun e he => ?_, fun k => ?_, by decide +kernel, by kernel_rfl, rfl⟩
  · have h1 := List.all_eq_true.mp set_chk e he
    have h2 := List.all_eq_true.mp set_scan e he
    refine ⟨?_, h2⟩
    split at h1
    · rename_i k t hk
      exact ⟨k, by rw [hk]; simp [intKind, Value.isInt], eq_of_beq h1⟩
    · cases h1
  · exact List.any_eq_true
theorem dic_lookup (w : World) : (B1 w).K.lookup 75 = some obD := by kernel_rfl
theorem dic_chk : ((esTo 38).all fun e => match e.key with | .int k _ => e.hash == hashInt k | _ => false) = true := by kernel_rfl
theorem dic_val : ((esTo 38).all fun e => match e.val with | .str x _ => Nat.ble x.cps.toList.length 8 | _ => false) = true := by kernel_rfl
def b3v (k : Int) : Option Value := findBy Value.isInt ⟨esTo 38⟩ k
theorem dic_of (w : World) : ∀ h, (B1 w).In h → h.MapOf (intKind (B1 w).prog (B1 w).w) 75 b3v := fun h hB => by
  refine ⟨obD, ⟨esTo 38⟩, 650, hB.K _ _ (dic_lookup w), ⟨rfl, rfl, rfl⟩, rfl, fun e he => ?_, fun k => rfl⟩
  have h1 := List.all_eq_true.mp dic_chk e (by simpa using he)
  split at h1
  · rename_i k t hk
    exact ⟨k, by rw [hk]; simp [intKind, Value.isInt], eq_of_beq h1⟩
  · cases h1
theorem b3v_str {k : Int} {v : Value} (h : b3v k = some v) : ∃ x t, v = .str x t ∧ x.cps.toList.length ≤ 8 := by
  unfold b3v findBy at h
  cases e : (⟨esTo 38⟩ : Array DictEntry).find? fun e => Value.isInt k e.key with
  | none => rw [e] at h; cases h
  | some en =>
    rw [e] at h
    have hm := Array.mem_of_find?_eq_some e
    have h1 := List.all_eq_true.mp dic_val en (by simpa using hm)
    cases h
    show ∃ x t, en.val = .str x t ∧ _
    split at h1
    · rename_i x t hv
      exact ⟨x, t, hv, Nat.le_of_ble_eq_true h1⟩
    · cases h1
def b3 (c : Nat) : List Nat := match b3v c with
  | some (.str x _) => x.cps.toList
  | _ => (Txt.lower (c1 c)).cps.toList
theorem b3_len (c : Nat) : (b3 c).length ≤ 8 := by
  unfold b3
  split
  · rename_i x t h
    obtain ⟨y, u, e, hl⟩ := b3v_str h
    cases e; exact hl
  · have := fact_lower (c1 c)
    have h2 : (Txt.lower (c1 c)).cps.toList.length = (Txt.lower (c1 c)).length := by simp [PySem.Str.length]
    have h3 : (c1 c).length = 1 := rfl
    rw [h2]; omega
theorem f_in_b1 {w : World} (c : Nat) : Fn (B1 w) 74 1 [.str (c1 c)] (.bool (inB1 c)) := by
  refine fn_in_table_b1 rfl fun C I hd hu => ?_
  have W := I.W
  refine exs_ret (d := .bool (inB1 c)) (ev_cmp (ev_ord W (kn_in_table_b1_ord I) (mg_ord I.B) (mb_ord I.B) (ev_name W 0 (nx_in_table_b1_code I) rfl)) (ev_gref W (kn_in_table_b1_b1_set I) (mg_b1_set I.B)) (co_inset (n := 27) (S := fun k => setEs.any fun e => Value.isInt k e.2) W (by rw [I.B]; exact set_of w))) (.inl rfl)
theorem f_map_b3 {w : World} (c : Nat) : Fn (B1 w) 120 1 [.str (c1 c)] (.str ⟨⟨b3 c⟩⟩) := by
  refine fn_map_table_b3 rfl fun C I hd hu => ?_
  have W := I.W
  have hget : ∀ r, (∀ X h, Rep X h ((b3v c).getD .none) r) → Ev C ⟨[some (.str (c1 c)), none], []⟩ (aV ((fdB (stAt 12)).headD default)) r := fun r hr =>
    ev_dict_get W (ev_gref W (kn_map_table_b3_b3_exceptions I) (mg_b3_exceptions I.B)) (ev_ord W (kn_map_table_b3_ord I) (mg_ord I.B) (mb_ord I.B) (ev_name W 0 (nx_map_table_b3_code I) rfl)) rfl (by rw [I.B]; exact dic_of w) hr
  cases e : b3v c with
  | some v =>
    obtain ⟨x, t, rfl, hl⟩ := b3v_str e
    have hb : (⟨⟨b3 c⟩⟩ : PySem.Str) = x := by unfold b3; rw [e]
    rw [hb]
    refine exs_assign (d := .str x) W 1 (nx_map_table_b3_r I) (hget _ (by rw [e]; exact fun _ _ => .str _ _)) ?_
    refine exs_if_leave (ts_cmp (ev_name W 1 (nx_map_table_b3_r I) rfl) ev_none co_isnot_str) (fun _ => ?_) (fun q => nomatch q)
    exact exs_ret (d := .str x) (ev_name W 1 (nx_map_table_b3_r I) rfl) (.inl rfl)
  | none =>
    have hb : (⟨⟨b3 c⟩⟩ : PySem.Str) = Txt.lower (c1 c) := by unfold b3; rw [e]
    rw [hb]
    refine exs_assign (d := .none) W 1 (nx_map_table_b3_r I) (hget _ (by rw [e]; exact fun _ _ => .none)) ?_
    refine exs_if_leave (ts_cmp (ev_name W 1 (nx_map_table_b3_r I) rfl) ev_none co_isnot_none) (fun q => nomatch q) (fun _ => ?_)
    refine exs_ret (d := .str (Txt.lower (c1 c))) (ev_lower (ev_name W 0 (nx_map_table_b3_code I) rfl) ?_) (.inl rfl)
    have := fact_lower (c1 c)
    have h3 : (c1 c).length = 1 := rfl
    show decide (_ > sizeLine) = false
    unfold sizeLine
    exact decide_eq_false (by rw [h3] at this; have : (2 : Nat) ^ 24 = 16777216 := by decide
                              omega)
/-- what a text is folded to -/
def prep (l : List Nat) : List Nat := (l.filter fun c => !inB1 c).flatMap b3
theorem join_flat : ∀ ts : List PySem.Str, (PySem.Str.join ⟨#[]⟩ ts).cps.toList = ts.flatMap fun t => t.cps.toList
  | [] => rfl
  | t :: ts => by
    rw [join_nil_cons, List.flatMap_cons, ← join_flat ts]
    show (t.cps ++ _).toList = _
    simp
def hd1 : D → Nat
  | .str x => x.cps.toList.headD 0
  | _ => 0
def lcS : Expr → Scope
  | .Call _ (.ListComp _ _ s _ :: _) _ _ => s
  | .ListComp _ _ s _ => s
  | _ => default
def retE : Stmt → Expr
  | .Return (some e) _ => e
  | _ => default
def scP : Scope := lcS (retE ((fdB (stAt 14)).headD (.Pass default)))
theorem scP_1 (L : Addr) : closureFor scP (callEnv fd_law_prepared L 125) = pure [] := by kernel_rfl
theorem scP_2 : ∀ y ∈ scP.names, y.2 ≠ .cell := by decide +kernel
theorem scP_3 : scP.kind = .function := by kernel_rfl
theorem scP_4 : ∀ y ∈ scP.names, y.2 = .local → scP.names.lookup y.1 = some .local := by decide +kernel
theorem scP_5 : scP.names.lookup (S "sign") = some .local := by kernel_rfl
theorem scP_6 (L L' : Addr) : (compEnvC scP [] L (callEnv fd_law_prepared L' 125)).kindOf (S "map_table_b3") = some .globalImplicit ∧ (compEnvC scP [] L (callEnv fd_law_prepared L' 125)).kindOf (S "in_table_b1") = some .globalImplicit := ⟨by kernel_rfl, by kernel_rfl⟩
theorem f_prep {w : World} (x : PySem.Str) (hx : x.cps.toList.length ≤ 10000) : Fn (B1 w) 125 2 [.str x] (.str ⟨⟨prep x.cps.toList⟩⟩) := by
  refine fn_law_prepared rfl fun C I hd hu => ?_
  have W := I.W
  have hB := I.B
  obtain ⟨L', eE⟩ := I.E
  have kn : ∀ h₀ X L, (compCx C scP h₀ X L (S "sign")).env.kindOf (S "map_table_b3") = some .globalImplicit ∧ (compCx C scP h₀ X L (S "sign")).env.kindOf (S "in_table_b1") = some .globalImplicit := fun h₀ X L => by
    show (compEnvC scP [] L C.env).kindOf _ = _ ∧ (compEnvC scP [] L C.env).kindOf _ = _
    rw [eE]; exact scP_6 L L'
  obtain ⟨ts, hts⟩ : ∃ ts : List PySem.Str, ts = (x.cps.toList.filter fun c => !inB1 c).map fun c => ⟨⟨b3 c⟩⟩ := ⟨_, rfl⟩
  have hlen : ts.length ≤ 10000 := by rw [hts, List.length_map]; exact Nat.le_trans (List.length_filter_le _ _) hx
  have h8 : ∀ y ∈ ts, y.length ≤ 8 := fun y hy => by
    rw [hts] at hy
    obtain ⟨c, _, rfl⟩ := List.mem_map.mp hy
    have := b3_len c
    simpa [PySem.Str.length] using this
  have hjoin : Txt.join ⟨#[]⟩ ts = ⟨⟨prep x.cps.toList⟩⟩ := by
    have e1 : Txt.join ⟨#[]⟩ ts = PySem.Str.join ⟨#[]⟩ ts := eq_of_beq (join_closes rfl)
    rw [e1]
    have e2 := join_flat ts
    have e3 : ts.flatMap (fun t => t.cps.toList) = prep x.cps.toList := by
      rw [hts, List.flatMap_map]; rfl
    rw [e3] at e2
    generalize PySem.Str.join ⟨#[]⟩ ts = z at e2 ⊢
    obtain ⟨⟨l⟩⟩ := z
    exact congrArg (fun l => (⟨⟨l⟩⟩ : PySem.Str)) e2
  have e : Ev C ⟨[some (.str x)], []⟩ (retE ((fdB (stAt 14)).headD (.Pass default))) (.str (Txt.join ⟨#[]⟩ ts)) := by
    refine ev_join W ev_str (ev_listcomp (scope := scP) (x := S "sign") W (fun d => !inB1 (hd1 d)) (fun d => .str ⟨⟨b3 (hd1 d)⟩⟩) (evIt_str W (ev_name W 0 (nx_law_prepared_text I) rfl)) (by rw [eE]; exact scP_1 L') scP_2 scP_3 scP_4 scP_5 (by rw [List.length_map]; omega) (fun h₀ X L d ob W' hd' => ?_) (fun h₀ X L d ob W' hd' hp => ?_)) ?_ ?_
    · obtain ⟨c, _, rfl⟩ := List.mem_map.mp hd'
      exact tsC_one (ts_not (ts_val (ev_def W' hB (kn h₀ X L).2 (mg_in_table_b1 hB) (s1_in_table_b1 w) rfl (evs_cons (ev_name W' 0 rfl rfl) evs_nil) (f_in_b1 c) hd hu) tr_bool))
    · obtain ⟨c, _, rfl⟩ := List.mem_map.mp hd'
      exact ev_def W' hB (kn h₀ X L).1 (mg_map_table_b3 hB) (s1_map_table_b3 w) rfl (evs_cons (ev_name W' 0 rfl rfl) evs_nil) (f_map_b3 c) hd hu
    · have : ((x.cps.toList.map fun c => D.str ⟨⟨[c]⟩⟩).filter fun d => !inB1 (hd1 d)).map (fun d => D.str ⟨⟨b3 (hd1 d)⟩⟩) = ts.map .str := by
        rw [hts, List.filter_map, List.map_map, List.map_map]; rfl
      rw [this]; exact .lst _
    · unfold JoinOk
      rw [StrLaws.joinFits h8 (by show ts.length * 8 + ts.length * 0 ≤ _; omega)]; rfl
  refine exs_ret (d := .str ⟨⟨prep x.cps.toList⟩⟩) ?_ (.inl rfl)
  rw [← hjoin]; exact e
end
end Mine
-- part T13
set_option maxHeartbeats 0
namespace Mine
noncomputable section
abbrev sx (l : List Nat) : PySem.Str := ⟨⟨l⟩⟩
theorem sx_add (a b : List Nat) : sx a ++ sx b = sx (a ++ b) := by
  show (⟨_ ++ _⟩ : PySem.Str) = _
  simp [sx]
theorem sx_len (a : List Nat) : (sx a).length = a.length := by simp [PySem.Str.length]
theorem ev_adds' {C : Cx} {σ : St} {a b : Expr} {p : Pos} {x y : List Nat} (ha : Ev C σ a (.str (sx x))) (hb : Ev C σ b (.str (sx y))) (hz : (x ++ y).length ≤ 100000) : Ev C σ (.BinOp a .Add b p) (.str (sx (x ++ y))) :=
  ev_conv (ev_adds ha hb (by rw [sx_add, sx_len, sizeLine_eq]; omega)) (by rw [sx_add])
/-- the line of two counts -/
def stepUp (ons ups k : Nat) : Bool := decide (ups * (k + 1) / (ons + ups) > ups * k / (ons + ups))
def line (ons ups on up : Nat) : List Nat := (List.range (ons + ups)).map fun k => if stepUp ons ups k then up else on
theorem rangeD_get {a : Int} {n j : Nat} {d : D} (h : (rangeD a n)[j]? = some d) : j < n ∧ d = .int (a + j) := by
  have hj : j < n := by
    have := (List.getElem?_eq_some_iff.mp h).1
    simpa [rangeD] using this
  refine ⟨hj, ?_⟩
  simp only [rangeD, List.getElem?_map, List.getElem?_range hj] at h
  cases h; rfl
theorem rangeD_len (a : Int) (n : Nat) : (rangeD a n).length = n := by simp [rangeD]
theorem small_py {x y : Int} (h0 : 0 < y) (h1 : y ≤ 1000000) : Builtin.divisionGoesByPylong x y = false :=
  nopy (n := 21) h0 (by have : (2 : Int) ^ 21 = 2097152 := by decide
                        omega) (by omega)
def lineTo (ons ups on up j : Nat) : List Nat := (List.range j).map fun k => if stepUp ons ups k then up else on
theorem lineTo_succ (ons ups on up j : Nat) : lineTo ons ups on up (j + 1) = lineTo ons ups on up j ++ [if stepUp ons ups j then up else on] := by
  unfold lineTo; rw [List.range_succ, List.map_append]; rfl
theorem f_line {w : World} {ons ups on up : Nat} (h1 : ons ≤ 18) (h2 : ups ≤ 18) : Fn (B1 w) 132 1 [.int ons, .int ups, .str (c1 on), .str (c1 up)] (.str (sx (line ons ups on up))) := by
  refine fn_law_line rfl fun C I hd hu => ?_
  have W := I.W
  refine exs_assign (d := .int ((ons + ups : Nat) : Int)) W 4 (nx_law_line_whole I) (ev_conv (ev_add (ev_name W 0 (nx_law_line_ons I) rfl) (ev_name W 1 (nx_law_line_ups I) rfl)) (by rw [Int.natCast_add])) ?_
  refine exs_assign (d := .str (sx [])) W 5 (nx_law_line_word I) (ev_conv ev_str rfl) ?_
  refine exs_cons (ex_for W (ds := rangeD 0 ((ons + ups : Nat) : Int).toNat) 6 (nx_law_line_k I) (evIt_range1 W (kn_law_line_range I) (mg_range I.B) (mb_range I.B) (ev_name W 4 (nx_law_line_whole I) rfl) (by omega) (by omega)) (fun j σ => ∃ e : Option D, σ = ⟨[some (.int ons), some (.int ups), some (.str (c1 on)), some (.str (c1 up)), some (.int ((ons + ups : Nat) : Int)), some (.str (sx (lineTo ons ups on up j))), e], []⟩) ?_ ?_ ?_)
  · exact ⟨none, rfl⟩
  · rintro j d _ hj ⟨e, rfl⟩
    obtain ⟨hjl, rfl⟩ := rangeD_get hj
    rw [Int.toNat_natCast] at hjl
    rw [Int.zero_add]
    have hw0 : ((ons + ups : Nat) : Int) ≠ 0 := by omega
    have hm1 : IntMulOk (ups : Int) ((j : Int) + 1) := .of_left (intBits_le_64 (by omega) (by omega))
    have hm2 : IntMulOk (ups : Int) (j : Int) := .of_left (intBits_le_64 (by omega) (by omega))
    have hll : (lineTo ons ups on up j).length = j := by simp [lineTo]
    refine exs_if (c := stepUp ons ups j) (ts_conv (ts_cmp (ev_div (ev_mul (ev_name W 1 (nx_law_line_ups I) rfl) (ev_add (ev_name W 6 (nx_law_line_k I) rfl) ev_int) hm1) (ev_name W 4 (nx_law_line_whole I) rfl) hw0 (small_py (by omega) (by omega))) (ev_div (ev_mul (ev_name W 1 (nx_law_line_ups I) rfl) (ev_name W 6 (nx_law_line_k I) rfl) hm2) (ev_name W 4 (nx_law_line_whole I) rfl) hw0 (small_py (by omega) (by omega))) co_gt) ?_) (fun q => ?_) (fun q => ?_)
    · unfold stepUp
      rw [Int.fdiv_eq_ediv_of_nonneg _ (by omega), Int.fdiv_eq_ediv_of_nonneg _ (by omega)]
      have a1 : (ups : Int) * ((j : Int) + 1) / ((ons + ups : Nat) : Int) = ((ups * (j + 1) / (ons + ups) : Nat) : Int) := by push_cast; rfl
      have a2 : (ups : Int) * (j : Int) / ((ons + ups : Nat) : Int) = ((ups * j / (ons + ups) : Nat) : Int) := by push_cast; rfl
      rw [a1, a2]
      simp only [gt_iff_lt, Int.ofNat_lt]
    · refine exs_assign (d := .str (sx (lineTo ons ups on up (j + 1)))) W 5 (nx_law_line_word I) (ev_conv (ev_adds' (y := [up]) (ev_name W 5 (nx_law_line_word I) rfl) (ev_name W 3 (nx_law_line_up I) rfl) (by simp [hll]; omega)) ?_) (exs_nil (exs_nil ⟨some (.int j), rfl⟩))
      rw [lineTo_succ, q]; rfl
    · refine exs_assign (d := .str (sx (lineTo ons ups on up (j + 1)))) W 5 (nx_law_line_word I) (ev_conv (ev_adds' (y := [on]) (ev_name W 5 (nx_law_line_word I) rfl) (ev_name W 2 (nx_law_line_on I) rfl) (by simp [hll]; omega)) ?_) (exs_nil (exs_nil ⟨some (.int j), rfl⟩))
      rw [lineTo_succ, q]; rfl
  · rintro _ ⟨e, rfl⟩
    rw [rangeD_len, Int.toNat_natCast]
    exact exs_ret (d := .str (sx (line ons ups on up))) (ev_name W 5 (nx_law_line_word I) rfl) (.inl rfl)
end
end Mine
-- part T14
set_option maxHeartbeats 0
namespace Mine
noncomputable section
def twD : List (PySem.Str × PySem.Str) := [(sx [102], sx [64256]), (sx [115], sx [223]), (sx [107], sx [13261])]
def tw (c : Nat) : Option Nat := if c = 102 then some 64256 else if c = 115 then some 223 else if c = 107 then some 13261 else none
theorem sx_beq (a b : Nat) : (sx [a] == sx [b]) = decide (a = b) := by
  by_cases h : a = b
  · subst h; simp
  · have : sx [a] ≠ sx [b] := fun e => h (by injection e with e; injection e with e; injection e)
    simp [h, this]
theorem tw_lookup (c : Nat) : twD.lookup (c1 c) = (tw c).map fun d => sx [d] := by
  show twD.lookup (sx [c]) = _
  unfold twD tw
  simp only [List.lookup_cons, List.lookup_nil, sx_beq]
  by_cases h1 : c = 102
  · simp [h1]
  · by_cases h2 : c = 115
    · simp [h2]
    · by_cases h3 : c = 107
      · simp [h3]
      · simp [h1, h2, h3]
def runL (l : Nat) : Nat → Int → List Nat
  | 0, _ => []
  | count + 1, n => if 0 < count ∧ (tw l).isSome = true ∧ n.fmod 3 ≠ 1 then (tw l).getD 0 :: runL l (count - 1) (n.fdiv 3) else form l n :: runL l count (n.fdiv 3)
termination_by count => count
theorem runL_len (l : Nat) : ∀ (k count : Nat) (n : Int), count ≤ k → (runL l count n).length ≤ count
  | _, 0, n, _ => by unfold runL; simp
  | 0, count + 1, n, h => by omega
  | k + 1, count + 1, n, h => by
    unfold runL
    split
    · have := runL_len l k (count - 1) (n.fdiv 3) (by omega)
      simp only [List.length_cons]; omega
    · have := runL_len l k count (n.fdiv 3) (by omega)
      simp only [List.length_cons]; omega
theorem f_run {w : World} {l count : Nat} {n : Int} (h1 : 97 ≤ l) (h2 : l ≤ 122) (hc : count ≤ 40) : Fn (B1 w) 153 2 [.str (c1 l), .int count, .int n] (.str (sx (runL l count n))) := by
  refine fn_law_run rfl fun C I hd hu => ?_
  have W := I.W
  refine exs_assign (d := .dic (hashStr C.B.w) twD) W 3 (nx_law_run_twice I) (ev_dict W (l := twD) (by kernel_rfl) (by decide +kernel) (by kernel_rfl) (by kernel_rfl) (by nofun) (by decide +kernel)) ?_
  refine exs_assign (d := .str (sx [])) W 4 (nx_law_run_text I) (ev_conv ev_str rfl) ?_
  refine exs_cons (ex_while (fun m σ => ∃ (k : Nat) (i : Int) (t : List Nat), σ = ⟨[some (.str (c1 l)), some (.int k), some (.int i), some (.dic (hashStr C.B.w) twD), some (.str (sx t))], []⟩ ∧ t ++ runL l k i = runL l count n ∧ k = m) ?_ count ⟨count, n, [], rfl, rfl, rfl⟩)
  rintro m _ ⟨k, i, t, rfl, ht, rfl⟩
  have hlen : t.length + (runL l k i).length ≤ 40 := by
    have := runL_len l count count n (Nat.le_refl _)
    rw [← ht, List.length_append] at this; omega
  refine ⟨_, ts_cmp (ev_name W 1 (nx_law_run_count I) rfl) ev_int co_gt, fun q => ?_, fun q => ?_⟩
  · have q : (k : Int) > 0 := of_decide_eq_true q
    obtain ⟨k', rfl⟩ : ∃ k', k = k' + 1 := ⟨k - 1, by omega⟩
    have hdiv : Ev C ⟨[], []⟩ (.Constant .none 0 default) .none := ev_none
    by_cases hb : 0 < k' ∧ (tw l).isSome = true ∧ i.fmod 3 ≠ 1
    · obtain ⟨b1, b2, b3'⟩ := hb
      obtain ⟨d, hd2⟩ := Option.isSome_iff_exists.mp b2
      have hrun : runL l (k' + 1) i = d :: runL l (k' - 1) (i.fdiv 3) := by rw [runL, if_pos ⟨b1, b2, b3'⟩, hd2]; rfl
      rw [hrun] at ht hlen
      refine exs_if (c := true) (ts_conv (ts_bool (tsl_and (ts_cmp (ev_name W 1 (nx_law_run_count I) rfl) ev_int co_gt) fun _ => tsl_and (ts_cmp (ev_name W 0 (nx_law_run_letter I) rfl) (ev_name W 3 (nx_law_run_twice I) rfl) co_indic) fun _ => tsl_and (ts_cmp (ev_mod (ev_name W 2 (nx_law_run_n I) rfl) ev_int (by decide)) ev_int co_ne) fun _ => tsl_and_nil)) ?_) (fun _ => ?_) (fun q => nomatch q)
      · rw [tw_lookup, hd2]; simp; exact ⟨by omega, b3'⟩
      refine exs_assign (d := .str (sx (t ++ [d]))) W 4 (nx_law_run_text I) (ev_adds' (y := [d]) (ev_name W 4 (nx_law_run_text I) rfl) (ev_dic_item (ev_name W 3 (nx_law_run_twice I) rfl) (ev_name W 0 (nx_law_run_letter I) rfl) (by rw [tw_lookup, hd2]; rfl)) (by simp at hlen ⊢; omega)) ?_
      refine exs_assign (d := .int ((k' - 1 : Nat) : Int)) W 1 (nx_law_run_count I) (ev_conv (ev_sub (ev_name W 1 (nx_law_run_count I) rfl) ev_int) (by congr 1; omega)) ?_
      refine exs_nil ?_
      refine exs_assign (d := .int (i.fdiv 3)) W 2 (nx_law_run_n I) (ev_div (ev_name W 2 (nx_law_run_n I) rfl) ev_int (by decide) (small_py (by decide) (by decide))) ?_
      exact exs_nil ⟨k' - 1, by omega, k' - 1, i.fdiv 3, t ++ [d], rfl, by rw [List.append_assoc]; exact ht, rfl⟩
    · have hrun : runL l (k' + 1) i = form l i :: runL l k' (i.fdiv 3) := by rw [runL, if_neg hb]
      rw [hrun] at ht hlen
      refine exs_if (c := false) (ts_conv (ts_bool (tsl_and (ts_cmp (ev_name W 1 (nx_law_run_count I) rfl) ev_int co_gt) fun _ => tsl_and (ts_cmp (ev_name W 0 (nx_law_run_letter I) rfl) (ev_name W 3 (nx_law_run_twice I) rfl) co_indic) fun _ => tsl_and (ts_cmp (ev_mod (ev_name W 2 (nx_law_run_n I) rfl) ev_int (by decide)) ev_int co_ne) fun _ => tsl_and_nil)) ?_) (fun q => nomatch q) (fun _ => ?_)
      · rw [tw_lookup]
        refine Bool.eq_false_iff.mpr fun z => hb ?_
        simp at z
        exact ⟨by omega, by simpa using z.2.1, z.2.2⟩
      refine exs_assign (d := .str (sx (t ++ [form l i]))) W 4 (nx_law_run_text I) (ev_adds' (y := [form l i]) (ev_name W 4 (nx_law_run_text I) rfl) (ev_def W I.B (kn_law_run_law_form I) (mg_law_form I.B) (s1_law_form w) rfl (evs_cons (ev_name W 0 (nx_law_run_letter I) rfl) (evs_cons (ev_name W 2 (nx_law_run_n I) rfl) evs_nil)) (f_form l i h1 h2) hd hu) (by simp at hlen ⊢; omega)) ?_
      refine exs_assign (d := .int (k' : Int)) W 1 (nx_law_run_count I) (ev_conv (ev_sub (ev_name W 1 (nx_law_run_count I) rfl) ev_int) (by congr 1; omega)) ?_
      refine exs_nil ?_
      refine exs_assign (d := .int (i.fdiv 3)) W 2 (nx_law_run_n I) (ev_div (ev_name W 2 (nx_law_run_n I) rfl) ev_int (by decide) (small_py (by decide) (by decide))) ?_
      exact exs_nil ⟨k', by omega, k', i.fdiv 3, t ++ [form l i], rfl, by rw [List.append_assoc]; exact ht, rfl⟩
  · have q : ¬ (k : Int) > 0 := of_decide_eq_false q
    obtain rfl : k = 0 := by omega
    have ht' : t = runL l count n := by rw [← ht, runL, List.append_nil]
    subst ht'
    exact exs_ret (d := .str (sx (runL l count n))) (ev_name W 4 (nx_law_run_text I) rfl) (.inl rfl)
end
end Mine
-- part T15
set_option maxHeartbeats 0
namespace Mine
noncomputable section
structure Sg where
  on : Nat
  up : Nat
  pair : Nat
  three : List Nat

def signsL : List Sg := [⟨102, 105, 64257, [64259]⟩, ⟨102, 108, 64258, [64260]⟩, ⟨115, 116, 64262, []⟩, ⟨107, 109, 13262, []⟩, ⟨107, 118, 13240, []⟩, ⟨110, 111, 8470, []⟩, ⟨104, 122, 13200, []⟩, ⟨114, 115, 8360, []⟩]
def signD (q : Sg) : D := .tup [.str (c1 q.on), .str (c1 q.up), .str (c1 q.pair), .str (sx q.three)]
def sgOf (n : Int) : Sg := signsL.getD (n.fmod 8).toNat ⟨0, 0, 0, []⟩
theorem sgOf_mem (n : Int) : sgOf n ∈ signsL ∧ signsL[(n.fmod 8).toNat]? = some (sgOf n) := by
  obtain ⟨h0, h1⟩ := fmod_range n (m := 8) (by omega)
  have hl : (n.fmod 8).toNat < signsL.length := by show _ < 8; omega
  have : signsL[(n.fmod 8).toNat]? = some (sgOf n) := by unfold sgOf; rw [List.getD_eq_getElem?_getD, List.getElem?_eq_getElem hl]; rfl
  exact ⟨List.mem_of_getElem? this, this⟩
def signE : List D := [.tup [.str (S "f"), .str (S "i"), .str (S "ﬁ"), .str (S "ﬃ")], .tup [.str (S "f"), .str (S "l"), .str (S "ﬂ"), .str (S "ﬄ")], .tup [.str (S "s"), .str (S "t"), .str (S "ﬆ"), .str (S "")], .tup [.str (S "k"), .str (S "m"), .str (S "㏎"), .str (S "")], .tup [.str (S "k"), .str (S "v"), .str (S "㎸"), .str (S "")], .tup [.str (S "n"), .str (S "o"), .str (S "№"), .str (S "")], .tup [.str (S "h"), .str (S "z"), .str (S "㎐"), .str (S "")], .tup [.str (S "r"), .str (S "s"), .str (S "₨"), .str (S "")]]
theorem signE_is : signE = signsL.map signD := by kernel_rfl
theorem f_signs {w : World} (n : Int) : Fn (B1 w) 160 1 [.int n] (signD (sgOf n)) := by
  refine fn_law_signs rfl fun C I hd hu => ?_
  have W := I.W
  obtain ⟨h0, h1⟩ := fmod_range n (m := 8) (by omega)
  refine exs_ret (d := signD (sgOf n)) (ev_item (ds := signsL.map signD) (k := n.fmod 8) (x := signD (sgOf n)) ?a1 (.lst _) (ev_mod (ev_name W 0 (nx_law_signs_n I) rfl) ev_int (by decide)) h0 (by omega) ?a6) (.inl rfl)
  case a6 => rw [List.getElem?_map, (sgOf_mem n).2]; rfl
  case a1 =>
    rw [← signE_is]
    exact ev_list W (ds := signE) (evs_cons (ev_tuple W (evs_cons ev_str (evs_cons ev_str (evs_cons ev_str (evs_cons ev_str evs_nil))))) (evs_cons (ev_tuple W (evs_cons ev_str (evs_cons ev_str (evs_cons ev_str (evs_cons ev_str evs_nil))))) (evs_cons (ev_tuple W (evs_cons ev_str (evs_cons ev_str (evs_cons ev_str (evs_cons ev_str evs_nil))))) (evs_cons (ev_tuple W (evs_cons ev_str (evs_cons ev_str (evs_cons ev_str (evs_cons ev_str evs_nil))))) (evs_cons (ev_tuple W (evs_cons ev_str (evs_cons ev_str (evs_cons ev_str (evs_cons ev_str evs_nil))))) (evs_cons (ev_tuple W (evs_cons ev_str (evs_cons ev_str (evs_cons ev_str (evs_cons ev_str evs_nil))))) (evs_cons (ev_tuple W (evs_cons ev_str (evs_cons ev_str (evs_cons ev_str (evs_cons ev_str evs_nil))))) (evs_cons (ev_tuple W (evs_cons ev_str (evs_cons ev_str (evs_cons ev_str (evs_cons ev_str evs_nil))))) evs_nil)))))))) (by kernel_rfl)
def nxt (n : Int) : Int := (n * 37 + 11).fmod 99991
def unL (n : Int) : List Nat := (unseen n).cps.toList
theorem unL_len (n : Int) : (unL n).length ≤ 1 := by
  unfold unL unseen
  dsimp only
  split
  · simp
  · split <;> simp
def piece (q : Sg) (times : Nat) (upward : Bool) (c : Nat) (n : Int) : List Nat :=
  if c = q.on ∧ upward = true then q.pair :: runL q.up (times - 1) n
  else if c = q.up ∧ upward = false then (if q.three ≠ [] ∧ 1 < times ∧ n.fmod 2 = 0 then runL q.on (times - 2) n ++ q.three else runL q.on (times - 1) n ++ [q.pair])
  else [form c n]
def rew (q : Sg) (times : Nat) (upward : Bool) : List Nat → Int → List Nat
  | [], _ => []
  | c :: w, n => (piece q times upward c (nxt n) ++ unL ((nxt n).fdiv 7)) ++ rew q times upward w (nxt n)
theorem piece_len (q : Sg) (times : Nat) (upward : Bool) (c : Nat) (n : Int) (h : times ≤ 18) (h3 : q.three.length ≤ 1) : (piece q times upward c n).length ≤ 19 := by
  unfold piece
  have a := runL_len q.up (times - 1) (times - 1) n (Nat.le_refl _)
  have b := runL_len q.on (times - 1) (times - 1) n (Nat.le_refl _)
  have d := runL_len q.on (times - 2) (times - 2) n (Nat.le_refl _)
  split
  · simp only [List.length_cons]; omega
  · split
    · split
      · rw [List.length_append]; omega
      · rw [List.length_append]; simp; omega
    · simp
theorem rew_len (q : Sg) (times : Nat) (upward : Bool) (h : times ≤ 18) (h3 : q.three.length ≤ 1) : ∀ (w : List Nat) (n : Int), (rew q times upward w n).length ≤ 20 * w.length
  | [], _ => by simp [rew]
  | c :: w, n => by
    have a := piece_len q times upward c (nxt n) h h3
    have b := unL_len ((nxt n).fdiv 7)
    have d := rew_len q times upward h h3 w (nxt n)
    simp only [rew, List.length_append, List.length_cons]; omega
theorem exs_ifj {C : Cx} {σ : St} {Φ : Fl → St → Prop} {rest a b : List Stmt} {t : Expr} {p : Pos} {c : Bool} (Ψ : St → Prop) (ht : Ts C σ t c) (ha : c = true → Exs C σ a (fun fl σ' => fl = .next ∧ Ψ σ')) (hb : c = false → Exs C σ b (fun fl σ' => fl = .next ∧ Ψ σ')) (hr : ∀ σ', Ψ σ' → Exs C σ' rest Φ) : Exs C σ (.If t a b p :: rest) Φ :=
  exs_if ht (fun q => exs_mono (ha q) fun fl σ' h => by obtain ⟨rfl, h⟩ := h; exact hr σ' h) (fun q => exs_mono (hb q) fun fl σ' h => by obtain ⟨rfl, h⟩ := h; exact hr σ' h)
theorem sx_ne (l : List Nat) : (!(sx l == PySem.Str.ofString "")) = decide (l ≠ []) := by
  cases l with
  | nil => decide +kernel
  | cons a l => 
    have : sx (a :: l) ≠ PySem.Str.ofString "" := fun e => by
      have h1 : PySem.Str.ofString "" = sx [] := by kernel_rfl
      rw [h1] at e
      have := congrArg (fun s : PySem.Str => s.cps.toList) e
      exact absurd this (by simp)
    simp [this]
theorem f_rew {w : World} {q : Sg} {times : Nat} {upward : Bool} {wd : List Nat} {n : Int} (hq1 : 97 ≤ q.on ∧ q.on ≤ 122) (hq2 : 97 ≤ q.up ∧ q.up ≤ 122) (h3 : q.three.length ≤ 1) (ht1 : 1 ≤ times) (ht : times ≤ 18) (hwl : wd.length ≤ 40) (hwd : ∀ c ∈ wd, 97 ≤ c ∧ c ≤ 122) :
    Fn (B1 w) 167 3 [.str (sx wd), signD q, .int times, .bool upward, .int n] (.str (sx (rew q times upward wd n))) := by
  refine fn_law_rewritten rfl fun C I hd hu => ?_
  have W := I.W
  refine exs_tuple (is := [5, 6, 7, 8]) (ds := [.str (c1 q.on), .str (c1 q.up), .str (c1 q.pair), .str (sx q.three)]) W (.cons 5 (nx_law_rewritten_on I) (.cons 6 (nx_law_rewritten_up I) (.cons 7 (nx_law_rewritten_pair I) (.cons 8 (nx_law_rewritten_three I) .nil)))) (ev_name W 1 (nx_law_rewritten_signs I) rfl) rfl ?_
  refine exs_assign (d := .str (sx [])) W 9 (nx_law_rewritten_text I) (ev_conv ev_str rfl) ?_
  refine exs_cons (ex_for W 10 (nx_law_rewritten_letter I) (evIt_str W (ev_name W 0 (nx_law_rewritten_word I) rfl)) (fun j σ => ∃ (e : Option D) (i : Int) (t : List Nat), σ = ⟨[some (.str (sx wd)), some (signD q), some (.int times), some (.bool upward), some (.int i), some (.str (c1 q.on)), some (.str (c1 q.up)), some (.str (c1 q.pair)), some (.str (sx q.three)), some (.str (sx t)), e], []⟩ ∧ t ++ rew q times upward (wd.drop j) i = rew q times upward wd n) ?_ ?_ ?_)
  · exact ⟨none, n, [], rfl, rfl⟩
  · rintro j d _ hj ⟨e, i, t, rfl, htt⟩
    rw [List.getElem?_map] at hj
    obtain ⟨c, hc, rfl⟩ : ∃ c, wd[j]? = some c ∧ d = .str (c1 c) := by
      cases z : wd[j]? with
      | none => rw [show (sx wd).cps.toList[j]? = none from z] at hj; cases hj
      | some c => rw [show (sx wd).cps.toList[j]? = some c from z] at hj; cases hj; exact ⟨c, rfl, rfl⟩
    obtain ⟨c1', c2'⟩ := hwd c (List.mem_of_getElem? hc)
    have hdrop : wd.drop j = c :: wd.drop (j + 1) := by
      obtain ⟨hlt, he⟩ := List.getElem?_eq_some_iff.mp hc
      rw [List.drop_eq_getElem_cons hlt, he]
    rw [hdrop] at htt
    simp only [rew] at htt
    have htot := rew_len q times upward ht h3 wd n
    have hlen : t.length + (piece q times upward c (nxt i)).length + (unL ((nxt i).fdiv 7)).length ≤ 800 := by
      rw [← htt] at htot
      simp only [List.length_append] at htot; omega
    refine exs_assign (d := .int (nxt i)) W 4 (nx_law_rewritten_n I) (ev_mod (ev_add (ev_mul (ev_name W 4 (nx_law_rewritten_n I) rfl) ev_int (.of_right (intBits_le_64 (by decide) (by decide)))) ev_int) ev_int (by decide)) ?_
    have a := runL_len q.up (times - 1) (times - 1) (nxt i) (Nat.le_refl _)
    have b := runL_len q.on (times - 1) (times - 1) (nxt i) (Nat.le_refl _)
    have b2 := runL_len q.on (times - 2) (times - 2) (nxt i) (Nat.le_refl _)
    have ceq : ∀ x y, (c1 x == c1 y) = decide (x = y) := sx_beq
    refine exs_ifj (fun σ' => σ' = ⟨[some (.str (sx wd)), some (signD q), some (.int times), some (.bool upward), some (.int (nxt i)), some (.str (c1 q.on)), some (.str (c1 q.up)), some (.str (c1 q.pair)), some (.str (sx q.three)), some (.str (sx (t ++ piece q times upward c (nxt i)))), some (.str (c1 c))], []⟩) (c := decide (c = q.on ∧ upward = true)) (ts_conv (ts_bool (tsl_and (ts_cmp (ev_name W 10 (nx_law_rewritten_letter I) rfl) (ev_name W 5 (nx_law_rewritten_on I) rfl) co_eqs) fun _ => tsl_and (ts_val (ev_name W 3 (nx_law_rewritten_upward I) rfl) tr_bool) fun _ => tsl_and_nil)) ?_) (fun z => ?_) (fun z => ?_) ?_
    · rw [ceq]; simp
    · have z := of_decide_eq_true z
      have hp : piece q times upward c (nxt i) = q.pair :: runL q.up (times - 1) (nxt i) := by unfold piece; rw [if_pos z]
      rw [hp] at hlen ⊢
      refine exs_assign (d := .str (sx (t ++ q.pair :: runL q.up (times - 1) (nxt i)))) W 9 (nx_law_rewritten_text I) (ev_conv (ev_adds' (ev_adds' (y := [q.pair]) (ev_name W 9 (nx_law_rewritten_text I) rfl) (ev_name W 7 (nx_law_rewritten_pair I) rfl) (by simp at hlen ⊢; omega)) (ev_def W I.B (kn_law_rewritten_law_run I) (mg_law_run I.B) (s1_law_run w) rfl (evs_cons (ev_name W 6 (nx_law_rewritten_up I) rfl) (evs_cons (ev_conv (ev_sub (ev_name W 2 (nx_law_rewritten_times I) rfl) ev_int) (b := .int ((times - 1 : Nat) : Int)) (by congr 1; omega)) (evs_cons (ev_name W 4 (nx_law_rewritten_n I) rfl) evs_nil))) ((f_run hq2.1 hq2.2 (by omega)).le (by omega)) hd hu) (by simp at hlen ⊢; omega)) ?_) (exs_nil ⟨rfl, rfl⟩)
      rw [List.append_assoc]; rfl
    · have z := of_decide_eq_false z
      refine exs_if (c := decide (c = q.up ∧ upward = false)) (ts_conv (ts_bool (tsl_and (ts_cmp (ev_name W 10 (nx_law_rewritten_letter I) rfl) (ev_name W 6 (nx_law_rewritten_up I) rfl) co_eqs) fun _ => tsl_and (ts_not (ts_val (ev_name W 3 (nx_law_rewritten_upward I) rfl) tr_bool)) fun _ => tsl_and_nil)) ?_) (fun z' => ?_) (fun z' => ?_)
      · rw [ceq]; simp
      · have z' := of_decide_eq_true z'
        by_cases hz : q.three ≠ [] ∧ 1 < times ∧ (nxt i).fmod 2 = 0
        · have hp : piece q times upward c (nxt i) = runL q.on (times - 2) (nxt i) ++ q.three := by unfold piece; rw [if_neg z, if_pos z', if_pos hz]
          rw [hp] at hlen ⊢
          refine exs_if (c := true) (ts_conv (ts_bool (tsl_and (ts_cmp (ev_name W 8 (nx_law_rewritten_three I) rfl) ev_str co_nes) fun _ => tsl_and (ts_cmp (ev_name W 2 (nx_law_rewritten_times I) rfl) ev_int co_gt) fun _ => tsl_and (ts_cmp (ev_mod (ev_name W 4 (nx_law_rewritten_n I) rfl) ev_int (by decide)) ev_int co_eq) fun _ => tsl_and_nil)) ?_) (fun _ => ?_) (fun q => nomatch q)
          · rw [sx_ne]; simp [hz.1, hz.2.2]; omega
          refine exs_assign (d := .str (sx (t ++ (runL q.on (times - 2) (nxt i) ++ q.three)))) W 9 (nx_law_rewritten_text I) (ev_conv (ev_adds' (ev_adds' (ev_name W 9 (nx_law_rewritten_text I) rfl) (ev_def W I.B (kn_law_rewritten_law_run I) (mg_law_run I.B) (s1_law_run w) rfl (evs_cons (ev_name W 5 (nx_law_rewritten_on I) rfl) (evs_cons (ev_conv (ev_sub (ev_name W 2 (nx_law_rewritten_times I) rfl) ev_int) (b := .int ((times - 2 : Nat) : Int)) (by congr 1; omega)) (evs_cons (ev_name W 4 (nx_law_rewritten_n I) rfl) evs_nil))) ((f_run hq1.1 hq1.2 (by omega)).le (by omega)) hd hu) (by simp at hlen ⊢; omega)) (ev_name W 8 (nx_law_rewritten_three I) rfl) (by simp at hlen ⊢; omega)) ?_) (exs_nil (exs_nil (exs_nil ⟨rfl, rfl⟩)))
          rw [List.append_assoc]
        · have hp : piece q times upward c (nxt i) = runL q.on (times - 1) (nxt i) ++ [q.pair] := by unfold piece; rw [if_neg z, if_pos z', if_neg hz]
          rw [hp] at hlen ⊢
          refine exs_if (c := false) (ts_conv (ts_bool (tsl_and (ts_cmp (ev_name W 8 (nx_law_rewritten_three I) rfl) ev_str co_nes) fun _ => tsl_and (ts_cmp (ev_name W 2 (nx_law_rewritten_times I) rfl) ev_int co_gt) fun _ => tsl_and (ts_cmp (ev_mod (ev_name W 4 (nx_law_rewritten_n I) rfl) ev_int (by decide)) ev_int co_eq) fun _ => tsl_and_nil)) ?_) (fun q => nomatch q) (fun _ => ?_)
          · rw [sx_ne]
            refine Bool.eq_false_iff.mpr fun y => hz ?_
            simp at y
            exact ⟨y.1, by omega, y.2.2⟩
          refine exs_assign (d := .str (sx (t ++ (runL q.on (times - 1) (nxt i) ++ [q.pair])))) W 9 (nx_law_rewritten_text I) (ev_conv (ev_adds' (ev_adds' (ev_name W 9 (nx_law_rewritten_text I) rfl) (ev_def W I.B (kn_law_rewritten_law_run I) (mg_law_run I.B) (s1_law_run w) rfl (evs_cons (ev_name W 5 (nx_law_rewritten_on I) rfl) (evs_cons (ev_conv (ev_sub (ev_name W 2 (nx_law_rewritten_times I) rfl) ev_int) (b := .int ((times - 1 : Nat) : Int)) (by congr 1; omega)) (evs_cons (ev_name W 4 (nx_law_rewritten_n I) rfl) evs_nil))) ((f_run hq1.1 hq1.2 (by omega)).le (by omega)) hd hu) (by simp at hlen ⊢; omega)) (y := [q.pair]) (ev_name W 7 (nx_law_rewritten_pair I) rfl) (by simp at hlen ⊢; omega)) ?_) (exs_nil (exs_nil (exs_nil ⟨rfl, rfl⟩)))
          rw [List.append_assoc]
      · have z' := of_decide_eq_false z'
        have hp : piece q times upward c (nxt i) = [form c (nxt i)] := by unfold piece; rw [if_neg z, if_neg z']
        rw [hp] at hlen ⊢
        exact exs_assign (d := .str (sx (t ++ [form c (nxt i)]))) W 9 (nx_law_rewritten_text I) (ev_adds' (y := [form c (nxt i)]) (ev_name W 9 (nx_law_rewritten_text I) rfl) (ev_def W I.B (kn_law_rewritten_law_form I) (mg_law_form I.B) (s1_law_form w) rfl (evs_cons (ev_name W 10 (nx_law_rewritten_letter I) rfl) (evs_cons (ev_name W 4 (nx_law_rewritten_n I) rfl) evs_nil)) ((f_form c (nxt i) c1' c2').le (by omega)) hd hu) (by simp at hlen ⊢; omega)) (exs_nil (exs_nil ⟨rfl, rfl⟩))
    · rintro _ rfl
      refine exs_assign (d := .str (sx ((t ++ piece q times upward c (nxt i)) ++ unL ((nxt i).fdiv 7)))) W 9 (nx_law_rewritten_text I) (ev_adds' (ev_name W 9 (nx_law_rewritten_text I) rfl) (ev_def W I.B (kn_law_rewritten_law_unseen I) (mg_law_unseen I.B) (s1_law_unseen w) rfl (evs_cons (ev_div (ev_name W 4 (nx_law_rewritten_n I) rfl) ev_int (by decide) (small_py (by decide) (by decide))) evs_nil) ((f_unseen _).le (by omega)) hd hu) (by simp only [List.length_append]; omega)) ?_
      refine exs_nil ⟨some (.str (c1 c)), nxt i, _, rfl, ?_⟩
      rw [← htt]; simp only [List.append_assoc]
  · rintro _ ⟨e, i, t, rfl, htt⟩
    have hdl : wd.drop (List.map (fun c => D.str ⟨⟨[c]⟩⟩) (sx wd).cps.toList).length = [] := by rw [List.length_map]; simp
    rw [hdl] at htt
    have htt' : t = rew q times upward wd n := by rw [← htt]; simp [rew]
    subst htt'
    exact exs_ret (d := .str (sx (rew q times upward wd n))) (ev_name W 9 (nx_law_rewritten_text I) rfl) (.inl rfl)
end
end Mine
-- part M4
set_option maxHeartbeats 0
namespace Mine
noncomputable section
def b3l (es : List DictEntry) (k : Int) : Option Value := (es.find? fun e => Value.isInt k e.key).map (·.val)
theorem b3v_l (k : Int) : b3v k = b3l (esTo 38) k := by
  unfold b3v findBy b3l
  rw [List.find?_toArray]
def L13 : List Nat := [102, 105, 108, 115, 116, 107, 109, 118, 110, 111, 104, 122, 114]
theorem b3_some {c d : Nat} {x : PySem.Str} {t : Tok} (h : b3l (esTo 38) c = some (.str x t)) (hx : x.cps.toList = [d]) : b3 c = [d] := by
  unfold b3; rw [b3v_l, h]; exact hx
theorem b3_none {c d : Nat} (h : b3l (esTo 38) c = none) (hc : c < 128) (hd : lo1 c = d) : b3 c = [d] := by
  unfold b3; rw [b3v_l, h]
  show (Txt.lower (c1 c)).cps.toList = [d]
  rw [lower_ascii (fun x hx => by simp [c1] at hx; omega)]
  simp [c1, hd]
def okLet (es : List DictEntry) (l : Nat) : Bool :=
  (b3l es l).isNone && (b3l es (l - 32 : Nat)).isNone && !inB1 l && !inB1 (l - 32) && lo1 l == l && lo1 (l - 32) == l && decide (l < 128)
def okMath (es : List DictEntry) (l k : Nat) : Bool :=
  !inB1 (form l k) && (match b3l es (form l k : Nat) with | some (.str x _) => x.cps.toList == [l] | _ => false)
theorem chk_let : (L13.all fun l => okLet (esTo 38) l) = true := by kernel_rfl
theorem chk_math : (L13.all fun l => (List.range 10).all fun k => okMath (esTo 38) l (k + 2)) = true := by kernel_rfl
theorem prep_append (a b : List Nat) : prep (a ++ b) = prep a ++ prep b := by unfold prep; rw [List.filter_append, List.flatMap_append]
theorem prep_cons (a : Nat) (b : List Nat) : prep (a :: b) = prep [a] ++ prep b := prep_append [a] b
theorem prep_one {c : Nat} {r : List Nat} (h1 : inB1 c = false) (h2 : b3 c = r) : prep [c] = r := by
  unfold prep; simp [h1, h2]
theorem form_mod (l : Nat) (n : Int) : form l n = form l ((n.fmod 12).toNat : Nat) := by
  obtain ⟨h0, h1⟩ := fmod_range n (m := 12) (by omega)
  have : ((((n.fmod 12).toNat : Nat) : Int)).fmod 12 = n.fmod 12 := by
    rw [Int.toNat_of_nonneg h0, Int.fmod_eq_emod_of_nonneg _ (by omega), Int.emod_eq_of_lt h0 h1]
  unfold form
  rw [this]
theorem p_form {l : Nat} (hl : l ∈ L13) (n : Int) : prep [form l n] = [l] := by
  rw [form_mod]
  obtain ⟨h0, h1⟩ := fmod_range n (m := 12) (by omega)
  obtain ⟨k, hk⟩ : ∃ k, (n.fmod 12).toNat = k := ⟨_, rfl⟩
  have hk12 : k < 12 := by omega
  rw [hk]
  have a := List.all_eq_true.mp chk_let l hl
  unfold okLet at a
  simp only [Bool.and_eq_true, Bool.not_eq_true', beq_iff_eq, decide_eq_true_eq, Option.isNone_iff_eq_none] at a
  obtain ⟨⟨⟨⟨⟨⟨a1, a2⟩, a3⟩, a4⟩, a5⟩, a6⟩, a7⟩ := a
  match k, hk12 with
  | 0, _ => exact prep_one (c := l) a3 (b3_none a1 a7 a5)
  | 1, _ => exact prep_one (c := l - 32) a4 (b3_none a2 (by omega) a6)
  | k + 2, hk' =>
    have b := List.all_eq_true.mp (List.all_eq_true.mp chk_math l hl) k (List.mem_range.mpr (by omega))
    unfold okMath at b
    rw [Bool.and_eq_true, Bool.not_eq_true'] at b
    obtain ⟨b1, b2⟩ := b
    split at b2
    · rename_i x t hx
      exact prep_one b1 (b3_some hx (eq_of_beq b2))
    · cases b2
theorem chk_unseen : ((List.range 40).all fun k => prep (unL (k : Nat)) == []) = true := by kernel_rfl
theorem p_unseen (n : Int) : prep (unL n) = [] := by
  obtain ⟨h0, h1⟩ := fmod_range n (m := 40) (by omega)
  have : unL n = unL ((n.fmod 40).toNat : Nat) := by
    have e : ((((n.fmod 40).toNat : Nat) : Int)).fmod 40 = n.fmod 40 := by
      rw [Int.toNat_of_nonneg h0, Int.fmod_eq_emod_of_nonneg _ (by omega), Int.emod_eq_of_lt h0 h1]
    unfold unL unseen
    rw [e]
  rw [this]
  exact eq_of_beq (List.all_eq_true.mp chk_unseen _ (List.mem_range.mpr (by omega)))
def okSig (es : List DictEntry) (c : Nat) (r : List Nat) : Bool := !inB1 c && (match b3l es c with | some (.str x _) => x.cps.toList == r | _ => false)
theorem p_sig {c : Nat} {r : List Nat} (h : okSig (esTo 38) c r = true) : prep [c] = r := by
  unfold okSig at h
  rw [Bool.and_eq_true, Bool.not_eq_true'] at h
  obtain ⟨b1, b2⟩ := h
  split at b2
  · rename_i x t hx
    refine prep_one b1 ?_
    unfold b3; rw [b3v_l, hx]; exact eq_of_beq b2
  · cases b2
theorem chk_tw : (okSig (esTo 38) 64256 [102, 102] && okSig (esTo 38) 223 [115, 115] && okSig (esTo 38) 13261 [107, 107]) = true := by kernel_rfl
theorem chk_sig : (signsL.all fun q => okSig (esTo 38) q.pair [q.on, q.up] && (match q.three with | [] => true | [c] => okSig (esTo 38) c [q.on, q.on, q.up] | _ => false) && L13.contains q.on && L13.contains q.up && decide (q.on ≠ q.up)) = true := by kernel_rfl
theorem p_tw {l d : Nat} (h : tw l = some d) : prep [d] = [l, l] := by
  have c := chk_tw
  simp only [Bool.and_eq_true] at c
  unfold tw at h
  split at h
  · cases h; rename_i e; subst e; exact p_sig c.1.1
  · split at h
    · cases h; rename_i e; subst e; exact p_sig c.1.2
    · split at h
      · cases h; rename_i e; subst e; exact p_sig c.2
      · cases h
theorem p_run {l : Nat} (hl : l ∈ L13) : ∀ (k count : Nat) (n : Int), count ≤ k → prep (runL l count n) = List.replicate count l
  | _, 0, n, _ => by unfold runL; rfl
  | 0, count + 1, n, h => by omega
  | k + 1, count + 1, n, h => by
    unfold runL
    split
    · rename_i hb
      obtain ⟨d, hd⟩ := Option.isSome_iff_exists.mp hb.2.1
      rw [prep_cons, hd]
      show prep [d] ++ _ = _
      rw [p_tw hd, p_run hl k (count - 1) _ (by omega)]
      obtain ⟨c', rfl⟩ : ∃ c', count = c' + 1 := ⟨count - 1, by omega⟩
      rfl
    · rw [prep_cons, p_form hl, p_run hl k count _ (by omega)]; rfl
structure SgOk (q : Sg) : Prop where
  pair : prep [q.pair] = [q.on, q.up]
  three : q.three = [] ∨ prep q.three = [q.on, q.on, q.up]
  len : q.three.length ≤ 1
  on : q.on ∈ L13
  up : q.up ∈ L13
  ne : q.on ≠ q.up
theorem sg_ok {q : Sg} (h : q ∈ signsL) : SgOk q := by
  have c := List.all_eq_true.mp chk_sig q h
  simp only [Bool.and_eq_true, decide_eq_true_eq] at c
  obtain ⟨⟨⟨⟨c1, c2⟩, c3⟩, c4⟩, c5⟩ := c
  refine ⟨p_sig c1, ?_, ?_, by simpa using c3, by simpa using c4, c5⟩
  · split at c2
    · rename_i e; exact .inl e
    · rename_i c e; rw [e]; exact .inr (p_sig c2)
    · cases c2
  · split at c2
    · rename_i e; rw [e]; simp
    · rename_i c e; rw [e]; simp
    · cases c2
theorem L13_rng {l : Nat} (h : l ∈ L13) : 97 ≤ l ∧ l ≤ 122 := by
  have : ∀ l ∈ L13, 97 ≤ l ∧ l ≤ 122 := by decide
  exact this l h
/-- what each letter becomes -/
def sub (q : Sg) (times : Nat) (upward : Bool) (c : Nat) : List Nat :=
  if c = q.on ∧ upward = true then q.on :: List.replicate times q.up
  else if c = q.up ∧ upward = false then List.replicate times q.on ++ [q.up] else [c]
theorem p_piece {q : Sg} (K : SgOk q) {times : Nat} (ht : 1 ≤ times) {upward : Bool} {c : Nat} (hc : c = q.on ∨ c = q.up) (n : Int) : prep (piece q times upward c n) = sub q times upward c := by
  have hcl : c ∈ L13 := hc.elim (fun e => e ▸ K.on) fun e => e ▸ K.up
  obtain ⟨t, rfl⟩ : ∃ t, times = t + 1 := ⟨times - 1, by omega⟩
  unfold piece sub
  split
  · rw [prep_cons, K.pair, p_run K.up _ _ _ (Nat.le_refl _)]; rfl
  · split
    · split
      · rename_i h
        obtain ⟨h1, h2, _⟩ := h
        obtain ⟨t', rfl⟩ : ∃ t', t = t' + 1 := ⟨t - 1, by omega⟩
        rw [prep_append, p_run K.on _ _ _ (Nat.le_refl _), K.three.resolve_left h1]
        show List.replicate t' q.on ++ [q.on, q.on, q.up] = List.replicate (t' + 2) q.on ++ [q.up]
        rw [show List.replicate (t' + 2) q.on = List.replicate t' q.on ++ List.replicate 2 q.on from List.replicate_append_replicate.symm]
        simp [List.replicate]
      · rw [prep_append, p_run K.on _ _ _ (Nat.le_refl _), K.pair]
        show List.replicate t q.on ++ [q.on, q.up] = List.replicate (t + 1) q.on ++ [q.up]
        rw [show List.replicate (t + 1) q.on = List.replicate t q.on ++ List.replicate 1 q.on from List.replicate_append_replicate.symm]
        simp [List.replicate]
    · exact p_form hcl n
theorem p_rew {q : Sg} (K : SgOk q) {times : Nat} (ht : 1 ≤ times) {upward : Bool} : ∀ {wd : List Nat} {n : Int}, (∀ c ∈ wd, c = q.on ∨ c = q.up) → prep (rew q times upward wd n) = wd.flatMap (sub q times upward)
  | [], _, _ => rfl
  | c :: w, n, h => by
    simp only [rew, List.flatMap_cons]
    rw [prep_append, prep_append, p_piece K ht (h c (.head _)), p_unseen, List.append_nil, p_rew K ht fun x hx => h x (.tail _ hx)]
/-- the same on bits -/
def lineB (f s : Nat) : List Bool := (List.range (f + s)).map (stepUp f s)
def subB' (t : Nat) (upward : Bool) (b : Bool) : List Bool := if b = false ∧ upward = true then false :: List.replicate t true else if b = true ∧ upward = false then List.replicate t false ++ [true] else [b]
theorem line_b (f s on up : Nat) : line f s on up = (lineB f s).map fun b => if b then up else on := by unfold line lineB; rw [List.map_map]; rfl
theorem sub_b (q : Sg) (hne : q.on ≠ q.up) (t : Nat) (u b : Bool) : sub q t u (if b then q.up else q.on) = (subB' t u b).map fun b => if b then q.up else q.on := by
  unfold sub subB'
  cases b <;> cases u <;> simp [hne, hne.symm]
theorem chk_up : ((List.range 19).all fun f => (List.range f).all fun s => (List.range 18).all fun t => if s + (t + 1) * f ≤ 18 then lineB f (s + (t + 1) * f) == (lineB f s).flatMap (subB' (t + 1) true) else true) = true := by kernel_rfl
theorem chk_on : ((List.range 19).all fun s => (List.range s).all fun f => (List.range 18).all fun t => if f + (t + 1) * s ≤ 18 then lineB (f + (t + 1) * s) s == (lineB f s).flatMap (subB' (t + 1) false) else true) = true := by kernel_rfl
end
end Mine
-- part M5
set_option maxHeartbeats 0
namespace Mine
noncomputable section
/-- one division between two rows of counts, told backwards -/
structure Good (t : Nat) (u : Bool) (a b : Nat × Nat) : Prop where
  t1 : 1 ≤ t
  t2 : t ≤ 18
  f2 : b.1 ≤ 18
  s2 : b.2 ≤ 18
  up : u = true → b.1 = a.1 ∧ a.2 < a.1 ∧ b.2 = a.2 + t * a.1
  on : u = false → b.2 = a.2 ∧ a.1 < a.2 ∧ b.1 = a.1 + t * a.2
theorem Good.line {t : Nat} {u : Bool} {a b : Nat × Nat} (g : Good t u a b) {q : Sg} (hne : q.on ≠ q.up) : line b.1 b.2 q.on q.up = (line a.1 a.2 q.on q.up).flatMap (sub q t u) := by
  rw [line_b, line_b, List.flatMap_map]
  have key : lineB b.1 b.2 = (lineB a.1 a.2).flatMap (subB' t u) := by
    obtain ⟨t', rfl⟩ : ∃ t', t = t' + 1 := ⟨t - 1, by have := g.t1; omega⟩
    have ht := g.t2
    have hf := g.f2
    have hs := g.s2
    cases u with
    | true =>
      obtain ⟨e1, e2, e3⟩ := g.up rfl
      have c := List.all_eq_true.mp (List.all_eq_true.mp (List.all_eq_true.mp chk_up a.1 (List.mem_range.mpr (by omega))) a.2 (List.mem_range.mpr e2)) t' (List.mem_range.mpr (by omega))
      rw [if_pos (by rw [← e3]; exact hs)] at c
      rw [e1, e3]; exact eq_of_beq c
    | false =>
      obtain ⟨e1, e2, e3⟩ := g.on rfl
      have c := List.all_eq_true.mp (List.all_eq_true.mp (List.all_eq_true.mp chk_on a.2 (List.mem_range.mpr (by omega))) a.1 (List.mem_range.mpr e2)) t' (List.mem_range.mpr (by omega))
      rw [if_pos (by rw [← e3]; exact hf)] at c
      rw [e1, e3]; exact eq_of_beq c
  rw [key, List.map_flatMap]
  congr 1
  funext b'
  exact (sub_b q hne t u b').symm
theorem line_mem {f s on up c : Nat} (h : c ∈ line f s on up) : c = on ∨ c = up := by
  obtain ⟨k, _, rfl⟩ := List.mem_map.mp h
  split
  · exact .inr rfl
  · exact .inl rfl
theorem line_len (f s on up : Nat) : (line f s on up).length = f + s := by simp [line]
/-- the rows and the divisions, the last ones first -/
inductive Ch : List (Nat × Nat) → List (Nat × Bool) → Prop
  | one (a : Nat × Nat) : a.1 ≤ 18 → a.2 ≤ 18 → Ch [a] []
  | step {a b : Nat × Nat} {R : List (Nat × Nat)} {S : List (Nat × Bool)} {t : Nat} {u : Bool} : a.1 ≤ 18 → a.2 ≤ 18 → Ch (b :: R) S → Good t u a b → Ch (a :: b :: R) ((t, u) :: S)
theorem Ch.len : ∀ {R : List (Nat × Nat)} {S : List (Nat × Bool)}, Ch R S → R.length = S.length + 1
  | _, _, .one _ _ _ => rfl
  | _, _, .step _ _ h _ => by have := h.len; simp only [List.length_cons] at this ⊢; omega
theorem Ch.small : ∀ {R : List (Nat × Nat)} {S : List (Nat × Bool)}, Ch R S → ∀ (k : Nat) a, R[k]? = some a → a.1 ≤ 18 ∧ a.2 ≤ 18
  | _, _, .one a h1 h2, 0, b, e => by cases e; exact ⟨h1, h2⟩
  | _, _, .one a h1 h2, k + 1, b, e => by simp at e
  | _, _, .step h1 h2 _ _, 0, b, e => by cases e; exact ⟨h1, h2⟩
  | _, _, .step _ _ h _, k + 1, b, e => h.small k b e
theorem Ch.good : ∀ {R : List (Nat × Nat)} {S : List (Nat × Bool)}, Ch R S → ∀ (k : Nat) p, S[k]? = some p → ∃ a b, R[k]? = some a ∧ R[k + 1]? = some b ∧ Good p.1 p.2 a b
  | _, _, .one _ _ _, k, p, e => by simp at e
  | _, _, .step _ _ _ g, 0, p, e => by cases e; exact ⟨_, _, rfl, rfl, g⟩
  | _, _, .step _ _ h _, k + 1, p, e => by
    obtain ⟨a, b, h1, h2, h3⟩ := h.good k p e
    exact ⟨a, b, h1, h2, h3⟩
/-- Euclid's run ends within so many divisions -/
def ends : Nat → Nat → Nat → Bool
  | 0, f, s => f == 0 || s == 0
  | n + 1, f, s => f == 0 || s == 0 || (if s > f then ends n f (s % f) else ends n (f % s) s)
theorem chk_ends : ((List.range 19).all fun f => (List.range 19).all fun s => ends 5 f s) = true := by kernel_rfl
theorem ends_five {f s : Nat} (hf : f ≤ 18) (hs : s ≤ 18) : ends 5 f s = true := List.all_eq_true.mp (List.all_eq_true.mp chk_ends f (List.mem_range.mpr (by omega))) s (List.mem_range.mpr (by omega))
theorem ends_step {n f s : Nat} (h : ends n f s = true) (hf : f ≠ 0) (hs : s ≠ 0) : ∃ m, n = m + 1 ∧ (if s > f then ends m f (s % f) else ends m (f % s) s) = true := by
  cases n with
  | zero => simp [ends, hf, hs] at h
  | succ m => exact ⟨m, rfl, by simpa [ends, hf, hs] using h⟩
theorem good_up {f s : Nat} (hf : f ≤ 18) (hs : s ≤ 18) (h0 : f ≠ 0) (h : f < s) : Good (s / f) true (f, s % f) (f, s) := by
  have e := Nat.div_add_mod s f
  have hd : s / f ≤ s := Nat.div_le_self _ _
  refine ⟨Nat.div_pos (by omega) (by omega), by omega, hf, hs, fun _ => ⟨rfl, Nat.mod_lt _ (by omega), ?_⟩, fun q => nomatch q⟩
  show s = s % f + s / f * f
  rw [Nat.mul_comm]; omega
theorem good_on {f s : Nat} (hf : f ≤ 18) (hs : s ≤ 18) (h0 : s ≠ 0) (h : ¬ f < s) : Good (f / s) false (f % s, s) (f, s) := by
  have e := Nat.div_add_mod f s
  have hd : f / s ≤ f := Nat.div_le_self _ _
  refine ⟨Nat.div_pos (by omega) (by omega), by omega, hf, hs, fun q => (nomatch q), fun _ => ⟨rfl, Nat.mod_lt _ (by omega), ?_⟩⟩
  show f = f % s + f / s * s
  rw [Nat.mul_comm]; omega
theorem chk_ends0 : ((List.range 19).all fun g => (lineB 0 g == List.replicate g true) && (lineB g 0 == List.replicate g false)) = true := by kernel_rfl
theorem line_ups {g : Nat} (h : g ≤ 18) (on up : Nat) : line 0 g on up = List.replicate g up := by
  have c := List.all_eq_true.mp chk_ends0 g (List.mem_range.mpr (by omega))
  rw [Bool.and_eq_true] at c
  rw [line_b, eq_of_beq c.1, List.map_replicate]; rfl
theorem line_ons {g : Nat} (h : g ≤ 18) (on up : Nat) : line g 0 on up = List.replicate g on := by
  have c := List.all_eq_true.mp chk_ends0 g (List.mem_range.mpr (by omega))
  rw [Bool.and_eq_true] at c
  rw [line_b, eq_of_beq c.2, List.map_replicate]; rfl
theorem scale {x y u : Int} (hy : y ≠ 0) (hu : u ≠ 0) : (x * u).fdiv (y * u) = x.fdiv y ∧ (x * u).fmod (y * u) = x.fmod y * u := by
  have h1 : (x * u).fdiv (y * u) = x.fdiv y := by
    rcases Int.lt_or_lt_of_ne hu with h | h
    · have e1 : x * u = -(x * -u) := by grind
      have e2 : y * u = -(y * -u) := by grind
      rw [e1, e2, Int.neg_fdiv_neg]
      exact Int.mul_fdiv_mul_of_pos_left x y (show 0 < -u by omega)
    · exact Int.mul_fdiv_mul_of_pos_left x y h
  refine ⟨h1, ?_⟩
  have h2 := Int.mul_fdiv_add_fmod (x * u) (y * u)
  have h3 := Int.mul_fdiv_add_fmod x y
  rw [h1] at h2
  grind
/-- one division of the law: the counts, the unit, the turns taken off -/
theorem law_div {f s : Nat} {u t : Int} (hf : f ≠ 0) (hu : u ≠ 0) : ((s : Int) * u - t * ((f : Int) * u)).fdiv ((f : Int) * u) + t = ((s / f : Nat) : Int) ∧ ((s : Int) * u - t * ((f : Int) * u)).fmod ((f : Int) * u) = ((s % f : Nat) : Int) * u := by
  have e : (s : Int) * u - t * ((f : Int) * u) = ((s : Int) + (f : Int) * (-t)) * u := by grind
  have hf' : (f : Int) ≠ 0 := by omega
  obtain ⟨a, b⟩ := scale (x := (s : Int) + (f : Int) * (-t)) hf' hu
  rw [e, a, b, Int.add_mul_fdiv_left _ _ hf', Int.add_mul_fmod_self_left]
  rw [Int.fdiv_eq_ediv_of_nonneg _ (by omega), Int.fmod_eq_emod_of_nonneg _ (by omega)]
  constructor
  · rw [Int.natCast_ediv]; omega
  · rw [Int.natCast_emod]
end
end Mine
-- part T16
set_option maxHeartbeats 0
namespace Mine
noncomputable section
theorem dm_bound {f s : Nat} {size unit t : Int} (hf : 1 ≤ f) (hf18 : f ≤ 18) (hs18 : s ≤ 18) (h1 : 1 ≤ size) (h2 : size < 2 ^ 4440) (hu : unit = size ∨ unit = -size) (ht : t.natAbs ≤ 72 * size.natAbs) :
    (f : Int) * unit ≠ 0 ∧ Builtin.Int.intBits ((f : Int) * unit) ≤ 7998 ∧ ((s : Int) * unit - t * ((f : Int) * unit)).natAbs < 2 ^ (32 * Builtin.Int.intBits ((f : Int) * unit)) := by
  obtain ⟨S, hS⟩ : ∃ S, size.natAbs = S := ⟨_, rfl⟩
  have hSi : size = (S : Int) := by omega
  have hU : unit.natAbs = S := by omega
  have hS1 : 1 ≤ S := by omega
  have hfu : ((f : Int) * unit).natAbs = f * S := by rw [Int.natAbs_mul, hU]; rfl
  have hfS : S ≤ f * S := Nat.le_mul_of_pos_left _ (by omega)
  have hne : (f : Int) * unit ≠ 0 := by
    intro z
    have := congrArg Int.natAbs z
    rw [hfu] at this
    simp at this
    omega
  obtain ⟨nb, hnb⟩ : ∃ nb, Builtin.Int.intBits ((f : Int) * unit) = nb := ⟨_, rfl⟩
  have hlog : nb = (f * S).log2 + 1 := by
    rw [← hnb]
    unfold Builtin.Int.intBits
    rw [if_neg (by simpa using hne), hfu]
  have hlt : f * S < 2 ^ nb := by rw [hlog]; exact Nat.lt_log2_self
  have hS2 : S < 2 ^ 4440 := by
    have : ((S : Nat) : Int) < ((2 ^ 4440 : Nat) : Int) := by rw [← hSi, Int.natCast_pow]; exact h2
    exact Int.ofNat_lt.mp this
  refine ⟨hne, ?_, ?_⟩
  · rw [hnb, hlog]
    have h3 : f * S < 2 ^ 4445 := by
      have a : f * S ≤ 18 * S := Nat.mul_le_mul_right _ hf18
      have b : (2 : Nat) ^ 4445 = 32 * 2 ^ 4440 := by rw [show 4445 = 5 + 4440 from rfl, Nat.pow_add]
      omega
    have := (Nat.log2_lt (n := f * S) (k := 4445) (by omega)).mpr h3
    omega
  · rw [hnb]
    have a1 : ((s : Int) * unit - t * ((f : Int) * unit)).natAbs ≤ s * S + t.natAbs * (f * S) := by
      have := Int.natAbs_sub_le ((s : Int) * unit) (t * ((f : Int) * unit))
      rw [Int.natAbs_mul, Int.natAbs_mul, hU, hfu] at this
      exact this
    have a2 : s * S ≤ 18 * S := Nat.mul_le_mul_right _ hs18
    rw [hS] at ht
    have a3 : t.natAbs * (f * S) ≤ 72 * S * (18 * S) := Nat.mul_le_mul ht (Nat.mul_le_mul_right _ hf18)
    have a4 : 72 * S * (18 * S) = 1296 * (S * S) := by grind
    have a5 : S ≤ S * S := Nat.le_mul_of_pos_left _ hS1
    have a6 : S * S < 2 ^ nb * 2 ^ nb := Nat.mul_lt_mul_of_lt_of_lt (by omega) (by omega)
    have a7 : 2048 * (2 ^ nb * 2 ^ nb) = 2 ^ (11 + (nb + nb)) := by rw [Nat.pow_add 2 11, Nat.pow_add]
    have a8 : 2 ^ (11 + (nb + nb)) ≤ 2 ^ (32 * nb) := Nat.pow_le_pow_right (by omega) (by omega)
    omega
def vL (sc : D) (cs : List Int) (ons ups : Nat) (q : Sg) (size unit far high : Int) (rows steps : D) (x : List (Option D)) : List (Option D) :=
  [some sc, some (.lst (cs.map .int)), some (.int ons), some (.int ups), some (signD q), some (.int size), some (.int unit), some (.int far), some (.int high), some rows, some steps] ++ x
def rowD (a : Nat × Nat) : D := .tup [.int a.1, .int a.2]
def stD (p : Nat × Bool) : D := .tup [.int p.1, .bool p.2]
def lawB (n : Nat) : List Stmt := (fdB (stAt 21)).drop n
def dflt1 : List Int := [0, 0, 0, 0, 76, 0, 486, 620, 333, 513, 541]
def cell0 (xs : List Int) : List Int := (xs.take 11).map fun x => x.fmod (10 ^ 60)
def cellsOf (xs : List Int) : List Int := cell0 xs ++ dflt1.drop (cell0 xs).length
theorem cell0_len (xs : List Int) : (cell0 xs).length ≤ 11 := by unfold cell0; rw [List.length_map, List.length_take]; omega
theorem cells_len (xs : List Int) : (cellsOf xs).length = 11 := by
  have := cell0_len xs
  unfold cellsOf
  rw [List.length_append, List.length_drop]
  show _ + (11 - _) = 11
  omega
def sizeOf1 (cs : List Int) : Int := ((cs.getD 4 0).fmod (10 ^ 40) + 2) * 2 ^ ((cs.getD 3 0 + 4103).fmod 4301).toNat - 1
def unitOf (cs : List Int) : Int := if (cs.getD 5 0).fmod 2 = 1 then -sizeOf1 cs else sizeOf1 cs
def onsOf (cs : List Int) : Nat := ((cs.getD 0 0 + 8).fmod 19).toNat
def upsOf (cs : List Int) : Nat := ((cs.getD 1 0 + 5).fmod 19).toNat
theorem size_facts (cs : List Int) : 1 ≤ sizeOf1 cs ∧ sizeOf1 cs < 2 ^ 4440 := by
  obtain ⟨a0, a1⟩ := fmod_range (cs.getD 4 0) (m := 10 ^ 40) (by decide)
  obtain ⟨b0, b1⟩ := fmod_range (cs.getD 3 0 + 4103) (m := 4301) (by decide)
  unfold sizeOf1
  generalize (cs.getD 4 0).fmod (10 ^ 40) = x at *
  generalize he : ((cs.getD 3 0 + 4103).fmod 4301).toNat = e
  have he4 : e ≤ 4300 := by omega
  have hp := two_pow_pos e
  have hx : x + 2 < 2 ^ 134 := by
    have : (10 : Int) ^ 40 + 2 < 2 ^ 134 := by decide +kernel
    omega
  constructor
  · have : 2 * 1 ≤ (x + 2) * 2 ^ e := Int.mul_le_mul (by omega) (by omega) (by omega) (by omega)
    omega
  · have h1 : (x + 2) * 2 ^ e ≤ 2 ^ 134 * 2 ^ e := Int.mul_le_mul_of_nonneg_right (by omega) (Int.le_of_lt hp)
    have h2 : (2 : Int) ^ 134 * 2 ^ e = 2 ^ (134 + e) := (Int.pow_add ..).symm
    have h3 : (2 : Nat) ^ (134 + e) ≤ 2 ^ 4440 := Nat.pow_le_pow_right (by omega) (by omega)
    have h4 : (((2 : Nat) ^ (134 + e) : Nat) : Int) ≤ ((2 ^ 4440 : Nat) : Int) := Int.ofNat_le.mpr h3
    rw [Int.natCast_pow, Int.natCast_pow] at h4
    have h5 : ((2 : Nat) : Int) = 2 := rfl
    rw [h5] at h4
    omega
theorem unit_or (cs : List Int) : unitOf cs = sizeOf1 cs ∨ unitOf cs = -sizeOf1 cs := by unfold unitOf; split <;> simp
theorem cell_at {cs : List Int} {i : Nat} (h : i < cs.length) : (cs.map D.int)[i]? = some (.int (cs.getD i 0)) := by
  rw [List.getElem?_map, List.getElem?_eq_getElem h, List.getD_eq_getElem?_getD, List.getElem?_eq_getElem h]; rfl
end
end Mine
-- part T17
set_option maxHeartbeats 0
set_option exponentiation.threshold 10000
namespace Mine
noncomputable section
def asV : Stmt → Expr
  | .Assign _ v _ => v
  | _ => default
def scL : Scope := lcS (asV ((fdB (stAt 21)).headD (.Pass default)))
theorem scL_1 (L : Addr) : closureFor scL (callEnv fd_law L 172) = pure [] := by kernel_rfl
theorem scL_2 : ∀ y ∈ scL.names, y.2 ≠ .cell := by decide +kernel
theorem scL_3 : scL.kind = .function := by kernel_rfl
theorem scL_4 : ∀ y ∈ scL.names, y.2 = .local → scL.names.lookup y.1 = some .local := by decide +kernel
theorem scL_5 : scL.names.lookup (S "x") = some .local := by kernel_rfl
def gI (m : Int) : D → D
  | .int x => .int (x.fmod m)
  | d => d
theorem law_setup {w : World} {C : Cx} (I : In_law w C) (hd : C.A.depth + 11 < recursionLimit) (hu : C.A.units + 8 * 11 < cLine) {xs : List Int} (hxs : xs.length ≤ 63) {Φ : Fl → St → Prop} {cs : List Int} (hcs : cs = cellsOf xs)
    (H : ∀ ra sa, sa ≠ ra → Exs C ⟨vL (.lst (xs.map .int)) cs (onsOf cs) (upsOf cs) (sgOf (cs.getD 2 0)) (sizeOf1 cs) (unitOf cs) (onsOf cs * unitOf cs) (upsOf cs * unitOf cs) (.obj ra) (.obj sa) [none, none, none, none, none, none, none, none, none, none, none, none], [(sa, []), (ra, [rowD (onsOf cs, upsOf cs)])]⟩ (lawB 12) Φ) :
    Exs C ⟨[some (.lst (xs.map .int)), none, none, none, none, none, none, none, none, none, none, none, none, none, none, none, none, none, none, none, none, none, none], []⟩ (fdB (stAt 21)) Φ := by
  have W := I.W
  obtain ⟨L', eE⟩ := I.E
  have hlen : cs.length = 11 := hcs ▸ cells_len xs
  have hcell : ∀ i, i < 11 → (cs.map D.int)[i]? = some (.int (cs.getD i 0)) := fun i h => cell_at (by omega)
  have hc0 := cell0_len xs
  refine exs_cons (ex_assign_comp W (scope := scL) (x := S "x") (fun _ => true) (gI (10 ^ 60)) 1 (nx_law_cells I) (evIt_list W (ev_take W (ev_name W 0 (nx_law_script I) rfl) (.lst _) ev_int (by decide) (by rw [List.length_map]; omega))) (by rw [eE]; exact scL_1 L') scL_2 scL_3 scL_4 scL_5 ?_ (fun h₀ X L d ob W' hd' => tsC_nil) (fun h₀ X L d ob W' hd' _ => ?_) (by rw [eE]; kernel_rfl) ?_)
  · rw [List.length_take, List.length_map]; omega
  · have hd2 := List.mem_of_mem_take hd'
    obtain ⟨x, _, rfl⟩ := List.mem_map.mp hd2
    exact ev_conv (ev_mod (ev_name W' 0 rfl rfl) (ev_pow ev_int ev_int (by decide) (by decide +kernel)) (by decide +kernel)) rfl
  have e0 : List.map (gI (10 ^ 60)) (List.filter (fun _ => true) (List.take (11 : Int).toNat (List.map D.int xs))) = (cell0 xs).map .int := by
    rw [List.filter_eq_self.mpr (fun _ _ => rfl), ← List.map_take, List.map_map]
    unfold cell0
    rw [List.map_map]; rfl
  rw [e0]
  refine exs_assign (d := .lst (cs.map .int)) W 1 (nx_law_cells I) (ev_conv (ev_addL W (ev_name W 1 (nx_law_cells I) rfl) (.lst _) (ev_drop W (ds := dflt1.map .int) (k := ((cell0 xs).length : Nat)) (ev_list W (evs_cons ev_int (evs_cons ev_int (evs_cons ev_int (evs_cons ev_int (evs_cons ev_int (evs_cons ev_int (evs_cons ev_int (evs_cons ev_int (evs_cons ev_int (evs_cons ev_int (evs_cons ev_int evs_nil))))))))))) (by kernel_rfl)) (.lst _) (ev_conv (ev_len W (kn_law_len I) (mg_len I.B) (mb_len I.B) (ev_name W 1 (nx_law_cells I) rfl) (.lst _) (by rw [List.length_map]; omega)) (by rw [List.length_map])) (by omega) (by decide +kernel)) (.lst _) (by simp [dflt1]; omega)) ?_) ?_
  · rw [hcs, Int.toNat_natCast, ← List.map_drop, ← List.map_append]; rfl
  obtain ⟨o0, o1⟩ := fmod_range (cs.getD 0 0 + 8) (m := 19) (by decide)
  obtain ⟨u0, u1⟩ := fmod_range (cs.getD 1 0 + 5) (m := 19) (by decide)
  refine exs_assign (d := .int (onsOf cs)) W 2 (nx_law_ons I) (ev_conv (ev_mod (ev_add (ev_item (ev_name W 1 (nx_law_cells I) rfl) (.lst _) ev_int (by decide) (by decide) (hcell 0 (by omega))) ev_int) ev_int (by decide)) (by unfold onsOf; rw [Int.toNat_of_nonneg o0])) ?_
  refine exs_assign (d := .int (upsOf cs)) W 3 (nx_law_ups I) (ev_conv (ev_mod (ev_add (ev_item (ev_name W 1 (nx_law_cells I) rfl) (.lst _) ev_int (by decide) (by decide) (hcell 1 (by omega))) ev_int) ev_int (by decide)) (by unfold upsOf; rw [Int.toNat_of_nonneg u0])) ?_
  refine exs_assign (d := signD (sgOf (cs.getD 2 0))) W 4 (nx_law_signs I) (ev_def W I.B (kn_law_law_signs I) (mg_law_signs I.B) (s1_law_signs w) rfl (evs_cons (ev_item (ev_name W 1 (nx_law_cells I) rfl) (.lst _) ev_int (by decide) (by decide) (hcell 2 (by omega))) evs_nil) ((f_signs _).le (by omega)) hd hu) ?_
  obtain ⟨a0, a1⟩ := fmod_range (cs.getD 4 0) (m := 10 ^ 40) (by decide)
  obtain ⟨b0, b1⟩ := fmod_range (cs.getD 3 0 + 4103) (m := 4301) (by decide)
  have hb2 : Builtin.Int.intBits (2 ^ ((cs.getD 3 0 + 4103).fmod 4301).toNat) ≤ 2 ^ 20 := by
    have : Builtin.Int.intBits (2 ^ ((cs.getD 3 0 + 4103).fmod 4301).toNat) ≤ 4301 := by
      refine bits_le (Int.le_of_lt (two_pow_pos _)) ?_
      have h3 : (2 : Nat) ^ ((cs.getD 3 0 + 4103).fmod 4301).toNat < 2 ^ 4301 := Nat.pow_lt_pow_right (by omega) (by omega)
      have h4 := Int.ofNat_lt.mpr h3
      rw [Int.natCast_pow, Int.natCast_pow] at h4
      exact h4
    omega
  have hb1 : Builtin.Int.intBits ((cs.getD 4 0).fmod (10 ^ 40) + 2) ≤ 2 ^ 20 := by
    have : Builtin.Int.intBits ((cs.getD 4 0).fmod (10 ^ 40) + 2) ≤ 134 := by
      refine bits_le (by omega) ?_
      have : (10 : Int) ^ 40 + 2 < 2 ^ 134 := by decide +kernel
      omega
    omega
  refine exs_assign (d := .int (sizeOf1 cs)) W 5 (nx_law_size I) (ev_conv (ev_sub (ev_mul (ev_add (ev_mod (ev_item (ev_name W 1 (nx_law_cells I) rfl) (.lst _) ev_int (by decide) (by decide) (hcell 4 (by omega))) (ev_pow ev_int ev_int (by decide) (by decide +kernel)) (by decide +kernel)) ev_int) (ev_pow ev_int (ev_mod (ev_add (ev_item (ev_name W 1 (nx_law_cells I) rfl) (.lst _) ev_int (by decide) (by decide) (hcell 3 (by omega))) ev_int) ev_int (by decide)) b0 (by
      have : Builtin.Int.intBits 2 = 2 := by decide +kernel
      rw [this]; omega)) (.of_bits hb1 hb2)) ev_int) rfl) ?_
  obtain ⟨z1, z2⟩ := size_facts cs
  refine exs_assign (d := .int (sizeOf1 cs)) W 6 (nx_law_unit I) (ev_name W 5 (nx_law_size I) rfl) ?_
  refine exs_ifj (fun σ' => σ' = ⟨[some (.lst (xs.map .int)), some (.lst (cs.map .int)), some (.int (onsOf cs)), some (.int (upsOf cs)), some (signD (sgOf (cs.getD 2 0))), some (.int (sizeOf1 cs)), some (.int (unitOf cs)), none, none, none, none, none, none, none, none, none, none, none, none, none, none, none, none], []⟩) (ts_cmp (ev_mod (ev_item (ev_name W 1 (nx_law_cells I) rfl) (.lst _) ev_int (by decide) (by decide) (hcell 5 (by omega))) ev_int (by decide)) ev_int co_eq) (fun q => ?_) (fun q => ?_) ?_
  · have q : (cs.getD 5 0).fmod 2 = 1 := by simpa using q
    refine exs_assign (d := .int (unitOf cs)) W 6 (nx_law_unit I) (ev_conv (ev_neg (ev_name W 5 (nx_law_size I) rfl)) ?_) (exs_nil ⟨rfl, rfl⟩)
    unfold unitOf; rw [if_pos q]
  · have q : ¬ (cs.getD 5 0).fmod 2 = 1 := by simpa using q
    refine exs_nil ⟨rfl, ?_⟩
    have : unitOf cs = sizeOf1 cs := by unfold unitOf; rw [if_neg q]
    rw [this]; rfl
  rintro _ rfl
  have hon : onsOf cs ≤ 18 := by unfold onsOf; omega
  have hup : upsOf cs ≤ 18 := by unfold upsOf; omega
  refine exs_assign (d := .int (onsOf cs * unitOf cs)) W 7 (nx_law_far I) (ev_mul (ev_name W 2 (nx_law_ons I) rfl) (ev_name W 6 (nx_law_unit I) rfl) (.of_left (intBits_le_64 (by omega) (by omega)))) ?_
  refine exs_assign (d := .int (upsOf cs * unitOf cs)) W 8 (nx_law_high I) (ev_mul (ev_name W 3 (nx_law_ups I) rfl) (ev_name W 6 (nx_law_unit I) rfl) (.of_left (intBits_le_64 (by omega) (by omega)))) ?_
  refine exs_cons (ex_own W 9 (nx_law_rows I) (evs_cons (d := rowD (onsOf cs, upsOf cs)) (ev_tuple W (evs_cons (ev_name W 2 (nx_law_ons I) rfl) (evs_cons (ev_name W 3 (nx_law_ups I) rfl) evs_nil))) evs_nil) rfl fun ra hra => ?_)
  refine exs_cons (ex_own W 10 (nx_law_steps I) evs_nil rfl fun sa hsa => ?_)
  refine exs_conv (H ra sa (fun z => hsa (z ▸ .head _))) ?_
  rfl
end
end Mine
-- part T18
set_option maxHeartbeats 0
set_option exponentiation.threshold 10000
namespace Mine
noncomputable section
theorem turns_bound {c size : Int} (h1 : 1 ≤ size) : (((c.fmod 1000 - 500) * size).fdiv 7).natAbs ≤ 72 * size.natAbs := by
  obtain ⟨a0, a1⟩ := fmod_range c (m := 1000) (by decide)
  rw [Int.fdiv_eq_ediv_of_nonneg _ (by decide)]
  generalize c.fmod 1000 = r at *
  have h2 : -500 * size ≤ (r - 500) * size := Int.mul_le_mul_of_nonneg_right (by omega) (by omega)
  have h3 : (r - 500) * size ≤ 499 * size := Int.mul_le_mul_of_nonneg_right (by omega) (by omega)
  generalize (r - 500) * size = y at *
  omega
theorem mulOk_unit {f : Nat} {size unit t : Int} (hf18 : f ≤ 18) (h1 : 1 ≤ size) (h2 : size < 2 ^ 4440) (hu : unit = size ∨ unit = -size) (ht : t.natAbs ≤ 72 * size.natAbs) : IntMulOk t ((f : Int) * unit) := by
  have hb : ∀ {x : Int} {k : Nat}, x.natAbs < 2 ^ k → k ≤ 2 ^ 20 → Builtin.Int.intBits x ≤ 2 ^ 20 := fun {x k} hx hk => by
    unfold Builtin.Int.intBits
    split
    · exact Nat.zero_le _
    · rename_i hz
      have := (Nat.log2_lt (n := x.natAbs) (k := k) (by simpa using hz)).mpr hx
      omega
  have hS2 : size.natAbs < 2 ^ 4440 := by
    have : ((size.natAbs : Nat) : Int) < ((2 ^ 4440 : Nat) : Int) := by rw [Int.natCast_pow]; omega
    exact Int.ofNat_lt.mp this
  have e : (2 : Nat) ^ 4447 = 128 * 2 ^ 4440 := by rw [show 4447 = 7 + 4440 from rfl, Nat.pow_add]
  refine .of_bits (hb (k := 4447) ?_ (by omega)) (hb (k := 4447) ?_ (by omega))
  · omega
  · rw [Int.natAbs_mul]
    have hU : unit.natAbs = size.natAbs := by omega
    have : (f : Int).natAbs * unit.natAbs ≤ 18 * size.natAbs := by rw [hU]; exact Nat.mul_le_mul_right _ hf18
    omega
theorem bne_mul {f : Nat} {u : Int} (hu : u ≠ 0) : ((f : Int) * u != 0) = decide (f ≠ 0) := by
  by_cases h : f = 0
  · subst h; simp
  · have : (f : Int) * u ≠ 0 := Int.mul_ne_zero (by omega) hu
    simp [h, this]
section
variable {w : World} {C : Cx} (I : In_law w C) (hd : C.A.depth + 11 < recursionLimit) (hu : C.A.units + 8 * 11 < cLine) {sc : D} {cs : List Int} (hlen : cs.length = 11) {ons ups : Nat} {q : Sg} {size unit : Int} (h1 : 1 ≤ size) (h2 : size < 2 ^ 4440) (hunit : unit = size ∨ unit = -size)
include I hd hu hlen h1 h2 hunit
theorem law_turn {ra sa : Addr} (hrs : sa ≠ ra) {f s : Nat} {R : List (Nat × Nat)} {Sx : List (Nat × Bool)} {e1 e2 e3 e4 e5 : Option D} (hch : Ch ((f, s) :: R) Sx) (hf : f ≠ 0) (hs : s ≠ 0) (hj : Sx.length ≤ 4) {Ψ : Fl → St → Prop}
    (H : ∀ (f' s' t : Nat) (u : Bool) e1 e2 e3 e4 e5, Good t u (f', s') (f, s) → (if s > f then f' = f ∧ s' = s % f else f' = f % s ∧ s' = s) → Ψ .next ⟨vL sc cs ons ups q size unit (f' * unit) (s' * unit) (.obj ra) (.obj sa) [e1, e2, e3, e4, e5, none, none, none, none, none, none, none], [(sa, (((t, u) :: Sx).reverse).map stD), (ra, (((f', s') :: (f, s) :: R).reverse).map rowD)]⟩) :
    Exs C ⟨vL sc cs ons ups q size unit (f * unit) (s * unit) (.obj ra) (.obj sa) [e1, e2, e3, e4, e5, none, none, none, none, none, none, none], [(sa, (Sx.reverse).map stD), (ra, (((f, s) :: R).reverse).map rowD)]⟩ (match (lawB 12).headD (.Pass default) with | .While _ b _ _ => b | _ => []) Ψ := by
  have W := I.W
  obtain ⟨hf18, hs18⟩ := hch.small 0 (f, s) rfl
  have hRl : R.length = Sx.length := by have := hch.len; simp only [List.length_cons] at this; omega
  have hu0 : unit ≠ 0 := by omega
  have hlast : ((((f, s) :: R).reverse).map rowD)[(-1 + ((((f, s) :: R).reverse).map rowD).length : Int).toNat]? = some (rowD (f, s)) := by
    have hl : ((((f, s) :: R).reverse).map rowD).length = R.length + 1 := by simp
    rw [hl, show (-1 + ((R.length + 1 : Nat) : Int)).toNat = R.length by omega, List.getElem?_map, List.reverse_cons, List.getElem?_append_right (by simp)]
    simp
  refine exs_tuple (is := [11, 12]) (ds := [.int f, .int s]) W (.cons 11 (nx_law_flat I) (.cons 12 (nx_law_steep I) .nil)) (ev_item_neg (k := -1) (ev_name W 9 (nx_law_rows I) rfl) (.obj (.tail _ (.head _))) (ev_conv (ev_neg ev_int) rfl) (by decide) (by simp; omega) (by decide) hlast) rfl ?_
  obtain ⟨t, ht⟩ : ∃ t, ((cs.getD (6 + Sx.length) 0).fmod 1000 - 500) * size = t := ⟨_, rfl⟩
  have hti := turns_bound (c := cs.getD (6 + Sx.length) 0) h1
  rw [ht] at hti
  refine exs_assign (d := .int (t.fdiv 7)) W 13 (nx_law_turns I) (ev_conv (ev_div (ev_mul (ev_sub (ev_mod (ev_item (k := ((6 + Sx.length : Nat) : Int)) (x := .int (cs.getD (6 + Sx.length) 0)) (ev_name W 1 (nx_law_cells I) rfl) (.lst _) (ev_conv (ev_add ev_int (ev_len W (kn_law_len I) (mg_len I.B) (mb_len I.B) (ev_name W 10 (nx_law_steps I) rfl) (.obj (.head _)) (by simp; omega))) (by simp)) (by omega) (by omega) (by rw [Int.toNat_natCast]; exact cell_at (by omega))) ev_int (by decide)) ev_int) (ev_name W 5 (nx_law_size I) rfl) (.of_left (intBits_le_64 ?b1 ?b2))) ev_int (by decide) (small_py (by decide) (by decide))) (by rw [ht])) ?_
  case b1 => have := fmod_range (cs.getD (6 + Sx.length) 0) (m := 1000) (by decide); omega
  case b2 => have := fmod_range (cs.getD (6 + Sx.length) 0) (m := 1000) (by decide); omega
  obtain ⟨T, hT⟩ : ∃ T, t.fdiv 7 = T := ⟨_, rfl⟩
  rw [hT] at hti ⊢
  refine exs_assign (d := .bool (decide (s > f))) W 14 (nx_law_upward I) (ev_conv (ev_cmp (ev_name W 12 (nx_law_steep I) rfl) (ev_name W 11 (nx_law_flat I) rfl) co_gt) (by congr 1; simp)) ?_
  refine exs_ifj (fun σ' => ∃ (f' s' t' : Nat), Good t' (decide (s > f)) (f', s') (f, s) ∧ (if s > f then f' = f ∧ s' = s % f else f' = f % s ∧ s' = s) ∧ σ' = ⟨vL sc cs ons ups q size unit (f' * unit) (s' * unit) (.obj ra) (.obj sa) [some (.int f'), some (.int s'), some (.int T), some (.bool (decide (s > f))), some (.int ((t' : Int) - T)), none, none, none, none, none, none, none], [(sa, (Sx.reverse).map stD), (ra, (((f, s) :: R).reverse).map rowD)]⟩) (c := decide (s > f)) (ts_val (ev_name W 14 (nx_law_upward I) rfl) tr_bool) (fun c => ?_) (fun c => ?_) ?_
  · have c := of_decide_eq_true c
    obtain ⟨b1, b2, b3⟩ := dm_bound (s := s) (t := T) (by omega) hf18 hs18 h1 h2 hunit hti
    obtain ⟨d1, d2⟩ := law_div (s := s) (t := T) hf hu0
    have F := f_int_divmod (w := w) b1 b2 b3
    refine exs_tuple (is := [15, 8]) (ds := [.int (((s / f : Nat) : Int) - T), .int (((s % f : Nat) : Int) * unit)]) W (.cons 15 (nx_law_times I) (.cons 8 (nx_law_high I) .nil)) (ev_conv (ev_def W I.B (kn_law_int_divmod I) (mg_int_divmod I.B) (s1_int_divmod w) rfl (evs_cons (ev_sub (ev_name W 8 (nx_law_high I) rfl) (ev_mul (ev_name W 13 (nx_law_turns I) rfl) (ev_name W 7 (nx_law_far I) rfl) (mulOk_unit hf18 h1 h2 hunit hti))) (evs_cons (ev_name W 7 (nx_law_far I) rfl) evs_nil)) F hd hu) ?_) rfl ?_
    · unfold fdm
      rw [d2, ← d1, Int.add_sub_cancel]
    refine exs_assign (d := .int ((s % f : Nat) : Int)) W 12 (nx_law_steep I) (ev_conv (ev_mod (ev_name W 12 (nx_law_steep I) rfl) (ev_name W 11 (nx_law_flat I) rfl) (by omega)) (by rw [Int.fmod_eq_emod_of_nonneg _ (by omega), Int.natCast_emod])) ?_
    refine exs_nil ⟨rfl, f, s % f, s / f, ?_, ?_, rfl⟩
    · rw [decide_eq_true c]; exact good_up hf18 hs18 hf c
    · rw [if_pos c]; exact ⟨rfl, rfl⟩
  · have c := of_decide_eq_false c
    obtain ⟨b1, b2, b3⟩ := dm_bound (f := s) (s := f) (t := T) (by omega) hs18 hf18 h1 h2 hunit hti
    obtain ⟨d1, d2⟩ := law_div (f := s) (s := f) (t := T) hs hu0
    have F := f_int_divmod (w := w) b1 b2 b3
    refine exs_tuple (is := [15, 7]) (ds := [.int (((f / s : Nat) : Int) - T), .int (((f % s : Nat) : Int) * unit)]) W (.cons 15 (nx_law_times I) (.cons 7 (nx_law_far I) .nil)) (ev_conv (ev_def W I.B (kn_law_int_divmod I) (mg_int_divmod I.B) (s1_int_divmod w) rfl (evs_cons (ev_sub (ev_name W 7 (nx_law_far I) rfl) (ev_mul (ev_name W 13 (nx_law_turns I) rfl) (ev_name W 8 (nx_law_high I) rfl) (mulOk_unit hs18 h1 h2 hunit hti))) (evs_cons (ev_name W 8 (nx_law_high I) rfl) evs_nil)) F hd hu) ?_) rfl ?_
    · unfold fdm
      rw [d2, ← d1, Int.add_sub_cancel]
    refine exs_assign (d := .int ((f % s : Nat) : Int)) W 11 (nx_law_flat I) (ev_conv (ev_mod (ev_name W 11 (nx_law_flat I) rfl) (ev_name W 12 (nx_law_steep I) rfl) (by omega)) (by rw [Int.fmod_eq_emod_of_nonneg _ (by omega), Int.natCast_emod])) ?_
    refine exs_nil ⟨rfl, f % s, s, f / s, ?_, ?_, rfl⟩
    · rw [decide_eq_false c]; exact good_on hf18 hs18 hs c
    · rw [if_neg c]; exact ⟨rfl, rfl⟩
  rintro _ ⟨f', s', t', hg, hns, rfl⟩
  refine exs_assign (d := .int t') W 15 (nx_law_times I) (ev_conv (ev_add (ev_name W 15 (nx_law_times I) rfl) (ev_name W 13 (nx_law_turns I) rfl)) (by congr 1; omega)) ?_
  have hu' : C.A.units < cLine := by omega
  have ht1 := hg.t1
  have ht2 := hg.t2
  have hf' : f' ≤ 18 := by
    by_cases c : s > f
    · rw [if_pos c] at hns; omega
    · rw [if_neg c] at hns; have := Nat.mod_le f s; omega
  have hs' : s' ≤ 18 := by
    by_cases c : s > f
    · rw [if_pos c] at hns; have := Nat.mod_le s f; omega
    · rw [if_neg c] at hns; omega
  refine exs_if_leave (c := false) (ts_conv (ts_bool (tsl_or (ts_cmp (ev_tuple W (evs_cons (ev_name W 7 (nx_law_far I) rfl) (evs_cons (ev_name W 8 (nx_law_high I) rfl) evs_nil))) (ev_tuple W (evs_cons (ev_mul (ev_name W 11 (nx_law_flat I) rfl) (ev_name W 6 (nx_law_unit I) rfl) (.of_left (intBits_le_64 (by omega) (by omega)))) (evs_cons (ev_mul (ev_name W 12 (nx_law_steep I) rfl) (ev_name W 6 (nx_law_unit I) rfl) (.of_left (intBits_le_64 (by omega) (by omega)))) evs_nil))) (co_netup2 W hu')) fun _ => tsl_or (ts_cmp (ev_name W 15 (nx_law_times I) rfl) ev_int co_lt) fun _ => tsl_or (ts_cmp (ev_name W 15 (nx_law_times I) rfl) ev_int co_gt) fun _ => tsl_or_nil)) ?_) (fun q => nomatch q) (fun _ => ?_)
  · simp; omega
  have hi : interactive C.env = false := by obtain ⟨L, e⟩ := I.E; rw [e]; kernel_rfl
  refine exs_cons (ex_append (ds := (((f, s) :: R).reverse).map rowD) (d := rowD (f', s')) (objs' := [(sa, (Sx.reverse).map stD), (ra, (((f, s) :: R).reverse).map rowD ++ [rowD (f', s')])]) W 9 (nx_law_rows I) rfl (ev_tuple W (evs_cons (ev_name W 11 (nx_law_flat I) rfl) (evs_cons (ev_name W 12 (nx_law_steep I) rfl) evs_nil))) (.there .here) (by simp; omega) ?_ (hi := hi))
  refine exs_cons (ex_append (ds := (Sx.reverse).map stD) (d := stD (t', decide (s > f))) (objs' := [(sa, (Sx.reverse).map stD ++ [stD (t', decide (s > f))]), (ra, (((f, s) :: R).reverse).map rowD ++ [rowD (f', s')])]) W 10 (nx_law_steps I) rfl (ev_tuple W (evs_cons (ev_name W 15 (nx_law_times I) rfl) (evs_cons (ev_name W 14 (nx_law_upward I) rfl) evs_nil))) .here (by simp; omega) ?_ (hi := hi))
  refine exs_nil ?_
  have := H f' s' t' (decide (s > f)) (some (.int f')) (some (.int s')) (some (.int T)) (some (.bool (decide (s > f)))) (some (.int t')) hg hns
  simp only [List.reverse_cons, List.map_append, List.map_cons, List.map_nil] at this ⊢
  exact this
end
end
end Mine
-- part T19
set_option maxHeartbeats 0
set_option exponentiation.threshold 10000
namespace Mine
noncomputable section
theorem mul_eq0 {f : Nat} {u : Int} (hu : u ≠ 0) : ((f : Int) * u == 0) = decide (f = 0) := by
  by_cases h : f = 0
  · subst h; simp
  · have : (f : Int) * u ≠ 0 := Int.mul_ne_zero (by omega) hu
    simp [h, this]
section
variable {w : World} {C : Cx} (I : In_law w C) (hd : C.A.depth + 11 < recursionLimit) (hu : C.A.units + 8 * 11 < cLine) {sc : D} {cs : List Int} (hlen : cs.length = 11) {ons ups : Nat} {q : Sg} (hq : SgOk q) {size unit : Int} (h1 : 1 ≤ size) (h2 : size < 2 ^ 4440) (hunit : unit = size ∨ unit = -size)
include I hd hu hlen hq h1 h2 hunit
theorem law_mid {ra sa : Addr} (hrs : sa ≠ ra) (ho : ons ≤ 18) (hp : ups ≤ 18) {Φ : Fl → St → Prop}
    (H : ∀ (f s : Nat) (R : List (Nat × Nat)) (Sx : List (Nat × Bool)) e1 e2 e3 e4 e5 e6 e7 (seed : Int) (t : List Nat), Ch ((f, s) :: R) Sx → Sx.length ≤ 5 → prep t = line f s q.on q.up → t.length ≤ 1000 →
      Exs C ⟨vL sc cs ons ups q size unit (f * unit) (s * unit) (.obj ra) (.obj sa) [e1, e2, e3, e4, e5, e6, e7, some (.int seed), some (.str (sx t)), none, none, none], [(sa, Sx.map stD), (ra, ((f, s) :: R).map rowD)]⟩ (lawB 19) Φ) :
    Exs C ⟨vL sc cs ons ups q size unit (ons * unit) (ups * unit) (.obj ra) (.obj sa) [none, none, none, none, none, none, none, none, none, none, none, none], [(sa, []), (ra, [rowD (ons, ups)])]⟩ (lawB 12) Φ := by
  have W := I.W
  have hu0 : unit ≠ 0 := by omega
  have hi : interactive C.env = false := by obtain ⟨L, e⟩ := I.E; rw [e]; kernel_rfl
  refine exs_cons (ex_while (fun m σ => ∃ (f s : Nat) (R : List (Nat × Nat)) (Sx : List (Nat × Bool)) (e1 e2 e3 e4 e5 : Option D), σ = ⟨vL sc cs ons ups q size unit (f * unit) (s * unit) (.obj ra) (.obj sa) [e1, e2, e3, e4, e5, none, none, none, none, none, none, none], [(sa, (Sx.reverse).map stD), (ra, (((f, s) :: R).reverse).map rowD)]⟩ ∧ Ch ((f, s) :: R) Sx ∧ ends m f s = true ∧ Sx.length + m = 5) ?_ 5 ⟨ons, ups, [], [], none, none, none, none, none, rfl, .one _ ho hp, ends_five ho hp, rfl⟩)
  rintro m _ ⟨f, s, R, Sx, e1, e2, e3, e4, e5, rfl, hch, hends, hm⟩
  refine ⟨decide (f ≠ 0 ∧ s ≠ 0), ts_conv (ts_bool (tsl_and (ts_cmp (ev_name W 7 (nx_law_far I) rfl) ev_int co_ne) fun _ => tsl_and (ts_cmp (ev_name W 8 (nx_law_high I) rfl) ev_int co_ne) fun _ => tsl_and_nil)) ?_, fun c => ?_, fun c => ?_⟩
  · rw [bne_mul hu0, bne_mul hu0]; simp
  · obtain ⟨c1, c2⟩ := of_decide_eq_true c
    obtain ⟨m', rfl, hends'⟩ := ends_step hends c1 c2
    refine law_turn I hd hu hlen h1 h2 hunit hrs hch c1 c2 (by omega) ?_
    intro f' s' t u e1 e2 e3 e4 e5 hg hns
    have hf' := hch.small 0 (f, s) rfl
    refine ⟨m', by omega, f', s', (f, s) :: R, (t, u) :: Sx, e1, e2, e3, e4, e5, rfl, .step ?_ ?_ hch hg, ?_, by simp only [List.length_cons]; omega⟩
    · by_cases c : s > f
      · rw [if_pos c] at hns; show f' ≤ 18; omega
      · rw [if_neg c] at hns; show f' ≤ 18; have := Nat.mod_le f s; omega
    · by_cases c : s > f
      · rw [if_pos c] at hns; show s' ≤ 18; have := Nat.mod_le s f; omega
      · rw [if_neg c] at hns; show s' ≤ 18; omega
    · by_cases c : s > f
      · rw [if_pos c] at hns hends'; rw [hns.1, hns.2]; exact hends'
      · rw [if_neg c] at hns hends'; rw [hns.1, hns.2]; exact hends'
  have c : ¬ (f ≠ 0 ∧ s ≠ 0) := of_decide_eq_false c
  have hz : f = 0 ∨ s = 0 := by omega
  obtain ⟨hf18, hs18⟩ := hch.small 0 (f, s) rfl
  -- the last quotient
  obtain ⟨b1, b2, b3⟩ := dm_bound (f := 1) (s := f + s) (t := 0) (by omega) (by omega) (by omega) h1 h2 hunit (by simp)
  have e1u : ((1 : Nat) : Int) * unit = unit := by simp
  rw [e1u] at b1 b2 b3
  have F := f_int_divmod (w := w) (a := ((f + s : Nat) : Int) * unit) b1 b2 (by simpa using b3)
  have hfd : fdm (((f + s : Nat) : Int) * unit) unit = .tup [.int ((f + s : Nat) : Int), .int 0] := by
    obtain ⟨a, b⟩ := scale (x := ((f + s : Nat) : Int)) (y := 1) (u := unit) (by decide) hu0
    rw [Int.one_mul] at a b
    unfold fdm
    rw [a, b]
    simp
  rw [hfd] at F
  refine exs_tuple (is := [16, 17]) (ds := [.int ((f + s : Nat) : Int), .int 0]) W (.cons 16 (nx_law_count I) (.cons 17 (nx_law_over I) .nil)) (ev_def W I.B (kn_law_int_divmod I) (mg_int_divmod I.B) (s1_int_divmod w) rfl (evs_cons (ev_conv (ev_add (ev_name W 7 (nx_law_far I) rfl) (ev_name W 8 (nx_law_high I) rfl)) (b := .int (((f + s : Nat) : Int) * unit)) (by congr 1; push_cast; grind)) (evs_cons (ev_name W 6 (nx_law_unit I) rfl) evs_nil)) F hd hu) rfl ?_
  refine exs_if_leave (c := false) (ts_conv (ts_bool (tsl_or (ts_cmp (ev_name W 17 (nx_law_over I) rfl) ev_int co_ne) fun _ => tsl_or (ts_cmp (ev_name W 16 (nx_law_count I) rfl) ev_int co_lt) fun _ => tsl_or (ts_cmp (ev_name W 16 (nx_law_count I) rfl) ev_int co_gt) fun _ => tsl_or_nil)) ?_) (fun q => nomatch q) (fun _ => ?_)
  · simp; omega
  have hlS : Sx.length ≤ 5 := by omega
  have hlR : R.length = Sx.length := by have := hch.len; simp only [List.length_cons] at this; omega
  refine exs_cons (ex_reverse (objs' := [(sa, (Sx.reverse).map stD), (ra, ((((f, s) :: R).reverse).map rowD).reverse)]) W 9 (nx_law_rows I) rfl (.there .here) (by simp; omega) ?_ (hi := hi))
  refine exs_cons (ex_reverse (objs' := [(sa, ((Sx.reverse).map stD).reverse), (ra, ((((f, s) :: R).reverse).map rowD).reverse)]) W 10 (nx_law_steps I) rfl .here (by simp; omega) ?_ (hi := hi))
  have r1 : ((((f, s) :: R).reverse).map rowD).reverse = ((f, s) :: R).map rowD := by rw [List.map_reverse, List.reverse_reverse]
  have r2 : ((Sx.reverse).map stD).reverse = Sx.map stD := by rw [List.map_reverse, List.reverse_reverse]
  rw [r1, r2]
  obtain ⟨seed, hseed⟩ : ∃ seed, cs.sum.fmod 99991 = seed := ⟨_, rfl⟩
  refine exs_assign (d := .int seed) W 18 (nx_law_seed I) (ev_conv (ev_mod (ev_sum W (kn_law_sum I) (mg_sum I.B) (mb_sum I.B) (ev_name W 1 (nx_law_cells I) rfl) (.lst _)) ev_int (by decide)) (by rw [hseed])) ?_
  have hl18 : f + s ≤ 18 := by omega
  refine exs_ifj (fun σ' => ∃ t : List Nat, prep t = line f s q.on q.up ∧ t.length ≤ 1000 ∧ σ' = ⟨vL sc cs ons ups q size unit (f * unit) (s * unit) (.obj ra) (.obj sa) [e1, e2, e3, e4, e5, some (.int ((f + s : Nat) : Int)), some (.int 0), some (.int seed), some (.str (sx t)), none, none, none], [(sa, Sx.map stD), (ra, ((f, s) :: R).map rowD)]⟩) (c := decide (f = 0)) (ts_conv (ts_cmp (ev_name W 7 (nx_law_far I) rfl) ev_int co_eq) (mul_eq0 hu0)) (fun c => ?_) (fun c => ?_) ?_
  · have c := of_decide_eq_true c
    subst c
    have hrng := L13_rng hq.up
    refine exs_assign (d := .str (sx (runL q.up (0 + s) seed))) W 19 (nx_law_text I) (ev_def W I.B (kn_law_law_run I) (mg_law_run I.B) (s1_law_run w) rfl (evs_cons (ev_item_tup (ds := [.str (c1 q.on), .str (c1 q.up), .str (c1 q.pair), .str (sx q.three)]) (k := 1) (j := 1) (ev_name W 4 (nx_law_signs I) rfl) ev_int (by decide) (by decide) (by exact rfl) rfl) (evs_cons (ev_name W 16 (nx_law_count I) rfl) (evs_cons (ev_name W 18 (nx_law_seed I) rfl) evs_nil))) ((f_run hrng.1 hrng.2 (by omega)).le (by omega)) hd hu) (exs_nil ⟨rfl, _, ?_, ?_, rfl⟩)
    · rw [p_run hq.up _ _ _ (Nat.le_refl _), line_ups hs18, Nat.zero_add]
    · have := runL_len q.up (0 + s) (0 + s) seed (Nat.le_refl _); omega
  · have c := of_decide_eq_false c
    have hs0 : s = 0 := by omega
    subst hs0
    have hrng := L13_rng hq.on
    refine exs_assign (d := .str (sx (runL q.on (f + 0) seed))) W 19 (nx_law_text I) (ev_def W I.B (kn_law_law_run I) (mg_law_run I.B) (s1_law_run w) rfl (evs_cons (ev_item_tup (ds := [.str (c1 q.on), .str (c1 q.up), .str (c1 q.pair), .str (sx q.three)]) (k := 0) (j := 0) (ev_name W 4 (nx_law_signs I) rfl) ev_int (by decide) (by decide) (by exact rfl) rfl) (evs_cons (ev_name W 16 (nx_law_count I) rfl) (evs_cons (ev_name W 18 (nx_law_seed I) rfl) evs_nil))) ((f_run hrng.1 hrng.2 (by omega)).le (by omega)) hd hu) (exs_nil ⟨rfl, _, ?_, ?_, rfl⟩)
    · rw [p_run hq.on _ _ _ (Nat.le_refl _), line_ons hf18, Nat.add_zero]
    · have := runL_len q.on (f + 0) (f + 0) seed (Nat.le_refl _); omega
  rintro _ ⟨t, ht1, ht2, rfl⟩
  exact H f s R Sx e1 e2 e3 e4 e5 _ _ seed t hch hlS ht1 ht2
end
end
end Mine
-- part T20
set_option maxHeartbeats 0
set_option exponentiation.threshold 10000
namespace Mine
noncomputable section
theorem sx_bne (a b : List Nat) : (!(sx a == sx b)) = decide (a ≠ b) := by
  by_cases h : a = b
  · subst h; simp
  · have : sx a ≠ sx b := fun e => h (congrArg (fun s : PySem.Str => s.cps.toList) e)
    simp [h, this]
section
variable {w : World} {C : Cx} (I : In_law w C) (hd : C.A.depth + 11 < recursionLimit) (hu : C.A.units + 8 * 11 < cLine) {sc : D} {cs : List Int} {ons ups : Nat} {q : Sg} (hq : SgOk q) {size unit : Int}
include I hd hu hq
theorem law_for {ra sa : Addr} {f s : Nat} {far high : Int} {R : List (Nat × Nat)} {Sx : List (Nat × Bool)} {e1 e2 e3 e4 e5 e6 e7 : Option D} {seed : Int} {t : List Nat} (hch : Ch ((f, s) :: R) Sx) (hl : Sx.length ≤ 5) (hpt : prep t = line f s q.on q.up) (htl : t.length ≤ 1000) {Φ : Fl → St → Prop}
    (H : ∀ x1 x2 x3 x4 x5 x6 x7 x8 x9 x10 x11 ob, Exs C ⟨vL sc cs ons ups q size unit far high (.obj ra) (.obj sa) [x1, x2, x3, x4, x5, x6, x7, x8, x9, x10, x11, none], ob⟩ (lawB 20) Φ) :
    Exs C ⟨vL sc cs ons ups q size unit far high (.obj ra) (.obj sa) [e1, e2, e3, e4, e5, e6, e7, some (.int seed), some (.str (sx t)), none, none, none], [(sa, Sx.map stD), (ra, ((f, s) :: R).map rowD)]⟩ (lawB 19) Φ := by
  have W := I.W
  obtain ⟨Rr, hRr⟩ : ∃ Rr, (f, s) :: R = Rr := ⟨_, rfl⟩
  have h0 : Rr[0]? = some (f, s) := by rw [← hRr]; rfl
  rw [hRr] at hch ⊢
  have hRl := hch.len
  refine exs_cons (ex_for W (ds := rangeD 0 ((Rr.length : Nat) : Int).toNat) 20 (nx_law_k I) (evIt_range1 W (kn_law_range I) (mg_range I.B) (mb_range I.B) (ev_conv (ev_len W (kn_law_len I) (mg_len I.B) (mb_len I.B) (ev_name W 9 (nx_law_rows I) rfl) (.obj (.tail _ (.head _))) (by rw [List.length_map]; omega)) (by rw [List.length_map])) (by omega) (by omega))
    (fun k σ => ∃ (e1 e2 e3 e4 e5 e6 e7 ek ew : Option D) (t : List Nat), σ = ⟨vL sc cs ons ups q size unit far high (.obj ra) (.obj sa) [e1, e2, e3, e4, e5, e6, e7, some (.int seed), some (.str (sx t)), ek, ew, none], [(sa, Sx.map stD), (ra, Rr.map rowD)]⟩ ∧ t.length ≤ 1000 ∧ ∀ a, Rr[k]? = some a → prep t = line a.1 a.2 q.on q.up) ?_ ?_ ?_)
  · refine ⟨e1, e2, e3, e4, e5, e6, e7, none, none, t, rfl, htl, fun a ha => ?_⟩
    rw [h0] at ha; cases ha; exact hpt
  · rintro k d _ hk ⟨e1, e2, e3, e4, e5, e6, e7, ek, ew, t, rfl, htl, hpt⟩
    obtain ⟨hkl, rfl⟩ := rangeD_get hk
    rw [Int.toNat_natCast] at hkl
    rw [Int.zero_add]
    obtain ⟨a, ha⟩ : ∃ a, Rr[k]? = some a := ⟨_, List.getElem?_eq_getElem hkl⟩
    have hpt := hpt a ha
    obtain ⟨ha1, ha2⟩ := hch.small k a ha
    have hra : (Rr.map rowD)[(k : Int).toNat]? = some (.tup [.int a.1, .int a.2]) := by rw [Int.toNat_natCast, List.getElem?_map, ha]; rfl
    refine exs_assign (d := .str (sx (line a.1 a.2 q.on q.up))) W 21 (nx_law_word I) (ev_conv (ev_def W I.B (kn_law_law_prepared I) (mg_law_prepared I.B) (s1_law_prepared w) rfl (evs_cons (ev_name W 19 (nx_law_text I) rfl) evs_nil) ((f_prep (sx t) (by show t.length ≤ 10000; omega)).le (by omega)) hd hu) (by show D.str (sx (prep t)) = _; rw [hpt])) ?_
    refine exs_if_leave (c := false) (ts_conv (ts_cmp (ev_name W 21 (nx_law_word I) rfl) (ev_def W I.B (kn_law_law_line I) (mg_law_line I.B) (s1_law_line w) rfl (evs_cons (ev_item_tup (j := 0) (x := .int a.1) (ev_item (ev_name W 9 (nx_law_rows I) rfl) (.obj (.tail _ (.head _))) (ev_name W 20 (nx_law_k I) rfl) (by omega) (by omega) hra) ev_int (by decide) (by decide) (by exact rfl) rfl) (evs_cons (ev_item_tup (j := 1) (x := .int a.2) (ev_item (ev_name W 9 (nx_law_rows I) rfl) (.obj (.tail _ (.head _))) (ev_name W 20 (nx_law_k I) rfl) (by omega) (by omega) hra) ev_int (by decide) (by decide) (by exact rfl) rfl) (evs_cons (ev_item_tup (ds := [.str (c1 q.on), .str (c1 q.up), .str (c1 q.pair), .str (sx q.three)]) (j := 0) (x := .str (c1 q.on)) (ev_name W 4 (nx_law_signs I) rfl) ev_int (by decide) (by decide) (by exact rfl) rfl) (evs_cons (ev_item_tup (ds := [.str (c1 q.on), .str (c1 q.up), .str (c1 q.pair), .str (sx q.three)]) (j := 1) (x := .str (c1 q.up)) (ev_name W 4 (nx_law_signs I) rfl) ev_int (by decide) (by decide) (by exact rfl) rfl) evs_nil)))) ((f_line ha1 ha2).le (by omega)) hd hu) co_nes) (by rw [sx_bne]; simp)) (fun q => nomatch q) (fun _ => ?_)
    by_cases hks : k < Sx.length
    · obtain ⟨p, hp⟩ : ∃ p, Sx[k]? = some p := ⟨_, List.getElem?_eq_getElem hks⟩
      obtain ⟨a', b, hka, hkb, hg⟩ := hch.good k p hp
      rw [ha] at hka; cases hka
      have hsp : (Sx.map stD)[(k : Int).toNat]? = some (.tup [.int p.1, .bool p.2]) := by rw [Int.toNat_natCast, List.getElem?_map, hp]; rfl
      refine exs_if (c := true) (ts_conv (ts_cmp (ev_name W 20 (nx_law_k I) rfl) (ev_len W (kn_law_len I) (mg_len I.B) (mb_len I.B) (ev_name W 10 (nx_law_steps I) rfl) (.obj (.head _)) (by rw [List.length_map]; omega)) co_lt) (by rw [List.length_map]; simp; omega)) (fun _ => ?_) (fun q => nomatch q)
      refine exs_tuple (is := [15, 14]) (ds := [.int p.1, .bool p.2]) W (.cons 15 (nx_law_times I) (.cons 14 (nx_law_upward I) .nil)) (ev_item (ev_name W 10 (nx_law_steps I) rfl) (.obj (.head _)) (ev_name W 20 (nx_law_k I) rfl) (by omega) (by omega) hsp) rfl ?_
      have hmem : ∀ c ∈ line a.1 a.2 q.on q.up, c = q.on ∨ c = q.up := fun c hc => line_mem hc
      have hrng : ∀ c ∈ line a.1 a.2 q.on q.up, 97 ≤ c ∧ c ≤ 122 := fun c hc => (hmem c hc).elim (fun e => e ▸ L13_rng hq.on) fun e => e ▸ L13_rng hq.up
      have hll : (line a.1 a.2 q.on q.up).length ≤ 36 := by rw [line_len]; omega
      refine exs_assign (d := .str (sx (rew q p.1 p.2 (line a.1 a.2 q.on q.up) (seed + k)))) W 19 (nx_law_text I) (ev_def W I.B (kn_law_law_rewritten I) (mg_law_rewritten I.B) (s1_law_rewritten w) rfl (evs_cons (ev_name W 21 (nx_law_word I) rfl) (evs_cons (ev_name W 4 (nx_law_signs I) rfl) (evs_cons (ev_name W 15 (nx_law_times I) rfl) (evs_cons (ev_name W 14 (nx_law_upward I) rfl) (evs_cons (ev_add (ev_name W 18 (nx_law_seed I) rfl) (ev_name W 20 (nx_law_k I) rfl)) evs_nil))))) ((f_rew (L13_rng hq.on) (L13_rng hq.up) hq.len hg.t1 hg.t2 (by omega) hrng).le (by omega)) hd hu) ?_
      refine exs_nil (exs_nil ⟨e1, e2, e3, some (.bool p.2), some (.int p.1), e6, e7, some (.int k), some (.str (sx (line a.1 a.2 q.on q.up))), _, rfl, ?_, fun b' hb' => ?_⟩)
      · have := rew_len q p.1 p.2 hg.t2 hq.len (line a.1 a.2 q.on q.up) (seed + k); omega
      · rw [hkb] at hb'; cases hb'
        rw [p_rew hq hg.t1 hmem, hg.line hq.ne]
    · refine exs_if (c := false) (ts_conv (ts_cmp (ev_name W 20 (nx_law_k I) rfl) (ev_len W (kn_law_len I) (mg_len I.B) (mb_len I.B) (ev_name W 10 (nx_law_steps I) rfl) (.obj (.head _)) (by rw [List.length_map]; omega)) co_lt) (by rw [List.length_map]; simp; omega)) (fun q => nomatch q) (fun _ => ?_)
      refine exs_nil (exs_nil ⟨e1, e2, e3, e4, e5, e6, e7, some (.int k), some (.str (sx (line a.1 a.2 q.on q.up))), t, rfl, htl, fun b' hb' => ?_⟩)
      have : k + 1 < Rr.length := by
        have := (List.getElem?_eq_some_iff.mp hb').1
        exact this
      omega
  · rintro _ ⟨e1, e2, e3, e4, e5, e6, e7, ek, ew, t, rfl, htl, hpt⟩
    exact H _ _ _ _ _ _ _ _ _ _ _ _
end
end
end Mine
-- part T21
set_option maxHeartbeats 0
namespace Mine
noncomputable section
section
variable {prog : Program} {w : World} {A : Around} {E : Value → Shared → Prop} {env : Env} {X N I : String}
theorem issub_self (hc : ExcClass X N I) {s : Shared} {Q : Value → Shared → Prop} (h : Q (.bool true) s) : wpAny (model prog w) A (call (.builtin "issubclass") [.type X, .type X]) Q E s :=
  call_issubclass (issubclass_self hc hc.self) h
/-- raise of a built-in class by its name: the exception bears no words -/
theorem raise_cls {x : PySem.Str} {np pos : Pos} {Q : Flow → Shared → Prop} {s : Shared} (hh : A.handled = none) (hc : ExcClass X N I) (FC : ExcCallFacts X N I) (FR : ExcRaiseFacts X)
    (hx : wpAny (model prog w) A (eval (.Name x np) env) (fun v s₁ => v = .type X ∧ s₁ = s) E s)
    (h : ∀ h' e, Heap.MadeExc s.heap h' e X [] → E (.ref e) { s with heap := h' }) :
    wpAny (model prog w) A (exec (.Raise (some (.Name x np)) none pos) env) Q E s := by
  show wpAny (model prog w) A (do standAt pos; raiseStmt env (some (do let v ← eval (.Name x np) env; standAt pos; pure v)) none) Q E s
  refine wpAny_bind (wpAny_standAt ?_)
  unfold raiseStmt
  dsimp only
  refine wpAny_bind (wpAny_bind (wpAny_mono hx (fun v s₁ h₁ => wpAny_bind (wpAny_standAt (wpAny_pure ?_))) fun _ _ e => e))
  obtain ⟨rfl, rfl⟩ := h₁
  obtain ⟨hp, g, d, tk, os⟩ := s₁
  refine wpAny_bind (wpAny_pure ?_)
  dsimp only
  refine wpAny_bind (wpAny_holding ?_)
  unfold excFromValue isExcClass
  refine wpAny_bind (wpAny_bind (wpAny_pure ?_))
  simp only [if_true]
  rw [hc.base]
  refine wpAny_pure ?_
  simp only [if_true]
  refine wpAny_bind (wpAny_call_exc FC fun h' e hm => ?_)
  obtain ⟨t, ht, _, _⟩ := id hm.there
  have hT : (⟨h', g, d, tk, os⟩ : Shared).TypeIs (.ref e) X := ⟨_, ht, rfl⟩
  refine wpAny_bind (wpAny_isInstance hT hc.base ?_)
  simp only [Bool.not_true, Bool.false_eq_true, if_false]
  refine wpAny_pure ?_
  refine wpAny_bind (m := isType (.type X)) (wpAny_pure ?_)
  rw [if_pos rfl]
  refine wpAny_bind (wpAny_holding ?_)
  unfold raisedFor
  dsimp only
  rw [if_neg Bool.false_ne_true]
  refine wpAny_bind (wpAny_typeOf hT (wpAny_bind (issub_self hc (wpAny_bind (wpAny_truthy_bool ?_)))))
  rw [if_pos rfl]
  refine wpAny_pure ?_
  unfold setFlight raiseNew
  refine wpAny_bind (wpAny_bind (wpAny_field (i := 1) (x := Value.none) ht rfl rfl ?_))
  rw [if_neg (by decide)]
  refine wpAny_pure (wpAny_bind (wpAny_handled ?_))
  rw [hh]
  first
    | exact wpAny_throw (h h' e hm)
    | exact wpAny_bind (wpAny_pure (wpAny_throw (h h' e hm)))
end
theorem mg0_zde (w : World) : (B1 w).mg (S "ZeroDivisionError") = none := by kernel_rfl
theorem mb0_zde (w : World) : (B1 w).mb (S "ZeroDivisionError") = some (.type "ZeroDivisionError") := by kernel_rfl
abbrev env7 (L : Addr) : Env := callEnv fd_int_divmod L 56
theorem g7_1 (L : Addr) : (env7 L).scope.kind = .function ∧ (env7 L).kindOf (S "b") = some .local ∧ (env7 L).kindOf (S "ZeroDivisionError") = some .globalImplicit ∧ (env7 L).frame = some L ∧ (env7 L).locals = L ∧ (env7 L).globals = mainGlobals ∧ (env7 L).builtins = builtinsNs := ⟨by kernel_rfl, by kernel_rfl, by kernel_rfl, by kernel_rfl, by kernel_rfl, by kernel_rfl, by kernel_rfl⟩
theorem g7_2 (a b : Value) : (ps_int_divmod.zip [a, b]).reverse.lookup (S "b") = some b := by kernel_rfl
theorem call_zero {w : World} {A : Around} {s : Shared} {env1 : Env} {L1 : Addr} {x : Int} {t u : Tok} {Q E : Value → Shared → Prop} (hB : (B1 w).In s.heap) (hh : A.handled = none) (hdep : A.depth < recursionLimit) (hfr : A.frames = some [env1]) (hf1 : env1.frame = some L1) (hk1 : env1.scope.kind ≠ .module) (hL1 : ∃ o, s.heap.get? L1 = some o ∧ ∀ vs, o.data ≠ .fields vs)
    (hE : ∀ base h' e t tk, (∀ b o, b ≠ L1 → s.heap.get? b = some o → Heap.get? base b = some o) → base.get? L1 = none → Heap.FlyingW base [env1] e (.type "ZeroDivisionError") (.ref t) h' → h'.TupAt t [] → s.heap.UpToSlots h' → E (.ref e) { s with heap := h', toks := tk }) :
    wpAny (model pw w) A (call (.ref 56) [.int x t, .int 0 u]) Q E s := by
  refine wpAny_call (codeAny_call_def (fd := fd_int_divmod) (body := fdB (stAt 7)) (binds := ps_int_divmod.zip [.int x t, .int 0 u]) hdep (hB.K _ _ (s1_int_divmod w)) rfl hB.lim (codeRec_of hB.K (s2_int_divmod w)) s3_int_divmod (.of_eq (s4_int_divmod [_, _] rfl)) s8_int_divmod (fun y hy => s7_int_divmod _ ?_) (fun h₁ hns hkp => ?_) s10_int_divmod s11_int_divmod s9_int_divmod)
  · have := (List.of_mem_zip hy).1
    rw [← s6_int_divmod] at this
    exact List.mem_of_mem_take this
  obtain ⟨L2, hL2⟩ : ∃ L2, s.heap.objs.size = L2 := ⟨_, rfl⟩
  rw [hL2] at hns ⊢
  obtain ⟨k1, k2, k3, k4, k5, k6, k7⟩ := g7_1 L2
  have hB1 : (B1 w).In h₁ := hB.full hkp
  have hL12 : L1 ≠ L2 := fun z => by
    obtain ⟨o, e, _⟩ := hL1
    have := Heap.lt_size e
    rw [hL2, z] at this; exact Nat.lt_irrefl _ this
  show wpAny (model pw w) (A.deeper (env7 L2)) (execs (fdB (stAt 7)) (env7 L2)) _ _ _
  refine wpAny_execs_cons (wpAny_If (wpAny_isTrue_Compare1 (wpAny_Name (wpAny_loadName_local k1 k2 hns (g7_2 _ _) (wpAny_Constant_int (P.eq_int (wpAny_truthy_bool ?_)))) (by kernel_rfl)) rfl))
  rw [if_pos (by rfl)]
  refine wpAny_execs_cons (raise_cls (X := "ZeroDivisionError") hh excClass_ZeroDivisionError PySem.F.excCall_ZeroDivisionError PySem.F.excRaise_ZeroDivisionError ?_ fun h' e hm => ?_)
  · exact Name_function_global k1 k3 (loadGlobal_builtin (env := env7 L2) (by rw [k6]; exact hB1.g) (mg0_zde w) (by rw [k7]; exact hB1.b) (mb0_zde w) ⟨rfl, rfl⟩) (by kernel_rfl)
  have hfr2 : (A.deeper (env7 L2)).frames = some [env7 L2, env1] := Around.frames_deeper hfr
  obtain ⟨o1, e1, d1⟩ := hL1
  refine wpAny_leaves_madeW (base := hideAll h₁ [L2, L1]) (h := h₁) hfr2 k4 (fun b o q => of_hideAll _ q) ?_ hm.of fun h'' t' x1 x2 x3 x4 => ?_
  · refine .cons (by rw [k1]; decide) k4 hns (hideAll_none _ (.head _)) ⟨hk1, ⟨L1, o1, hf1, hideAll_none _ (.tail _ (.head _)), hkp _ _ e1, d1⟩, trivial⟩
  · refine hE _ h'' e t' _ (fun b o hb q => hideAll_get _ (hkp b o q) fun m => ?_) (hideAll_none _ (.tail _ (.head _))) x1 x2 (((Heap.UpToSlots.of_keeps hkp).trans (Heap.UpToSlots.of_keeps hm.keeps)).trans x4)
    rcases List.mem_cons.mp m with z | m
    · have := Heap.lt_size q
      rw [hL2, z] at this; exact Nat.lt_irrefl _ this
    · exact hb (List.mem_singleton.mp m)
end
end Mine
-- part T22
set_option maxHeartbeats 0
namespace Mine
noncomputable section
section
variable {C : Cx} {σ : St}
/-- one frame's names turned, all else as it stood -/
theorem Ok.atL {h h' : Heap} {σ' : St} (O : Ok C h σ) (k : ∀ b o, b ≠ C.L → h.get? b = some o → h'.get? b = some o) (ho : σ'.objs = σ.objs) (hns : ∀ m, h.Ns C.L m → ∃ m', h'.Ns C.L m' ∧ ∀ (i : Nat) x d, C.names[i]? = some x → σ'.vars[i]? = some (some d) → σ.vars[i]? = some (some d) ∧ m' x = m x) : Ok C h' σ' := by
  have hex : C.ex σ' = C.ex σ := by
    show C.L :: (C.X ++ σ'.objs.map (·.1)) = C.L :: (C.X ++ σ.objs.map (·.1))
    rw [ho]
  have hk : ∀ (b : Addr) (o : Obj), b ∉ C.ex σ → h.get? b = some o → SeqO o → h'.get? b = some o ∧ b ∉ C.ex σ := fun b o hb e _ => ⟨k b o (fun z => hb (z ▸ .head _)) e, hb⟩
  obtain ⟨⟨m, F, hv⟩, hob, hn, ht, hg⟩ := O
  obtain ⟨m', hm', hvars⟩ := hns m F.ns
  refine ⟨⟨m', ⟨hm', fun b o e => k b o (fun z => ?_) (F.keep b o e), F.above⟩, fun i x d h1 h2 => ?_⟩, fun a ds hm => ?_, ?_, ?_, hg⟩
  · have h1 := Heap.lt_size e
    rw [z] at h1
    exact absurd h1 (Nat.not_lt.mpr F.above)
  · obtain ⟨q1, q2⟩ := hvars i x d h1 h2
    obtain ⟨v, e, r⟩ := hv i x d h1 q1
    exact ⟨v, q2.trans e, hex ▸ r.walk hk⟩
  · rw [ho] at hm
    obtain ⟨vs, n, e, r, q1, q2⟩ := hob a ds hm
    exact ⟨vs, n, k _ _ q2 e, hex ▸ r.walk hk, q1, q2⟩
  · show (σ'.objs.map (·.1)).Nodup
    rw [ho]; exact hn
  · obtain ⟨o, e, hc⟩ := ns_noC F.ns
    exact ht.one e hc k
end
section
variable {w : World} {C : Cx} (I : In_law w C) (hA : C.A = callerA.deeper C.env)
include I hA
theorem law_try {vars : List (Option D)} {ob : List (Addr × List D)} {far high : Int} (h7 : vars[7]? = some (some (.int far))) (h8 : vars[8]? = some (some (.int high))) (h22 : vars.length = 23) : Exs C ⟨vars, ob⟩ (lawB 20) (fun fl _ => fl = .ret (.bool true) ∨ (fl = .next ∧ D.bool true = .none)) := .mk fun s Q E O k => by
  have W := I.W
  have hi : interactive C.env = false := by obtain ⟨L, e⟩ := I.E; rw [e]; kernel_rfl
  have hf1 : C.env.frame = some C.L := by obtain ⟨L, e⟩ := I.E; show C.env.frame = some C.env.locals; rw [e]; kernel_rfl
  have hfr : C.A.frames = some [C.env] := by rw [hA]; exact Around.frames_deeper (by kernel_rfl)
  have hk1 : C.env.scope.kind ≠ .module := by rw [W.kind]; decide
  have hdep : C.A.depth < recursionLimit := by rw [hA]; show callerA.depth + 1 < recursionLimit; decide
  have hun : C.A.units < cLine := by rw [hA]; show callerA.units + 3 < cLine; decide
  have hBm : model C.B.prog C.B.w = model pw w := by rw [I.B]; rfl
  have Lref : C.env.kindOf (S "refusal") = some .local := W.loc _ (List.mem_of_getElem? (nx_law_refusal I))
  have hcls : (C.env.scope.kind == .class || (C.env.scope.kind == .module && C.env.locals != C.env.globals)) = false := by rw [W.kind]; rfl
  refine wpAny_execs_cons (wpAny_Try_except (wpAny_execs_cons (wpAny_Expr (Call_Name rfl (name_global W O (kn_law_int_divmod I) (mg_int_divmod I.B) ?_ rfl)) hi rfl)))
  refine callWith_function (o := ⟨.type "function", none, .func fd_int_divmod, ⟨[]⟩⟩) (fd := fd_int_divmod) (args_star (spl_cons ((ev_add (ev_name W 7 (nx_law_far I) h7) (ev_name W 8 (nx_law_high I) h8)).run s _ _ O fun v h₁ t₁ k₁ r₁ => spl_cons (wpAny_Constant_int (spl_nil ?_)) rfl) rfl) rfl)
  have O₁ := O.keep k₁
  have hB1 : (B1 w).In h₁ := I.B ▸ O₁.base W
  obtain ⟨tk, rfl⟩ : ∃ tk, v = .int (far + high) tk := by cases r₁; exact ⟨_, rfl⟩
  refine ⟨⟨hB1.K _ _ (s1_int_divmod w), rfl⟩, ?_⟩
  obtain ⟨m, F⟩ := O₁.fr
  have hL1 : ∃ o, h₁.get? C.L = some o ∧ ∀ vs, o.data ≠ .fields vs := by
    obtain ⟨o, es, ep, e, hd, _⟩ := F.ns
    exact ⟨o, e, fun vs z => by rw [hd] at z; cases z⟩
  rw [hBm]
  refine call_zero (s := { s with heap := h₁, toks := _ }) (env1 := C.env) (L1 := C.L) hB1 W.handled hdep hfr hf1 hk1 hL1 ?_
  intro base h' e t tk2 hb hb0 hfl htup hup
  have hfl' := hfl
  refine wpAny_looks_onW hfr hf1 hfl' fun h₄ hheld₄ hsm₄ => ?_
  refine wpAny_landsW hheld₄ fun h₅ hheld hsm₅' => ?_
  obtain ⟨oe5, vs5, he5, hc5, hd5, h05⟩ := hheld.first
  have keep5 : ∀ b o, b ≠ C.L → h₁.get? b = some o → h₅.get? b = some o := fun b o z q => hheld.1 b o (hb b o z q)
  have sm5 := (hup.trans hsm₄).trans hsm₅'
  have O₅ : Ok C h₅ ⟨vars, ob⟩ := O₁.atL keep5 rfl fun m n => ⟨m, sm5.ns n, fun i x d _ h => ⟨h, rfl⟩⟩
  have B₅ := O₅.base W
  have hZ : isSubtype (.type "ZeroDivisionError") (.type "ZeroDivisionError") = pure true := excClass_ZeroDivisionError.self
  refine wpAny_handleBy_builtin_as (X := "ZeroDivisionError") (T := "ZeroDivisionError") (b := true) PySem.F.isExc_ZeroDivisionError PySem.F.notTuple_ZeroDivisionError hZ ?_
  refine Name_function_global W.kind (kn_law_ZeroDivisionError I) (loadGlobal_builtin (env := C.env) (by rw [W.gl]; exact B₅.g) (mg_ZeroDivisionError I.B) (by rw [W.bl]; exact B₅.b) (mb_ZeroDivisionError I.B) ⟨rfl, ⟨oe5, he5, hc5⟩, ?_⟩) rfl
  rw [if_pos rfl]
  refine lands_againW hheld fun h₆ hfl₆ hsm₆ => ?_
  obtain ⟨oe, ws, hoe, hoec, hoed, hoe0⟩ := hfl₆.first
  have keep6 : ∀ b o, b ≠ C.L → h₁.get? b = some o → h₆.get? b = some o := fun b o z q => hfl₆.1 b o (hb b o z q)
  have O₆ : Ok C h₆ ⟨vars, ob⟩ := O₁.atL keep6 rfl fun m n => ⟨m, hsm₆.ns (sm5.ns n), fun i x d _ h => ⟨h, rfl⟩⟩
  obtain ⟨ot, nt, hot, hotc, hotd⟩ := (htup.of_slots (hsm₄.trans hsm₅')).of_slots hsm₆
  obtain ⟨m₆, F₆⟩ := O₆.fr
  obtain ⟨oL, esL, epL, eL, dL, rL⟩ := id F₆.ns
  have heL : e ≠ C.L := fun z => by rw [z, eL] at hoe; cases hoe; rw [dL] at hoed; cases hoed
  have htL : t ≠ C.L := fun z => by rw [z, eL] at hot; cases hot; rw [dL] at hotd; cases hotd
  refine wpAny_storeName_local Lref F₆.ns (fun h₇ hns₇ hsb₇ => ?_) hcls
  have hoe7 : h₇.get? e = some oe := (hsb₇.2 e heL).trans hoe
  have hot7 : h₇.get? t = some ot := (hsb₇.2 t htL).trans hot
  refine wpAny_execs_cons (wpAny_Return_some (wpAny_Compare1 (Attribute_name (wpAny_Name (wpAny_loadName_local W.kind Lref hns₇ (by simp) (args_attr PySem.F.attr_ZeroDivisionError hoe7 hoec hoed hoe0 ?_)) (by kernel_rfl))) rfl))
  refine Tuple_ (spl_nil (wpAny_newObj_type ?_ (Nat.zero_le _)))
  have hpush : ∀ (o : Obj) b ob, h₇.get? b = some ob → (h₇.push o).get? b = some ob := fun o b ob q => Heap.get?_push_of_some _ q
  refine SeqAt.eq_tupleAt (items := #[]) (items2 := #[]) (e := fun _ => true) ⟨ot, hpush _ _ _ hot7, hotc, nt, hotd⟩ ⟨_, Heap.get?_push_size _ rfl, rfl, _, rfl⟩ hun (fun j h1 _ => absurd h1 (Nat.not_lt_zero _)) ?_
  refine wpAny_nameGoes_keeps Lref (hns₇.push _) hcls fun h₉ v hns₉ hsb₉ => ?_
  have O₉ : Ok C h₉ ⟨vars.set 22 none, ob⟩ := by
    refine O₆.atL (fun b o z q => (hsb₉.2 b z).trans (hpush _ _ _ ((hsb₇.2 b z).trans q))) rfl fun m n => ?_
    have hmm : ∀ x, m x = m₆ x := fun x => by
      obtain ⟨o1, es1, ep1, q1, q2, q3, q4⟩ := n
      obtain ⟨o2, es2, ep2, p1, p2, p3, p4⟩ := F₆.ns
      rw [show h₆.get? C.L = some o1 from q1] at p1; cases p1
      rw [q2] at p2; cases p2
      rw [← q4, ← p4]
    refine ⟨_, hns₉, fun i x d h1 h2 => ?_⟩
    have hi22 : 22 ≠ i := fun z => by
      subst z
      rw [List.getElem?_set_self (by omega)] at h2
      cases h2
    rw [List.getElem?_set_ne hi22] at h2
    have hx : x ≠ S "refusal" := fun z => by
      subst z
      exact hi22 (nodup_idx W.nd (nx_law_refusal I) h1)
    refine ⟨h2, ?_⟩
    rw [if_neg hx, if_neg hx, hmm]
  refine k _ (.ret (.bool true)) _ h₉ _ (.ret (.bool _)) O₉ (fun b o hb' fx q => ?_) (fun a ha => .inl ha) (.inl rfl)
  have hbL : b ≠ C.L := fun z => hb' (z ▸ .head _)
  exact (hsb₉.2 b hbL).trans (hpush _ _ _ ((hsb₇.2 b hbL).trans (keep6 b o hbL (k₁.keep b o fx q))))
end
end
end Mine
-- part T23
set_option maxHeartbeats 0
namespace Mine
noncomputable section
theorem ints_reps {X : List Addr} {h : Heap} : ∀ {vs : List Value} {xs : List Int}, IntsAre vs xs → Reps X h vs (xs.map .int)
  | _, _, .nil => .nil
  | _, _, .cons _ _ r => .cons (.int _ _) (ints_reps r)
theorem law_body {w : World} {C : Cx} (I : In_law w C) (hA : C.A = callerA.deeper C.env) {xs : List Int} (hxs : xs.length ≤ 63) :
    Exs C ⟨[some (.lst (xs.map .int)), none, none, none, none, none, none, none, none, none, none, none, none, none, none, none, none, none, none, none, none, none, none], []⟩ (fdB (stAt 21)) (fun fl _ => fl = .ret (.bool true) ∨ (fl = .next ∧ D.bool true = .none)) := by
  have hd : C.A.depth + 11 < recursionLimit := by rw [hA]; show callerA.depth + 1 + 11 < recursionLimit; decide
  have hu : C.A.units + 8 * 11 < cLine := by rw [hA]; show callerA.units + 3 + 8 * 11 < cLine; decide
  refine law_setup I hd hu hxs rfl fun ra sa hrs => ?_
  obtain ⟨z1, z2⟩ := size_facts (cellsOf xs)
  have hlen := cells_len xs
  have o1 : onsOf (cellsOf xs) ≤ 18 := by
    have := fmod_range ((cellsOf xs).getD 0 0 + 8) (m := 19) (by decide)
    unfold onsOf; omega
  have u1 : upsOf (cellsOf xs) ≤ 18 := by
    have := fmod_range ((cellsOf xs).getD 1 0 + 5) (m := 19) (by decide)
    unfold upsOf; omega
  have hq := sg_ok (sgOf_mem ((cellsOf xs).getD 2 0)).1
  refine law_mid I hd hu hlen hq z1 z2 (unit_or _) hrs o1 u1 ?_
  intro f s R Sx e1 e2 e3 e4 e5 e6 e7 seed t hch hl hpt htl
  refine law_for I hd hu hq hch hl hpt htl ?_
  intro x1 x2 x3 x4 x5 x6 x7 x8 x9 x10 x11 ob
  exact law_try I hA (far := f * unitOf (cellsOf xs)) (high := s * unitOf (cellsOf xs)) rfl rfl rfl
theorem run_law {w : World} {s : Shared} {xs : List Int} {la : Addr} {vs : List Value} {Q E : Value → Shared → Prop} (hB : (B1 w).In s.heap) (hTb : TabOk s.heap) (il : s.heap.IsList la vs.toArray) (hi : IntsAre vs xs) (hl : xs.length ≤ 63)
    (hQ : ∀ h' t', (∀ b o, b ∉ TT → s.heap.get? b = some o → h'.get? b = some o) → TabOk h' → Q (.bool true) { s with heap := h', toks := t' }) : wpAny (model pw w) callerA (call (.ref 172) [.ref la]) Q E s := by
  refine wpAny_call (codeAny_call_def (o := ⟨.type "function", none, .func fd_law, ⟨[]⟩⟩) (fd := fd_law) (body := fdB (stAt 21)) (binds := ps_law.zip [.ref la]) (by decide) (hB.K _ _ (s1_law w)) rfl hB.lim (codeRec_of hB.K (s2_law w)) s3_law (.of_eq (s4_law [_] rfl)) s8_law (fun x hx => s7_law _ ?_) (fun h₁ hns hkp => ?_) s10_law s11_law s9_law)
  · have := (List.of_mem_zip hx).1
    rw [← s6_law] at this
    exact List.mem_of_mem_take this
  have hBg : (B1 w).In (hideAll s.heap TT) :=
    ⟨fun a o e => hideAll_get _ (hB.K a o e) ((B1 w).hT a o e), ns_hide hB.g (by decide), ns_hide hB.b (by decide), let ⟨mc, n, r⟩ := hB.lim; ⟨mc, ns_hide n (by decide), r⟩⟩
  obtain ⟨L, hL⟩ : ∃ L, s.heap.objs.size = L := ⟨_, rfl⟩
  rw [hL] at hns ⊢
  have hW : Wf ⟨B1 w, callerA.deeper (callEnv fd_law L 172), callEnv fd_law L 172, hideAll s.heap TT, [], ns_law, []⟩ :=
    { kind := s9_law, gl := s12_law, bl := s13_law, loc := fun x hx => s7_law x hx, nd := s5_law, base := hBg, old := fun x hx => (nomatch hx), handled := rfl, cons := fun x d hx => (nomatch hx) }
  have I : In_law w ⟨B1 w, callerA.deeper (callEnv fd_law L 172), callEnv fd_law L 172, hideAll s.heap TT, [], ns_law, []⟩ := ⟨hW, rfl, rfl, L, rfl⟩
  have hlaT : la ∉ TT := listT hTb il
  have hla : ∃ o, s.heap.get? la = some o := isList_live il
  have O : Ok ⟨B1 w, callerA.deeper (callEnv fd_law L 172), callEnv fd_law L 172, hideAll s.heap TT, [], ns_law, []⟩ h₁ ⟨[some (.lst (xs.map .int)), none, none, none, none, none, none, none, none, none, none, none, none, none, none, none, none, none, none, none, none, none, none], []⟩ := by
    refine ⟨⟨_, ⟨hns, fun b o e => hkp b o (of_hideAll _ e), by rw [← hL]; exact Nat.le_of_eq (hideAll_size _ _)⟩, fun i x d h1 h2 => ?_⟩, fun a l h => (nomatch h), .nil, hTb.full hkp, fun t ht => hideAll_none _ ht⟩
    have hi0 : i = 0 := by
      match i, h2 with
      | 0, _ => rfl
      | i + 1, h2 =>
        exfalso
        have : (List.replicate 22 (none : Option D))[i]? = some (some d) := h2
        rw [List.getElem?_replicate] at this
        split at this <;> cases this
    subst hi0
    cases h2
    have hx : x = S "script" := by
      have : ns_law[0]? = some (S "script") := by kernel_rfl
      exact Option.some.inj (h1.symm.trans this)
    subst hx
    refine ⟨.ref la, by kernel_rfl, .lst (isList_kpB (xs := []) il (fun b o _ _ e => hkp b o e) (fun q => by cases q)) (fun m => ?_) (ints_reps hi)⟩
    rcases List.mem_cons.mp m with z | m
    · obtain ⟨o, e⟩ := hla
      have := Heap.lt_size e
      rw [hL, z] at this; exact Nat.lt_irrefl _ this
    · cases m
  refine wpAny_mono ((law_body I rfl hl).run { s with heap := h₁, toks := s.toks + (ps_law.zip [Value.ref la]).length } (fun fl s' => Q (match fl with | .ret v => v | _ => .none) s') (fun _ _ => False) O fun fl fl' σ' h' t' hf O' kp' nw hΦ => ?_) (fun fl s' h => h) (fun _ _ h => h.elim)
  rcases hΦ with rfl | ⟨_, e⟩
  · cases hf with
    | ret r' =>
      cases r'
      exact hQ h' t' (fun b o hb e => O'.kp0 b o (hideAll_get _ e hb)) O'.tab
  · cases e
theorem walk1 : WalkO q1 loose1 (fun _ _ => True) hook.says rowW dLaw [] fun f vs => PySem.call f vs := by
  intro w s₀ s₁ mg mb G Y a o pm cd doc dV kV ho hd hcd hD hmg hgens args vals as hpre hlay hrd hwl hlo
  wrow_args hpre hlay hrd hwl hlo
  rename_i xs hs hlay0 hL1 hr1 hl2 as1 as2 la vs as3 il ra w1 r0 hints hr' hlen ht
  have YK : (KK w.params).In s₁.heap := kIn_of Y
  have hB : (B1 w).In s₁.heap := B1_in YK
  have t30 : s₁.heap.get? 30 = some (tabObj #[]) := YK 30 _ (by kernel_rfl)
  have t37 : s₁.heap.get? 37 = some (tabObj #[]) := YK 37 _ (by kernel_rfl)
  have tb : TabOk s₁.heap := ⟨⟨#[], t30, .inl rfl⟩, ⟨#[], t37, .inl rfl⟩⟩
  have ha : a = 172 := by
    obtain ⟨o1, es1, ep1, q1, q2, q3, q4⟩ := G.T.g
    obtain ⟨o2, es2, ep2, p1, p2, p3, p4⟩ := hB.g
    rw [q1] at p1; cases p1
    rw [q2] at p2; cases p2
    have h1 : (B1 w).mg dLaw.name = some (.ref 172) := by kernel_rfl
    rw [← p4, q4, hmg] at h1
    cases h1; rfl
  subst ha
  refine run_law hB tb il hints (by omega) fun h' t' hk tb' => ?_
  refine ⟨.inl ⟨.bool true, .bool true, [], rfl, fun _ => rfl, .bool true, ?_, fun _ => ⟨.nil, fun _ h => nomatch h⟩⟩, ⟨fun b o e => ?_, fun b o e => ?_⟩, rfl, ?_⟩
  · wrow_post
  · by_cases hb : b ∈ TT
    · rcases List.mem_cons.mp hb with rfl | hb
      · obtain ⟨ps, e', _⟩ := tb'.a
        rw [t30] at e; cases e
        exact .inr (.inl ⟨((codeHd34 hB).tab t30).isCodeTable, rfl, #[], ps, rfl, by rw [Array.empty_append]; exact e'⟩)
      · rw [List.mem_singleton] at hb; subst hb
        obtain ⟨ps, e', _⟩ := tb'.b
        rw [t37] at e; cases e
        exact .inr (.inl ⟨((codeHd41 hB).tab t37).isCodeTable, rfl, #[], ps, rfl, by rw [Array.empty_append]; exact e'⟩)
    · exact .inl (hk b o hb e)
  · by_cases hb : b ∈ TT
    · rcases List.mem_cons.mp hb with rfl | hb
      · obtain ⟨ps, e', _⟩ := tb'.a; exact ⟨_, e'⟩
      · rw [List.mem_singleton] at hb; subst hb
        obtain ⟨ps, e', _⟩ := tb'.b; exact ⟨_, e'⟩
    · exact ⟨o, hk b o hb e⟩
  · exact .of_eq hgens
theorem law1 : PySem.Challenge.rw_pe0255_01.Holds := top1 walk1
end
end Mine
theorem PySem.Challenge.cw_pe0255_01_holds : PySem.Challenge.rw_pe0255_01.Holds := by
  exact Mine.law1
