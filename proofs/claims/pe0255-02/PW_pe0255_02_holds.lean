import PyProof.Rows.All
import Wide.All
import OpenK.AllK
import Wide.FinOn
import Lean
import PySem.Challenge.RW_pe0255_02
open PySem PySem.W PyProof.Rows PySem.Calls
set_option Elab.async false
set_option maxRecDepth 100000
set_option linter.unusedVariables false
-- part GO1
namespace Mine
section go
variable {p : Program} {w : World} {n₀ : Nat} {ann : Option Value} {α β : Type}
noncomputable def Go (p : Program) (w : World) (n₀ : Nat) (ann : Option Value) {α : Type} (c : Nat) (m : Sem α) (s : Shared) (a : α) (s' : Shared) : Prop :=
  ∀ (K : α → Sem Fin) (H : Value → Sem Fin) (gd : Bool → Bool) (lv : List Value → List Value) (code : Code) (pos : Pos) (f : PySem.Frame) (B : List PySem.Frame),
    ∃ n pos', n ≤ c ∧ ∀ N, topRun treeTable p w n₀ ann (N + n) s ⟨m.wrap K H gd lv, code, pos, f :: B⟩ = topRun treeTable p w n₀ ann N s' ⟨K a, code, pos', f :: B⟩
theorem go_pure {a : α} {s : Shared} : Go p w n₀ ann 0 (pure a) s a s := fun K H gd lv code pos f B => ⟨0, pos, Nat.le_refl _, fun N => rfl⟩
theorem go_le {c d : Nat} {m : Sem α} {s s' : Shared} {a : α} (h : Go p w n₀ ann c m s a s') (hd : c ≤ d) : Go p w n₀ ann d m s a s' := fun K H gd lv code pos f B =>
  let ⟨n, q, hn, e⟩ := h K H gd lv code pos f B
  ⟨n, q, Nat.le_trans hn hd, e⟩
theorem go_bind {c d : Nat} {m : Sem α} {f : α → Sem β} {s s₁ s' : Shared} {a : α} {b : β} (h : Go p w n₀ ann c m s a s₁) (k : Go p w n₀ ann d (f a) s₁ b s') : Go p w n₀ ann (c + d) (m >>= f) s b s' := fun K H gd lv code pos fr B => by
  obtain ⟨n, q, hn, e⟩ := h (fun a => (f a).wrap K H gd lv) H gd lv code pos fr B
  obtain ⟨n', q', hn', e'⟩ := k K H gd lv code q fr B
  refine ⟨n' + n, q', by omega, fun N => ?_⟩
  rw [Sem.bind_eq_wrap', Sem.wrap_wrap, ← Nat.add_assoc]
  exact (e _).trans (e' N)
theorem go_hold {c : Nat} {m : Sem α} {s s' : Shared} {a : α} {vs : List Value} (h : Go p w n₀ ann c m s a s') : Go p w n₀ ann c (holding vs m) s a s' := fun K H gd lv code pos fr B => by
  unfold holding
  split
  · exact h K H gd lv code pos fr B
  · rw [Sem.keep_eq_wrap, Sem.wrap_wrap]
    exact h _ _ _ _ _ _ _ _
theorem go_onRaise {c : Nat} {m : Sem α} {s s' : Shared} {a : α} {k : Value → Sem Unit} (h : Go p w n₀ ann c m s a s') : Go p w n₀ ann c (m.onRaise k) s a s' := fun K H gd lv code pos fr B => by
  rw [Sem.onRaise_eq_wrap, Sem.wrap_wrap]
  exact h _ _ _ _ _ _ _ _
theorem go_load {a : Addr} {part : Option Value} {s : Shared} {o : Obj} (ho : s.heap.get? a = some o) : Go p w n₀ ann 1 (loadPart a part) s o s := fun K H gd lv code pos fr B => ⟨1, pos, Nat.le_refl _, fun N => by
  obtain ⟨heap, gens, drawn, toks, os⟩ := s
  show topRun treeTable p w n₀ ann (N + 1) _ _ = _
  rw [topRun]
  simp only [loadPart, Sem.wrap, through, List.isEmpty_cons, Bool.false_and, stepOk, Thread.calm, Thread.atCollectorCode, Thread.yieldsInsideHandler, step]
  simp only [show heap.get? a = some o from ho]
  rfl⟩
theorem go_alloc {o : Obj} {s : Shared} : Go p w n₀ ann 1 (alloc o) s s.heap.objs.size { s with heap := s.heap.push o } := fun K H gd lv code pos fr B => ⟨1, pos, Nat.le_refl _, fun N => by
  obtain ⟨heap, gens, drawn, toks, os⟩ := s
  rfl⟩
theorem go_fresh {s : Shared} : Go p w n₀ ann 1 fresh s s.toks { s with toks := s.toks + 1 } := fun K H gd lv code pos fr B => ⟨1, pos, Nat.le_refl _, fun N => by
  obtain ⟨heap, gens, drawn, toks, os⟩ := s
  rfl⟩
theorem go_at {q : Pos} {s : Shared} : Go p w n₀ ann 1 (standAt q) s () s := fun K H gd lv code pos fr B => ⟨1, q, Nat.le_refl _, fun N => by
  obtain ⟨heap, gens, drawn, toks, os⟩ := s
  rfl⟩
theorem go_rule {t : String} {s : Shared} : Go p w n₀ ann 1 (rule t) s () s := fun K H gd lv code pos fr B => ⟨1, pos, Nat.le_refl _, fun N => by
  obtain ⟨heap, gens, drawn, toks, os⟩ := s
  rfl⟩
theorem go_ask {s : Shared} : Go p w n₀ ann 1 ask s ⟨p, w.params⟩ s := fun K H gd lv code pos fr B => ⟨1, pos, Nat.le_refl _, fun N => by
  obtain ⟨heap, gens, drawn, toks, os⟩ := s
  rfl⟩
theorem go_update {a : Addr} {part : Option Value} {g : Obj → Obj} {s : Shared} (ha : (s.heap.get? a).isSome = true) (hn : n₀ ≤ a) : Go p w n₀ ann 1 (updatePart a part g) s () { s with heap := s.heap.update a g } := fun K H gd lv code pos fr B => ⟨1, pos, Nat.le_refl _, fun N => by
  obtain ⟨heap, gens, drawn, toks, os⟩ := s
  have hb : Nat.ble n₀ a = true := Nat.ble_eq.mpr hn
  show topRun treeTable p w n₀ ann (N + 1) _ _ = _
  rw [topRun]
  simp only [updatePart, Sem.wrap, through, List.isEmpty_cons, Bool.false_and, stepOk, Thread.calm, Thread.atCollectorCode, Thread.yieldsInsideHandler, step, hb]
  simp only [show (heap.get? a).isSome = true from ha]
  rfl⟩
end go
end Mine
-- part GO2
namespace Mine
section go
variable {p : Program} {n₀ : Nat} {ann : Option Value} {α β : Type}
noncomputable def hv (x : Int) : Int :=
  let h : Int := x.natAbs % (2 ^ 61 - 1 : Nat)
  let h := if x < 0 then -h else h
  if h == -1 then -2 else h
theorem hv_eq {x : Int} (h0 : 0 ≤ x) (h1 : x < 2 ^ 61 - 1) : hv x = x := by
  unfold hv
  have : ¬ x < 0 := by omega
  have e : ((x.natAbs % (2 ^ 61 - 1 : Nat) : Nat) : Int) = x := by omega
  simp only [this, if_false]
  have h2 : ((x.natAbs : Int) % ((2 ^ 61 - 1 : Nat) : Int)) = x := by omega
  rw [show ((↑x.natAbs : Int) % ↑((2 ^ 61 - 1 : Nat))) = x from h2]
  have : (x == -1) = false := by simp; omega
  rw [this]; rfl
theorem room_int {k : Int} {t : Tok} : cRoomFor "hash" [.int k t] = pure () := by kernel_rfl
theorem spec_int {k : Int} {t : Tok} : specialOf (.int k t) "__hash__" = pure (some (.builtin "int.__hash__")) := by kernel_rfl
theorem go_hash1 {k : Int} {t : Tok} {ref : Sem Value} (n₀ : Nat) (ann : Option Value) : ∀ (w : World) (s : Shared), Go p w n₀ ann 5 (callSpecialIfBoundUnlessNone? (.int k t) "__hash__" ref) s (some (.int (hv k) s.toks)) { s with toks := s.toks + 1 } := by
  refine byRow2 "special-get-raises" (fun w => ?_) (fun w => ?_)
  all_goals (
    intro s K H gd lv code pos f B
    obtain ⟨heap, gens, drawn, toks, os⟩ := s
    refine ⟨5, pos, Nat.le_refl _, fun N => ?_⟩
    kernel_rfl)
end go
end Mine
-- part GO3
namespace Mine
section go
variable {p : Program} {w : World} {n₀ : Nat} {ann : Option Value} {α β : Type}
theorem go_of_eq {c : Nat} {m m' : Sem α} {s s' : Shared} {a : α} (e : m = m') (h : Go p w n₀ ann c m' s a s') : Go p w n₀ ann c m s a s' := e ▸ h
theorem go_hash {k : Int} {t : Tok} {s : Shared} (h0 : 0 ≤ k) (h1 : k < 2 ^ 61 - 1) : Go p w n₀ ann 5 (pyHash (.int k t)) s k { s with toks := s.toks + 1 } := by
  show Go p w n₀ ann 5 (pyHashByItsType (.int k t)) s k _
  unfold pyHashByItsType
  rw [room_int, spec_int]
  show Go p w n₀ ann 5 ((callSpecialIfBoundUnlessNone? (.int k t) "__hash__" _) >>= _) s k _
  refine go_bind (c := 5) (d := 0) (go_hash1 n₀ ann w s) ?_
  show Go p w n₀ ann 0 (pyHashByItsType.reduced (hv k)) _ k _
  rw [hv_eq h0 h1]
  unfold pyHashByItsType.reduced
  have e1 : (decide (-(2 ^ 63 : Int) ≤ k) && decide (k < 2 ^ 63)) = true := by simp; omega
  have e2 : (k == -1) = false := by simp; omega
  simp only [e1, e2]
  exact go_pure
/-- the entries hold ints for keys, none of them k -/
noncomputable def Without (k : Int) (es : Array DictEntry) : Prop := ∀ e ∈ es, ∃ i t, e.key = .int i t ∧ e.hash = i ∧ i ≠ k
theorem places_nil {k : Int} {es : Array DictEntry} (h : Without k es) : placesWithHash es.size (fun i => es[i]?.map (·.hash)) k = [] := by
  unfold placesWithHash
  rw [List.filter_eq_nil_iff]
  intro i hi
  rw [List.mem_range] at hi
  dsimp only
  rw [Array.getElem?_eq_getElem hi]
  obtain ⟨j, t, h1, h2, h3⟩ := h es[i] (Array.getElem_mem hi)
  simp [h2, h3]
theorem go_find {k : Int} {t : Tok} {s : Shared} {d : Addr} {c : Value} {dd : Option Addr} {es : Array DictEntry} {n : Nat} {sl : Array (Option Value)} (ho : s.heap.get? d = some ⟨c, dd, .dict es n, sl⟩) (h : Without k es) :
    Go p w n₀ ann 1 (dictFind d (.int k t) k) s none s := by
  unfold dictFind
  refine go_hold (go_bind (c := 1) (d := 0) (a := es) (s₁ := s) ?_ ?_)
  · unfold dictEntries
    exact go_bind (c := 1) (d := 0) (go_load ho) go_pure
  · have e := places_nil h
    generalize placesWithHash es.size (fun i => es[i]?.map (·.hash)) k = pl at e ⊢
    subst e
    exact go_pure
theorem go_grow {s : Shared} {d : Addr} {c : Value} {dd : Option Addr} {es : Array DictEntry} {n : Nat} {sl : Array (Option Value)} {part : Option Value} {e : DictEntry} (ho : s.heap.get? d = some ⟨c, dd, .dict es n, sl⟩) (hd : n₀ ≤ d) (hz : es.size ≤ 1000) :
    Go p w n₀ ann 3 (updateDictKeys d (·.push e) part) s () { s with heap := s.heap.update d (Obj.mapDictKeys (·.push e)) } := by
  unfold updateDictKeys
  refine go_bind (c := 1) (d := 2) (go_load ho) ?_
  refine go_bind (c := 1) (d := 1) (go_update (by rw [ho]; rfl) hd) ?_
  unfold lookBehind
  refine go_bind (c := 1) (d := 0) (go_load (o := ⟨c, dd, .dict (es.push e) (n + 1), sl⟩) (Heap.get?_update_self _ ho rfl)) ?_
  have : (Data.dict (es.push e) (n + 1)).pastItsLine = none := pastItsLine_dict (by rw [Array.size_push, sizeLine_eq]; omega)
  simp only [this]
  exact go_pure
/-- a new key at the end -/
theorem go_set {k : Int} {t : Tok} {v : Value} {s : Shared} {d : Addr} {c : Value} {dd : Option Addr} {es : Array DictEntry} {n : Nat} {sl : Array (Option Value)} (ho : s.heap.get? d = some ⟨c, dd, .dict es n, sl⟩) (h : Without k es) (hd : n₀ ≤ d) (hz : es.size ≤ 1000)
    (h0 : 0 ≤ k) (h1 : k < 2 ^ 61 - 1) : Go p w n₀ ann 10 (dictSet d (.int k t) v) s () { s with heap := s.heap.update d (Obj.mapDictKeys (·.push ⟨k, .int k t, v⟩)), toks := s.toks + 1 } := by
  unfold dictSet
  refine go_hold (go_bind (c := 5) (d := 5) (go_hash h0 h1) ?_)
  unfold dictSetHashed
  refine go_hold (go_bind (c := 1) (d := 4) (go_find (s := { s with toks := s.toks + 1 }) ho h) ?_)
  exact go_bind (c := 1) (d := 3) go_rule (go_grow (s := { s with toks := s.toks + 1 }) ho hd hz)
theorem go_put {k : Int} {t : Tok} {v : Value} {s : Shared} {d : Addr} {c : Value} {dd : Option Addr} {es : Array DictEntry} {n : Nat} {sl : Array (Option Value)} (ho : s.heap.get? d = some ⟨c, dd, .dict es n, sl⟩) (h : Without k es) (hd : n₀ ≤ d) (hz : es.size ≤ 1000) :
    Go p w n₀ ann 4 (dictPut d k (.int k t) v) s () { s with heap := s.heap.update d (Obj.mapDictKeys (·.push ⟨k, .int k t, v⟩)) } := by
  unfold dictPut
  exact go_bind (c := 1) (d := 3) (go_find ho h) (go_grow ho hd hz)
end go
end Mine
-- part GO4
namespace Mine
section go
variable {p : Program} {w : World} {n₀ : Nat} {ann : Option Value} {α β : Type}
noncomputable def dob (es : List DictEntry) (n : Nat) : Obj := ⟨.type "dict", none, .dict ⟨es⟩ n, ⟨[]⟩⟩
noncomputable def kst (i : Int) (T : Nat) (x : PySem.Str) (U : Nat) : DictEntry := ⟨i, .int i T, .str x U⟩
/-- keys and texts in turn, and one token for each hash -/
noncomputable def ent3 (T : Nat) : List (Int × PySem.Str) → List DictEntry
  | [] => []
  | (i, x) :: r => kst i T x (T + 1) :: ent3 (T + 3) r
noncomputable def ent2 (T : Nat) : List (Int × PySem.Str) → List DictEntry
  | [] => []
  | (i, x) :: r => kst i T x (T + 1) :: ent2 (T + 2) r
noncomputable def asc : Int → List (Int × PySem.Str) → Bool
  | _, [] => true
  | k, (i, _) :: r => decide (k < i) && decide (i < 2 ^ 61 - 1) && asc i r
noncomputable def Under (k : Int) (es : List DictEntry) : Prop := ∀ e ∈ es, ∃ i t, e.key = .int i t ∧ e.hash = i ∧ i ≤ k
theorem Under.without {k j : Int} {es : List DictEntry} (h : Under k es) (hj : k < j) : Without j ⟨es⟩ := fun e he => by
  obtain ⟨i, t, h1, h2, h3⟩ := h e (by simpa using he)
  exact ⟨i, t, h1, h2, by omega⟩
theorem Under.mono {k j : Int} {es : List DictEntry} (h : Under k es) (hj : k ≤ j) : Under j es := fun e he => by
  obtain ⟨i, t, h1, h2, h3⟩ := h e he
  exact ⟨i, t, h1, h2, by omega⟩
theorem Under.snoc {k j : Int} {es : List DictEntry} {T U : Nat} {x : PySem.Str} (h : Under k es) (hj : k < j) : Under j (es ++ [kst j T x U]) := fun e he => by
  rcases List.mem_append.mp he with he | he
  · exact h.mono (Int.le_of_lt hj) e he
  · rw [List.mem_singleton] at he; subst he; exact ⟨j, T, rfl, rfl, Int.le_refl _⟩
theorem modify_last {l : List Obj} {o : Obj} {f : Obj → Obj} : (⟨l ++ [o]⟩ : Array Obj).modify l.length f = ⟨l ++ [f o]⟩ := by
  apply Array.ext
  · simp
  · intro i h1 h2
    rw [Array.getElem_modify]
    simp only [List.getElem_toArray]
    split
    · rename_i h; subst h; simp
    · rename_i h
      have h1' : i < l.length + 1 := by simpa using h1
      have : i < l.length := by omega
      rw [List.getElem_append_left this, List.getElem_append_left this]
theorem update_push {h : Heap} {o : Obj} {f : Obj → Obj} : (h.push o).update h.objs.size f = h.push (f o) := by
  obtain ⟨⟨l⟩, life⟩ := h
  show (⟨(Array.push ⟨l⟩ o).modify l.length f, life⟩ : Heap) = ⟨Array.push ⟨l⟩ (f o), life⟩
  have e : ∀ x, Array.push (⟨l⟩ : Array Obj) x = ⟨l ++ [x]⟩ := fun x => by simp
  rw [e, e, modify_last]
theorem mapKeys_dob {es : List DictEntry} {n : Nat} {e : DictEntry} : Obj.mapDictKeys (·.push e) (dob es n) = dob (es ++ [e]) (n + 1) := by
  simp [dob, Obj.mapDictKeys]
/-- the two trees of a pair, as the display has them -/
noncomputable def pr (env : Env) (pos : Pos) (x : Int × PySem.Str) : Sem Value × Sem Value := (constValue env (.int x.1), do let v ← constValue env (.str x.2); standAt pos; pure v)
theorem go_int {env : Env} {i : Int} {s : Shared} : Go p w n₀ ann 1 (constValue env (.int i)) s (.int i s.toks) { s with toks := s.toks + 1 } :=
  go_bind (c := 1) (d := 0) go_fresh go_pure
theorem go_str {env : Env} {x : PySem.Str} {s : Shared} : Go p w n₀ ann 1 (constValue env (.str x)) s (.str x s.toks) { s with toks := s.toks + 1 } :=
  go_bind (c := 1) (d := 0) go_fresh go_pure
theorem go_val {env : Env} {pos : Pos} {x : Int × PySem.Str} {s : Shared} : Go p w n₀ ann 2 (pr env pos x).2 s (.str x.2 s.toks) { s with toks := s.toks + 1 } :=
  go_bind (c := 1) (d := 1) go_str (go_bind (c := 1) (d := 0) go_at go_pure)
noncomputable def sh (h : Heap) (T : Nat) (s : Shared) : Shared := { s with heap := h, toks := T }
theorem go_long (env : Env) (pos : Pos) (h : Heap) (s : Shared) (hn : n₀ ≤ h.objs.size) : ∀ (ps : List (Int × PySem.Str)) (k : Int) (es : List DictEntry) (n T : Nat), -1 ≤ k → asc k ps = true → Under k es → es.length + ps.length ≤ 1000 →
    Go p w n₀ ann (13 * ps.length) (forIn (ps.map (pr env pos)) PUnit.unit fun (x : Sem Value × Sem Value) (_ : PUnit) => do
      let kv ← x.1
      let vv ← holding [kv] x.2
      holding [kv, vv] (dictSet h.objs.size kv vv)
      pure (ForInStep.yield PUnit.unit)) (sh (h.push (dob es n)) T s) PUnit.unit (sh (h.push (dob (es ++ ent3 T ps) (n + ps.length))) (T + 3 * ps.length) s)
  | [], k, es, n, T, _, _, _, _ => by
    simp only [List.map_nil, List.forIn_nil, ent3, List.append_nil, List.length_nil, Nat.mul_zero, Nat.add_zero]
    exact go_pure
  | (i, x) :: ps, k, es, n, T, hk, ha, hu, hz => by
    simp only [asc, Bool.and_eq_true, decide_eq_true_eq] at ha
    obtain ⟨⟨h1, h2⟩, h3⟩ := ha
    simp only [List.map_cons, List.forIn_cons, List.length_cons] at hz ⊢
    rw [show 13 * (ps.length + 1) = (13 + 13 * ps.length) by omega]
    refine go_bind (c := 13) (d := 13 * ps.length) (a := ForInStep.yield PUnit.unit) (s₁ := sh (h.push (dob (es ++ [kst i T x (T + 1)]) (n + 1))) (T + 3) s) ?_ ?_
    · refine go_bind (c := 1) (d := 12) (go_int (env := env)) ?_
      refine go_bind (c := 2) (d := 10) (go_hold (go_val (env := env) (pos := pos))) ?_
      refine go_bind (c := 10) (d := 0) (a := ()) (s₁ := sh (h.push (dob (es ++ [kst i T x (T + 1)]) (n + 1))) (T + 3) s) (go_hold ?_) go_pure
      have g := @go_set p w n₀ ann i T (.str x (T + 1)) (sh (h.push (dob es n)) (T + 2) s) h.objs.size _ _ _ _ _ (Heap.get?_push_size (o := dob es n) _ rfl) (hu.without h1) hn (by show es.length ≤ 1000; omega) (by omega) h2
      simp only [sh, update_push] at g ⊢
      have e : Obj.mapDictKeys (·.push ⟨i, .int i T, .str x (T + 1)⟩) (dob es n) = dob (es ++ [kst i T x (T + 1)]) (n + 1) := mapKeys_dob
      rw [e] at g
      exact g
    · have := go_long env pos h s hn ps i (es ++ [kst i T x (T + 1)]) (n + 1) (T + 3) (by omega) h3 (hu.snoc h1) (by simp only [List.length_append, List.length_singleton]; omega)
      rw [show T + 3 * (ps.length + 1) = T + 3 + 3 * ps.length by omega, show n + (ps.length + 1) = n + 1 + ps.length by omega]
      rw [List.append_assoc] at this
      exact this
theorem go_pairs (env : Env) (pos : Pos) (s : Shared) (h : Heap) : ∀ (ps : List (Int × PySem.Str)) (T : Nat),
    Go p w n₀ ann (3 * ps.length) (evalPairs (ps.map (pr env pos))) (sh h T s) ((ent2 T ps).map fun e => (e.key, e.val)) (sh h (T + 2 * ps.length) s)
  | [], T => go_pure
  | (i, x) :: ps, T => by
    simp only [List.map_cons, List.length_cons, evalPairs, ent2]
    rw [show 3 * (ps.length + 1) = 1 + (2 + 3 * ps.length) by omega]
    refine go_bind (c := 1) (d := 2 + 3 * ps.length) (go_int (env := env)) ?_
    refine go_bind (c := 2) (d := 3 * ps.length) (go_hold (go_val (env := env) (pos := pos))) ?_
    refine go_bind (c := 3 * ps.length) (d := 0) (go_hold (go_pairs env pos s h ps (T + 2))) ?_
    rw [show T + 2 * (ps.length + 1) = T + 2 + 2 * ps.length by omega]
    exact go_pure
theorem go_short (h : Heap) (s : Shared) (hn : n₀ ≤ h.objs.size) : ∀ (ps : List (Int × PySem.Str)) (k : Int) (es : List DictEntry) (n T U : Nat), -1 ≤ k → asc k ps = true → Under k es → es.length + ps.length ≤ 1000 →
    Go p w n₀ ann (10 * ps.length) (forIn ((ent2 T ps).map fun e => (e.key, e.val)) PUnit.unit fun (x : Value × Value) (_ : PUnit) => do
      dictSet h.objs.size x.1 x.2
      pure (ForInStep.yield PUnit.unit)) (sh (h.push (dob es n)) U s) PUnit.unit (sh (h.push (dob (es ++ ent2 T ps) (n + ps.length))) (U + ps.length) s)
  | [], k, es, n, T, U, _, _, _, _ => by
    simp only [ent2, List.map_nil, List.forIn_nil, List.append_nil, List.length_nil, Nat.mul_zero, Nat.add_zero]
    exact go_pure
  | (i, x) :: ps, k, es, n, T, U, hk, ha, hu, hz => by
    simp only [asc, Bool.and_eq_true, decide_eq_true_eq] at ha
    obtain ⟨⟨h1, h2⟩, h3⟩ := ha
    simp only [ent2, List.map_cons, List.forIn_cons, List.length_cons] at hz ⊢
    rw [show 10 * (ps.length + 1) = (10 + 10 * ps.length) by omega]
    refine go_bind (c := 10) (d := 10 * ps.length) (a := ForInStep.yield PUnit.unit) (s₁ := sh (h.push (dob (es ++ [kst i T x (T + 1)]) (n + 1))) (U + 1) s) ?_ ?_
    · refine go_bind (c := 10) (d := 0) (a := ()) (s₁ := sh (h.push (dob (es ++ [kst i T x (T + 1)]) (n + 1))) (U + 1) s) ?_ go_pure
      have g := @go_set p w n₀ ann i T (.str x (T + 1)) (sh (h.push (dob es n)) U s) h.objs.size _ _ _ _ _ (Heap.get?_push_size (o := dob es n) _ rfl) (hu.without h1) hn (by show es.length ≤ 1000; omega) (by omega) h2
      simp only [sh, update_push] at g ⊢
      have e : Obj.mapDictKeys (·.push ⟨i, .int i T, .str x (T + 1)⟩) (dob es n) = dob (es ++ [kst i T x (T + 1)]) (n + 1) := mapKeys_dob
      rw [e] at g
      exact g
    · have := go_short h s hn ps i (es ++ [kst i T x (T + 1)]) (n + 1) (T + 2) (U + 1) (by omega) h3 (hu.snoc h1) (by simp only [List.length_append, List.length_singleton]; omega)
      rw [show U + (ps.length + 1) = U + 1 + ps.length by omega, show n + (ps.length + 1) = n + 1 + ps.length by omega]
      rw [List.append_assoc] at this
      exact this
noncomputable def ents (T : Nat) (ps : List (Int × PySem.Str)) : List DictEntry := if ps.length ≤ 15 then ent2 T ps else ent3 T ps
theorem go_sub (env : Env) (pos : Pos) (h : Heap) (s : Shared) (hn : n₀ ≤ h.objs.size) (ps : List (Int × PySem.Str)) (T : Nat) (k : Int) (hk : -1 ≤ k) (ha : asc k ps = true) (hz : ps.length ≤ 1000) :
    Go p w n₀ ann (2 + 13 * ps.length) (subDict (ps.map (pr env pos))) (sh h T s) h.objs.size (sh (h.push (dob (ents T ps) ps.length)) (T + 3 * ps.length) s) := by
  unfold subDict
  rw [show 2 + 13 * ps.length = 1 + (1 + 13 * ps.length) by omega]
  refine go_bind (c := 1) (d := 1 + 13 * ps.length) (go_alloc (s := sh h T s)) ?_
  refine go_bind (c := 1 + 13 * ps.length) (d := 0) (s₁ := sh (h.push (dob (ents T ps) ps.length)) (T + 3 * ps.length) s) (a := ()) (go_hold ?_) go_pure
  unfold ents
  rw [List.length_map]
  split
  · refine go_le (c := 3 * ps.length + (10 * ps.length + 0)) ?_ (by omega)
    refine go_bind (c := 3 * ps.length) (d := 10 * ps.length + 0) (go_pairs env pos s (h.push (dob [] 0)) ps T) (go_hold ?_)
    have g := @go_short p w n₀ ann h s hn ps k [] 0 T (T + 2 * ps.length) hk ha (fun _ h => nomatch h) (by simpa using hz)
    rw [show T + 2 * ps.length + ps.length = T + 3 * ps.length by omega, List.nil_append, Nat.zero_add] at g
    exact go_bind g go_pure
  · refine go_bind (c := 1) (d := 13 * ps.length + 0) go_rule ?_
    have g := @go_long p w n₀ ann env pos h s hn ps k [] 0 T hk ha (fun _ h => nomatch h) (by simpa using hz)
    rw [List.nil_append, Nat.zero_add] at g
    exact go_bind g go_pure
end go
end Mine
-- part GO5
namespace Mine
section go
variable {p : Program} {w : World} {n₀ : Nat} {ann : Option Value} {α β : Type}
noncomputable def setD (h : Heap) (d : Addr) (es : List DictEntry) (n : Nat) : Heap := h.update d fun _ => dob es n
theorem setD_self {h : Heap} {d : Addr} {o : Obj} {es : List DictEntry} {n : Nat} (ho : h.get? d = some o) : (setD h d es n).get? d = some (dob es n) := Heap.get?_update_self _ ho rfl
theorem setD_ne {h : Heap} {d b : Addr} {es : List DictEntry} {n : Nat} (hb : b ≠ d) : (setD h d es n).get? b = h.get? b := Heap.get?_update_ne _ _ _ _ hb
theorem setD_grow {h : Heap} {d : Addr} {es : List DictEntry} {n : Nat} {e : DictEntry} : (setD h d es n).update d (Obj.mapDictKeys (·.push e)) = setD h d (es ++ [e]) (n + 1) := by
  obtain ⟨objs, life⟩ := h
  show (⟨(objs.modify d fun _ => dob es n).modify d (Obj.mapDictKeys (·.push e)), life⟩ : Heap) = ⟨objs.modify d fun _ => dob (es ++ [e]) (n + 1), life⟩
  congr 1
  apply Array.ext
  · simp
  · intro i h1 h2
    rw [Array.getElem_modify, Array.getElem_modify, Array.getElem_modify]
    split
    · exact mapKeys_dob
    · rfl
theorem setD_id {h : Heap} {d : Addr} {es : List DictEntry} {n : Nat} (ho : h.get? d = some (dob es n)) : setD h d es n = h := by
  obtain ⟨objs, life⟩ := h
  show (⟨objs.modify d fun _ => dob es n, life⟩ : Heap) = ⟨objs, life⟩
  congr 1
  apply Array.ext
  · simp
  · intro i h1 h2
    rw [Array.getElem_modify]
    split
    · rename_i e
      subst e
      have q : (Heap.mk objs life).get? d = some objs[d] ∨ True := .inr trivial
      unfold Heap.get? at ho
      rw [Array.getElem?_eq_getElem h2] at ho
      revert ho
      split
      · intro ho; cases ho
      · intro ho; exact (Option.some.inj ho).symm
    · rfl
theorem sub_dict : isSubtype (.type "dict") (.type "dict") = pure true := by kernel_rfl
theorem iter_dict : typeLookup (.type "dict") "__iter__" = pure (some (.builtin "dict.__iter__")) := by kernel_rfl
theorem go_type {a : Addr} {s : Shared} {o : Obj} (ho : s.heap.get? a = some o) : Go p w n₀ ann 1 (typeOf (.ref a)) s o.cls s :=
  go_bind (c := 1) (d := 0) (go_load ho) go_pure
theorem go_ents {a : Addr} {s : Shared} {es : List DictEntry} {n : Nat} {part : Option Value} (ho : s.heap.get? a = some (dob es n)) : Go p w n₀ ann 1 (dictEntries a part) s ⟨es⟩ s :=
  go_bind (c := 1) (d := 0) (go_load ho) go_pure
theorem go_epoch {a : Addr} {s : Shared} {es : List DictEntry} {n : Nat} {part : Option Value} (ho : s.heap.get? a = some (dob es n)) : Go p w n₀ ann 1 (dictEpoch a part) s n s := by
  unfold dictEpoch
  exact go_bind (c := 1) (d := 0) (go_load ho) go_pure
/-- the entries of a part: ints for keys, rising -/
noncomputable def Rising : Int → List DictEntry → Prop
  | _, [] => True
  | k, e :: r => ∃ i t x u, e = kst i t x u ∧ k < i ∧ Rising i r
theorem go_turns {h : Heap} {s : Shared} {d a : Addr} {T : Nat} {sub : List DictEntry} {m : Nat} {o : Obj} (hd : h.get? d = some o) (ha : h.get? a = some (dob sub m)) (hne : a ≠ d) (hn : n₀ ≤ d) : ∀ (r pre : List DictEntry) (k : Int) (es : List DictEntry) (n : Nat), sub = pre ++ r → Rising k r → Under k es → es.length + r.length ≤ 1000 →
    Go p w n₀ ann (6 * r.length) (forIn (List.range' pre.length r.length) PUnit.unit fun (i : Nat) (_ : PUnit) => do
      let __do_lift ← dictEntries a
      match __do_lift[i]? with
        | some e => do
          holding [e.key, e.val] (dictPut d e.hash e.key e.val)
          let __do_lift ← dictEpoch a
          if (__do_lift != m) = true then do
              unsupported "dict.changed-during-merge"
              pure (ForInStep.yield PUnit.unit)
            else pure (ForInStep.yield PUnit.unit)
        | x => do
          unsupported "dict.changed-during-merge"
          pure (ForInStep.yield PUnit.unit)) (sh (setD h d es n) T s) PUnit.unit (sh (setD h d (es ++ r) (n + r.length)) T s)
  | [], pre, k, es, n, _, _, _, _ => by
    simp only [List.length_nil, List.range'_zero, List.forIn_nil, List.append_nil, Nat.mul_zero, Nat.add_zero]
    exact go_pure
  | e :: r, pre, k, es, n, hs, ⟨i, t, x, u, he, h1, h3⟩, hu, hz => by
    subst he
    have hi : (⟨sub⟩ : Array DictEntry)[pre.length]? = some (kst i t x u) := by
      rw [hs]; simp
    simp only [List.length_cons] at hz ⊢
    rw [List.range'_succ, List.forIn_cons, show 6 * (r.length + 1) = 6 + 6 * r.length by omega]
    refine go_bind (c := 6) (d := 6 * r.length) (a := ForInStep.yield PUnit.unit) (s₁ := sh (setD h d (es ++ [kst i t x u]) (n + 1)) T s) ?_ ?_
    · have ea : ∀ es n, (setD h d es n).get? a = some (dob sub m) := fun es n => (setD_ne hne).trans ha
      refine go_bind (c := 1) (d := 5) (go_ents (s := sh (setD h d es n) T s) (ea _ _)) ?_
      simp only [hi]
      refine go_bind (c := 4) (d := 1) (a := ()) (s₁ := sh (setD h d (es ++ [kst i t x u]) (n + 1)) T s) (go_hold ?_) ?_
      · have g := @go_put p w n₀ ann i t (.str x u) (sh (setD h d es n) T s) d _ _ _ _ _ (setD_self hd) (hu.without h1) hn (by show es.length ≤ 1000; omega)
        have e : (setD h d es n).update d (Obj.mapDictKeys (·.push (kst i t x u))) = _ := setD_grow
        simp only [sh] at g ⊢
        rw [show (⟨i, .int i t, .str x u⟩ : DictEntry) = kst i t x u from rfl, e] at g
        exact g
      · refine go_bind (c := 1) (d := 0) (go_epoch (s := sh (setD h d (es ++ [kst i t x u]) (n + 1)) T s) (ea _ _)) ?_
        simp only [bne_self_eq_false]
        exact go_pure
    · have := go_turns (T := T) (s := s) hd ha hne hn r (pre ++ [kst i t x u]) i (es ++ [kst i t x u]) (n + 1) (by rw [hs]; simp) h3 (hu.snoc h1) (by simp only [List.length_append, List.length_singleton]; omega)
      rw [show n + (r.length + 1) = n + 1 + r.length by omega]
      rw [List.append_assoc, List.length_append, List.length_singleton] at this
      exact this
theorem go_merge {h : Heap} {s : Shared} {d a : Addr} {T : Nat} {es sub : List DictEntry} {n m : Nat} {k : Int} (hd : h.get? d = some (dob es n)) (ha : h.get? a = some (dob sub m)) (hne : a ≠ d) (hn : n₀ ≤ d) (hsys : a ≠ sysModules) (h0 : es ≠ []) (hr : Rising k sub) (hu : Under k es) (hz : es.length + sub.length ≤ 1000) :
    Go p w n₀ ann (5 + 6 * sub.length) (mergeMapping d (.ref a) false) (sh h T s) () (sh (setD h d (es ++ sub) (n + sub.length)) T s) := by
  unfold mergeMapping
  have i1 : Go p w n₀ ann 1 (isInstance (.ref a) (.type "dict")) (sh h T s) true (sh h T s) := by
    unfold isInstance
    refine go_bind (c := 1) (d := 0) (go_type (s := sh h T s) ha) ?_
    show Go p w n₀ ann 0 (isSubtype (.type "dict") (.type "dict")) _ _ _
    rw [sub_dict]; exact go_pure
  have i2 : Go p w n₀ ann 1 (specialOf (.ref a) "__iter__") (sh h T s) (some (.builtin "dict.__iter__")) (sh h T s) := by
    unfold specialOf
    refine go_bind (c := 1) (d := 0) (go_type (s := sh h T s) ha) ?_
    show Go p w n₀ ann 0 (typeLookup (.type "dict") "__iter__") _ _ _
    rw [iter_dict]; exact go_pure
  rw [show 5 + 6 * sub.length = 1 + (1 + (0 + (1 + (1 + (1 + (6 * sub.length + 0)))))) by omega]
  refine go_bind i1 ?_
  dsimp only
  rw [if_pos rfl]
  refine go_bind i2 ?_
  refine go_bind (c := 0) (a := true) (s₁ := sh h T s) (go_of_eq (by rw [show ((some (Value.builtin "dict.__iter__") == some (Value.builtin "dict.__iter__")) = true) by simp]) go_pure) ?_
  dsimp only
  have e1 : (a == sysModules) = false := by simp [hsys]
  simp only [e1]
  refine go_bind (c := 1) (go_ents (s := sh h T s) hd) ?_
  have e2 : (Array.isEmpty (⟨es⟩ : Array DictEntry)) = false := by cases es with | nil => exact absurd rfl h0 | cons => rfl
  simp only [e2]
  refine go_bind (c := 1) (go_ents (s := sh h T s) ha) ?_
  refine go_bind (c := 1) (go_epoch (s := sh h T s) ha) ?_
  have g := @go_turns p w n₀ ann h s d a T sub m _ hd ha hne hn sub [] k es n rfl hr hu hz
  rw [setD_id hd] at g
  rw [List.range_eq_range']
  refine go_bind (d := 0) g go_pure
end go
end Mine
-- part GO6
namespace Mine
section go
variable {p : Program} {w : World} {n₀ : Nat} {ann : Option Value} {α β : Type}
theorem rising3 : ∀ (ps : List (Int × PySem.Str)) (k : Int) (T : Nat), asc k ps = true → Rising k (ent3 T ps)
  | [], _, _, _ => trivial
  | (i, x) :: r, k, T, h => by
    simp only [asc, Bool.and_eq_true, decide_eq_true_eq] at h
    exact ⟨i, T, x, T + 1, rfl, h.1.1, rising3 r i _ h.2⟩
theorem rising2 : ∀ (ps : List (Int × PySem.Str)) (k : Int) (T : Nat), asc k ps = true → Rising k (ent2 T ps)
  | [], _, _, _ => trivial
  | (i, x) :: r, k, T, h => by
    simp only [asc, Bool.and_eq_true, decide_eq_true_eq] at h
    exact ⟨i, T, x, T + 1, rfl, h.1.1, rising2 r i _ h.2⟩
theorem rising_ents {ps : List (Int × PySem.Str)} {k : Int} {T : Nat} (h : asc k ps = true) : Rising k (ents T ps) := by
  unfold ents; split
  · exact rising2 _ _ _ h
  · exact rising3 _ _ _ h
noncomputable def lastKey : Int → List (Int × PySem.Str) → Int
  | k, [] => k
  | _, (i, _) :: r => lastKey i r
theorem le_lastKey : ∀ (ps : List (Int × PySem.Str)) (k : Int), asc k ps = true → k ≤ lastKey k ps
  | [], k, _ => Int.le_refl _
  | (i, x) :: r, k, h => by
    simp only [asc, Bool.and_eq_true, decide_eq_true_eq] at h
    exact Int.le_trans (Int.le_of_lt h.1.1) (le_lastKey r i h.2)
theorem under3 : ∀ (ps : List (Int × PySem.Str)) (k : Int) (T : Nat) (es : List DictEntry), asc k ps = true → Under k es → Under (lastKey k ps) (es ++ ent3 T ps)
  | [], k, T, es, _, hu => by simpa [ent3, lastKey] using hu
  | (i, x) :: r, k, T, es, h, hu => by
    simp only [asc, Bool.and_eq_true, decide_eq_true_eq] at h
    have := under3 r i (T + 3) (es ++ [kst i T x (T + 1)]) h.2 (hu.snoc h.1.1)
    rw [List.append_assoc] at this
    exact this
theorem under2 : ∀ (ps : List (Int × PySem.Str)) (k : Int) (T : Nat) (es : List DictEntry), asc k ps = true → Under k es → Under (lastKey k ps) (es ++ ent2 T ps)
  | [], k, T, es, _, hu => by simpa [ent2, lastKey] using hu
  | (i, x) :: r, k, T, es, h, hu => by
    simp only [asc, Bool.and_eq_true, decide_eq_true_eq] at h
    have := under2 r i (T + 2) (es ++ [kst i T x (T + 1)]) h.2 (hu.snoc h.1.1)
    rw [List.append_assoc] at this
    exact this
theorem under_ents {ps : List (Int × PySem.Str)} {k : Int} {T : Nat} {es : List DictEntry} (h : asc k ps = true) (hu : Under k es) : Under (lastKey k ps) (es ++ ents T ps) := by
  unfold ents; split
  · exact under2 _ _ _ _ h hu
  · exact under3 _ _ _ _ h hu
theorem len3 : ∀ (ps : List (Int × PySem.Str)) (T : Nat), (ent3 T ps).length = ps.length
  | [], _ => rfl
  | (i, x) :: r, T => by simp [ent3, len3 r]
theorem len2 : ∀ (ps : List (Int × PySem.Str)) (T : Nat), (ent2 T ps).length = ps.length
  | [], _ => rfl
  | (i, x) :: r, T => by simp [ent2, len2 r]
theorem len_ents {ps : List (Int × PySem.Str)} {T : Nat} : (ents T ps).length = ps.length := by
  unfold ents; split
  · exact len2 _ _
  · exact len3 _ _
theorem asc_append : ∀ (a b : List (Int × PySem.Str)) (k : Int), asc k (a ++ b) = (asc k a && asc (lastKey k a) b)
  | [], b, k => by simp [asc, lastKey]
  | (i, x) :: r, b, k => by simp only [List.cons_append, asc, lastKey, asc_append r b i, Bool.and_assoc]
/-- the heap behind the further parts of a display whose dict lies at d -/
noncomputable def disp (d : Addr) : List (List (Int × PySem.Str)) → Heap → Nat → List DictEntry → Nat → Heap
  | [], h, _, _, _ => h
  | c :: cs, h, T, es, n => disp d cs (setD (h.push (dob (ents T c) c.length)) d (es ++ ents T c) (n + c.length)) (T + 3 * c.length) (es ++ ents T c) (n + c.length)
abbrev Item := Option (Sem Value) × Sem Value
noncomputable def it (env : Env) (pos : Pos) (x : Int × PySem.Str) : Item := (some (pr env pos x).1, (pr env pos x).2)
abbrev flushT (run : List (Sem Value × Sem Value)) (main : Option Addr) : Sem (Option Addr) :=
  if run.isEmpty = true then pure main
  else
    match main with
    | none => do
      let __do_lift ← subDict run
      pure (some __do_lift)
    | some d => do
      let sub ← holding [Value.ref d] (subDict run)
      (holding [Value.ref d, Value.ref sub] (mergeMapping d (Value.ref sub) false)).onRaise fun x => do
          let _ ← holding [Value.ref d, x] (runValue (Code.builtin "proto.let_go" { }))
          pure ()
      pure (some d)
theorem display_parts : ∃ body : Item → Option Addr × List (Sem Value × Sem Value) → Sem (ForInStep (Option Addr × List (Sem Value × Sem Value))),
    (∀ items, dictDisplay items = forIn items (none, []) body >>= fun s => flushT s.2 s.1 >>= fun r => match r with | some d => pure (.ref d) | none => newDict) ∧
    (∀ k v main run, body (some k, v) (main, run) = if ((run ++ [(k, v)]).length == 17) = true then flushT (run ++ [(k, v)]) main >>= fun m => pure (.yield (m, [])) else pure (.yield (main, run ++ [(k, v)]))) :=
  ⟨_, fun items => rfl, fun k v main run => rfl⟩
theorem go_assoc {γ : Type} {c : Nat} {X : Sem α} {Y : α → Sem β} {Z : β → Sem γ} {s s' : Shared} {b : γ} (h : Go p w n₀ ann c (X >>= fun a => Y a >>= Z) s b s') : Go p w n₀ ann c ((X >>= Y) >>= Z) s b s' := fun K H gd lv code pos f B => by
  have := h K H gd lv code pos f B
  rw [Sem.bind_eq_wrap', Sem.wrap_wrap] at this
  rw [Sem.bind_eq_wrap', Sem.bind_eq_wrap', Sem.wrap_wrap, Sem.wrap_wrap]
  simp only [Sem.bind_eq_wrap', Sem.wrap_wrap] at this ⊢
  exact this
theorem go_flush {env : Env} {pos : Pos} {h : Heap} {s : Shared} {d : Addr} {T : Nat} {es : List DictEntry} {n : Nat} {k : Int} {c : List (Int × PySem.Str)} (hd : h.get? d = some (dob es n)) (hn : n₀ ≤ d) (hn1 : 1 < n₀) (h0 : es ≠ []) (hk : -1 ≤ k) (ha : asc k c = true) (hu : Under k es) (hz : es.length + c.length ≤ 1000) (hc : c ≠ []) :
    Go p w n₀ ann (7 + 19 * c.length) (flushT (c.map (pr env pos)) (some d)) (sh h T s) (some d) (sh (setD (h.push (dob (ents T c) c.length)) d (es ++ ents T c) (n + c.length)) (T + 3 * c.length) s) := by
  unfold flushT
  have e0 : (c.map (pr env pos)).isEmpty = false := by cases c with | nil => exact absurd rfl hc | cons => rfl
  simp only [e0]
  have hlt : d < h.objs.size := Heap.lt_size hd
  rw [show 7 + 19 * c.length = (2 + 13 * c.length) + ((5 + 6 * c.length) + 0) by omega]
  refine go_bind (go_hold (go_sub env pos h s (Nat.le_of_lt (Nat.lt_of_le_of_lt hn hlt)) c T k hk ha (by omega))) ?_
  have g := @go_merge p w n₀ ann (h.push (dob (ents T c) c.length)) s d h.objs.size (T + 3 * c.length) es (ents T c) n c.length k (Heap.get?_push_of_some _ hd) (Heap.get?_push_size (o := dob (ents T c) c.length) _ rfl) (Nat.ne_of_gt hlt) hn
    (Nat.ne_of_gt (Nat.lt_of_lt_of_le (show 1 < d from Nat.lt_of_lt_of_le hn1 hn) (Nat.le_of_lt hlt))) h0 (rising_ents ha) hu (by rw [len_ents]; exact hz)
  rw [len_ents] at g
  exact go_bind (go_onRaise (go_hold g)) go_pure
theorem go_items {body : Item → Option Addr × List (Sem Value × Sem Value) → Sem (ForInStep (Option Addr × List (Sem Value × Sem Value)))} (env : Env) (pos : Pos)
    (hb : ∀ k v main run, body (some k, v) (main, run) = if ((run ++ [(k, v)]).length == 17) = true then flushT (run ++ [(k, v)]) main >>= fun m => pure (.yield (m, [])) else pure (.yield (main, run ++ [(k, v)]))) (m : Option Addr) :
    ∀ (c pre : List (Int × PySem.Str)) (rest : List Item), pre.length + c.length < 17 → forIn (c.map (it env pos) ++ rest) (m, pre.map (pr env pos)) body = forIn rest (m, (pre ++ c).map (pr env pos)) body
  | [], pre, rest, _ => by simp
  | x :: c, pre, rest, hl => by
    simp only [List.map_cons, List.cons_append, List.forIn_cons]
    have e : body (it env pos x) (m, pre.map (pr env pos)) = pure (.yield (m, (pre ++ [x]).map (pr env pos))) := by
      unfold it
      rw [hb, if_neg (by simp only [List.length_append, List.length_map, beq_iff_eq, List.length_cons, List.length_nil] at hl ⊢; omega)]
      simp
    rw [e]
    have := go_items env pos hb m c (pre ++ [x]) rest (by simp only [List.length_append, List.length_cons, List.length_nil] at hl ⊢; omega)
    simp only [List.append_assoc, List.singleton_append] at this
    exact this
/-- whole parts of seventeen -/
theorem go_parts {body : Item → Option Addr × List (Sem Value × Sem Value) → Sem (ForInStep (Option Addr × List (Sem Value × Sem Value)))} (env : Env) (pos : Pos)
    (hb : ∀ k v main run, body (some k, v) (main, run) = if ((run ++ [(k, v)]).length == 17) = true then flushT (run ++ [(k, v)]) main >>= fun m => pure (.yield (m, [])) else pure (.yield (main, run ++ [(k, v)])))
    {s : Shared} {d : Addr} (hn : n₀ ≤ d) (hn1 : 1 < n₀) (last : List (Int × PySem.Str)) (hl : last.length < 17) :
    ∀ (cs : List (List (Int × PySem.Str))) (h : Heap) (T : Nat) (es : List DictEntry) (n : Nat) (k : Int), (∀ c ∈ cs, c.length = 17) → h.get? d = some (dob es n) → es ≠ [] → -1 ≤ k → asc k (cs.flatten ++ last) = true → Under k es → es.length + (cs.flatten ++ last).length ≤ 1000 →
      Go p w n₀ ann (cs.length * 330 + 331) (forIn ((cs.flatten ++ last).map (it env pos)) (some d, []) body >>= fun s => flushT s.2 s.1 >>= fun r => match r with | some d => pure (.ref d) | none => newDict) (sh h T s) (.ref d)
        (sh (disp d (cs ++ (if last = [] then [] else [last])) h T es n) (T + 3 * (cs.flatten ++ last).length) s)
  | [], h, T, es, n, k, hc, hd, h0, hk, ha, hu, hz => by
    simp only [List.flatten_nil, List.nil_append] at ha hz ⊢
    have e := go_items env pos hb (some d) last [] [] (by simpa using hl)
    simp only [List.append_nil, List.nil_append, List.map_nil, List.forIn_nil] at e
    rw [e]
    refine go_bind (c := 0) (d := 331) go_pure ?_
    dsimp only
    by_cases q : last = []
    · subst q
      simp only [List.map_nil, List.length_nil, if_true, disp, Nat.mul_zero, Nat.add_zero]
      exact go_le (go_bind (c := 0) (d := 0) (go_of_eq (by unfold flushT; rfl) go_pure) go_pure) (by omega)
    · rw [if_neg q]
      simp only [disp]
      exact go_le (go_bind (d := 0) (go_flush hd hn hn1 h0 hk ha hu hz q) go_pure) (by omega)
  | c :: cs, h, T, es, n, k, hc, hd, h0, hk, ha, hu, hz => by
    have hc17 := hc c (.head _)
    simp only [List.flatten_cons, List.append_assoc] at ha hz ⊢
    rw [asc_append, Bool.and_eq_true] at ha
    obtain ⟨x, c', rfl⟩ : ∃ x c', c = c' ++ [x] := by
      rcases List.eq_nil_or_concat c with q | ⟨c', x, q⟩
      · rw [q] at hc17; cases hc17
      · exact ⟨x, c', by simpa using q⟩
    have hc16 : c'.length = 16 := by simp only [List.length_append, List.length_singleton] at hc17; omega
    have hne : c' ++ [x] ≠ [] := by simp
    generalize hr : (cs.flatten ++ last).map (it env pos) = rest
    have e := go_items env pos hb (some d) c' [] (it env pos x :: rest) (by simp only [List.length_nil]; omega)
    simp only [List.map_nil, List.nil_append] at e
    rw [List.map_append, hr, List.map_append, List.append_assoc, List.map_singleton, List.singleton_append, e, List.forIn_cons]
    have e2 : body (it env pos x) (some d, c'.map (pr env pos)) = flushT ((c' ++ [x]).map (pr env pos)) (some d) >>= fun m => pure (.yield (m, [])) := by
      unfold it
      rw [hb, if_pos (by simp only [List.length_append, List.length_map, List.length_singleton, beq_iff_eq]; omega)]
      simp
    rw [e2]
    have hz1 : es.length + (c' ++ [x]).length ≤ 1000 := by simp only [List.length_append] at hz ⊢; omega
    have g1 := @go_flush p w n₀ ann env pos h s d T es n k (c' ++ [x]) hd hn hn1 h0 hk ha.1 hu hz1 hne
    have hlt : d < h.objs.size := Heap.lt_size hd
    have g2 := go_parts env pos hb (s := s) hn hn1 last hl cs (setD (h.push (dob (ents T (c' ++ [x])) (c' ++ [x]).length)) d (es ++ ents T (c' ++ [x])) (n + (c' ++ [x]).length)) (T + 3 * (c' ++ [x]).length) (es ++ ents T (c' ++ [x])) (n + (c' ++ [x]).length) (lastKey k (c' ++ [x]))
      (fun c h => hc c (.tail _ h)) (setD_self (Heap.get?_push_of_some _ hd)) (by simp [h0]) (Int.le_trans hk (le_lastKey _ _ ha.1)) ha.2 (under_ents ha.1 hu) (by rw [List.length_append, len_ents]; simp only [List.length_append] at hz ⊢; omega)
    rw [hr] at g2
    rw [hc17] at g1
    refine go_le (c := (7 + 19 * 17 + 0) + (cs.length * 330 + 331)) ?_ (by simp only [List.length_cons]; omega)
    have tk : T + 3 * (c' ++ [x] ++ (cs.flatten ++ last)).length = T + 3 * (c' ++ [x]).length + 3 * (cs.flatten ++ last).length := by simp only [List.length_append]; omega
    rw [List.append_assoc] at tk
    rw [show (c' ++ [x]) ++ (cs.flatten ++ last) = c' ++ ([x] ++ (cs.flatten ++ last)) by simp, tk]
    rw [hc17] at g2
    rw [hc17]
    refine go_assoc (go_bind (c := 7 + 19 * 17 + 0) (d := cs.length * 330 + 331) (a := ForInStep.yield (some d, [])) (go_bind (d := 0) g1 go_pure) ?_)
    simp only [List.cons_append, disp, hc17]
    exact g2
theorem go_display (env : Env) (pos : Pos) (s : Shared) (h : Heap) (T : Nat) (hn : n₀ ≤ h.objs.size) (hn1 : 1 < n₀) (c0 : List (Int × PySem.Str)) (h0 : c0.length = 17) (cs : List (List (Int × PySem.Str))) (hc : ∀ c ∈ cs, c.length = 17) (last : List (Int × PySem.Str)) (hl : last.length < 17)
    (ha : asc (-1) (c0 ++ (cs.flatten ++ last)) = true) (hz : (c0 ++ (cs.flatten ++ last)).length ≤ 1000) :
    Go p w n₀ ann (1000 + cs.length * 330) (dictDisplay ((c0 ++ (cs.flatten ++ last)).map (it env pos))) (sh h T s) (.ref h.objs.size)
      (sh (disp h.objs.size (cs ++ (if last = [] then [] else [last])) (h.push (dob (ents T c0) 17)) (T + 51) (ents T c0) 17) (T + 3 * (c0 ++ (cs.flatten ++ last)).length) s) := by
  obtain ⟨body, e1, hb⟩ := display_parts
  rw [e1, List.map_append]
  rw [asc_append, Bool.and_eq_true] at ha
  obtain ⟨x, c', rfl⟩ : ∃ x c', c0 = c' ++ [x] := by
    rcases List.eq_nil_or_concat c0 with q | ⟨c', x, q⟩
    · rw [q] at h0; cases h0
    · exact ⟨x, c', by simpa using q⟩
  have hc16 : c'.length = 16 := by simp only [List.length_append, List.length_singleton] at h0; omega
  generalize hr : (cs.flatten ++ last).map (it env pos) = rest
  have e := go_items env pos hb none c' [] (it env pos x :: rest) (by simp only [List.length_nil]; omega)
  simp only [List.map_nil, List.nil_append] at e
  rw [List.map_append, List.append_assoc, List.map_singleton, List.singleton_append, e, List.forIn_cons]
  have e2 : body (it env pos x) (none, c'.map (pr env pos)) = flushT ((c' ++ [x]).map (pr env pos)) none >>= fun m => pure (.yield (m, [])) := by
    unfold it
    rw [hb, if_pos (by simp only [List.length_append, List.length_map, List.length_singleton, beq_iff_eq]; omega)]
    simp
  rw [e2]
  have hz1 : (c' ++ [x]).length ≤ 1000 := by omega
  have g1 := @go_sub p w n₀ ann env pos h s hn (c' ++ [x]) T (-1) (by omega) ha.1 hz1
  have f1 : Go p w n₀ ann (2 + 13 * (c' ++ [x]).length + 0) (flushT ((c' ++ [x]).map (pr env pos)) none) (sh h T s) (some h.objs.size) (sh (h.push (dob (ents T (c' ++ [x])) (c' ++ [x]).length)) (T + 3 * (c' ++ [x]).length) s) := by
    unfold flushT
    have e0 : ((c' ++ [x]).map (pr env pos)).isEmpty = false := by simp
    simp only [e0]
    exact go_bind g1 go_pure
  rw [h0] at f1
  have u0 : Under (lastKey (-1) (c' ++ [x])) ([] ++ ents T (c' ++ [x])) := under_ents ha.1 (fun _ h => nomatch h)
  rw [List.nil_append] at u0
  have ne : ents T (c' ++ [x]) ≠ [] := fun q => by have := @len_ents (c' ++ [x]) T; rw [q, h0] at this; cases this
  have g2 := @go_parts p w n₀ ann body env pos hb s h.objs.size hn hn1 last hl cs (h.push (dob (ents T (c' ++ [x])) 17)) (T + 3 * 17) (ents T (c' ++ [x])) 17 (lastKey (-1) (c' ++ [x])) hc (Heap.get?_push_size (o := dob (ents T (c' ++ [x])) 17) _ rfl) ne
    (le_lastKey _ _ ha.1) ha.2 u0 (by rw [len_ents]; simp only [List.length_append] at hz ⊢; omega)
  rw [hr] at g2
  refine go_le (c := (2 + 13 * 17 + 0 + 0) + (cs.length * 330 + 331)) ?_ (by omega)
  have tk : T + 3 * (c' ++ [x] ++ (cs.flatten ++ last)).length = T + 3 * 17 + 3 * (cs.flatten ++ last).length := by rw [List.length_append, h0]; omega
  rw [tk]
  exact go_assoc (go_bind (c := 2 + 13 * 17 + 0 + 0) (d := cs.length * 330 + 331) (a := ForInStep.yield (some h.objs.size, [])) (go_bind (d := 0) f1 go_pure) g2)
end go
end Mine
-- part HDO02
namespace Mine
noncomputable section
abbrev pw : Program := PySem.Challenge.pw_pe0255_02
noncomputable def stAt (i : Nat) : Stmt := pw.main.body.getD i (.Pass default)
noncomputable def fdA : Stmt → Arguments
  | .FunctionDef _ a _ _ _ _ _ _ _ _ => a
  | _ => default
noncomputable def fdB : Stmt → List Stmt
  | .FunctionDef _ _ b _ _ _ _ _ _ _ => b
  | _ => []
noncomputable def fdS : Stmt → Scope
  | .FunctionDef _ _ _ _ _ _ s _ _ _ => s
  | _ => default
noncomputable def en (P : Params) (k : List Nat) (t : Tok) (v : Value) : DictEntry := ⟨PyData.keyHash P ⟨k.toArray⟩, .str ⟨k.toArray⟩ t, v⟩
/-- the table's pairs, as the text has them -/
noncomputable def psOf : Stmt → List (Int × PySem.Str)
  | .Assign _ (.Dict ks vs _) _ => (ks.zip vs).filterMap fun
    | (some (.Constant (.int i) _ _), .Constant (.str x) _ _) => some (i, x)
    | _ => none
  | _ => []
noncomputable def ps : List (Int × PySem.Str) := psOf (stAt 11)
noncomputable def ch (j : Nat) : List (Int × PySem.Str) := (ps.drop (17 * j)).take 17
noncomputable def chs : List (List (Int × PySem.Str)) := (List.range 37).map fun j => ch (j + 1)
noncomputable def esTo : Nat → List DictEntry
  | 0 => ents 338 (ch 0)
  | j + 1 => esTo j ++ ents (338 + 51 * (j + 1)) (ch (j + 1))
noncomputable def obD : Obj := dob (esTo 38) 650
noncomputable def obS (j : Nat) : Obj := dob (ents (338 + 51 * j) (ch j)) (ch j).length
noncomputable def o11_a : Obj := ⟨.type "tuple", none, .seq ⟨[]⟩ 0, ⟨[]⟩⟩
noncomputable def o12_a : Obj := ⟨.none, none, .fields ⟨[]⟩, ⟨[]⟩⟩
noncomputable def o13_a : Obj := ⟨.type "code", none, .fields ⟨[.str ⟨⟨[60, 109, 111, 100, 117, 108, 101, 62]⟩⟩ 182, .str ⟨⟨[60, 109, 111, 100, 117, 108, 101, 62]⟩⟩ 183, .str ⟨⟨[47, 99, 108, 97, 105, 109, 47, 99, 117, 116, 46, 112, 121]⟩⟩ 184, .int 1 0, .int 0 0, .int 0 0, .int 0 0, .int 0 0, .ref 11, .bool false, .int 181 0, .ref 12, .none, .none, .none, .none, .int 185 0, .int 1 0, .str ⟨⟨[47, 99, 108, 97, 105, 109, 47, 99, 117, 116, 46, 112, 121]⟩⟩ 186]⟩, ⟨[]⟩⟩
noncomputable def o14_a : Obj := ⟨.type "frame", none, .plain, ⟨[some (.ref 13), some (.ref 3), some (.ref 3), none, some (.str ⟨⟨[95, 95, 109, 97, 105, 110, 95, 95]⟩⟩ 164), none, some (.ref 0)]⟩⟩
noncomputable def l_a (P : Params) : List Obj := [boot_o_0 P, boot_o_1 P, boot_o_2 P, boot_o_3 P, boot_o_4 P, boot_o_5 P, boot_o_6 P, boot_o_7 P, boot_o_8 P, boot_o_9 P, boot_o_10 P, o11_a, o12_a, o13_a, o14_a]
noncomputable def o3_9 (P : Params) : Obj := ⟨.type "dict", none, .dict ⟨[en P [95, 95, 110, 97, 109, 101, 95, 95] 165 (.str ⟨⟨[99, 112, 121, 51, 49, 51, 46, 115, 116, 114, 105, 110, 103, 112, 114, 101, 112]⟩⟩ 269), en P [95, 95, 100, 111, 99, 95, 95] 166 (.none), en P [95, 95, 112, 97, 99, 107, 97, 103, 101, 95, 95] 167 (.none), en P [95, 95, 108, 111, 97, 100, 101, 114, 95, 95] 168 (.builtin "__main__.__loader__#opaque"), en P [95, 95, 115, 112, 101, 99, 95, 95] 169 (.none), en P [95, 95, 97, 110, 110, 111, 116, 97, 116, 105, 111, 110, 115, 95, 95] 170 (.ref 6), en P [95, 95, 98, 117, 105, 108, 116, 105, 110, 115, 95, 95] 171 (.ref 4), en P [95, 95, 102, 105, 108, 101, 95, 95] 173 (.str ⟨⟨[47, 99, 108, 97, 105, 109, 47, 99, 117, 116, 46, 112, 121]⟩⟩ 172), en P [95, 95, 99, 97, 99, 104, 101, 100, 95, 95] 174 (.none), en P [95, 68, 73, 86, 95, 76, 73, 77, 73, 84] 190 (.int 4000 189), en P [95, 100, 105, 118, 50, 110, 49, 110] 207 (.ref 21), en P [95, 100, 105, 118, 51, 110, 50, 110] 221 (.ref 28), en P [95, 105, 110, 116, 50, 100, 105, 103, 105, 116, 115] 232 (.ref 35), en P [95, 100, 105, 103, 105, 116, 115, 50, 105, 110, 116] 243 (.ref 42), en P [95, 100, 105, 118, 109, 111, 100, 95, 112, 111, 115] 258 (.ref 49), en P [105, 110, 116, 95, 100, 105, 118, 109, 111, 100] 268 (.ref 56)]⟩ 16, ⟨[]⟩⟩
noncomputable def o12_9 : Obj := ⟨.none, none, .fields ⟨[.int 3 0, .int 0 0, .ref 20, .int 19 0, .int 0 0, .ref 27, .int 29 0, .int 0 0, .ref 34, .int 45 0, .int 0 0, .ref 41, .int 54 0, .int 0 0, .ref 48, .int 65 0, .int 0 0, .ref 55]⟩, ⟨[]⟩⟩
noncomputable def o15_9 : Obj := ⟨.type "tuple", none, .seq ⟨[]⟩ 0, ⟨[]⟩⟩
noncomputable def o16_9 : Obj := ⟨.none, none, .fields ⟨[]⟩, ⟨[]⟩⟩
noncomputable def o17_9 : Obj := ⟨.type "tuple", none, .seq ⟨[.str ⟨⟨[97]⟩⟩ 194, .str ⟨⟨[98]⟩⟩ 195, .str ⟨⟨[110]⟩⟩ 196, .str ⟨⟨[112, 97, 100]⟩⟩ 197, .str ⟨⟨[104, 97, 108, 102, 95, 110]⟩⟩ 198, .str ⟨⟨[109, 97, 115, 107]⟩⟩ 199, .str ⟨⟨[98, 49]⟩⟩ 200, .str ⟨⟨[98, 50]⟩⟩ 201, .str ⟨⟨[113, 49]⟩⟩ 202, .str ⟨⟨[114]⟩⟩ 203, .str ⟨⟨[113, 50]⟩⟩ 204]⟩ 0, ⟨[]⟩⟩
noncomputable def o18_9 : Obj := ⟨.type "tuple", none, .seq ⟨[]⟩ 0, ⟨[]⟩⟩
noncomputable def o19_9 : Obj := ⟨.none, none, .func { name := ⟨⟨[95, 100, 105, 118, 50, 110, 49, 110]⟩⟩, qualname := ⟨⟨[95, 100, 105, 118, 50, 110, 49, 110]⟩⟩, params := fdA (stAt 2), body := .stmts (fdB (stAt 2)), scope := fdS (stAt 2), globals := 0, closure := [], defaults := .none, kwdefaults := .none, doc := .none, pyModule := .none, annotations := none, code := .none, closureTuple := .none, builtins := 0 }, ⟨[]⟩⟩
noncomputable def o20_9 : Obj := ⟨.type "code", none, .fields ⟨[.str ⟨⟨[95, 100, 105, 118, 50, 110, 49, 110]⟩⟩ 191, .str ⟨⟨[95, 100, 105, 118, 50, 110, 49, 110]⟩⟩ 192, .str ⟨⟨[47, 99, 108, 97, 105, 109, 47, 99, 117, 116, 46, 112, 121]⟩⟩ 193, .int 3 0, .int 3 0, .int 0 0, .int 0 0, .int 3 0, .ref 15, .bool true, .int 181 0, .ref 16, .none, .ref 17, .ref 18, .ref 19, .int 205 0, .int 3 0, .str ⟨⟨[47, 99, 108, 97, 105, 109, 47, 99, 117, 116, 46, 112, 121]⟩⟩ 206]⟩, ⟨[]⟩⟩
noncomputable def o21_9 : Obj := ⟨.type "function", none, .func { name := ⟨⟨[95, 100, 105, 118, 50, 110, 49, 110]⟩⟩, qualname := ⟨⟨[95, 100, 105, 118, 50, 110, 49, 110]⟩⟩, params := fdA (stAt 2), body := .stmts (fdB (stAt 2)), scope := fdS (stAt 2), globals := 3, closure := [], defaults := .none, kwdefaults := .none, doc := .none, pyModule := .str ⟨⟨[99, 112, 121, 51, 49, 51, 46, 95, 112, 121, 108, 111, 110, 103]⟩⟩ 187, annotations := none, code := .ref 20, closureTuple := .none, builtins := 0 }, ⟨[]⟩⟩
noncomputable def o22_9 : Obj := ⟨.type "tuple", none, .seq ⟨[]⟩ 0, ⟨[]⟩⟩
noncomputable def o23_9 : Obj := ⟨.none, none, .fields ⟨[]⟩, ⟨[]⟩⟩
noncomputable def o24_9 : Obj := ⟨.type "tuple", none, .seq ⟨[.str ⟨⟨[97, 49, 50]⟩⟩ 211, .str ⟨⟨[97, 51]⟩⟩ 212, .str ⟨⟨[98]⟩⟩ 213, .str ⟨⟨[98, 49]⟩⟩ 214, .str ⟨⟨[98, 50]⟩⟩ 215, .str ⟨⟨[110]⟩⟩ 216, .str ⟨⟨[113]⟩⟩ 217, .str ⟨⟨[114]⟩⟩ 218]⟩ 0, ⟨[]⟩⟩
noncomputable def o25_9 : Obj := ⟨.type "tuple", none, .seq ⟨[]⟩ 0, ⟨[]⟩⟩
noncomputable def o26_9 : Obj := ⟨.none, none, .func { name := ⟨⟨[95, 100, 105, 118, 51, 110, 50, 110]⟩⟩, qualname := ⟨⟨[95, 100, 105, 118, 51, 110, 50, 110]⟩⟩, params := fdA (stAt 3), body := .stmts (fdB (stAt 3)), scope := fdS (stAt 3), globals := 0, closure := [], defaults := .none, kwdefaults := .none, doc := .none, pyModule := .none, annotations := none, code := .none, closureTuple := .none, builtins := 0 }, ⟨[]⟩⟩
noncomputable def o27_9 : Obj := ⟨.type "code", none, .fields ⟨[.str ⟨⟨[95, 100, 105, 118, 51, 110, 50, 110]⟩⟩ 208, .str ⟨⟨[95, 100, 105, 118, 51, 110, 50, 110]⟩⟩ 209, .str ⟨⟨[47, 99, 108, 97, 105, 109, 47, 99, 117, 116, 46, 112, 121]⟩⟩ 210, .int 19 0, .int 6 0, .int 0 0, .int 0 0, .int 3 0, .ref 22, .bool true, .int 181 0, .ref 23, .none, .ref 24, .ref 25, .ref 26, .int 219 0, .int 19 0, .str ⟨⟨[47, 99, 108, 97, 105, 109, 47, 99, 117, 116, 46, 112, 121]⟩⟩ 220]⟩, ⟨[]⟩⟩
noncomputable def o28_9 : Obj := ⟨.type "function", none, .func { name := ⟨⟨[95, 100, 105, 118, 51, 110, 50, 110]⟩⟩, qualname := ⟨⟨[95, 100, 105, 118, 51, 110, 50, 110]⟩⟩, params := fdA (stAt 3), body := .stmts (fdB (stAt 3)), scope := fdS (stAt 3), globals := 3, closure := [], defaults := .none, kwdefaults := .none, doc := .none, pyModule := .str ⟨⟨[99, 112, 121, 51, 49, 51, 46, 95, 112, 121, 108, 111, 110, 103]⟩⟩ 187, annotations := none, code := .ref 27, closureTuple := .none, builtins := 0 }, ⟨[]⟩⟩
noncomputable def o29_9 : Obj := ⟨.type "tuple", none, .seq ⟨[]⟩ 0, ⟨[]⟩⟩
noncomputable def o30_9 : Obj := ⟨.none, none, .fields ⟨[]⟩, ⟨[]⟩⟩
noncomputable def o31_9 : Obj := ⟨.type "tuple", none, .seq ⟨[.str ⟨⟨[97]⟩⟩ 225, .str ⟨⟨[110]⟩⟩ 226]⟩ 0, ⟨[]⟩⟩
noncomputable def o32_9 : Obj := ⟨.type "tuple", none, .seq ⟨[.str ⟨⟨[110]⟩⟩ 227, .str ⟨⟨[97, 95, 100, 105, 103, 105, 116, 115]⟩⟩ 228, .str ⟨⟨[105, 110, 110, 101, 114]⟩⟩ 229]⟩ 0, ⟨[]⟩⟩
noncomputable def o33_9 : Obj := ⟨.none, none, .func { name := ⟨⟨[95, 105, 110, 116, 50, 100, 105, 103, 105, 116, 115]⟩⟩, qualname := ⟨⟨[95, 105, 110, 116, 50, 100, 105, 103, 105, 116, 115]⟩⟩, params := fdA (stAt 4), body := .stmts (fdB (stAt 4)), scope := fdS (stAt 4), globals := 0, closure := [], defaults := .none, kwdefaults := .none, doc := .none, pyModule := .none, annotations := none, code := .none, closureTuple := .none, builtins := 0 }, ⟨[]⟩⟩
noncomputable def o34_9 : Obj := ⟨.type "code", none, .fields ⟨[.str ⟨⟨[95, 105, 110, 116, 50, 100, 105, 103, 105, 116, 115]⟩⟩ 222, .str ⟨⟨[95, 105, 110, 116, 50, 100, 105, 103, 105, 116, 115]⟩⟩ 223, .str ⟨⟨[47, 99, 108, 97, 105, 109, 47, 99, 117, 116, 46, 112, 121]⟩⟩ 224, .int 29 0, .int 2 0, .int 0 0, .int 0 0, .int 3 0, .ref 29, .bool true, .int 181 0, .ref 30, .none, .ref 31, .ref 32, .ref 33, .int 230 0, .int 29 0, .str ⟨⟨[47, 99, 108, 97, 105, 109, 47, 99, 117, 116, 46, 112, 121]⟩⟩ 231]⟩, ⟨[]⟩⟩
noncomputable def o35_9 : Obj := ⟨.type "function", none, .func { name := ⟨⟨[95, 105, 110, 116, 50, 100, 105, 103, 105, 116, 115]⟩⟩, qualname := ⟨⟨[95, 105, 110, 116, 50, 100, 105, 103, 105, 116, 115]⟩⟩, params := fdA (stAt 4), body := .stmts (fdB (stAt 4)), scope := fdS (stAt 4), globals := 3, closure := [], defaults := .none, kwdefaults := .none, doc := .none, pyModule := .str ⟨⟨[99, 112, 121, 51, 49, 51, 46, 95, 112, 121, 108, 111, 110, 103]⟩⟩ 187, annotations := none, code := .ref 34, closureTuple := .none, builtins := 0 }, ⟨[]⟩⟩
noncomputable def o36_9 : Obj := ⟨.type "tuple", none, .seq ⟨[]⟩ 0, ⟨[]⟩⟩
noncomputable def o37_9 : Obj := ⟨.none, none, .fields ⟨[]⟩, ⟨[]⟩⟩
noncomputable def o38_9 : Obj := ⟨.type "tuple", none, .seq ⟨[.str ⟨⟨[100, 105, 103, 105, 116, 115]⟩⟩ 236, .str ⟨⟨[110]⟩⟩ 237]⟩ 0, ⟨[]⟩⟩
noncomputable def o39_9 : Obj := ⟨.type "tuple", none, .seq ⟨[.str ⟨⟨[100, 105, 103, 105, 116, 115]⟩⟩ 238, .str ⟨⟨[110]⟩⟩ 239, .str ⟨⟨[105, 110, 110, 101, 114]⟩⟩ 240]⟩ 0, ⟨[]⟩⟩
noncomputable def o40_9 : Obj := ⟨.none, none, .func { name := ⟨⟨[95, 100, 105, 103, 105, 116, 115, 50, 105, 110, 116]⟩⟩, qualname := ⟨⟨[95, 100, 105, 103, 105, 116, 115, 50, 105, 110, 116]⟩⟩, params := fdA (stAt 5), body := .stmts (fdB (stAt 5)), scope := fdS (stAt 5), globals := 0, closure := [], defaults := .none, kwdefaults := .none, doc := .none, pyModule := .none, annotations := none, code := .none, closureTuple := .none, builtins := 0 }, ⟨[]⟩⟩
noncomputable def o41_9 : Obj := ⟨.type "code", none, .fields ⟨[.str ⟨⟨[95, 100, 105, 103, 105, 116, 115, 50, 105, 110, 116]⟩⟩ 233, .str ⟨⟨[95, 100, 105, 103, 105, 116, 115, 50, 105, 110, 116]⟩⟩ 234, .str ⟨⟨[47, 99, 108, 97, 105, 109, 47, 99, 117, 116, 46, 112, 121]⟩⟩ 235, .int 45 0, .int 2 0, .int 0 0, .int 0 0, .int 3 0, .ref 36, .bool true, .int 181 0, .ref 37, .none, .ref 38, .ref 39, .ref 40, .int 241 0, .int 45 0, .str ⟨⟨[47, 99, 108, 97, 105, 109, 47, 99, 117, 116, 46, 112, 121]⟩⟩ 242]⟩, ⟨[]⟩⟩
noncomputable def o42_9 : Obj := ⟨.type "function", none, .func { name := ⟨⟨[95, 100, 105, 103, 105, 116, 115, 50, 105, 110, 116]⟩⟩, qualname := ⟨⟨[95, 100, 105, 103, 105, 116, 115, 50, 105, 110, 116]⟩⟩, params := fdA (stAt 5), body := .stmts (fdB (stAt 5)), scope := fdS (stAt 5), globals := 3, closure := [], defaults := .none, kwdefaults := .none, doc := .none, pyModule := .str ⟨⟨[99, 112, 121, 51, 49, 51, 46, 95, 112, 121, 108, 111, 110, 103]⟩⟩ 187, annotations := none, code := .ref 41, closureTuple := .none, builtins := 0 }, ⟨[]⟩⟩
noncomputable def o43_9 : Obj := ⟨.type "tuple", none, .seq ⟨[]⟩ 0, ⟨[]⟩⟩
noncomputable def o44_9 : Obj := ⟨.none, none, .fields ⟨[]⟩, ⟨[]⟩⟩
noncomputable def o45_9 : Obj := ⟨.type "tuple", none, .seq ⟨[.str ⟨⟨[97]⟩⟩ 247, .str ⟨⟨[98]⟩⟩ 248, .str ⟨⟨[110]⟩⟩ 249, .str ⟨⟨[97, 95, 100, 105, 103, 105, 116, 115]⟩⟩ 250, .str ⟨⟨[114]⟩⟩ 251, .str ⟨⟨[113, 95, 100, 105, 103, 105, 116, 115]⟩⟩ 252, .str ⟨⟨[97, 95, 100, 105, 103, 105, 116]⟩⟩ 253, .str ⟨⟨[113, 95, 100, 105, 103, 105, 116]⟩⟩ 254, .str ⟨⟨[113]⟩⟩ 255]⟩ 0, ⟨[]⟩⟩
noncomputable def o46_9 : Obj := ⟨.type "tuple", none, .seq ⟨[]⟩ 0, ⟨[]⟩⟩
noncomputable def o47_9 : Obj := ⟨.none, none, .func { name := ⟨⟨[95, 100, 105, 118, 109, 111, 100, 95, 112, 111, 115]⟩⟩, qualname := ⟨⟨[95, 100, 105, 118, 109, 111, 100, 95, 112, 111, 115]⟩⟩, params := fdA (stAt 6), body := .stmts (fdB (stAt 6)), scope := fdS (stAt 6), globals := 0, closure := [], defaults := .none, kwdefaults := .none, doc := .none, pyModule := .none, annotations := none, code := .none, closureTuple := .none, builtins := 0 }, ⟨[]⟩⟩
noncomputable def o48_9 : Obj := ⟨.type "code", none, .fields ⟨[.str ⟨⟨[95, 100, 105, 118, 109, 111, 100, 95, 112, 111, 115]⟩⟩ 244, .str ⟨⟨[95, 100, 105, 118, 109, 111, 100, 95, 112, 111, 115]⟩⟩ 245, .str ⟨⟨[47, 99, 108, 97, 105, 109, 47, 99, 117, 116, 46, 112, 121]⟩⟩ 246, .int 54 0, .int 2 0, .int 0 0, .int 0 0, .int 3 0, .ref 43, .bool true, .int 181 0, .ref 44, .none, .ref 45, .ref 46, .ref 47, .int 256 0, .int 54 0, .str ⟨⟨[47, 99, 108, 97, 105, 109, 47, 99, 117, 116, 46, 112, 121]⟩⟩ 257]⟩, ⟨[]⟩⟩
noncomputable def o49_9 : Obj := ⟨.type "function", none, .func { name := ⟨⟨[95, 100, 105, 118, 109, 111, 100, 95, 112, 111, 115]⟩⟩, qualname := ⟨⟨[95, 100, 105, 118, 109, 111, 100, 95, 112, 111, 115]⟩⟩, params := fdA (stAt 6), body := .stmts (fdB (stAt 6)), scope := fdS (stAt 6), globals := 3, closure := [], defaults := .none, kwdefaults := .none, doc := .none, pyModule := .str ⟨⟨[99, 112, 121, 51, 49, 51, 46, 95, 112, 121, 108, 111, 110, 103]⟩⟩ 187, annotations := none, code := .ref 48, closureTuple := .none, builtins := 0 }, ⟨[]⟩⟩
noncomputable def o50_9 : Obj := ⟨.type "tuple", none, .seq ⟨[]⟩ 0, ⟨[]⟩⟩
noncomputable def o51_9 : Obj := ⟨.none, none, .fields ⟨[]⟩, ⟨[]⟩⟩
noncomputable def o52_9 : Obj := ⟨.type "tuple", none, .seq ⟨[.str ⟨⟨[97]⟩⟩ 262, .str ⟨⟨[98]⟩⟩ 263, .str ⟨⟨[113]⟩⟩ 264, .str ⟨⟨[114]⟩⟩ 265]⟩ 0, ⟨[]⟩⟩
noncomputable def o53_9 : Obj := ⟨.type "tuple", none, .seq ⟨[]⟩ 0, ⟨[]⟩⟩
noncomputable def o54_9 : Obj := ⟨.none, none, .func { name := ⟨⟨[105, 110, 116, 95, 100, 105, 118, 109, 111, 100]⟩⟩, qualname := ⟨⟨[105, 110, 116, 95, 100, 105, 118, 109, 111, 100]⟩⟩, params := fdA (stAt 7), body := .stmts (fdB (stAt 7)), scope := fdS (stAt 7), globals := 0, closure := [], defaults := .none, kwdefaults := .none, doc := .none, pyModule := .none, annotations := none, code := .none, closureTuple := .none, builtins := 0 }, ⟨[]⟩⟩
noncomputable def o55_9 : Obj := ⟨.type "code", none, .fields ⟨[.str ⟨⟨[105, 110, 116, 95, 100, 105, 118, 109, 111, 100]⟩⟩ 259, .str ⟨⟨[105, 110, 116, 95, 100, 105, 118, 109, 111, 100]⟩⟩ 260, .str ⟨⟨[47, 99, 108, 97, 105, 109, 47, 99, 117, 116, 46, 112, 121]⟩⟩ 261, .int 65 0, .int 2 0, .int 0 0, .int 0 0, .int 3 0, .ref 50, .bool true, .int 181 0, .ref 51, .none, .ref 52, .ref 53, .ref 54, .int 266 0, .int 65 0, .str ⟨⟨[47, 99, 108, 97, 105, 109, 47, 99, 117, 116, 46, 112, 121]⟩⟩ 267]⟩, ⟨[]⟩⟩
noncomputable def o56_9 : Obj := ⟨.type "function", none, .func { name := ⟨⟨[105, 110, 116, 95, 100, 105, 118, 109, 111, 100]⟩⟩, qualname := ⟨⟨[105, 110, 116, 95, 100, 105, 118, 109, 111, 100]⟩⟩, params := fdA (stAt 7), body := .stmts (fdB (stAt 7)), scope := fdS (stAt 7), globals := 3, closure := [], defaults := .none, kwdefaults := .none, doc := .none, pyModule := .str ⟨⟨[99, 112, 121, 51, 49, 51, 46, 95, 112, 121, 108, 111, 110, 103]⟩⟩ 187, annotations := none, code := .ref 55, closureTuple := .none, builtins := 0 }, ⟨[]⟩⟩
noncomputable def l_9 (P : Params) : List Obj := [boot_o_0 P, boot_o_1 P, boot_o_2 P, o3_9 P, boot_o_4 P, boot_o_5 P, boot_o_6 P, boot_o_7 P, boot_o_8 P, boot_o_9 P, boot_o_10 P, o11_a, o12_9, o13_a, o14_a, o15_9, o16_9, o17_9, o18_9, o19_9, o20_9, o21_9, o22_9, o23_9, o24_9, o25_9, o26_9, o27_9, o28_9, o29_9, o30_9, o31_9, o32_9, o33_9, o34_9, o35_9, o36_9, o37_9, o38_9, o39_9, o40_9, o41_9, o42_9, o43_9, o44_9, o45_9, o46_9, o47_9, o48_9, o49_9, o50_9, o51_9, o52_9, o53_9, o54_9, o55_9, o56_9]
noncomputable def o3_10 (P : Params) : Obj := ⟨.type "dict", none, .dict ⟨[en P [95, 95, 110, 97, 109, 101, 95, 95] 165 (.str ⟨⟨[99, 112, 121, 51, 49, 51, 46, 115, 116, 114, 105, 110, 103, 112, 114, 101, 112]⟩⟩ 269), en P [95, 95, 100, 111, 99, 95, 95] 166 (.none), en P [95, 95, 112, 97, 99, 107, 97, 103, 101, 95, 95] 167 (.none), en P [95, 95, 108, 111, 97, 100, 101, 114, 95, 95] 168 (.builtin "__main__.__loader__#opaque"), en P [95, 95, 115, 112, 101, 99, 95, 95] 169 (.none), en P [95, 95, 97, 110, 110, 111, 116, 97, 116, 105, 111, 110, 115, 95, 95] 170 (.ref 6), en P [95, 95, 98, 117, 105, 108, 116, 105, 110, 115, 95, 95] 171 (.ref 4), en P [95, 95, 102, 105, 108, 101, 95, 95] 173 (.str ⟨⟨[47, 99, 108, 97, 105, 109, 47, 99, 117, 116, 46, 112, 121]⟩⟩ 172), en P [95, 95, 99, 97, 99, 104, 101, 100, 95, 95] 174 (.none), en P [95, 68, 73, 86, 95, 76, 73, 77, 73, 84] 190 (.int 4000 189), en P [95, 100, 105, 118, 50, 110, 49, 110] 207 (.ref 21), en P [95, 100, 105, 118, 51, 110, 50, 110] 221 (.ref 28), en P [95, 105, 110, 116, 50, 100, 105, 103, 105, 116, 115] 232 (.ref 35), en P [95, 100, 105, 103, 105, 116, 115, 50, 105, 110, 116] 243 (.ref 42), en P [95, 100, 105, 118, 109, 111, 100, 95, 112, 111, 115] 258 (.ref 49), en P [105, 110, 116, 95, 100, 105, 118, 109, 111, 100] 268 (.ref 56), en P [98, 49, 95, 115, 101, 116] 330 (.ref 64)]⟩ 17, ⟨[]⟩⟩
noncomputable def o57_10 : Obj := ⟨.type "list", none, .seq ⟨[.int 173 271, .int 847 272, .int 6150 273, .int 6155 274, .int 6156 275, .int 6157 276, .int 8203 277, .int 8204 278, .int 8205 279, .int 8288 280, .int 65279 281]⟩ 0, ⟨[]⟩⟩
noncomputable def o58_10 : Obj := ⟨.type "range", none, .fields ⟨[.int 65024 282, .int 65040 283, .int 1 284]⟩, ⟨[]⟩⟩
noncomputable def o59_10 : Obj := ⟨.type "list", none, .seq ⟨[.int 65024 287, .int 65025 288, .int 65026 289, .int 65027 290, .int 65028 291, .int 65029 292, .int 65030 293, .int 65031 294, .int 65032 295, .int 65033 296, .int 65034 297, .int 65035 298, .int 65036 299, .int 65037 300, .int 65038 301, .int 65039 302]⟩ 18, ⟨[]⟩⟩
noncomputable def o60_10 : Obj := ⟨.type "range_iterator", none, .fields ⟨[.int 65040 0, .int 0 0, .int 1 0]⟩, ⟨[]⟩⟩
noncomputable def o61_10 : Obj := ⟨.type "tuple", none, .seq ⟨[]⟩ 0, ⟨[]⟩⟩
noncomputable def o62_10 : Obj := ⟨.type "StopIteration", none, .fields ⟨[.ref 61, .none, .none, .none, .bool false, .none]⟩, ⟨[]⟩⟩
noncomputable def o63_10 : Obj := ⟨.type "list", none, .seq ⟨[.int 173 271, .int 847 272, .int 6150 273, .int 6155 274, .int 6156 275, .int 6157 276, .int 8203 277, .int 8204 278, .int 8205 279, .int 8288 280, .int 65279 281, .int 65024 287, .int 65025 288, .int 65026 289, .int 65027 290, .int 65028 291, .int 65029 292, .int 65030 293, .int 65031 294, .int 65032 295, .int 65033 296, .int 65034 297, .int 65035 298, .int 65036 299, .int 65037 300, .int 65038 301, .int 65039 302]⟩ 0, ⟨[]⟩⟩
noncomputable def o64_10 (P : Params) : Obj := ⟨.type "set", none, .set ⟨[(65024, .int 65024 287), (65025, .int 65025 288), (65026, .int 65026 289), (65027, .int 65027 290), (65028, .int 65028 291), (65029, .int 65029 292), (6150, .int 6150 273), (65030, .int 65030 293), (65031, .int 65031 294), (65032, .int 65032 295), (65033, .int 65033 296), (6155, .int 6155 274), (6156, .int 6156 275), (6157, .int 6157 276), (8203, .int 8203 277), (8204, .int 8204 278), (8205, .int 8205 279), (65034, .int 65034 297), (65035, .int 65035 298), (65036, .int 65036 299), (65037, .int 65037 300), (65038, .int 65038 301), (65039, .int 65039 302), (173, .int 173 271), (847, .int 847 272), (8288, .int 8288 280), (65279, .int 65279 281)]⟩ 29 { mask := 127, place := ⟨[0, 1, 2, 3, 4, 5, 6, 7, 8, 9, 10, 11, 12, 13, 14, 15, 16, 17, 18, 19, 20, 21, 22, 45, 79, 96, 127]⟩, dummies := ⟨[]⟩, finger := 0, led := !P.followText "set-order", moves := 2, plain := true }, ⟨[]⟩⟩
noncomputable def o65_10 : Obj := ⟨.type "list_iterator", none, .fields ⟨[.none, .int 27 0]⟩, ⟨[]⟩⟩
noncomputable def o66_10 : Obj := ⟨.type "tuple", none, .seq ⟨[]⟩ 0, ⟨[]⟩⟩
noncomputable def o67_10 : Obj := ⟨.type "StopIteration", none, .fields ⟨[.ref 66, .none, .none, .none, .bool false, .none]⟩, ⟨[]⟩⟩
noncomputable def l_10 (P : Params) : List Obj := [boot_o_0 P, boot_o_1 P, boot_o_2 P, o3_10 P, boot_o_4 P, boot_o_5 P, boot_o_6 P, boot_o_7 P, boot_o_8 P, boot_o_9 P, boot_o_10 P, o11_a, o12_9, o13_a, o14_a, o15_9, o16_9, o17_9, o18_9, o19_9, o20_9, o21_9, o22_9, o23_9, o24_9, o25_9, o26_9, o27_9, o28_9, o29_9, o30_9, o31_9, o32_9, o33_9, o34_9, o35_9, o36_9, o37_9, o38_9, o39_9, o40_9, o41_9, o42_9, o43_9, o44_9, o45_9, o46_9, o47_9, o48_9, o49_9, o50_9, o51_9, o52_9, o53_9, o54_9, o55_9, o56_9, o57_10, o58_10, o59_10, o60_10, o61_10, o62_10, o63_10, o64_10 P, o65_10, o66_10, o67_10]
noncomputable def o3_11 (P : Params) : Obj := ⟨.type "dict", none, .dict ⟨[en P [95, 95, 110, 97, 109, 101, 95, 95] 165 (.str ⟨⟨[99, 112, 121, 51, 49, 51, 46, 115, 116, 114, 105, 110, 103, 112, 114, 101, 112]⟩⟩ 269), en P [95, 95, 100, 111, 99, 95, 95] 166 (.none), en P [95, 95, 112, 97, 99, 107, 97, 103, 101, 95, 95] 167 (.none), en P [95, 95, 108, 111, 97, 100, 101, 114, 95, 95] 168 (.builtin "__main__.__loader__#opaque"), en P [95, 95, 115, 112, 101, 99, 95, 95] 169 (.none), en P [95, 95, 97, 110, 110, 111, 116, 97, 116, 105, 111, 110, 115, 95, 95] 170 (.ref 6), en P [95, 95, 98, 117, 105, 108, 116, 105, 110, 115, 95, 95] 171 (.ref 4), en P [95, 95, 102, 105, 108, 101, 95, 95] 173 (.str ⟨⟨[47, 99, 108, 97, 105, 109, 47, 99, 117, 116, 46, 112, 121]⟩⟩ 172), en P [95, 95, 99, 97, 99, 104, 101, 100, 95, 95] 174 (.none), en P [95, 68, 73, 86, 95, 76, 73, 77, 73, 84] 190 (.int 4000 189), en P [95, 100, 105, 118, 50, 110, 49, 110] 207 (.ref 21), en P [95, 100, 105, 118, 51, 110, 50, 110] 221 (.ref 28), en P [95, 105, 110, 116, 50, 100, 105, 103, 105, 116, 115] 232 (.ref 35), en P [95, 100, 105, 103, 105, 116, 115, 50, 105, 110, 116] 243 (.ref 42), en P [95, 100, 105, 118, 109, 111, 100, 95, 112, 111, 115] 258 (.ref 49), en P [105, 110, 116, 95, 100, 105, 118, 109, 111, 100] 268 (.ref 56), en P [98, 49, 95, 115, 101, 116] 330 (.ref 64), en P [105, 110, 95, 116, 97, 98, 108, 101, 95, 98, 49] 337 (.ref 74)]⟩ 18, ⟨[]⟩⟩
noncomputable def o12_11 : Obj := ⟨.none, none, .fields ⟨[.int 3 0, .int 0 0, .ref 20, .int 19 0, .int 0 0, .ref 27, .int 29 0, .int 0 0, .ref 34, .int 45 0, .int 0 0, .ref 41, .int 54 0, .int 0 0, .ref 48, .int 65 0, .int 0 0, .ref 55, .int 78 0, .int 0 0, .ref 73]⟩, ⟨[]⟩⟩
noncomputable def o68_11 : Obj := ⟨.type "tuple", none, .seq ⟨[]⟩ 0, ⟨[]⟩⟩
noncomputable def o69_11 : Obj := ⟨.none, none, .fields ⟨[]⟩, ⟨[]⟩⟩
noncomputable def o70_11 : Obj := ⟨.type "tuple", none, .seq ⟨[.str ⟨⟨[99, 111, 100, 101]⟩⟩ 334]⟩ 0, ⟨[]⟩⟩
noncomputable def o71_11 : Obj := ⟨.type "tuple", none, .seq ⟨[]⟩ 0, ⟨[]⟩⟩
noncomputable def o72_11 : Obj := ⟨.none, none, .func { name := ⟨⟨[105, 110, 95, 116, 97, 98, 108, 101, 95, 98, 49]⟩⟩, qualname := ⟨⟨[105, 110, 95, 116, 97, 98, 108, 101, 95, 98, 49]⟩⟩, params := fdA (stAt 10), body := .stmts (fdB (stAt 10)), scope := fdS (stAt 10), globals := 0, closure := [], defaults := .none, kwdefaults := .none, doc := .none, pyModule := .none, annotations := none, code := .none, closureTuple := .none, builtins := 0 }, ⟨[]⟩⟩
noncomputable def o73_11 : Obj := ⟨.type "code", none, .fields ⟨[.str ⟨⟨[105, 110, 95, 116, 97, 98, 108, 101, 95, 98, 49]⟩⟩ 331, .str ⟨⟨[105, 110, 95, 116, 97, 98, 108, 101, 95, 98, 49]⟩⟩ 332, .str ⟨⟨[47, 99, 108, 97, 105, 109, 47, 99, 117, 116, 46, 112, 121]⟩⟩ 333, .int 78 0, .int 1 0, .int 0 0, .int 0 0, .int 3 0, .ref 68, .bool true, .int 181 0, .ref 69, .none, .ref 70, .ref 71, .ref 72, .int 335 0, .int 78 0, .str ⟨⟨[47, 99, 108, 97, 105, 109, 47, 99, 117, 116, 46, 112, 121]⟩⟩ 336]⟩, ⟨[]⟩⟩
noncomputable def o74_11 : Obj := ⟨.type "function", none, .func { name := ⟨⟨[105, 110, 95, 116, 97, 98, 108, 101, 95, 98, 49]⟩⟩, qualname := ⟨⟨[105, 110, 95, 116, 97, 98, 108, 101, 95, 98, 49]⟩⟩, params := fdA (stAt 10), body := .stmts (fdB (stAt 10)), scope := fdS (stAt 10), globals := 3, closure := [], defaults := .none, kwdefaults := .none, doc := .none, pyModule := .str ⟨⟨[99, 112, 121, 51, 49, 51, 46, 115, 116, 114, 105, 110, 103, 112, 114, 101, 112]⟩⟩ 269, annotations := none, code := .ref 73, closureTuple := .none, builtins := 0 }, ⟨[]⟩⟩
noncomputable def l_11 (P : Params) : List Obj := [boot_o_0 P, boot_o_1 P, boot_o_2 P, o3_11 P, boot_o_4 P, boot_o_5 P, boot_o_6 P, boot_o_7 P, boot_o_8 P, boot_o_9 P, boot_o_10 P, o11_a, o12_11, o13_a, o14_a, o15_9, o16_9, o17_9, o18_9, o19_9, o20_9, o21_9, o22_9, o23_9, o24_9, o25_9, o26_9, o27_9, o28_9, o29_9, o30_9, o31_9, o32_9, o33_9, o34_9, o35_9, o36_9, o37_9, o38_9, o39_9, o40_9, o41_9, o42_9, o43_9, o44_9, o45_9, o46_9, o47_9, o48_9, o49_9, o50_9, o51_9, o52_9, o53_9, o54_9, o55_9, o56_9, o57_10, o58_10, o59_10, o60_10, o61_10, o62_10, o63_10, o64_10 P, o65_10, o66_10, o67_10, o68_11, o69_11, o70_11, o71_11, o72_11, o73_11, o74_11]
noncomputable def o3_12 (P : Params) : Obj := ⟨.type "dict", none, .dict ⟨[en P [95, 95, 110, 97, 109, 101, 95, 95] 165 (.str ⟨⟨[99, 112, 121, 51, 49, 51, 46, 115, 116, 114, 105, 110, 103, 112, 114, 101, 112]⟩⟩ 269), en P [95, 95, 100, 111, 99, 95, 95] 166 (.none), en P [95, 95, 112, 97, 99, 107, 97, 103, 101, 95, 95] 167 (.none), en P [95, 95, 108, 111, 97, 100, 101, 114, 95, 95] 168 (.builtin "__main__.__loader__#opaque"), en P [95, 95, 115, 112, 101, 99, 95, 95] 169 (.none), en P [95, 95, 97, 110, 110, 111, 116, 97, 116, 105, 111, 110, 115, 95, 95] 170 (.ref 6), en P [95, 95, 98, 117, 105, 108, 116, 105, 110, 115, 95, 95] 171 (.ref 4), en P [95, 95, 102, 105, 108, 101, 95, 95] 173 (.str ⟨⟨[47, 99, 108, 97, 105, 109, 47, 99, 117, 116, 46, 112, 121]⟩⟩ 172), en P [95, 95, 99, 97, 99, 104, 101, 100, 95, 95] 174 (.none), en P [95, 68, 73, 86, 95, 76, 73, 77, 73, 84] 190 (.int 4000 189), en P [95, 100, 105, 118, 50, 110, 49, 110] 207 (.ref 21), en P [95, 100, 105, 118, 51, 110, 50, 110] 221 (.ref 28), en P [95, 105, 110, 116, 50, 100, 105, 103, 105, 116, 115] 232 (.ref 35), en P [95, 100, 105, 103, 105, 116, 115, 50, 105, 110, 116] 243 (.ref 42), en P [95, 100, 105, 118, 109, 111, 100, 95, 112, 111, 115] 258 (.ref 49), en P [105, 110, 116, 95, 100, 105, 118, 109, 111, 100] 268 (.ref 56), en P [98, 49, 95, 115, 101, 116] 330 (.ref 64), en P [105, 110, 95, 116, 97, 98, 108, 101, 95, 98, 49] 337 (.ref 74), en P [98, 51, 95, 101, 120, 99, 101, 112, 116, 105, 111, 110, 115] 2288 (.ref 75)]⟩ 19, ⟨[]⟩⟩
noncomputable def l_12x (P : Params) : List Obj := [boot_o_0 P, boot_o_1 P, boot_o_2 P, o3_11 P, boot_o_4 P, boot_o_5 P, boot_o_6 P, boot_o_7 P, boot_o_8 P, boot_o_9 P, boot_o_10 P, o11_a, o12_11, o13_a, o14_a, o15_9, o16_9, o17_9, o18_9, o19_9, o20_9, o21_9, o22_9, o23_9, o24_9, o25_9, o26_9, o27_9, o28_9, o29_9, o30_9, o31_9, o32_9, o33_9, o34_9, o35_9, o36_9, o37_9, o38_9, o39_9, o40_9, o41_9, o42_9, o43_9, o44_9, o45_9, o46_9, o47_9, o48_9, o49_9, o50_9, o51_9, o52_9, o53_9, o54_9, o55_9, o56_9, o57_10, o58_10, o59_10, o60_10, o61_10, o62_10, o63_10, o64_10 P, o65_10, o66_10, o67_10, o68_11, o69_11, o70_11, o71_11, o72_11, o73_11, o74_11, obD, obS 1, obS 2, obS 3, obS 4, obS 5, obS 6, obS 7, obS 8, obS 9, obS 10, obS 11, obS 12, obS 13, obS 14, obS 15, obS 16, obS 17, obS 18, obS 19, obS 20, obS 21, obS 22, obS 23, obS 24, obS 25, obS 26, obS 27, obS 28, obS 29, obS 30, obS 31, obS 32, obS 33, obS 34, obS 35, obS 36, obS 37, obS 38]
noncomputable def l_12 (P : Params) : List Obj := [boot_o_0 P, boot_o_1 P, boot_o_2 P, o3_12 P, boot_o_4 P, boot_o_5 P, boot_o_6 P, boot_o_7 P, boot_o_8 P, boot_o_9 P, boot_o_10 P, o11_a, o12_11, o13_a, o14_a, o15_9, o16_9, o17_9, o18_9, o19_9, o20_9, o21_9, o22_9, o23_9, o24_9, o25_9, o26_9, o27_9, o28_9, o29_9, o30_9, o31_9, o32_9, o33_9, o34_9, o35_9, o36_9, o37_9, o38_9, o39_9, o40_9, o41_9, o42_9, o43_9, o44_9, o45_9, o46_9, o47_9, o48_9, o49_9, o50_9, o51_9, o52_9, o53_9, o54_9, o55_9, o56_9, o57_10, o58_10, o59_10, o60_10, o61_10, o62_10, o63_10, o64_10 P, o65_10, o66_10, o67_10, o68_11, o69_11, o70_11, o71_11, o72_11, o73_11, o74_11, obD, obS 1, obS 2, obS 3, obS 4, obS 5, obS 6, obS 7, obS 8, obS 9, obS 10, obS 11, obS 12, obS 13, obS 14, obS 15, obS 16, obS 17, obS 18, obS 19, obS 20, obS 21, obS 22, obS 23, obS 24, obS 25, obS 26, obS 27, obS 28, obS 29, obS 30, obS 31, obS 32, obS 33, obS 34, obS 35, obS 36, obS 37, obS 38]
noncomputable def o3_24 (P : Params) : Obj := ⟨.type "dict", none, .dict ⟨[en P [95, 95, 110, 97, 109, 101, 95, 95] 165 (.str ⟨⟨[108, 97, 119, 95, 112, 101, 48, 50, 53, 53, 95, 48, 50]⟩⟩ 2297), en P [95, 95, 100, 111, 99, 95, 95] 166 (.none), en P [95, 95, 112, 97, 99, 107, 97, 103, 101, 95, 95] 167 (.none), en P [95, 95, 108, 111, 97, 100, 101, 114, 95, 95] 168 (.builtin "__main__.__loader__#opaque"), en P [95, 95, 115, 112, 101, 99, 95, 95] 169 (.none), en P [95, 95, 97, 110, 110, 111, 116, 97, 116, 105, 111, 110, 115, 95, 95] 170 (.ref 6), en P [95, 95, 98, 117, 105, 108, 116, 105, 110, 115, 95, 95] 171 (.ref 4), en P [95, 95, 102, 105, 108, 101, 95, 95] 173 (.str ⟨⟨[47, 99, 108, 97, 105, 109, 47, 99, 117, 116, 46, 112, 121]⟩⟩ 172), en P [95, 95, 99, 97, 99, 104, 101, 100, 95, 95] 174 (.none), en P [95, 68, 73, 86, 95, 76, 73, 77, 73, 84] 190 (.int 4000 189), en P [95, 100, 105, 118, 50, 110, 49, 110] 207 (.ref 21), en P [95, 100, 105, 118, 51, 110, 50, 110] 221 (.ref 28), en P [95, 105, 110, 116, 50, 100, 105, 103, 105, 116, 115] 232 (.ref 35), en P [95, 100, 105, 103, 105, 116, 115, 50, 105, 110, 116] 243 (.ref 42), en P [95, 100, 105, 118, 109, 111, 100, 95, 112, 111, 115] 258 (.ref 49), en P [105, 110, 116, 95, 100, 105, 118, 109, 111, 100] 268 (.ref 56), en P [98, 49, 95, 115, 101, 116] 330 (.ref 64), en P [105, 110, 95, 116, 97, 98, 108, 101, 95, 98, 49] 337 (.ref 74), en P [98, 51, 95, 101, 120, 99, 101, 112, 116, 105, 111, 110, 115] 2288 (.ref 75), en P [109, 97, 112, 95, 116, 97, 98, 108, 101, 95, 98, 51] 2296 (.ref 120), en P [95, 108, 97, 119, 95, 112, 114, 101, 112, 97, 114, 101, 100] 2304 (.ref 125), en P [95, 108, 97, 119, 95, 102, 111, 114, 109] 2314 (.ref 132), en P [95, 108, 97, 119, 95, 117, 110, 115, 101, 101, 110] 2322 (.ref 139), en P [95, 108, 97, 119, 95, 109, 101, 97, 110, 116] 2328 (.ref 144), en P [95, 108, 97, 119, 95, 119, 114, 105, 116, 116, 101, 110] 2342 (.ref 151), en P [95, 108, 97, 119, 95, 101, 97, 99, 104] 2348 (.ref 156), en P [95, 108, 97, 119, 95, 100, 105, 103, 105, 116, 115] 2354 (.ref 161), en P [95, 108, 97, 119, 95, 97, 116] 2367 (.ref 168), en P [95, 108, 97, 119, 95, 99, 117, 116] 2375 (.ref 175), en P [108, 97, 119] 2381 (.ref 180)]⟩ 30, ⟨[]⟩⟩
noncomputable def o12_24 : Obj := ⟨.none, none, .fields ⟨[.int 3 0, .int 0 0, .ref 20, .int 19 0, .int 0 0, .ref 27, .int 29 0, .int 0 0, .ref 34, .int 45 0, .int 0 0, .ref 41, .int 54 0, .int 0 0, .ref 48, .int 65 0, .int 0 0, .ref 55, .int 78 0, .int 0 0, .ref 73, .int 81 0, .int 0 0, .ref 119, .int 87 0, .int 0 0, .ref 124, .int 89 0, .int 0 0, .ref 131, .int 99 0, .int 0 0, .ref 138, .int 106 0, .int 0 0, .ref 143, .int 108 0, .int 0 0, .ref 150, .int 123 0, .int 0 0, .ref 155, .int 125 0, .int 0 0, .ref 160, .int 127 0, .int 0 0, .ref 167, .int 133 0, .int 0 0, .ref 174, .int 138 0, .int 0 0, .ref 179]⟩, ⟨[]⟩⟩
noncomputable def o114_24 : Obj := ⟨.type "tuple", none, .seq ⟨[]⟩ 0, ⟨[]⟩⟩
noncomputable def o115_24 : Obj := ⟨.none, none, .fields ⟨[]⟩, ⟨[]⟩⟩
noncomputable def o116_24 : Obj := ⟨.type "tuple", none, .seq ⟨[.str ⟨⟨[99, 111, 100, 101]⟩⟩ 2292, .str ⟨⟨[114]⟩⟩ 2293]⟩ 0, ⟨[]⟩⟩
noncomputable def o117_24 : Obj := ⟨.type "tuple", none, .seq ⟨[]⟩ 0, ⟨[]⟩⟩
noncomputable def o118_24 : Obj := ⟨.none, none, .func { name := ⟨⟨[109, 97, 112, 95, 116, 97, 98, 108, 101, 95, 98, 51]⟩⟩, qualname := ⟨⟨[109, 97, 112, 95, 116, 97, 98, 108, 101, 95, 98, 51]⟩⟩, params := fdA (stAt 12), body := .stmts (fdB (stAt 12)), scope := fdS (stAt 12), globals := 0, closure := [], defaults := .none, kwdefaults := .none, doc := .none, pyModule := .none, annotations := none, code := .none, closureTuple := .none, builtins := 0 }, ⟨[]⟩⟩
noncomputable def o119_24 : Obj := ⟨.type "code", none, .fields ⟨[.str ⟨⟨[109, 97, 112, 95, 116, 97, 98, 108, 101, 95, 98, 51]⟩⟩ 2289, .str ⟨⟨[109, 97, 112, 95, 116, 97, 98, 108, 101, 95, 98, 51]⟩⟩ 2290, .str ⟨⟨[47, 99, 108, 97, 105, 109, 47, 99, 117, 116, 46, 112, 121]⟩⟩ 2291, .int 81 0, .int 1 0, .int 0 0, .int 0 0, .int 3 0, .ref 114, .bool true, .int 181 0, .ref 115, .none, .ref 116, .ref 117, .ref 118, .int 2294 0, .int 81 0, .str ⟨⟨[47, 99, 108, 97, 105, 109, 47, 99, 117, 116, 46, 112, 121]⟩⟩ 2295]⟩, ⟨[]⟩⟩
noncomputable def o120_24 : Obj := ⟨.type "function", none, .func { name := ⟨⟨[109, 97, 112, 95, 116, 97, 98, 108, 101, 95, 98, 51]⟩⟩, qualname := ⟨⟨[109, 97, 112, 95, 116, 97, 98, 108, 101, 95, 98, 51]⟩⟩, params := fdA (stAt 12), body := .stmts (fdB (stAt 12)), scope := fdS (stAt 12), globals := 3, closure := [], defaults := .none, kwdefaults := .none, doc := .none, pyModule := .str ⟨⟨[99, 112, 121, 51, 49, 51, 46, 115, 116, 114, 105, 110, 103, 112, 114, 101, 112]⟩⟩ 269, annotations := none, code := .ref 119, closureTuple := .none, builtins := 0 }, ⟨[]⟩⟩
noncomputable def o121_24 : Obj := ⟨.type "tuple", none, .seq ⟨[]⟩ 0, ⟨[]⟩⟩
noncomputable def o122_24 : Obj := ⟨.none, none, .fields ⟨[]⟩, ⟨[]⟩⟩
noncomputable def o123_24 : Obj := ⟨.none, none, .func { name := ⟨⟨[95, 108, 97, 119, 95, 112, 114, 101, 112, 97, 114, 101, 100]⟩⟩, qualname := ⟨⟨[95, 108, 97, 119, 95, 112, 114, 101, 112, 97, 114, 101, 100]⟩⟩, params := fdA (stAt 14), body := .stmts (fdB (stAt 14)), scope := fdS (stAt 14), globals := 0, closure := [], defaults := .none, kwdefaults := .none, doc := .none, pyModule := .none, annotations := none, code := .none, closureTuple := .none, builtins := 0 }, ⟨[]⟩⟩
noncomputable def o124_24 : Obj := ⟨.type "code", none, .fields ⟨[.str ⟨⟨[95, 108, 97, 119, 95, 112, 114, 101, 112, 97, 114, 101, 100]⟩⟩ 2299, .str ⟨⟨[95, 108, 97, 119, 95, 112, 114, 101, 112, 97, 114, 101, 100]⟩⟩ 2300, .str ⟨⟨[47, 99, 108, 97, 105, 109, 47, 99, 117, 116, 46, 112, 121]⟩⟩ 2301, .int 87 0, .int 1 0, .int 0 0, .int 0 0, .int 3 0, .ref 121, .bool true, .int 181 0, .ref 122, .none, .none, .none, .ref 123, .int 2302 0, .int 87 0, .str ⟨⟨[47, 99, 108, 97, 105, 109, 47, 99, 117, 116, 46, 112, 121]⟩⟩ 2303]⟩, ⟨[]⟩⟩
noncomputable def o125_24 : Obj := ⟨.type "function", none, .func { name := ⟨⟨[95, 108, 97, 119, 95, 112, 114, 101, 112, 97, 114, 101, 100]⟩⟩, qualname := ⟨⟨[95, 108, 97, 119, 95, 112, 114, 101, 112, 97, 114, 101, 100]⟩⟩, params := fdA (stAt 14), body := .stmts (fdB (stAt 14)), scope := fdS (stAt 14), globals := 3, closure := [], defaults := .none, kwdefaults := .none, doc := .none, pyModule := .str ⟨⟨[108, 97, 119, 95, 112, 101, 48, 50, 53, 53, 95, 48, 50]⟩⟩ 2297, annotations := none, code := .ref 124, closureTuple := .none, builtins := 0 }, ⟨[]⟩⟩
noncomputable def o126_24 : Obj := ⟨.type "tuple", none, .seq ⟨[]⟩ 0, ⟨[]⟩⟩
noncomputable def o127_24 : Obj := ⟨.none, none, .fields ⟨[]⟩, ⟨[]⟩⟩
noncomputable def o128_24 : Obj := ⟨.type "tuple", none, .seq ⟨[.str ⟨⟨[108, 101, 116, 116, 101, 114]⟩⟩ 2308, .str ⟨⟨[110]⟩⟩ 2309, .str ⟨⟨[107, 105, 110, 100]⟩⟩ 2310, .str ⟨⟨[97, 108, 112, 104, 97, 98, 101, 116]⟩⟩ 2311]⟩ 0, ⟨[]⟩⟩
noncomputable def o129_24 : Obj := ⟨.type "tuple", none, .seq ⟨[]⟩ 0, ⟨[]⟩⟩
noncomputable def o130_24 : Obj := ⟨.none, none, .func { name := ⟨⟨[95, 108, 97, 119, 95, 102, 111, 114, 109]⟩⟩, qualname := ⟨⟨[95, 108, 97, 119, 95, 102, 111, 114, 109]⟩⟩, params := fdA (stAt 15), body := .stmts (fdB (stAt 15)), scope := fdS (stAt 15), globals := 0, closure := [], defaults := .none, kwdefaults := .none, doc := .none, pyModule := .none, annotations := none, code := .none, closureTuple := .none, builtins := 0 }, ⟨[]⟩⟩
noncomputable def o131_24 : Obj := ⟨.type "code", none, .fields ⟨[.str ⟨⟨[95, 108, 97, 119, 95, 102, 111, 114, 109]⟩⟩ 2305, .str ⟨⟨[95, 108, 97, 119, 95, 102, 111, 114, 109]⟩⟩ 2306, .str ⟨⟨[47, 99, 108, 97, 105, 109, 47, 99, 117, 116, 46, 112, 121]⟩⟩ 2307, .int 89 0, .int 2 0, .int 0 0, .int 0 0, .int 3 0, .ref 126, .bool true, .int 181 0, .ref 127, .none, .ref 128, .ref 129, .ref 130, .int 2312 0, .int 89 0, .str ⟨⟨[47, 99, 108, 97, 105, 109, 47, 99, 117, 116, 46, 112, 121]⟩⟩ 2313]⟩, ⟨[]⟩⟩
noncomputable def o132_24 : Obj := ⟨.type "function", none, .func { name := ⟨⟨[95, 108, 97, 119, 95, 102, 111, 114, 109]⟩⟩, qualname := ⟨⟨[95, 108, 97, 119, 95, 102, 111, 114, 109]⟩⟩, params := fdA (stAt 15), body := .stmts (fdB (stAt 15)), scope := fdS (stAt 15), globals := 3, closure := [], defaults := .none, kwdefaults := .none, doc := .none, pyModule := .str ⟨⟨[108, 97, 119, 95, 112, 101, 48, 50, 53, 53, 95, 48, 50]⟩⟩ 2297, annotations := none, code := .ref 131, closureTuple := .none, builtins := 0 }, ⟨[]⟩⟩
noncomputable def o133_24 : Obj := ⟨.type "tuple", none, .seq ⟨[]⟩ 0, ⟨[]⟩⟩
noncomputable def o134_24 : Obj := ⟨.none, none, .fields ⟨[]⟩, ⟨[]⟩⟩
noncomputable def o135_24 : Obj := ⟨.type "tuple", none, .seq ⟨[.str ⟨⟨[110]⟩⟩ 2318, .str ⟨⟨[107, 105, 110, 100]⟩⟩ 2319]⟩ 0, ⟨[]⟩⟩
noncomputable def o136_24 : Obj := ⟨.type "tuple", none, .seq ⟨[]⟩ 0, ⟨[]⟩⟩
noncomputable def o137_24 : Obj := ⟨.none, none, .func { name := ⟨⟨[95, 108, 97, 119, 95, 117, 110, 115, 101, 101, 110]⟩⟩, qualname := ⟨⟨[95, 108, 97, 119, 95, 117, 110, 115, 101, 101, 110]⟩⟩, params := fdA (stAt 16), body := .stmts (fdB (stAt 16)), scope := fdS (stAt 16), globals := 0, closure := [], defaults := .none, kwdefaults := .none, doc := .none, pyModule := .none, annotations := none, code := .none, closureTuple := .none, builtins := 0 }, ⟨[]⟩⟩
noncomputable def o138_24 : Obj := ⟨.type "code", none, .fields ⟨[.str ⟨⟨[95, 108, 97, 119, 95, 117, 110, 115, 101, 101, 110]⟩⟩ 2315, .str ⟨⟨[95, 108, 97, 119, 95, 117, 110, 115, 101, 101, 110]⟩⟩ 2316, .str ⟨⟨[47, 99, 108, 97, 105, 109, 47, 99, 117, 116, 46, 112, 121]⟩⟩ 2317, .int 99 0, .int 1 0, .int 0 0, .int 0 0, .int 3 0, .ref 133, .bool true, .int 181 0, .ref 134, .none, .ref 135, .ref 136, .ref 137, .int 2320 0, .int 99 0, .str ⟨⟨[47, 99, 108, 97, 105, 109, 47, 99, 117, 116, 46, 112, 121]⟩⟩ 2321]⟩, ⟨[]⟩⟩
noncomputable def o139_24 : Obj := ⟨.type "function", none, .func { name := ⟨⟨[95, 108, 97, 119, 95, 117, 110, 115, 101, 101, 110]⟩⟩, qualname := ⟨⟨[95, 108, 97, 119, 95, 117, 110, 115, 101, 101, 110]⟩⟩, params := fdA (stAt 16), body := .stmts (fdB (stAt 16)), scope := fdS (stAt 16), globals := 3, closure := [], defaults := .none, kwdefaults := .none, doc := .none, pyModule := .str ⟨⟨[108, 97, 119, 95, 112, 101, 48, 50, 53, 53, 95, 48, 50]⟩⟩ 2297, annotations := none, code := .ref 138, closureTuple := .none, builtins := 0 }, ⟨[]⟩⟩
noncomputable def o140_24 : Obj := ⟨.type "tuple", none, .seq ⟨[]⟩ 0, ⟨[]⟩⟩
noncomputable def o141_24 : Obj := ⟨.none, none, .fields ⟨[]⟩, ⟨[]⟩⟩
noncomputable def o142_24 : Obj := ⟨.none, none, .func { name := ⟨⟨[95, 108, 97, 119, 95, 109, 101, 97, 110, 116]⟩⟩, qualname := ⟨⟨[95, 108, 97, 119, 95, 109, 101, 97, 110, 116]⟩⟩, params := fdA (stAt 17), body := .stmts (fdB (stAt 17)), scope := fdS (stAt 17), globals := 0, closure := [], defaults := .none, kwdefaults := .none, doc := .none, pyModule := .none, annotations := none, code := .none, closureTuple := .none, builtins := 0 }, ⟨[]⟩⟩
noncomputable def o143_24 : Obj := ⟨.type "code", none, .fields ⟨[.str ⟨⟨[95, 108, 97, 119, 95, 109, 101, 97, 110, 116]⟩⟩ 2323, .str ⟨⟨[95, 108, 97, 119, 95, 109, 101, 97, 110, 116]⟩⟩ 2324, .str ⟨⟨[47, 99, 108, 97, 105, 109, 47, 99, 117, 116, 46, 112, 121]⟩⟩ 2325, .int 106 0, .int 2 0, .int 0 0, .int 0 0, .int 3 0, .ref 140, .bool true, .int 181 0, .ref 141, .none, .none, .none, .ref 142, .int 2326 0, .int 106 0, .str ⟨⟨[47, 99, 108, 97, 105, 109, 47, 99, 117, 116, 46, 112, 121]⟩⟩ 2327]⟩, ⟨[]⟩⟩
noncomputable def o144_24 : Obj := ⟨.type "function", none, .func { name := ⟨⟨[95, 108, 97, 119, 95, 109, 101, 97, 110, 116]⟩⟩, qualname := ⟨⟨[95, 108, 97, 119, 95, 109, 101, 97, 110, 116]⟩⟩, params := fdA (stAt 17), body := .stmts (fdB (stAt 17)), scope := fdS (stAt 17), globals := 3, closure := [], defaults := .none, kwdefaults := .none, doc := .none, pyModule := .str ⟨⟨[108, 97, 119, 95, 112, 101, 48, 50, 53, 53, 95, 48, 50]⟩⟩ 2297, annotations := none, code := .ref 143, closureTuple := .none, builtins := 0 }, ⟨[]⟩⟩
noncomputable def o145_24 : Obj := ⟨.type "tuple", none, .seq ⟨[]⟩ 0, ⟨[]⟩⟩
noncomputable def o146_24 : Obj := ⟨.none, none, .fields ⟨[]⟩, ⟨[]⟩⟩
noncomputable def o147_24 : Obj := ⟨.type "tuple", none, .seq ⟨[.str ⟨⟨[109, 101, 97, 110, 116]⟩⟩ 2332, .str ⟨⟨[110]⟩⟩ 2333, .str ⟨⟨[116, 101, 120, 116]⟩⟩ 2334, .str ⟨⟨[97, 116]⟩⟩ 2335, .str ⟨⟨[108, 101, 110, 103, 116, 104]⟩⟩ 2336, .str ⟨⟨[115, 105, 103, 110]⟩⟩ 2337, .str ⟨⟨[109, 101, 97, 110, 115]⟩⟩ 2338, .str ⟨⟨[99, 111, 100, 101]⟩⟩ 2339]⟩ 0, ⟨[]⟩⟩
noncomputable def o148_24 : Obj := ⟨.type "tuple", none, .seq ⟨[]⟩ 0, ⟨[]⟩⟩
noncomputable def o149_24 : Obj := ⟨.none, none, .func { name := ⟨⟨[95, 108, 97, 119, 95, 119, 114, 105, 116, 116, 101, 110]⟩⟩, qualname := ⟨⟨[95, 108, 97, 119, 95, 119, 114, 105, 116, 116, 101, 110]⟩⟩, params := fdA (stAt 18), body := .stmts (fdB (stAt 18)), scope := fdS (stAt 18), globals := 0, closure := [], defaults := .none, kwdefaults := .none, doc := .none, pyModule := .none, annotations := none, code := .none, closureTuple := .none, builtins := 0 }, ⟨[]⟩⟩
noncomputable def o150_24 : Obj := ⟨.type "code", none, .fields ⟨[.str ⟨⟨[95, 108, 97, 119, 95, 119, 114, 105, 116, 116, 101, 110]⟩⟩ 2329, .str ⟨⟨[95, 108, 97, 119, 95, 119, 114, 105, 116, 116, 101, 110]⟩⟩ 2330, .str ⟨⟨[47, 99, 108, 97, 105, 109, 47, 99, 117, 116, 46, 112, 121]⟩⟩ 2331, .int 108 0, .int 2 0, .int 0 0, .int 0 0, .int 3 0, .ref 145, .bool true, .int 181 0, .ref 146, .none, .ref 147, .ref 148, .ref 149, .int 2340 0, .int 108 0, .str ⟨⟨[47, 99, 108, 97, 105, 109, 47, 99, 117, 116, 46, 112, 121]⟩⟩ 2341]⟩, ⟨[]⟩⟩
noncomputable def o151_24 : Obj := ⟨.type "function", none, .func { name := ⟨⟨[95, 108, 97, 119, 95, 119, 114, 105, 116, 116, 101, 110]⟩⟩, qualname := ⟨⟨[95, 108, 97, 119, 95, 119, 114, 105, 116, 116, 101, 110]⟩⟩, params := fdA (stAt 18), body := .stmts (fdB (stAt 18)), scope := fdS (stAt 18), globals := 3, closure := [], defaults := .none, kwdefaults := .none, doc := .none, pyModule := .str ⟨⟨[108, 97, 119, 95, 112, 101, 48, 50, 53, 53, 95, 48, 50]⟩⟩ 2297, annotations := none, code := .ref 150, closureTuple := .none, builtins := 0 }, ⟨[]⟩⟩
noncomputable def o152_24 : Obj := ⟨.type "tuple", none, .seq ⟨[]⟩ 0, ⟨[]⟩⟩
noncomputable def o153_24 : Obj := ⟨.none, none, .fields ⟨[]⟩, ⟨[]⟩⟩
noncomputable def o154_24 : Obj := ⟨.none, none, .func { name := ⟨⟨[95, 108, 97, 119, 95, 101, 97, 99, 104]⟩⟩, qualname := ⟨⟨[95, 108, 97, 119, 95, 101, 97, 99, 104]⟩⟩, params := fdA (stAt 19), body := .stmts (fdB (stAt 19)), scope := fdS (stAt 19), globals := 0, closure := [], defaults := .none, kwdefaults := .none, doc := .none, pyModule := .none, annotations := none, code := .none, closureTuple := .none, builtins := 0 }, ⟨[]⟩⟩
noncomputable def o155_24 : Obj := ⟨.type "code", none, .fields ⟨[.str ⟨⟨[95, 108, 97, 119, 95, 101, 97, 99, 104]⟩⟩ 2343, .str ⟨⟨[95, 108, 97, 119, 95, 101, 97, 99, 104]⟩⟩ 2344, .str ⟨⟨[47, 99, 108, 97, 105, 109, 47, 99, 117, 116, 46, 112, 121]⟩⟩ 2345, .int 123 0, .int 2 0, .int 0 0, .int 0 0, .int 3 0, .ref 152, .bool true, .int 181 0, .ref 153, .none, .none, .none, .ref 154, .int 2346 0, .int 123 0, .str ⟨⟨[47, 99, 108, 97, 105, 109, 47, 99, 117, 116, 46, 112, 121]⟩⟩ 2347]⟩, ⟨[]⟩⟩
noncomputable def o156_24 : Obj := ⟨.type "function", none, .func { name := ⟨⟨[95, 108, 97, 119, 95, 101, 97, 99, 104]⟩⟩, qualname := ⟨⟨[95, 108, 97, 119, 95, 101, 97, 99, 104]⟩⟩, params := fdA (stAt 19), body := .stmts (fdB (stAt 19)), scope := fdS (stAt 19), globals := 3, closure := [], defaults := .none, kwdefaults := .none, doc := .none, pyModule := .str ⟨⟨[108, 97, 119, 95, 112, 101, 48, 50, 53, 53, 95, 48, 50]⟩⟩ 2297, annotations := none, code := .ref 155, closureTuple := .none, builtins := 0 }, ⟨[]⟩⟩
noncomputable def o157_24 : Obj := ⟨.type "tuple", none, .seq ⟨[]⟩ 0, ⟨[]⟩⟩
noncomputable def o158_24 : Obj := ⟨.none, none, .fields ⟨[]⟩, ⟨[]⟩⟩
noncomputable def o159_24 : Obj := ⟨.none, none, .func { name := ⟨⟨[95, 108, 97, 119, 95, 100, 105, 103, 105, 116, 115]⟩⟩, qualname := ⟨⟨[95, 108, 97, 119, 95, 100, 105, 103, 105, 116, 115]⟩⟩, params := fdA (stAt 20), body := .stmts (fdB (stAt 20)), scope := fdS (stAt 20), globals := 0, closure := [], defaults := .none, kwdefaults := .none, doc := .none, pyModule := .none, annotations := none, code := .none, closureTuple := .none, builtins := 0 }, ⟨[]⟩⟩
noncomputable def o160_24 : Obj := ⟨.type "code", none, .fields ⟨[.str ⟨⟨[95, 108, 97, 119, 95, 100, 105, 103, 105, 116, 115]⟩⟩ 2349, .str ⟨⟨[95, 108, 97, 119, 95, 100, 105, 103, 105, 116, 115]⟩⟩ 2350, .str ⟨⟨[47, 99, 108, 97, 105, 109, 47, 99, 117, 116, 46, 112, 121]⟩⟩ 2351, .int 125 0, .int 1 0, .int 0 0, .int 0 0, .int 3 0, .ref 157, .bool true, .int 181 0, .ref 158, .none, .none, .none, .ref 159, .int 2352 0, .int 125 0, .str ⟨⟨[47, 99, 108, 97, 105, 109, 47, 99, 117, 116, 46, 112, 121]⟩⟩ 2353]⟩, ⟨[]⟩⟩
noncomputable def o161_24 : Obj := ⟨.type "function", none, .func { name := ⟨⟨[95, 108, 97, 119, 95, 100, 105, 103, 105, 116, 115]⟩⟩, qualname := ⟨⟨[95, 108, 97, 119, 95, 100, 105, 103, 105, 116, 115]⟩⟩, params := fdA (stAt 20), body := .stmts (fdB (stAt 20)), scope := fdS (stAt 20), globals := 3, closure := [], defaults := .none, kwdefaults := .none, doc := .none, pyModule := .str ⟨⟨[108, 97, 119, 95, 112, 101, 48, 50, 53, 53, 95, 48, 50]⟩⟩ 2297, annotations := none, code := .ref 160, closureTuple := .none, builtins := 0 }, ⟨[]⟩⟩
noncomputable def o162_24 : Obj := ⟨.type "tuple", none, .seq ⟨[]⟩ 0, ⟨[]⟩⟩
noncomputable def o163_24 : Obj := ⟨.none, none, .fields ⟨[]⟩, ⟨[]⟩⟩
noncomputable def o164_24 : Obj := ⟨.type "tuple", none, .seq ⟨[.str ⟨⟨[105, 109, 97, 103, 101, 115]⟩⟩ 2358, .str ⟨⟨[115, 116, 97, 114, 116]⟩⟩ 2359, .str ⟨⟨[112, 108, 97, 99, 101]⟩⟩ 2360, .str ⟨⟨[114, 111, 117, 110, 100, 115]⟩⟩ 2361, .str ⟨⟨[115, 112, 97, 110]⟩⟩ 2362, .str ⟨⟨[108, 101, 116, 116, 101, 114]⟩⟩ 2363, .str ⟨⟨[107]⟩⟩ 2364]⟩ 0, ⟨[]⟩⟩
noncomputable def o165_24 : Obj := ⟨.type "tuple", none, .seq ⟨[]⟩ 0, ⟨[]⟩⟩
noncomputable def o166_24 : Obj := ⟨.none, none, .func { name := ⟨⟨[95, 108, 97, 119, 95, 97, 116]⟩⟩, qualname := ⟨⟨[95, 108, 97, 119, 95, 97, 116]⟩⟩, params := fdA (stAt 21), body := .stmts (fdB (stAt 21)), scope := fdS (stAt 21), globals := 0, closure := [], defaults := .none, kwdefaults := .none, doc := .none, pyModule := .none, annotations := none, code := .none, closureTuple := .none, builtins := 0 }, ⟨[]⟩⟩
noncomputable def o167_24 : Obj := ⟨.type "code", none, .fields ⟨[.str ⟨⟨[95, 108, 97, 119, 95, 97, 116]⟩⟩ 2355, .str ⟨⟨[95, 108, 97, 119, 95, 97, 116]⟩⟩ 2356, .str ⟨⟨[47, 99, 108, 97, 105, 109, 47, 99, 117, 116, 46, 112, 121]⟩⟩ 2357, .int 127 0, .int 4 0, .int 0 0, .int 0 0, .int 3 0, .ref 162, .bool true, .int 181 0, .ref 163, .none, .ref 164, .ref 165, .ref 166, .int 2365 0, .int 127 0, .str ⟨⟨[47, 99, 108, 97, 105, 109, 47, 99, 117, 116, 46, 112, 121]⟩⟩ 2366]⟩, ⟨[]⟩⟩
noncomputable def o168_24 : Obj := ⟨.type "function", none, .func { name := ⟨⟨[95, 108, 97, 119, 95, 97, 116]⟩⟩, qualname := ⟨⟨[95, 108, 97, 119, 95, 97, 116]⟩⟩, params := fdA (stAt 21), body := .stmts (fdB (stAt 21)), scope := fdS (stAt 21), globals := 3, closure := [], defaults := .none, kwdefaults := .none, doc := .none, pyModule := .str ⟨⟨[108, 97, 119, 95, 112, 101, 48, 50, 53, 53, 95, 48, 50]⟩⟩ 2297, annotations := none, code := .ref 167, closureTuple := .none, builtins := 0 }, ⟨[]⟩⟩
noncomputable def o169_24 : Obj := ⟨.type "tuple", none, .seq ⟨[]⟩ 0, ⟨[]⟩⟩
noncomputable def o170_24 : Obj := ⟨.none, none, .fields ⟨[]⟩, ⟨[]⟩⟩
noncomputable def o171_24 : Obj := ⟨.type "tuple", none, .seq ⟨[.str ⟨⟨[114, 111, 119]⟩⟩ 2371, .str ⟨⟨[101, 110, 100]⟩⟩ 2372]⟩ 0, ⟨[]⟩⟩
noncomputable def o172_24 : Obj := ⟨.type "tuple", none, .seq ⟨[]⟩ 0, ⟨[]⟩⟩
noncomputable def o173_24 : Obj := ⟨.none, none, .func { name := ⟨⟨[95, 108, 97, 119, 95, 99, 117, 116]⟩⟩, qualname := ⟨⟨[95, 108, 97, 119, 95, 99, 117, 116]⟩⟩, params := fdA (stAt 22), body := .stmts (fdB (stAt 22)), scope := fdS (stAt 22), globals := 0, closure := [], defaults := .none, kwdefaults := .none, doc := .none, pyModule := .none, annotations := none, code := .none, closureTuple := .none, builtins := 0 }, ⟨[]⟩⟩
noncomputable def o174_24 : Obj := ⟨.type "code", none, .fields ⟨[.str ⟨⟨[95, 108, 97, 119, 95, 99, 117, 116]⟩⟩ 2368, .str ⟨⟨[95, 108, 97, 119, 95, 99, 117, 116]⟩⟩ 2369, .str ⟨⟨[47, 99, 108, 97, 105, 109, 47, 99, 117, 116, 46, 112, 121]⟩⟩ 2370, .int 133 0, .int 1 0, .int 0 0, .int 0 0, .int 3 0, .ref 169, .bool true, .int 181 0, .ref 170, .none, .ref 171, .ref 172, .ref 173, .int 2373 0, .int 133 0, .str ⟨⟨[47, 99, 108, 97, 105, 109, 47, 99, 117, 116, 46, 112, 121]⟩⟩ 2374]⟩, ⟨[]⟩⟩
noncomputable def o175_24 : Obj := ⟨.type "function", none, .func { name := ⟨⟨[95, 108, 97, 119, 95, 99, 117, 116]⟩⟩, qualname := ⟨⟨[95, 108, 97, 119, 95, 99, 117, 116]⟩⟩, params := fdA (stAt 22), body := .stmts (fdB (stAt 22)), scope := fdS (stAt 22), globals := 3, closure := [], defaults := .none, kwdefaults := .none, doc := .none, pyModule := .str ⟨⟨[108, 97, 119, 95, 112, 101, 48, 50, 53, 53, 95, 48, 50]⟩⟩ 2297, annotations := none, code := .ref 174, closureTuple := .none, builtins := 0 }, ⟨[]⟩⟩
noncomputable def o176_24 : Obj := ⟨.type "tuple", none, .seq ⟨[]⟩ 0, ⟨[]⟩⟩
noncomputable def o177_24 : Obj := ⟨.none, none, .fields ⟨[]⟩, ⟨[]⟩⟩
noncomputable def o178_24 : Obj := ⟨.none, none, .func { name := ⟨⟨[108, 97, 119]⟩⟩, qualname := ⟨⟨[108, 97, 119]⟩⟩, params := fdA (stAt 23), body := .stmts (fdB (stAt 23)), scope := fdS (stAt 23), globals := 0, closure := [], defaults := .none, kwdefaults := .none, doc := .none, pyModule := .none, annotations := none, code := .none, closureTuple := .none, builtins := 0 }, ⟨[]⟩⟩
noncomputable def o179_24 : Obj := ⟨.type "code", none, .fields ⟨[.str ⟨⟨[108, 97, 119]⟩⟩ 2376, .str ⟨⟨[108, 97, 119]⟩⟩ 2377, .str ⟨⟨[47, 99, 108, 97, 105, 109, 47, 99, 117, 116, 46, 112, 121]⟩⟩ 2378, .int 138 0, .int 1 0, .int 0 0, .int 0 0, .int 3 0, .ref 176, .bool true, .int 181 0, .ref 177, .none, .none, .none, .ref 178, .int 2379 0, .int 138 0, .str ⟨⟨[47, 99, 108, 97, 105, 109, 47, 99, 117, 116, 46, 112, 121]⟩⟩ 2380]⟩, ⟨[]⟩⟩
noncomputable def o180_24 : Obj := ⟨.type "function", none, .func { name := ⟨⟨[108, 97, 119]⟩⟩, qualname := ⟨⟨[108, 97, 119]⟩⟩, params := fdA (stAt 23), body := .stmts (fdB (stAt 23)), scope := fdS (stAt 23), globals := 3, closure := [], defaults := .none, kwdefaults := .none, doc := .none, pyModule := .str ⟨⟨[108, 97, 119, 95, 112, 101, 48, 50, 53, 53, 95, 48, 50]⟩⟩ 2297, annotations := none, code := .ref 179, closureTuple := .none, builtins := 0 }, ⟨[]⟩⟩
noncomputable def l_24 (P : Params) : List Obj := [boot_o_0 P, boot_o_1 P, boot_o_2 P, o3_24 P, boot_o_4 P, boot_o_5 P, boot_o_6 P, boot_o_7 P, boot_o_8 P, boot_o_9 P, boot_o_10 P, o11_a, o12_24, o13_a, o14_a, o15_9, o16_9, o17_9, o18_9, o19_9, o20_9, o21_9, o22_9, o23_9, o24_9, o25_9, o26_9, o27_9, o28_9, o29_9, o30_9, o31_9, o32_9, o33_9, o34_9, o35_9, o36_9, o37_9, o38_9, o39_9, o40_9, o41_9, o42_9, o43_9, o44_9, o45_9, o46_9, o47_9, o48_9, o49_9, o50_9, o51_9, o52_9, o53_9, o54_9, o55_9, o56_9, o57_10, o58_10, o59_10, o60_10, o61_10, o62_10, o63_10, o64_10 P, o65_10, o66_10, o67_10, o68_11, o69_11, o70_11, o71_11, o72_11, o73_11, o74_11, obD, obS 1, obS 2, obS 3, obS 4, obS 5, obS 6, obS 7, obS 8, obS 9, obS 10, obS 11, obS 12, obS 13, obS 14, obS 15, obS 16, obS 17, obS 18, obS 19, obS 20, obS 21, obS 22, obS 23, obS 24, obS 25, obS 26, obS 27, obS 28, obS 29, obS 30, obS 31, obS 32, obS 33, obS 34, obS 35, obS 36, obS 37, obS 38, o114_24, o115_24, o116_24, o117_24, o118_24, o119_24, o120_24, o121_24, o122_24, o123_24, o124_24, o125_24, o126_24, o127_24, o128_24, o129_24, o130_24, o131_24, o132_24, o133_24, o134_24, o135_24, o136_24, o137_24, o138_24, o139_24, o140_24, o141_24, o142_24, o143_24, o144_24, o145_24, o146_24, o147_24, o148_24, o149_24, o150_24, o151_24, o152_24, o153_24, o154_24, o155_24, o156_24, o157_24, o158_24, o159_24, o160_24, o161_24, o162_24, o163_24, o164_24, o165_24, o166_24, o167_24, o168_24, o169_24, o170_24, o171_24, o172_24, o173_24, o174_24, o175_24, o176_24, o177_24, o178_24, o179_24, o180_24]
end
end Mine
-- part HDS02
set_option maxHeartbeats 0
namespace Mine
noncomputable section
noncomputable def env0 : Env := { scope := pw.main.scope, locals := mainNs, globals := mainNs, cells := [], code := .ref 13, frame := some 14 }
noncomputable def cd0 : Code := .body (behindTheImports pw) env0
noncomputable def B0 : List PySem.Frame := [topFrame ⟨0, 0, 0, 0⟩]
noncomputable def ann0 : Option Value := some (.ref 6)
noncomputable def shr (l : Params → List Obj) (toks : Nat) (w : World) (os : OsState) : Shared := ⟨⟨⟨l w.params⟩, (boot_heap w.params).life⟩, ⟨[]⟩, boot_drawn, toks, os⟩
noncomputable def dpos : Stmt → Pos
  | .Assign _ (.Dict _ _ q) _ => q
  | _ => default
theorem ps_asc : asc (-1) ps = true := by kernel_rfl
theorem ps_chs : ps = ch 0 ++ (chs.flatten ++ ch 38) := by kernel_rfl
theorem chs_17 : chs.all (fun c => c.length == 17) = true := by kernel_rfl
theorem ch_0 : (ch 0).length = 17 := by kernel_rfl
theorem ch_38 : (ch 38).length = 4 := by kernel_rfl
theorem chs_len : chs.length = 37 := by kernel_rfl
theorem ps_len : ps.length = 650 := by kernel_rfl
noncomputable def aTs : Stmt → List Expr
  | .Assign ts _ _ => ts
  | _ => []
noncomputable def aV : Stmt → Expr
  | .Assign _ v _ => v
  | _ => default
noncomputable def aP : Stmt → Pos
  | .Assign _ _ q => q
  | _ => default
theorem st_11 : stAt 11 = .Assign (aTs (stAt 11)) (aV (stAt 11)) (aP (stAt 11)) := by kernel_rfl
theorem sole_11 : swapsWithSole (aTs (stAt 11)) (aV (stAt 11)) (aP (stAt 11)).line env0 = pure false := by kernel_rfl
theorem val_11 : eval (aV (stAt 11)) env0 = standAt (dpos (stAt 11)) >>= fun _ => dictDisplay (ps.map (it env0 (dpos (stAt 11)))) := by kernel_rfl
theorem store_11 (w : World) (os : OsState) : Go pw w 11 ann0 30 (do assignStores env0 (.ref 75) (← swappedStores (aTs (stAt 11)) (aV (stAt 11)) env0) ((assignEach (aTs (stAt 11)) env0).map (·.2))) (shr l_12x 2288 w os) .next (shr l_12 2289 w os) := by
  intro K H gd lv code pos f B
  refine ⟨7, ⟨80, 0, 80, 13⟩, by omega, fun N => ?_⟩
  kernel_rfl
theorem disp_is (P : Params) (life : Life) : disp 75 (chs ++ [ch 38]) ((⟨⟨l_11 P⟩, life⟩ : Heap).push (dob (ents 338 (ch 0)) 17)) (338 + 51) (ents 338 (ch 0)) 17 = ⟨⟨l_12x P⟩, life⟩ := by kernel_rfl
theorem ch38_ne : ch 38 ≠ [] := fun q => by have := ch_38; rw [q] at this; cases this
theorem go_11 (w : World) (os : OsState) : Go pw w 11 ann0 20000 (exec (stAt 11) env0) (shr l_11 338 w os) .next (shr l_12 2289 w os) := by
  rw [st_11]
  show Go pw w 11 ann0 20000 (standAt (aP (stAt 11)) >>= fun _ => swapsWithSole (aTs (stAt 11)) (aV (stAt 11)) (aP (stAt 11)).line env0 >>= fun b => if b then _ else eval (aV (stAt 11)) env0 >>= _) _ _ _
  rw [sole_11, val_11]
  refine go_le (c := 1 + (0 + ((1 + (1000 + chs.length * 330)) + 30))) ?_ (by rw [chs_len]; omega)
  refine go_bind go_at (go_bind (c := 0) go_pure ?_)
  rw [if_neg Bool.false_ne_true]
  refine go_bind (a := .ref 75) (s₁ := shr l_12x 2288 w os) (go_bind go_at ?_) (store_11 w os)
  have e : (⟨⟨l_11 w.params⟩, (boot_heap w.params).life⟩ : Heap).objs.size = 75 := by kernel_rfl
  have g := @go_display pw w 11 ann0 env0 (dpos (stAt 11)) (shr l_11 338 w os) ⟨⟨l_11 w.params⟩, (boot_heap w.params).life⟩ 338 (by rw [e]; omega) (by omega) (ch 0) ch_0 chs (fun c h => by have := List.all_eq_true.mp chs_17 c h; simpa using this) (ch 38) (by rw [ch_38]; omega) (ps_chs ▸ ps_asc) (by rw [← ps_chs, ps_len]; omega)
  rw [← ps_chs, ps_len, if_neg ch38_ne] at g
  rw [e, disp_is] at g
  exact g
end
end Mine
-- part HDR02
set_option maxHeartbeats 0
namespace Mine
noncomputable section
noncomputable def sts (i n : Nat) : List Stmt := ((behindTheImports pw).drop i).take n
theorem pre0 (w : World) (os : OsState) : topGo treeTable pw w 11 ann0 12 ⟨boot_heap w.params, ⟨[]⟩, boot_drawn, boot_toks, os⟩ (topStub pw) = some (shr l_a 187 w os, ⟨denote treeTable cd0, cd0, ⟨0, 0, 0, 0⟩, B0⟩) := by kernel_rfl
theorem g0 (w : World) (os : OsState) : segRun treeTable pw w 11 ann0 1 1 (shr l_a 187 w os) (blockOf (behindTheImports pw) env0 cd0 ⟨0, 0, 0, 0⟩ B0) = some (.next, shr l_a 187 w os, cd0, ⟨0, 0, 0, 0⟩) := by kernel_rfl
theorem g1 (w : World) (os : OsState) : segRun treeTable pw w 11 ann0 1 238 (shr l_a 187 w os) (piecesOf (sts 0 9) env0 cd0 ⟨0, 0, 0, 0⟩ B0) = some (.next, shr l_9 271 w os, cd0, ⟨76, 0, 76, 8⟩) := by kernel_rfl
theorem g2 : ∀ (w : World) (os : OsState), segRun treeTable pw w 11 ann0 1 999 (shr l_9 271 w os) (piecesOf (sts 9 1) env0 cd0 ⟨76, 0, 76, 8⟩ B0) = some (.next, shr l_10 331 w os, cd0, ⟨77, 0, 77, 6⟩) := by
  unfold piecesOf
  rw [PySem.W.Fast.te14374325043358763698, PySem.W.Fast.te14364793385576792824, PySem.W.Fast.te12563942051412417395]
  refine byRow2 "special-get-raises" (byRow2 "set-order" (fun w os => ?_) (fun w os => ?_)) (byRow2 "set-order" (fun w os => ?_) (fun w os => ?_))
  all_goals kernel_rfl
theorem g3 (w : World) (os : OsState) : segRun treeTable pw w 11 ann0 1 30 (shr l_10 331 w os) (piecesOf (sts 10 1) env0 cd0 ⟨77, 0, 77, 6⟩ B0) = some (.next, shr l_11 338 w os, cd0, ⟨78, 0, 79, 30⟩) := by kernel_rfl
theorem g5 (w : World) (os : OsState) (q : Pos) : segRun treeTable pw w 11 ann0 1 340 (shr l_12 2289 w os) (piecesOf (sts 12 12) env0 cd0 q B0) = some (.next, shr l_24 2382 w os, cd0, ⟨138, 0, 176, 38⟩) := by kernel_rfl
theorem g6 (w : World) (os : OsState) : topRun treeTable pw w 11 ann0 3 (shr l_24 2382 w os) ⟨doneF .next, cd0, ⟨138, 0, 176, 38⟩, B0⟩ = some (shr l_24 2382 w os) := by kernel_rfl
theorem body_is : behindTheImports pw = sts 0 9 ++ (sts 9 1 ++ (sts 10 1 ++ (stAt 11 :: (sts 12 12 ++ [])))) := by kernel_rfl
theorem run02 (w : World) (os : OsState) : topRun treeTable pw w 11 ann0 21650 ⟨boot_heap w.params, ⟨[]⟩, boot_drawn, boot_toks, os⟩ (topStub pw) = some (shr l_24 2382 w os) := by
  have e5 : ∀ q, topRun treeTable pw w 11 ann0 (340 + 3) (shr l_12 2289 w os) (restOf (sts 12 12 ++ []) env0 cd0 q B0) = some (shr l_24 2382 w os) := fun q => piece_app (g5 w os q) (piece_nil (g6 w os))
  have e4 : topRun treeTable pw w 11 ann0 20343 (shr l_11 338 w os) (restOf (stAt 11 :: (sts 12 12 ++ [])) env0 cd0 ⟨78, 0, 79, 30⟩ B0) = some (shr l_24 2382 w os) := by
    unfold restOf
    rw [execs_cons_wrap]
    obtain ⟨n, q, hn, e⟩ := go_11 w os (fun f => match f with | .next => (execs (sts 12 12 ++ []) env0).wrap doneF (leaveH env0) id id | f => doneF f) (leaveH env0) id id cd0 ⟨78, 0, 79, 30⟩ (topFrame ⟨0, 0, 0, 0⟩) []
    have := (e 343).trans (e5 q)
    have := topRun_mono (20000 - n) _ _ _ _ this
    rw [show 343 + n + (20000 - n) = 20343 by omega] at this
    exact this
  have e3 := piece_app (g3 w os) e4
  have e2 := piece_app (g2 w os) e3
  have e1 := piece_app (g1 w os) e2
  rw [← body_is] at e1
  have e0 := go_top (pre0 w os) (piece_block (g0 w os) e1)
  have := topRun_mono 27 _ _ _ _ e0
  exact this
end
end Mine
-- part HDL02
set_option maxHeartbeats 0
namespace Mine
noncomputable section
noncomputable def q1 : Program := { pw with main := { pw.main with body := [stAt 23] } }
noncomputable def loose1 : List PySem.Str := pw.boundNames.filter fun n => !(n == PySem.Str.ofString "law") && !(n == PySem.Str.ofString "__name__")
noncomputable def H1 (P : Params) : Heap := ⟨⟨l_24 P⟩, (boot_heap P).life⟩
noncomputable def KK (P : Params) : Frag := (List.range 181).zip (l_24 P)
noncomputable def as1 : List Addr := List.range 181
theorem as1_is (P : Params) : as1 = (KK P).map (·.1) := by kernel_rfl
noncomputable def hook : Hook := kHook KK as1 as1_is
abbrev Xt0 : Shared → Bool := fun _ => true
theorem looks1 (w : World) : (staticsOk (importedModules pw.main.body) (boot_heap w.params) (H1 w.params) && namesBound pw (H1 w.params) && gensDone ⟨H1 w.params, ⟨[]⟩, boot_drawn, 2382, {}⟩ && laidKept (boot_heap w.params) (H1 w.params)) = true := by kernel_rfl
theorem looks2 (w : World) (os : OsState) : openSeen q1 loose1 (importedModules pw.main.body) Xt0 true ⟨H1 w.params, ⟨[]⟩, boot_drawn, 2382, os⟩ = openGood q1 loose1 := by
  rw [PySem.W.Fast.te4187177175401517315]
  kernel_rfl
theorem looks3 (w : World) (os : OsState) : hook.obs ⟨H1 w.params, ⟨[]⟩, boot_drawn, 2382, os⟩ = hook.val w := by kernel_rfl
theorem size1 (w : World) : ((boot_heap w.params).isNs mainGlobals && (⟨[]⟩ : Array GenState).size == 0, (boot_heap w.params).objs.size, (boot_heap w.params).nsMap mainGlobals "__annotations__") = (true, 11, ann0) := by kernel_rfl
theorem open1 : opening pw = plainProg pw.main.scope.names := by kernel_rfl
theorem fence1 (s : Shared) : fenceModules? pw s = some s := by kernel_rfl
theorem left1 : LeftO pw q1 loose1 Xt0 hook.obs hook.val 21650 := by
  refine LeftO.of_pieces (H₀ := boot_heap) (H₁ := H1) (gs₀ := ⟨[]⟩) (gs₁ := ⟨[]⟩) (d₀ := boot_drawn) (d₁ := boot_drawn) (k₀ := boot_toks) (k₁ := 2382) (m₀ := 11) (ann := ann0) (M := 21650) (boot_open open1 rfl fence1) size1 run02 rfl ?_
  intro w
  funext os
  exact Prod.ext (looks1 w) (Prod.ext (looks2 w os) (looks3 w os))
end
end Mine
-- part HDF02
set_option maxHeartbeats 0
namespace Mine
noncomputable section
noncomputable def fdP : Stmt → Pos
  | .FunctionDef _ _ _ _ _ _ _ _ _ q => q
  | _ => default
noncomputable def dLaw : DefRec := { name := PySem.Str.ofString "law", params := fdA (stAt 23), body := fdB (stAt 23), scope := fdS (stAt 23), pos := fdP (stAt 23) }
abbrev rowW : RowW := PySem.Challenge.rw_pe0255_02.row.toRowW
theorem def_law : defOf q1 PySem.Challenge.rw_pe0255_02.row.name = some (dLaw, []) := by kernel_rfl
theorem the_law : PySem.Challenge.rw_pe0255_02.row.prog.theDef PySem.Challenge.rw_pe0255_02.row.name = some (dLaw.params, dLaw.body, dLaw.scope) := by kernel_rfl
theorem kw_law : kwWritten? dLaw.params.kwonlyargs dLaw.params.kw_defaults = some [] := by kernel_rfl
theorem ok_law : (chainsOk q1 && opensWell PySem.Challenge.rw_pe0255_02.row.prog && (frees PySem.Challenge.rw_pe0255_02.row.toRowW && PySem.Challenge.rw_pe0255_02.row.within.isEmpty)) = true := by kernel_rfl
theorem bare_law : PySem.Challenge.rw_pe0255_02.row.prog.bare := ⟨rfl, rfl, rfl, rfl, rfl, by decide +kernel⟩
theorem promised_law : PySem.Challenge.rw_pe0255_02.row.toRowW.promised := by w_witness2
theorem top1 (call : WalkO q1 loose1 (fun _ _ => True) hook.says rowW dLaw [] fun f vs => PySem.call f vs) : PySem.Challenge.rw_pe0255_02.Holds := by
  refine holds_law (by kernel_rfl) fun said => ?_
  exact PySem.W.holds_open (q := q1) (loose := loose1) (Xt := Xt0) (XP := fun _ _ => True) (Yf := hook.obs) (Ya := hook.val) (YP := hook.says) (N := 21650) left1 hook.of hook.keeps (fun _ _ => trivial) (fun _ _ _ _ _ => trivial) def_law the_law kw_law (fun _ _ => recFacts_nil rfl) rfl (by assumption) ok_law bare_law promised_law call
end
end Mine
-- part V1
namespace Mine
/-- plain data; obj: a list of the frame's own, by its address -/
inductive D where
  | none
  | bool (b : Bool)
  | int (i : Int)
  | str (s : PySem.Str)
  | tup (l : List D)
  | lst (l : List D)
  | obj (a : Addr)
  | dic (hs : PySem.Str → Int) (l : List (PySem.Str × PySem.Str))

/-- the tables of code that two defs fill at their first call -/
noncomputable def TT : List Addr := [30, 37]
noncomputable def tab1 (h : Heap) (t : Addr) (line col : Nat) (q : PySem.Str) : Prop :=
  ∃ ps, h.get? t = some (tabObj ps) ∧ (ps = #[] ∨ ∃ c, ps = #[rawInt line, rawInt col, .ref c] ∧ h.CodeRec (.ref c) q)
structure TabOk (h : Heap) : Prop where
  a : tab1 h 30 32 4 (PySem.Str.ofString "_int2digits.<locals>.inner")
  b : tab1 h 37 47 4 (PySem.Str.ofString "_digits2int.<locals>.inner")
theorem TabOk.at {h : Heap} (x : TabOk h) {t : Addr} (ht : t ∈ TT) : ∃ ps, h.get? t = some (tabObj ps) := by
  rcases List.mem_cons.mp ht with rfl | ht
  · obtain ⟨ps, e, _⟩ := x.a; exact ⟨ps, e⟩
  · rw [List.mem_singleton] at ht; subst ht
    obtain ⟨ps, e, _⟩ := x.b; exact ⟨ps, e⟩
theorem TabOk.ne {h : Heap} (x : TabOk h) {t : Addr} {o : Obj} (e : h.get? t = some o) (ho : o.cls ≠ .none ∨ ∀ vs, o.data ≠ .fields vs) : t ∉ TT := fun ht => by
  obtain ⟨ps, e'⟩ := x.at ht
  rw [e] at e'; cases e'
  rcases ho with ho | ho
  · exact ho rfl
  · exact ho _ rfl
theorem TabOk.fresh {h : Heap} (x : TabOk h) : h.objs.size ∉ TT := fun ht => by
  obtain ⟨ps, e'⟩ := x.at ht
  exact absurd (Heap.lt_size e') (Nat.lt_irrefl _)
theorem tab1.full {h h' : Heap} {t : Addr} {l c : Nat} {q : PySem.Str} (x : tab1 h t l c q) (k : ∀ b o, h.get? b = some o → h'.get? b = some o) : tab1 h' t l c q := by
  obtain ⟨ps, e, r⟩ := x
  refine ⟨ps, k _ _ e, r.imp id fun ⟨c, e1, e2⟩ => ⟨c, e1, e2.keeps k⟩⟩
theorem TabOk.full {h h' : Heap} (x : TabOk h) (k : ∀ b o, h.get? b = some o → h'.get? b = some o) : TabOk h' := ⟨x.a.full k, x.b.full k⟩
/-- an object that is no code and no table -/
noncomputable def NoC (o : Obj) : Prop := ∀ vs, o.data = .fields vs → (∃ i t, vs[1]? = some (.int i t)) ∧ o.cls ≠ .none
theorem tab1.one {h h' : Heap} {t a : Addr} {l c : Nat} {q : PySem.Str} {o : Obj} (x : tab1 h t l c q) (ha : h.get? a = some o) (hc : NoC o) (k : ∀ b ob, b ≠ a → h.get? b = some ob → h'.get? b = some ob) : tab1 h' t l c q := by
  obtain ⟨ps, e, r⟩ := x
  refine ⟨ps, k _ _ (fun z => ?_) e, r.imp id fun ⟨c, e1, e2⟩ => ⟨c, e1, ?_⟩⟩
  · subst z; rw [ha] at e; cases e
    exact (hc _ rfl).2 rfl
  · obtain ⟨c', oc, vs, tk, f1, f2, f3, f4⟩ := e2
    refine ⟨c', oc, vs, tk, f1, k _ _ (fun z => ?_) f2, f3, f4⟩
    subst z; rw [ha] at f2; cases f2
    obtain ⟨⟨i, u, g⟩, _⟩ := hc _ f3
    rw [g] at f4; cases f4
theorem TabOk.one {h h' : Heap} {a : Addr} {o : Obj} (x : TabOk h) (ha : h.get? a = some o) (hc : NoC o) (k : ∀ b ob, b ≠ a → h.get? b = some ob → h'.get? b = some ob) : TabOk h' := ⟨x.a.one ha hc k, x.b.one ha hc k⟩
/-- what every step keeps -/
noncomputable def Fix (b : Addr) (o : Obj) : Prop := b ∉ TT ∨ o.cls ≠ .none
structure Kp (h h' : Heap) : Prop where
  keep : ∀ b o, Fix b o → h.get? b = some o → h'.get? b = some o
  tab : TabOk h → TabOk h'
noncomputable def KpB (xs : List Addr) (h h' : Heap) : Prop := ∀ b o, b ∉ xs → Fix b o → h.get? b = some o → h'.get? b = some o
theorem Kp.full {h h' : Heap} (k : ∀ b o, h.get? b = some o → h'.get? b = some o) : Kp h h' := ⟨fun b o _ e => k b o e, fun x => x.full k⟩
theorem Kp.refl {h : Heap} : Kp h h := .full fun _ _ e => e
theorem Kp.trans {a b c : Heap} (x : Kp a b) (y : Kp b c) : Kp a c := ⟨fun p o f e => y.keep p o f (x.keep p o f e), fun t => y.tab (x.tab t)⟩
theorem Kp.push {h : Heap} {o : Obj} : Kp h (h.push o) := .full fun _ _ e => Heap.get?_push_of_some _ e
theorem Kp.but {h h' : Heap} {xs : List Addr} (x : Kp h h') : KpB xs h h' := fun b o _ f e => x.keep b o f e
theorem KpB.refl {h : Heap} {xs : List Addr} : KpB xs h h := fun _ _ _ _ e => e
noncomputable def lob (vs : List Value) (n : Nat) : Obj := ⟨.type "list", none, .seq ⟨vs⟩ n, #[]⟩
noncomputable def dicO (es : Array DictEntry) (n : Nat) : Obj := ⟨.type "dict", none, .dict es n, #[]⟩
/-- a dict of strs by strs -/
structure DicOk (hs : PySem.Str → Int) (l : List (PySem.Str × PySem.Str)) (es : Array DictEntry) : Prop where
  keys : ∀ e ∈ es, ∃ k, Value.isStrOf k e.key = true ∧ e.hash = hs k
  find : ∀ k, match l.lookup k with | some v => ∃ t, findBy Value.isStrOf es k = some (.str v t) | none => findBy Value.isStrOf es k = none
mutual
inductive Rep (X : List Addr) (h : Heap) : Value → D → Prop
  | none : Rep X h .none .none
  | bool (b : Bool) : Rep X h (.bool b) (.bool b)
  | int (i : Int) (t : Tok) : Rep X h (.int i t) (.int i)
  | str (s : PySem.Str) (t : Tok) : Rep X h (.str s t) (.str s)
  | tup {a : Addr} {vs : List Value} {ds : List D} : IsTup h a vs.toArray → a ∉ X → Reps X h vs ds → Rep X h (.ref a) (.tup ds)
  | lst {a : Addr} {vs : List Value} {ds : List D} : h.IsList a vs.toArray → a ∉ X → Reps X h vs ds → Rep X h (.ref a) (.lst ds)
  | obj (a : Addr) : Rep X h (.ref a) (.obj a)
  | dic {a : Addr} {es : Array DictEntry} {n : Nat} {hs : PySem.Str → Int} {l : List (PySem.Str × PySem.Str)} : h.get? a = some (dicO es n) → DicOk hs l es → (a == sysModules) = false → a ∉ X → Rep X h (.ref a) (.dic hs l)
inductive Reps (X : List Addr) (h : Heap) : List Value → List D → Prop
  | nil : Reps X h [] []
  | cons {v : Value} {d : D} {vs : List Value} {ds : List D} : Rep X h v d → Reps X h vs ds → Reps X h (v :: vs) (d :: ds)
end
theorem isTup_kpB {h h' : Heap} {xs : List Addr} {a : Addr} {vs : Array Value} (x : IsTup h a vs) (k : KpB xs h h') (ha : a ∉ xs) : IsTup h' a vs := by
  obtain ⟨o, h1, h2⟩ := x
  exact ⟨o, k a o ha (.inr (by rw [h2.1]; nofun)) h1, h2⟩
theorem isList_kpB {h h' : Heap} {xs : List Addr} {a : Addr} {vs : Array Value} (x : h.IsList a vs) (k : KpB xs h h') (ha : a ∉ xs) : h'.IsList a vs := by
  obtain ⟨o, h1, h2⟩ := x
  exact ⟨o, k a o ha (.inr (by rw [h2.1]; nofun)) h1, h2⟩
theorem isTup_live {h : Heap} {a : Addr} {vs : Array Value} (x : IsTup h a vs) : ∃ o, h.get? a = some o := let ⟨o, h1, _⟩ := x; ⟨o, h1⟩
theorem isList_live {h : Heap} {a : Addr} {vs : Array Value} (x : h.IsList a vs) : ∃ o, h.get? a = some o := let ⟨o, h1, _⟩ := x; ⟨o, h1⟩
noncomputable def SeqO (o : Obj) : Prop := o.cls = .type "tuple" ∨ o.cls = .type "list" ∨ o.cls = .type "dict"
theorem SeqO.fix {o : Obj} (q : SeqO o) {a : Addr} : Fix a o := .inr (by rcases q with q | q | q <;> (rw [q]; nofun))
theorem SeqO.noC {o : Obj} {vs : Array Value} {n : Nat} (q : o.data = .seq vs n) : NoC o := fun vs' e => by rw [q] at e; cases e
/-- one walk over what a datum stands on -/
theorem Rep.walk {X X' : List Addr} {h h' : Heap} (k : ∀ a o, a ∉ X → h.get? a = some o → SeqO o → h'.get? a = some o ∧ a ∉ X') {v : Value} {d : D} (r : Rep X h v d) : Rep X' h' v d := by
  induction r using Rep.rec (motive_2 := fun vs ds _ => Reps X' h' vs ds) with
  | none => exact .none
  | bool b => exact .bool b
  | int i t => exact .int i t
  | str s t => exact .str s t
  | tup ht ha _ ih =>
    obtain ⟨o, h1, h2⟩ := ht
    obtain ⟨q1, q2⟩ := k _ o ha h1 (.inl h2.1)
    exact .tup ⟨o, q1, h2⟩ q2 ih
  | lst ht ha _ ih =>
    obtain ⟨o, h1, h2⟩ := ht
    obtain ⟨q1, q2⟩ := k _ o ha h1 (.inr (.inl h2.1))
    exact .lst ⟨o, q1, h2⟩ q2 ih
  | obj a => exact .obj a
  | dic e hd hm ha =>
    obtain ⟨q1, q2⟩ := k _ _ ha e (.inr (.inr rfl))
    exact .dic q1 hd hm q2
  | nil => exact .nil
  | cons _ _ i1 i2 => exact .cons i1 i2
theorem Reps.walk {X X' : List Addr} {h h' : Heap} (k : ∀ a o, a ∉ X → h.get? a = some o → SeqO o → h'.get? a = some o ∧ a ∉ X') : ∀ {vs : List Value} {ds : List D}, Reps X h vs ds → Reps X' h' vs ds
  | _, _, .nil => .nil
  | _, _, .cons a b => .cons (a.walk k) (b.walk k)
theorem Rep.keep {X : List Addr} {h h' : Heap} {v : Value} {d : D} (r : Rep X h v d) (k : Kp h h') : Rep X h' v d := r.walk fun a o ha e q => ⟨k.keep a o q.fix e, ha⟩
theorem Reps.keep {X : List Addr} {h h' : Heap} {vs : List Value} {ds : List D} (r : Reps X h vs ds) (k : Kp h h') : Reps X h' vs ds := r.walk fun a o ha e q => ⟨k.keep a o q.fix e, ha⟩
theorem Rep.mono {X X' : List Addr} {h : Heap} {v : Value} {d : D} (r : Rep X h v d) (k : ∀ a ∈ X', a ∈ X) : Rep X' h v d := r.walk fun a o ha e _ => ⟨e, fun q => ha (k a q)⟩
theorem Reps.mono {X X' : List Addr} {h : Heap} {vs : List Value} {ds : List D} (r : Reps X h vs ds) (k : ∀ a ∈ X', a ∈ X) : Reps X' h vs ds := r.walk fun a o ha e _ => ⟨e, fun q => ha (k a q)⟩
theorem Reps.length {X : List Addr} {h : Heap} : ∀ {vs : List Value} {ds : List D}, Reps X h vs ds → vs.length = ds.length
  | _, _, .nil => rfl
  | _, _, .cons _ b => by simp [b.length]
theorem Reps.get {X : List Addr} {h : Heap} : ∀ {vs : List Value} {ds : List D} {i : Nat} {d : D}, Reps X h vs ds → ds[i]? = some d → ∃ v, vs[i]? = some v ∧ Rep X h v d
  | _, _, _, _, .nil, e => by simp at e
  | _, _, 0, _, .cons a _, e => by simp at e; subst e; exact ⟨_, rfl, a⟩
  | _, _, i + 1, _, .cons _ b, e => by
    simp only [List.getElem?_cons_succ] at e ⊢
    exact b.get e
theorem Reps.append {X : List Addr} {h : Heap} : ∀ {vs ws : List Value} {ds es : List D}, Reps X h vs ds → Reps X h ws es → Reps X h (vs ++ ws) (ds ++ es)
  | _, _, _, _, .nil, b => b
  | _, _, _, _, .cons a r, b => .cons a (r.append b)
theorem Reps.take {X : List Addr} {h : Heap} : ∀ {vs : List Value} {ds : List D} (n : Nat), Reps X h vs ds → Reps X h (vs.take n) (ds.take n)
  | _, _, 0, _ => by simp only [List.take_zero]; exact .nil
  | _, _, _ + 1, .nil => by simp only [List.take_nil]; exact .nil
  | _, _, n + 1, .cons a r => by simp only [List.take_succ_cons]; exact .cons a (r.take n)
theorem Reps.drop {X : List Addr} {h : Heap} : ∀ {vs : List Value} {ds : List D} (n : Nat), Reps X h vs ds → Reps X h (vs.drop n) (ds.drop n)
  | _, _, 0, r => r
  | _, _, _ + 1, .nil => by simp only [List.drop_nil]; exact .nil
  | _, _, n + 1, .cons a r => by simp only [List.drop_succ_cons]; exact r.drop n
theorem Reps.reverse {X : List Addr} {h : Heap} : ∀ {vs : List Value} {ds : List D}, Reps X h vs ds → Reps X h vs.reverse ds.reverse
  | _, _, .nil => .nil
  | _, _, .cons a r => by simp only [List.reverse_cons]; exact r.reverse.append (.cons a .nil)
/-- what stands in every heap from the top on -/
structure Bs where
  prog : Program
  w : World
  mg : PySem.Str → Option Value
  mb : PySem.Str → Option Value
  K : Frag
  hT : ∀ a o, K.lookup a = some o → a ∉ TT
structure Bs.In (B : Bs) (h : Heap) : Prop where
  K : B.K.In h
  g : h.Ns mainGlobals B.mg
  b : h.Ns builtinsNs B.mb
  lim : h.NoLimit
theorem ns_fix {h h' : Heap} {a : Addr} {m : PySem.Str → Option Value} (x : h.Ns a m) (ha : a ∉ TT) (k : Kp h h') : h'.Ns a m :=
  let ⟨o, es, ep, e, r⟩ := x; ⟨o, es, ep, k.keep _ _ (.inl ha) e, r⟩
theorem Bs.In.keep {B : Bs} {h h' : Heap} (x : B.In h) (k : Kp h h') : B.In h' :=
  ⟨fun a o e => k.keep a o (.inl (B.hT a o e)) (x.K a o e), ns_fix x.g (by decide) k, ns_fix x.b (by decide) k, let ⟨mc, n, r⟩ := x.lim; ⟨mc, ns_fix n (by decide) k, r⟩⟩
theorem Bs.In.full {B : Bs} {h h' : Heap} (x : B.In h) (k : ∀ b o, h.get? b = some o → h'.get? b = some o) : B.In h' := ⟨x.K.keeps k, x.g.keeps k, x.b.keeps k, x.lim.keeps k⟩
/-- a def's activation -/
structure Cx where
  B : Bs
  A : Around
  env : Env
  h₀ : Heap
  X : List Addr
  names : List PySem.Str
  cv : List (PySem.Str × D) := []
  cl : List (PySem.Str × Addr) := []
abbrev Cx.L (C : Cx) : Addr := C.env.locals
noncomputable def Cx.cs (C : Cx) : List Addr := C.cl.map (·.2)
abbrev Cx.M (C : Cx) : Model := model C.B.prog C.B.w
structure St where
  vars : List (Option D)
  objs : List (Addr × List D) := []
noncomputable def St.addrs (σ : St) : List Addr := σ.objs.map (·.1)
noncomputable def Cx.ex (C : Cx) (σ : St) : List Addr := C.L :: (C.X ++ σ.addrs)
structure Wf (C : Cx) : Prop where
  kind : C.env.scope.kind = .function
  gl : C.env.globals = mainGlobals
  bl : C.env.builtins = builtinsNs
  loc : ∀ x ∈ C.names, C.env.kindOf x = some .local
  nd : C.names.Nodup
  base : C.B.In C.h₀
  old : ∀ x ∈ C.X, ∃ o, C.h₀.get? x = some o
  handled : C.A.handled = none
  cons : ∀ x d, (x, d) ∈ C.cv → (C.env.kindOf x = some .cell ∨ C.env.kindOf x = some .free) ∧ ∃ c v, C.env.cells.lookup x = some c ∧ C.h₀.IsCell c (some v) ∧ Rep C.X C.h₀ v d
  cells : ∀ x c, (x, c) ∈ C.cl → C.env.kindOf x = some .cell ∧ C.env.cells.lookup x = some c
/-- what stands at an address of the frame's own: a list, or a cell -/
noncomputable def OwnAt (cs X : List Addr) (h : Heap) (a : Addr) (ds : List D) : Prop :=
  (a ∉ cs ∧ ∃ vs n, h.get? a = some (lob vs n) ∧ Reps X h vs ds) ∨ (a ∈ cs ∧ ∃ o v, h.get? a = some o ∧ o.data = .cell v ∧ Reps X h v.toList ds)
theorem OwnAt.walk {cs X X' : List Addr} {h h' : Heap} {a : Addr} {ds : List D} (x : OwnAt cs X h a ds) (k : ∀ b o, b ∉ X → h.get? b = some o → SeqO o → h'.get? b = some o ∧ b ∉ X') (ka : ∀ o, h.get? a = some o → h'.get? a = some o) : OwnAt cs X' h' a ds := by
  rcases x with ⟨hc, vs, n, e, r⟩ | ⟨hc, o, v, e, hd, r⟩
  · exact .inl ⟨hc, vs, n, ka _ e, r.walk k⟩
  · exact .inr ⟨hc, o, v, ka _ e, hd, r.walk k⟩
theorem OwnAt.obj {cs X : List Addr} {h : Heap} {a : Addr} {ds : List D} (x : OwnAt cs X h a ds) : ∃ o, h.get? a = some o ∧ ∀ vs, o.data ≠ .fields vs := by
  rcases x with ⟨hc, vs, n, e, r⟩ | ⟨hc, o, v, e, hd, r⟩
  · exact ⟨_, e, nofun⟩
  · exact ⟨o, e, fun vs q => by rw [hd] at q; cases q⟩
theorem OwnAt.T {cs X : List Addr} {h : Heap} {a : Addr} {ds : List D} (x : OwnAt cs X h a ds) (t : TabOk h) : a ∉ TT :=
  let ⟨o, e, q⟩ := x.obj; t.ne e (.inr q)
theorem OwnAt.list {cs X : List Addr} {h : Heap} {a : Addr} {ds : List D} (x : OwnAt cs X h a ds) (hc : a ∉ cs) : ∃ vs n, h.get? a = some (lob vs n) ∧ Reps X h vs ds :=
  x.elim (fun q => q.2) fun q => absurd q.1 hc
theorem OwnAt.cell {cs X : List Addr} {h : Heap} {a : Addr} {ds : List D} (x : OwnAt cs X h a ds) (hc : a ∈ cs) : ∃ v, h.IsCell a v ∧ Reps X h v.toList ds :=
  x.elim (fun q => absurd hc q.1) fun ⟨_, o, v, e, hd, r⟩ => ⟨v, ⟨o, e, hd⟩, r⟩
theorem OwnAt.neq {cs X : List Addr} {h : Heap} {a I : Addr} {ds : List D} {o : Obj} (x : OwnAt cs X h a ds) (e : h.get? I = some o) (hs : ¬ SeqO o) (hd : ∀ v, o.data ≠ .cell v) : a ≠ I := by
  rintro rfl
  rcases x with ⟨hc, vs, n, e', r⟩ | ⟨hc, o', v, e', hd', r⟩
  · rw [e] at e'; cases e'; exact hs (.inr (.inl rfl))
  · rw [e] at e'; cases e'; exact hd _ hd'
structure Ok (C : Cx) (h : Heap) (σ : St) : Prop where
  vars : ∃ m, Fr C.h₀ C.L h m ∧ ∀ (i : Nat) x d, C.names[i]? = some x → σ.vars[i]? = some (some d) → ∃ v, m x = some v ∧ Rep (C.ex σ) h v d
  objs : ∀ a ds, (a, ds) ∈ σ.objs → OwnAt C.cs (C.ex σ) h a ds ∧ C.h₀.get? a = none ∧ a ≠ C.L
  nodup : σ.addrs.Nodup
  tab : TabOk h
  gh : ∀ t ∈ TT, C.h₀.get? t = none
theorem NoC.dict {o : Obj} (q : ∃ es ep, o.data = .dict es ep) : NoC o := fun vs e => by obtain ⟨es, ep, q⟩ := q; rw [q] at e; cases e
theorem Ok.fr {C : Cx} {h : Heap} {σ : St} (O : Ok C h σ) : ∃ m, Fr C.h₀ C.L h m := let ⟨m, F, _⟩ := O.vars; ⟨m, F⟩
theorem Ok.kp0 {C : Cx} {h : Heap} {σ : St} (O : Ok C h σ) : ∀ b o, C.h₀.get? b = some o → h.get? b = some o := let ⟨_, F, _⟩ := O.vars; F.keep
theorem TabOk.nsT {h : Heap} (x : TabOk h) {L : Addr} {m : PySem.Str → Option Value} (n : h.Ns L m) : L ∉ TT := by
  obtain ⟨o, es, ep, e, hd, _⟩ := n
  exact x.ne e (.inr fun vs z => by rw [hd] at z; cases z)
theorem gh_fix {h₀ : Heap} (gh : ∀ t ∈ TT, h₀.get? t = none) {b : Addr} {o : Obj} (e : h₀.get? b = some o) : b ∉ TT := fun m => by rw [gh b m] at e; cases e
theorem Fr.kp {h₀ h h' : Heap} {L : Addr} {m : PySem.Str → Option Value} (F : Fr h₀ L h m) (t : TabOk h) (gh : ∀ t ∈ TT, h₀.get? t = none) (k : Kp h h') : Fr h₀ L h' m :=
  ⟨ns_fix F.ns (t.nsT F.ns) k, fun b o e => k.keep b o (.inl (gh_fix gh e)) (F.keep b o e), F.above⟩
theorem Ok.keep {C : Cx} {h h' : Heap} {σ : St} (O : Ok C h σ) (k : Kp h h') : Ok C h' σ := by
  obtain ⟨⟨m, F, hv⟩, ho, hn, ht, hg⟩ := O
  refine ⟨⟨m, Fr.kp F ht hg k, fun i x d h1 h2 => ?_⟩, fun a ds h1 => ?_, hn, k.tab ht, hg⟩
  · obtain ⟨v, e, r⟩ := hv i x d h1 h2
    exact ⟨v, e, r.keep k⟩
  · obtain ⟨r, q⟩ := ho a ds h1
    exact ⟨r.walk (fun b o hb e q => ⟨k.keep b o q.fix e, hb⟩) (fun o e => k.keep _ _ (.inl (r.T ht)) e), q⟩
theorem Ok.base {C : Cx} {h : Heap} {σ : St} (W : Wf C) (O : Ok C h σ) : C.B.In h := W.base.full O.kp0
theorem Ok.live {C : Cx} {h : Heap} {σ : St} (W : Wf C) (O : Ok C h σ) : ∀ x ∈ C.ex σ, x ∉ TT ∧ ∃ o, h.get? x = some o := by
  intro x hx
  rcases List.mem_cons.mp hx with rfl | hx
  · obtain ⟨m, F, _⟩ := O.vars
    refine ⟨O.tab.nsT F.ns, ?_⟩
    obtain ⟨o, _, _, e, _⟩ := F.ns
    exact ⟨o, e⟩
  rcases List.mem_append.mp hx with hx | hx
  · obtain ⟨o, e⟩ := W.old x hx
    exact ⟨gh_fix O.gh e, o, O.kp0 _ _ e⟩
  · obtain ⟨p, hp, rfl⟩ := List.mem_map.mp hx
    obtain ⟨r, _⟩ := O.objs p.1 p.2 hp
    obtain ⟨o, e, _⟩ := r.obj
    exact ⟨r.T O.tab, o, e⟩
abbrev sh' (s : Shared) (h : Heap) (t : Nat) : Shared := { s with heap := h, toks := t }
/-- an expression yields a datum and keeps what stands -/
structure Ev (C : Cx) (σ : St) (e : Expr) (d : D) : Prop where
  run : ∀ (s : Shared) (Q : Value → Shared → Prop) (E : Value → Shared → Prop), Ok C s.heap σ → (∀ v h' t', Kp s.heap h' → Rep (C.ex σ) h' v d → Q v { s with heap := h', toks := t' }) → wpAny C.M C.A (eval e C.env) Q E s
theorem Ok.old_no {C : Cx} {h : Heap} {σ : St} (O : Ok C h σ) {a : Addr} {o : Obj} (ha : a ∉ C.X) (e : C.h₀.get? a = some o) : a ∉ C.ex σ := fun m => by
  rcases List.mem_cons.mp m with rfl | m
  · obtain ⟨_, F, _⟩ := O.vars
    exact absurd (Heap.lt_size e) (Nat.not_lt.mpr F.above)
  rcases List.mem_append.mp m with m | m
  · exact ha m
  · obtain ⟨p, hp, rfl⟩ := List.mem_map.mp m
    obtain ⟨_, q, _⟩ := O.objs p.1 p.2 hp
    rw [q] at e; cases e
/-- a test -/
structure Ts (C : Cx) (σ : St) (e : Expr) (b : Bool) : Prop where
  run : ∀ (s : Shared) (Q : Bool → Shared → Prop) (E : Value → Shared → Prop), Ok C s.heap σ → (∀ h' t', Kp s.heap h' → Q b { s with heap := h', toks := t' }) → wpAny C.M C.A (isTrue e C.env (eval e C.env)) Q E s
noncomputable def notSet : Expr → Bool
  | .Set _ _ _ => false
  | _ => true
noncomputable def notSlice : Expr → Bool
  | .Slice _ _ _ _ => false
  | _ => true
noncomputable def noComp : Expr → Bool
  | .ListComp _ _ _ _ => false
  | .SetComp _ _ _ _ => false
  | .DictComp _ _ _ _ _ => false
  | _ => true
noncomputable def noTuple : Expr → Bool
  | .Tuple _ _ _ => false
  | _ => true
theorem marks_of {e : Expr} (h : notSet e = true) (op : CmpOp) : behindInMarks op e = false := by cases e <;> first | rfl | cases h
theorem folded_of {e : Expr} (h : notSet e = true) (env : Env) (x : Value) : foldedSetIterable e env x = pure x := by cases e <;> first | rfl | cases h
theorem sub_of {e : Expr} (h : notSlice e = true) (o i : Value) : subscripted e false o i = operate [o, i] (getItem o i) := by cases e <;> first | rfl | cases h
theorem swaps_of {e : Expr} (h : noComp e = true) (t : Option Expr) (n : Nat) (env : Env) : swapsWith e t n env = pure false := by cases e <;> first | rfl | cases h
theorem sole_of {e : Expr} (h : noComp e = true) (t : Expr) (n : Nat) (env : Env) : swapsWithSole [t] e n env = pure false := swaps_of h _ _ _
theorem stores_of {e : Expr} (h : noTuple e = true) (ts : List Expr) (env : Env) : swappedStores ts e env = pure none := by
  unfold swappedStores
  split
  · rename_i q
    split at q
    · cases h
    · cases h
    · cases q
  · rfl
section
variable {C : Cx} {σ : St}
theorem ev_int {i : Int} {k : Nat} {p : Pos} : Ev C σ (.Constant (.int i) k p) (.int i) := .mk fun s Q E O h => wpAny_Constant_int (h _ s.heap _ Kp.refl (.int i _))
theorem ev_str {x : PySem.Str} {k : Nat} {p : Pos} : Ev C σ (.Constant (.str x) k p) (.str x) := .mk fun s Q E O h => wpAny_Constant_str (h _ s.heap _ Kp.refl (.str x _))
theorem ev_none {k : Nat} {p : Pos} : Ev C σ (.Constant .none k p) .none := .mk fun s Q E O h => wpAny_Constant_none (h _ s.heap s.toks Kp.refl .none)
theorem ev_bool {b : Bool} {k : Nat} {p : Pos} : Ev C σ (.Constant (.bool b) k p) (.bool b) := .mk fun s Q E O h => wpAny_Constant_bool (h _ s.heap s.toks Kp.refl (.bool b))
theorem ev_name (W : Wf C) {x : PySem.Str} {p : Pos} {d : D} (i : Nat) (hx : C.names[i]? = some x) (hd : σ.vars[i]? = some (some d)) (hb : (x == ("__debug__" : PySem.Str)) = false := by rfl) : Ev C σ (.Name x p) d := .mk fun s Q E O h => by
  obtain ⟨m, F, hv⟩ := O.vars
  obtain ⟨v, e, r⟩ := hv i x d hx hd
  exact wpAny_Name (wpAny_loadName_local W.kind (W.loc x (List.mem_of_getElem? hx)) F.ns e (h v s.heap s.toks Kp.refl r)) hb
theorem ev_cons (W : Wf C) {x : PySem.Str} {p : Pos} {d : D} (hd : (x, d) ∈ C.cv) (hb : (x == ("__debug__" : PySem.Str)) = false := by rfl) (hc : (x == ("__classdict__" : PySem.Str)) = false := by rfl) : Ev C σ (.Name x p) d := .mk fun s Q E O h => by
  obtain ⟨hk, c, v, h1, hc0, r₀⟩ := W.cons x d hd
  have hcell : s.heap.IsCell c (some v) := hc0.keeps O.kp0
  have r : Rep (C.ex σ) s.heap v d := r₀.walk fun a o ha e q => ⟨O.kp0 a o e, O.old_no ha e⟩
  refine wpAny_Name ?_ hb
  rcases hk with hk | hk
  · exact wpAny_loadName_cell W.kind hk h1 hcell (h v s.heap s.toks Kp.refl r)
  · exact wpAny_loadName_free W.kind hk h1 hcell (h v s.heap s.toks Kp.refl r) hc
/-- a variable that comprehensions read -/
theorem ev_cell (W : Wf C) {x : PySem.Str} {c : Addr} {p : Pos} {d : D} (hx : (x, c) ∈ C.cl) (hd : (c, [d]) ∈ σ.objs) (hb : (x == ("__debug__" : PySem.Str)) = false := by rfl) : Ev C σ (.Name x p) d := .mk fun s Q E O h => by
  obtain ⟨hk, hl⟩ := W.cells x c hx
  obtain ⟨r, _⟩ := O.objs c [d] hd
  obtain ⟨v, hc, rs⟩ := r.cell (List.mem_map_of_mem (f := (·.2)) hx)
  cases v with
  | none => cases rs
  | some v =>
    cases rs with
    | cons r _ => exact wpAny_Name (wpAny_loadName_cell W.kind hk hl hc (h v s.heap s.toks Kp.refl r)) hb
/-- an operator on two data -/
theorem ev_bin {op : Operator} {a b : Expr} {p : Pos} {x y z : D} (ha : Ev C σ a x) (hb : Ev C σ b y)
    (ho : ∀ (s : Shared) (Q E : Value → Shared → Prop) (v u : Value), Ok C s.heap σ → Rep (C.ex σ) s.heap v x → Rep (C.ex σ) s.heap u y → (∀ v h' t', Kp s.heap h' → Rep (C.ex σ) h' v z → Q v { s with heap := h', toks := t' }) → wpAny C.M C.A (binaryOp op v u) Q E s) :
    Ev C σ (.BinOp a op b p) z := .mk fun s Q E O h =>
  wpAny_BinOp (ha.run s _ E O fun v h₁ t₁ k₁ r₁ => hb.run _ _ E (O.keep k₁) fun u h₂ t₂ k₂ r₂ => ho _ _ _ v u ((O.keep k₁).keep k₂) (r₁.keep k₂) r₂ fun z h₃ t₃ k₃ r₃ => h z h₃ t₃ (k₁.trans (k₂.trans k₃)) r₃)
theorem ev_add {a b : Expr} {p : Pos} {x y : Int} (ha : Ev C σ a (.int x)) (hb : Ev C σ b (.int y)) : Ev C σ (.BinOp a .Add b p) (.int (x + y)) :=
  ev_bin ha hb fun s Q E v u O r1 r2 h => by cases r1; cases r2; exact P.add_int (h _ _ _ Kp.refl (.int _ _))
theorem ev_sub {a b : Expr} {p : Pos} {x y : Int} (ha : Ev C σ a (.int x)) (hb : Ev C σ b (.int y)) : Ev C σ (.BinOp a .Sub b p) (.int (x - y)) :=
  ev_bin ha hb fun s Q E v u O r1 r2 h => by cases r1; cases r2; exact P.sub_int (h _ _ _ Kp.refl (.int _ _))
theorem ev_mul {a b : Expr} {p : Pos} {x y : Int} (ha : Ev C σ a (.int x)) (hb : Ev C σ b (.int y)) (hm : IntMulOk x y) : Ev C σ (.BinOp a .Mult b p) (.int (x * y)) :=
  ev_bin ha hb fun s Q E v u O r1 r2 h => by cases r1; cases r2; exact P.mul_int (h _ _ _ Kp.refl (.int _ _)) hm
theorem ev_mod {a b : Expr} {p : Pos} {x y : Int} (ha : Ev C σ a (.int x)) (hb : Ev C σ b (.int y)) (h0 : y ≠ 0) : Ev C σ (.BinOp a .Mod b p) (.int (x.fmod y)) :=
  ev_bin ha hb fun s Q E v u O r1 r2 h => by cases r1; cases r2; exact mod_int' h0 (h _ _ _ Kp.refl (.int _ _))
theorem ev_div {a b : Expr} {p : Pos} {x y : Int} (ha : Ev C σ a (.int x)) (hb : Ev C σ b (.int y)) (h0 : y ≠ 0) (hp : Builtin.divisionGoesByPylong x y = false) : Ev C σ (.BinOp a .FloorDiv b p) (.int (x.fdiv y)) :=
  ev_bin ha hb fun s Q E v u O r1 r2 h => by cases r1; cases r2; exact floordiv_int h0 (h _ _ _ Kp.refl (.int _ _)) (.inl hp)
theorem ev_shl {a b : Expr} {p : Pos} {x n : Int} (ha : Ev C σ a (.int x)) (hb : Ev C σ b (.int n)) (h0 : 0 ≤ n) (hz : (Builtin.Int.intBits x : Int) + n ≤ 2 ^ 27) : Ev C σ (.BinOp a .LShift b p) (.int (x * 2 ^ n.toNat)) :=
  ev_bin ha hb fun s Q E v u O r1 r2 h => by cases r1; cases r2; exact lshift_int h0 hz (h _ _ _ Kp.refl (.int _ _))
theorem ev_shr {a b : Expr} {p : Pos} {x n : Int} (ha : Ev C σ a (.int x)) (hb : Ev C σ b (.int n)) (h0 : 0 ≤ n) : Ev C σ (.BinOp a .RShift b p) (.int (x.fdiv (2 ^ n.toNat))) :=
  ev_bin ha hb fun s Q E v u O r1 r2 h => by cases r1; cases r2; exact rshift_int h0 (h _ _ _ Kp.refl (.int _ _))
theorem ev_and {a b : Expr} {p : Pos} {x y : Int} (ha : Ev C σ a (.int x)) (hb : Ev C σ b (.int y)) : Ev C σ (.BinOp a .BitAnd b p) (.int (Builtin.bitAnd x y)) :=
  ev_bin ha hb fun s Q E v u O r1 r2 h => by cases r1; cases r2; exact and_int (h _ _ _ Kp.refl (.int _ _))
theorem ev_or {a b : Expr} {p : Pos} {x y : Int} (ha : Ev C σ a (.int x)) (hb : Ev C σ b (.int y)) : Ev C σ (.BinOp a .BitOr b p) (.int (Builtin.bitOr x y)) :=
  ev_bin ha hb fun s Q E v u O r1 r2 h => by cases r1; cases r2; exact or_int (h _ _ _ Kp.refl (.int _ _))
theorem ev_xor {a b : Expr} {p : Pos} {x y : Int} (ha : Ev C σ a (.int x)) (hb : Ev C σ b (.int y)) : Ev C σ (.BinOp a .BitXor b p) (.int (Builtin.bitXor x y)) :=
  ev_bin ha hb fun s Q E v u O r1 r2 h => by cases r1; cases r2; exact xor_int (h _ _ _ Kp.refl (.int _ _))
theorem ev_pow {a b : Expr} {p : Pos} {x n : Int} (ha : Ev C σ a (.int x)) (hb : Ev C σ b (.int n)) (h0 : 0 ≤ n) (hz : (Builtin.Int.intBits x : Int) * n ≤ 2 ^ 27) : Ev C σ (.BinOp a .Pow b p) (.int (x ^ n.toNat)) :=
  ev_bin ha hb fun s Q E v u O r1 r2 h => by cases r1; cases r2; exact pow_int h0 hz (h _ _ _ Kp.refl (.int _ _))
theorem ev_neg {a : Expr} {p : Pos} {x : Int} (ha : Ev C σ a (.int x)) : Ev C σ (.UnaryOp .USub a p) (.int (-x)) := .mk fun s Q E O h =>
  wpAny_UnaryOp (ha.run s _ E O fun v h₁ t₁ k₁ r₁ => by cases r₁; exact P.neg_int (h _ _ _ k₁ (.int _ _)))
theorem ev_inv {a : Expr} {p : Pos} {x : Int} (ha : Ev C σ a (.int x)) : Ev C σ (.UnaryOp .Invert a p) (.int (Builtin.bitNot x)) := .mk fun s Q E O h =>
  wpAny_UnaryOp (ha.run s _ E O fun v h₁ t₁ k₁ r₁ => by cases r₁; exact invert_int (h _ _ _ k₁ (.int _ _)))
theorem ev_adds {a b : Expr} {p : Pos} {x y : PySem.Str} (ha : Ev C σ a (.str x)) (hb : Ev C σ b (.str y)) (hz : (x ++ y).length ≤ sizeLine) : Ev C σ (.BinOp a .Add b p) (.str (x ++ y)) :=
  ev_bin ha hb fun s Q E v u O r1 r2 h => by
    cases r1; cases r2
    refine P.add_str ?_
    split
    · rename_i e
      have : x = ⟨#[]⟩ := by
        obtain ⟨c⟩ := x
        have : c.size = 0 := by simpa [PySem.Str.length] using e
        rw [Array.eq_empty_of_size_eq_zero this]
      subst this
      have : (⟨#[]⟩ : PySem.Str) ++ y = y := PySem.Str.empty_append y
      rw [this] at h
      exact h _ s.heap s.toks Kp.refl (.str _ _)
    · split
      · rename_i e
        have : y = ⟨#[]⟩ := by
          obtain ⟨c⟩ := y
          have : c.size = 0 := by simpa [PySem.Str.length] using e
          rw [Array.eq_empty_of_size_eq_zero this]
        subst this
        have : x ++ (⟨#[]⟩ : PySem.Str) = x := PySem.Str.append_empty x
        rw [this] at h
        exact h _ s.heap s.toks Kp.refl (.str _ _)
      · exact ⟨hz, h _ _ _ Kp.refl (.str _ _)⟩
end
end Mine
-- part V2
namespace Mine
section
variable {C : Cx} {σ : St}
/-- a comparison of two data -/
abbrev CmpOn (C : Cx) (σ : St) (op : CmpOp) (x y : D) (b : Bool) : Prop :=
  ∀ (s : Shared) (Q E : Value → Shared → Prop) (v u : Value), Ok C s.heap σ → Rep (C.ex σ) s.heap v x → Rep (C.ex σ) s.heap u y → (∀ h' t', Kp s.heap h' → Q (.bool b) { s with heap := h', toks := t' }) → wpAny C.M C.A (compareOp op v u) Q E s
theorem ev_cmp {op : CmpOp} {a b : Expr} {p : Pos} {x y : D} {r : Bool} (ha : Ev C σ a x) (hb : Ev C σ b y) (ho : CmpOn C σ op x y r) (hm : notSet b = true := by rfl) : Ev C σ (.Compare a [op] [b] p) (.bool r) := .mk fun s Q E O h =>
  wpAny_Compare1 (ha.run s _ E O fun v h₁ t₁ k₁ r₁ => hb.run _ _ E (O.keep k₁) fun u h₂ t₂ k₂ r₂ => ho _ _ _ v u ((O.keep k₁).keep k₂) (r₁.keep k₂) r₂ fun h₃ t₃ k₃ => h _ h₃ t₃ (k₁.trans (k₂.trans k₃)) (.bool _)) (marks_of hm _)
theorem ts_cmp {op : CmpOp} {a b : Expr} {p : Pos} {x y : D} {r : Bool} (ha : Ev C σ a x) (hb : Ev C σ b y) (ho : CmpOn C σ op x y r) (hm : notSet b = true := by rfl) : Ts C σ (.Compare a [op] [b] p) r := .mk fun s Q E O h =>
  wpAny_isTrue_Compare1 (ha.run s _ E O fun v h₁ t₁ k₁ r₁ => hb.run _ _ E (O.keep k₁) fun u h₂ t₂ k₂ r₂ => ho _ _ _ v u ((O.keep k₁).keep k₂) (r₁.keep k₂) r₂ fun h₃ t₃ k₃ => wpAny_truthy_bool (h h₃ t₃ (k₁.trans (k₂.trans k₃)))) (marks_of hm _)
theorem co_eq {x y : Int} : CmpOn C σ .Eq (.int x) (.int y) (x == y) := fun s Q E v u O r1 r2 h => by cases r1; cases r2; exact P.eq_int (h _ _ Kp.refl)
theorem co_ne {x y : Int} : CmpOn C σ .NotEq (.int x) (.int y) (x != y) := fun s Q E v u O r1 r2 h => by cases r1; cases r2; exact P.ne_int (h _ _ Kp.refl)
theorem co_lt {x y : Int} : CmpOn C σ .Lt (.int x) (.int y) (decide (x < y)) := fun s Q E v u O r1 r2 h => by cases r1; cases r2; exact P.lt_int (h _ _ Kp.refl)
theorem co_le {x y : Int} : CmpOn C σ .LtE (.int x) (.int y) (decide (x ≤ y)) := fun s Q E v u O r1 r2 h => by cases r1; cases r2; exact P.le_int (h _ _ Kp.refl)
theorem co_gt {x y : Int} : CmpOn C σ .Gt (.int x) (.int y) (decide (x > y)) := fun s Q E v u O r1 r2 h => by cases r1; cases r2; exact P.gt_int (h _ _ Kp.refl)
theorem str_beq (x y : PySem.Str) : (x.cps.toList == y.cps.toList) = (x == y) := by
  obtain ⟨⟨x⟩⟩ := x; obtain ⟨⟨y⟩⟩ := y
  by_cases h : x = y
  · subst h; simp
  · have e1 : (x == y) = false := by simpa using h
    have e2 : ((⟨⟨x⟩⟩ : PySem.Str) == ⟨⟨y⟩⟩) = false := by
      simp only [beq_eq_false_iff_ne, ne_eq, PySem.Str.mk.injEq, Array.mk.injEq]; exact h
    simp only [e1, e2]
theorem co_eqs {x y : PySem.Str} : CmpOn C σ .Eq (.str x) (.str y) (x == y) := fun s Q E v u O r1 r2 h => by
  cases r1; cases r2
  refine P.eq_str ?_
  rw [str_beq]; exact h _ _ Kp.refl
theorem co_nes {x y : PySem.Str} : CmpOn C σ .NotEq (.str x) (.str y) (!(x == y)) := fun s Q E v u O r1 r2 h => by
  cases r1; cases r2
  refine P.ne_str ?_
  show Q (.bool (!(_ == _))) s
  rw [str_beq]; exact h _ _ Kp.refl
/-- the truth of a value -/
abbrev TruthOn (C : Cx) (σ : St) (x : D) (b : Bool) : Prop :=
  ∀ (s : Shared) (Q : Bool → Shared → Prop) (E : Value → Shared → Prop) (v : Value), Ok C s.heap σ → Rep (C.ex σ) s.heap v x → (∀ h' t', Kp s.heap h' → Q b { s with heap := h', toks := t' }) → wpAny C.M C.A (truthy v) Q E s
theorem tr_int {x : Int} : TruthOn C σ (.int x) (x != 0) := fun s Q E v O r h => by cases r; exact P.truthy_int (h _ _ Kp.refl)
theorem tr_bool {x : Bool} : TruthOn C σ (.bool x) x := fun s Q E v O r h => by cases r; exact wpAny_truthy_bool (h _ _ Kp.refl)
/-- a test by a value's truth -/
theorem ts_val {e : Expr} {x : D} {b : Bool} (ha : Ev C σ e x) (ht : TruthOn C σ x b) (he : ∀ whole, isTrue e C.env whole = (do let v ← whole; standAt e.pos; holding [v] (truthy v)) := by intro _; rfl) : Ts C σ e b := .mk fun s Q E O h =>
  wpAny_isTrue_value (ha.run s _ E O fun v h₁ t₁ k₁ r₁ => ht _ _ E v (O.keep k₁) r₁ fun h₂ t₂ k₂ => h h₂ t₂ (k₁.trans k₂)) (he _)
theorem ts_not {e : Expr} {p : Pos} {b : Bool} (ha : Ts C σ e b) : Ts C σ (.UnaryOp .Not e p) (!b) := .mk fun s Q E O h =>
  wpAny_isTrue_Not (ha.run s _ E O h)
structure TsL (C : Cx) (σ : St) (op : BoolOp) (es : List Expr) (b : Bool) : Prop where
  run : ∀ (s : Shared) (Q : Bool → Shared → Prop) (E : Value → Shared → Prop), Ok C s.heap σ → (∀ h' t', Kp s.heap h' → Q b { s with heap := h', toks := t' }) → wpAny C.M C.A (allTrue op es C.env) Q E s
theorem tsl_and_nil : TsL C σ .And [] true := .mk fun s Q E O h => wpAny_allTrue_And_nil (h _ _ Kp.refl)
theorem tsl_or_nil : TsL C σ .Or [] false := .mk fun s Q E O h => wpAny_allTrue_Or_nil (h _ _ Kp.refl)
theorem tsl_and {e : Expr} {es : List Expr} {a b : Bool} (ha : Ts C σ e a) (hb : a = true → TsL C σ .And es b) : TsL C σ .And (e :: es) (a && b) := .mk fun s Q E O h =>
  wpAny_allTrue_And_cons (ha.run s _ E O fun h₁ t₁ k₁ => by
    cases a with
    | false => exact h h₁ t₁ k₁
    | true => exact (hb rfl).run _ _ E (O.keep k₁) fun h₂ t₂ k₂ => h h₂ t₂ (k₁.trans k₂))
theorem tsl_or {e : Expr} {es : List Expr} {a b : Bool} (ha : Ts C σ e a) (hb : a = false → TsL C σ .Or es b) : TsL C σ .Or (e :: es) (a || b) := .mk fun s Q E O h =>
  wpAny_allTrue_Or_cons (ha.run s _ E O fun h₁ t₁ k₁ => by
    cases a with
    | true => exact h h₁ t₁ k₁
    | false => exact (hb rfl).run _ _ E (O.keep k₁) fun h₂ t₂ k₂ => h h₂ t₂ (k₁.trans k₂))
theorem ts_bool {op : BoolOp} {es : List Expr} {p : Pos} {b : Bool} (h : TsL C σ op es b) : Ts C σ (.BoolOp op es p) b := .mk fun s Q E O k => wpAny_isTrue_BoolOp (h.run s Q E O k)
theorem ev_ite {t a b : Expr} {p : Pos} {c : Bool} {d : D} (ht : Ts C σ t c) (ha : c = true → Ev C σ a d) (hb : c = false → Ev C σ b d) : Ev C σ (.IfExp t a b p) d := .mk fun s Q E O h =>
  wpAny_IfExp (ht.run s _ E O fun h₁ t₁ k₁ => by
    cases c with
    | true => exact (ha rfl).run _ _ E (O.keep k₁) fun v h₂ t₂ k₂ => h v h₂ t₂ (k₁.trans k₂)
    | false => exact (hb rfl).run _ _ E (O.keep k₁) fun v h₂ t₂ k₂ => h v h₂ t₂ (k₁.trans k₂))
noncomputable def nst : Expr → Bool
  | .Starred _ _ => false
  | _ => true
noncomputable def nsts : List Expr → Bool
  | [] => true
  | e :: es => nst e && nsts es
theorem star_cons {e : Expr} {es : List Expr} (h : nst e = true) (env : Env) : starEach (e :: es) env = (false, eval e env) :: starEach es env := by
  cases e <;> first | rfl | cases h
theorem star_any : ∀ {es : List Expr} (h : nsts es = true) (q : Pos) (env : Env), (backTo q (starEach es env)).any (·.1) = false
  | [], _, _, _ => rfl
  | e :: es, h, q, env => by
    simp only [nsts, Bool.and_eq_true] at h
    have := star_any h.2 q env
    rw [star_cons h.1]
    simpa [backTo] using this
/-- several expressions, from the left -/
structure Evs (C : Cx) (σ : St) (es : List Expr) (ds : List D) : Prop where
  run : ∀ (q : Pos) (s : Shared) (Q : List Value → Shared → Prop) (E : Value → Shared → Prop), Ok C s.heap σ → (∀ vs h' t', Kp s.heap h' → Reps (C.ex σ) h' vs ds → Q vs { s with heap := h', toks := t' }) → wpAny C.M C.A (spliced (backTo q (starEach es C.env))) Q E s
theorem evs_nil : Evs C σ [] [] := .mk fun q s Q E O h => spliced_nil (h _ _ _ Kp.refl .nil)
theorem evs_cons {e : Expr} {es : List Expr} {d : D} {ds : List D} (he : Ev C σ e d) (hs : Evs C σ es ds) (hn : nst e = true := by rfl) : Evs C σ (e :: es) (d :: ds) := .mk fun q s Q E O h => by
  rw [star_cons hn]
  exact spliced_cons (he.run s _ E O fun v h₁ t₁ k₁ r₁ => hs.run q _ _ E (O.keep k₁) fun vs h₂ t₂ k₂ r₂ => h _ h₂ t₂ (k₁.trans k₂) (.cons (r₁.keep k₂) r₂))
theorem Ok.freshA {h : Heap} (W : Wf C) (O : Ok C h σ) : h.objs.size ∉ C.ex σ := fun q => by
  obtain ⟨_, o, e⟩ := O.live W _ q
  exact absurd (Heap.lt_size e) (Nat.lt_irrefl _)
theorem ev_tuple (W : Wf C) {es : List Expr} {k : Nat} {p : Pos} {ds : List D} (hs : Evs C σ es ds) (hz : Nat.ble ds.length 1000 = true := by kernel_rfl) : Ev C σ (.Tuple es k p) (.tup ds) := .mk fun s Q E O h =>
  Tuple_ (hs.run p s _ E O fun vs h₁ t₁ k₁ r₁ => by
    have O₁ := O.keep k₁
    refine wpAny_newObj_type (h _ _ _ (k₁.trans Kp.push) (.tup (vs := vs) ⟨_, Heap.get?_push_size _ rfl, rfl, _, rfl⟩ (O₁.freshA W) (r₁.keep Kp.push))) ?_
    show vs.toArray.size ≤ sizeLine
    rw [List.size_toArray, r₁.length, sizeLine_eq]; have := Nat.le_of_ble_eq_true hz; omega)
theorem ev_list (W : Wf C) {es : List Expr} {p : Pos} {ds : List D} (hs : Evs C σ es ds) (hz : Nat.ble ds.length 1000 = true := by kernel_rfl) : Ev C σ (.List es p) (.lst ds) := .mk fun s Q E O h =>
  List_ (hs.run p s _ E O fun vs h₁ t₁ k₁ r₁ => by
    have O₁ := O.keep k₁
    refine wpAny_newObj_type (h _ _ _ (k₁.trans Kp.push) (.lst (vs := vs) ⟨_, Heap.get?_push_size _ rfl, rfl, _, rfl⟩ (O₁.freshA W) (r₁.keep Kp.push))) ?_
    show vs.toArray.size ≤ sizeLine
    rw [List.size_toArray, r₁.length, sizeLine_eq]; have := Nat.le_of_ble_eq_true hz; omega)
/-- a built-in function by its name -/
theorem name_builtin (W : Wf C) {x : PySem.Str} {p : Pos} {v : Value} {s : Shared} {Q E : Value → Shared → Prop} (O : Ok C s.heap σ) (hk : C.env.kindOf x = some .globalImplicit) (hg : C.B.mg x = none) (hb : C.B.mb x = some v) (h : Q v s) (hd : (x == ("__debug__" : PySem.Str)) = false := by rfl) :
    wpAny C.M C.A (eval (.Name x p) C.env) Q E s :=
  have Bh := O.base W
  Name_function_global W.kind hk (loadGlobal_builtin (env := C.env) (by rw [W.gl]; exact Bh.g) hg (by rw [W.bl]; exact Bh.b) hb h) hd
theorem name_global (W : Wf C) {x : PySem.Str} {p : Pos} {v : Value} {s : Shared} {Q E : Value → Shared → Prop} (O : Ok C s.heap σ) (hk : C.env.kindOf x = some .globalImplicit) (hg : C.B.mg x = some v) (h : Q v s) (hd : (x == ("__debug__" : PySem.Str)) = false := by rfl) :
    wpAny C.M C.A (eval (.Name x p) C.env) Q E s :=
  have Bh := O.base W
  Name_function_global W.kind hk (loadGlobal_global (env := C.env) (by rw [W.gl]; exact Bh.g) hg h) hd
theorem ev_gint (W : Wf C) {x : PySem.Str} {p : Pos} {i : Int} {t : Tok} (hk : C.env.kindOf x = some .globalImplicit) (hg : C.B.mg x = some (.int i t)) (hd : (x == ("__debug__" : PySem.Str)) = false := by rfl) : Ev C σ (.Name x p) (.int i) := .mk fun s Q E O h =>
  name_global W O hk hg (h _ s.heap s.toks Kp.refl (.int _ _)) hd
/-- a call of a built-in function that has a name -/
theorem ev_call_builtin (W : Wf C) {x : PySem.Str} {p q : Pos} {id : String} {e : Expr} {es : List Expr} {ds : List D} {r : D} (hk : C.env.kindOf x = some .globalImplicit) (hg : C.B.mg x = none) (hb : C.B.mb x = some (.builtin id)) (hs : Evs C σ (e :: es) ds)
    (hc : ∀ (s : Shared) (Q E : Value → Shared → Prop) (vs : List Value), Ok C s.heap σ → Reps (C.ex σ) s.heap vs ds → (∀ v h' t', Kp s.heap h' → Rep (C.ex σ) h' v r → Q v { s with heap := h', toks := t' }) → wpAny C.M C.A (call (.builtin id) vs) Q E s)
    (hn : nsts (e :: es) = true := by rfl) (hd : (x == ("__debug__" : PySem.Str)) = false := by rfl) :
    Ev C σ (.Call (.Name x p) (e :: es) [] q) r := .mk fun s Q E O h => by
  refine Call_Name rfl (name_builtin W O hk hg hb ?_ hd)
  refine callWith_builtin (star_any hn _ _) ?_
  have := hs.run q s (fun vs s' => wpAny C.M C.A (call (.builtin id) ([] ++ vs) []) Q E s') E O fun vs h₁ t₁ k₁ r₁ => hc { s with heap := h₁, toks := t₁ } _ _ vs (O.keep k₁) r₁ fun v h₂ t₂ k₂ r₂ => h v h₂ t₂ (k₁.trans k₂) r₂
  rw [star_cons (Bool.and_eq_true_iff.mp hn).1] at this ⊢
  exact evalArgs_plain this
theorem ev_call_type (W : Wf C) {x : PySem.Str} {p q : Pos} {T : String} {e : Expr} {es : List Expr} {ds : List D} {r : D} (hk : C.env.kindOf x = some .globalImplicit) (hg : C.B.mg x = none) (hb : C.B.mb x = some (.type T)) (hs : Evs C σ (e :: es) ds)
    (hc : ∀ (s : Shared) (Q E : Value → Shared → Prop) (vs : List Value), Ok C s.heap σ → Reps (C.ex σ) s.heap vs ds → (∀ v h' t', Kp s.heap h' → Rep (C.ex σ) h' v r → Q v { s with heap := h', toks := t' }) → wpAny C.M C.A (call (.type T) vs) Q E s)
    (hn : nsts (e :: es) = true := by rfl) (hd : (x == ("__debug__" : PySem.Str)) = false := by rfl) :
    Ev C σ (.Call (.Name x p) (e :: es) [] q) r := .mk fun s Q E O h => by
  refine Call_Name rfl (name_builtin W O hk hg hb ?_ hd)
  refine PyProof.Rows.callWith_type (star_any hn _ _) ?_
  have := hs.run q s (fun vs s' => wpAny C.M C.A (call (.type T) ([] ++ vs) []) Q E s') E O fun vs h₁ t₁ k₁ r₁ => hc { s with heap := h₁, toks := t₁ } _ _ vs (O.keep k₁) r₁ fun v h₂ t₂ k₂ r₂ => h v h₂ t₂ (k₁.trans k₂) r₂
  rw [star_cons (Bool.and_eq_true_iff.mp hn).1] at this ⊢
  exact evalArgs_plain this
/-- what a def of the text gives for data, k frames deep -/
structure Fn (B : Bs) (f : Addr) (k : Nat) (ds : List D) (r : D) : Prop where
  run : ∀ (A : Around) (s : Shared) (X : List Addr) (vs : List Value) (Q E : Value → Shared → Prop), B.In s.heap → TabOk s.heap → (∀ x ∈ X, x ∉ TT ∧ ∃ o, s.heap.get? x = some o) → Reps X s.heap vs ds → A.handled = none → A.depth + k < recursionLimit → A.units + 8 * k < cLine →
    (∀ v h' t', Kp s.heap h' → Rep X h' v r → Q v { s with heap := h', toks := t' }) → wpAny (model B.prog B.w) A (call (.ref f) vs) Q E s
theorem Fn.le {B : Bs} {f : Addr} {k j : Nat} {ds : List D} {r : D} (h : Fn B f k ds r) (hk : k ≤ j) : Fn B f j ds r := .mk fun A s X vs Q E b tb x v hh hd hu q => h.run A s X vs Q E b tb x v hh (by omega) (by omega) q
theorem ev_call_def (W : Wf C) {x : PySem.Str} {p q : Pos} {f : Addr} {k : Nat} {o : Obj} {fd : FuncData} {e : Expr} {es : List Expr} {ds : List D} {r : D} (hk : C.env.kindOf x = some .globalImplicit) (hg : C.B.mg x = some (.ref f)) (ho : C.B.K.lookup f = some o) (hf : o.data = .func fd) (hs : Evs C σ (e :: es) ds)
    (hc : Fn C.B f k ds r) (hd1 : C.A.depth + k < recursionLimit) (hu1 : C.A.units + 8 * k < cLine)
    (hn : nst e = true := by rfl) (hd : (x == ("__debug__" : PySem.Str)) = false := by rfl) :
    Ev C σ (.Call (.Name x p) (e :: es) [] q) r := .mk fun s Q E O h => by
  refine Call_Name rfl (name_global W O hk hg ?_ hd)
  refine callWith_function (o := o) (fd := fd) ?_
  have := hs.run q s (fun vs s' => (s'.heap.get? f = some o ∧ o.data = .func fd) ∧ wpAny C.M C.A (call (.ref f) ([] ++ vs) []) Q E s') E O fun vs h₁ t₁ k₁ r₁ =>
    have O₁ := O.keep k₁
    ⟨⟨(O₁.base W).K _ _ ho, hf⟩, hc.run C.A { s with heap := h₁, toks := t₁ } (C.ex σ) vs _ _ (O₁.base W) O₁.tab (O₁.live W) r₁ W.handled hd1 hu1 fun v h₂ t₂ k₂ r₂ => h v h₂ t₂ (k₁.trans k₂) r₂⟩
  rw [star_cons hn] at this ⊢
  exact evalArgs_plain this
end
end Mine
-- part V3
namespace Mine
/-- no code and no table stands there -/
noncomputable def NoC' (h : Heap) (a : Addr) : Prop := ∃ o, h.get? a = some o ∧ NoC o
inductive Fl where
  | next | brk | cont
  | ret (d : D)
inductive FlR (X : List Addr) (h : Heap) : Flow → Fl → Prop
  | next : FlR X h .next .next
  | brk : FlR X h .brk .brk
  | cont : FlR X h .cont .cont
  | ret {v : Value} {d : D} : Rep X h v d → FlR X h (.ret v) (.ret d)
/-- what a run of statements may leave -/
abbrev Post (C : Cx) (σ : St) (s : Shared) (Φ : Fl → St → Prop) (Q : Flow → Shared → Prop) : Prop :=
  ∀ (f : Flow) (fl : Fl) (σ' : St) (h' : Heap) (t' : Nat), FlR (C.ex σ') h' f fl → Ok C h' σ' → KpB (C.L :: σ.addrs) s.heap h' → (∀ a ∈ σ'.addrs, a ∈ σ.addrs ∨ s.heap.get? a = none) → Φ fl σ' → Q f { s with heap := h', toks := t' }
structure Ex (C : Cx) (σ : St) (st : Stmt) (Φ : Fl → St → Prop) : Prop where
  run : ∀ (s : Shared) (Q : Flow → Shared → Prop) (E : Value → Shared → Prop), Ok C s.heap σ → Post C σ s Φ Q → wpAny C.M C.A (exec st C.env) Q E s
structure Exs (C : Cx) (σ : St) (l : List Stmt) (Φ : Fl → St → Prop) : Prop where
  run : ∀ (s : Shared) (Q : Flow → Shared → Prop) (E : Value → Shared → Prop), Ok C s.heap σ → Post C σ s Φ Q → wpAny C.M C.A (execs l C.env) Q E s
section
variable {C : Cx} {σ : St} {Φ : Fl → St → Prop}
theorem exs_nil (h : Φ .next σ) : Exs C σ [] Φ := .mk fun s Q E O k => wpAny_execs_nil (k _ .next σ s.heap s.toks .next O KpB.refl (fun a ha => .inl ha) h)
theorem kpB_step {σ σ' : St} {L : Addr} {h h₁ h₂ : Heap} (k : KpB (L :: σ.addrs) h h₁) (g : ∀ a ∈ σ'.addrs, a ∈ σ.addrs ∨ h.get? a = none) (k' : KpB (L :: σ'.addrs) h₁ h₂) : KpB (L :: σ.addrs) h h₂ := fun b o hb f e => by
  refine k' b o (fun q => ?_) f (k b o hb f e)
  rcases List.mem_cons.mp q with rfl | q
  · exact hb (.head _)
  · rcases g b q with q | q
    · exact hb (.tail _ q)
    · rw [q] at e; cases e
theorem new_step {σ σ' σ'' : St} {L : Addr} {h h₁ : Heap} (k : KpB (L :: σ.addrs) h h₁) (hL : ∀ a ∈ σ''.addrs, a ≠ L) (hT : ∀ a ∈ σ''.addrs, a ∉ TT) (g : ∀ a ∈ σ'.addrs, a ∈ σ.addrs ∨ h.get? a = none) (g' : ∀ a ∈ σ''.addrs, a ∈ σ'.addrs ∨ h₁.get? a = none) : ∀ a ∈ σ''.addrs, a ∈ σ.addrs ∨ h.get? a = none := fun a ha => by
  rcases g' a ha with q | q
  · exact g a q
  · by_cases m : a ∈ σ.addrs
    · exact .inl m
    · refine .inr ?_
      cases e : h.get? a with
      | none => rfl
      | some o =>
        have := k a o (fun z => by rcases List.mem_cons.mp z with z | z; exact hL a ha z; exact m z) (.inl (hT a ha)) e
        rw [this] at q; cases q
theorem Ok.objL {h : Heap} (O : Ok C h σ) : ∀ a ∈ σ.addrs, a ≠ C.L := fun a ha => by
  obtain ⟨p, hp, rfl⟩ := List.mem_map.mp ha
  obtain ⟨_, _, q⟩ := O.objs p.1 p.2 hp
  exact q
theorem Ok.objT {h : Heap} (O : Ok C h σ) : ∀ a ∈ σ.addrs, a ∉ TT := fun a ha => by
  obtain ⟨p, hp, rfl⟩ := List.mem_map.mp ha
  exact (O.objs p.1 p.2 hp).1.T O.tab
theorem exs_cons {st : Stmt} {rest : List Stmt} (h : Ex C σ st fun fl σ' => match fl with | .next => Exs C σ' rest Φ | fl => Φ fl σ') : Exs C σ (st :: rest) Φ := .mk fun s Q E O k =>
  wpAny_execs_cons (h.run s _ E O fun f fl σ' h₁ t₁ hf O₁ k₁ g₁ hΦ => by
    cases hf with
    | next =>
      exact hΦ.run _ _ E O₁ fun f' fl' σ'' h₂ t₂ hf₂ O₂ k₂ g₂ hΦ₂ => k f' fl' σ'' h₂ t₂ hf₂ O₂ (kpB_step k₁ g₁ k₂) (new_step k₁ O₂.objL O₂.objT g₁ g₂) hΦ₂
    | brk => exact k _ _ σ' h₁ t₁ .brk O₁ k₁ g₁ hΦ
    | cont => exact k _ _ σ' h₁ t₁ .cont O₁ k₁ g₁ hΦ
    | ret r => exact k _ _ σ' h₁ t₁ (.ret r) O₁ k₁ g₁ hΦ)
theorem ex_mono {st : Stmt} {Ψ : Fl → St → Prop} (h : Ex C σ st Φ) (m : ∀ fl σ', Φ fl σ' → Ψ fl σ') : Ex C σ st Ψ := .mk fun s Q E O k => h.run s Q E O fun f fl σ' h' t' a b c d e => k f fl σ' h' t' a b c d (m _ _ e)
theorem exs_mono {l : List Stmt} {Ψ : Fl → St → Prop} (h : Exs C σ l Φ) (m : ∀ fl σ', Φ fl σ' → Ψ fl σ') : Exs C σ l Ψ := .mk fun s Q E O k => h.run s Q E O fun f fl σ' h' t' a b c d e => k f fl σ' h' t' a b c d (m _ _ e)
noncomputable def St.set (σ : St) (i : Nat) (d : D) : St := { σ with vars := σ.vars.set i (some d) }
theorem ex_set (σ : St) (i : Nat) (d : D) : C.ex (σ.set i d) = C.ex σ := rfl
theorem nodup_idx {α : Type} : ∀ {l : List α} {i j : Nat} {x : α}, l.Nodup → l[i]? = some x → l[j]? = some x → i = j
  | [], _, _, _, _, h, _ => by simp at h
  | a :: l, 0, 0, _, _, _, _ => rfl
  | a :: l, 0, j + 1, x, hn, h1, h2 => by
    simp only [List.getElem?_cons_zero, Option.some.injEq, List.getElem?_cons_succ] at h1 h2
    subst h1
    exact absurd (List.mem_of_getElem? h2) (List.nodup_cons.mp hn).1
  | a :: l, i + 1, 0, x, hn, h1, h2 => by
    simp only [List.getElem?_cons_zero, Option.some.injEq, List.getElem?_cons_succ] at h1 h2
    subst h2
    exact absurd (List.mem_of_getElem? h1) (List.nodup_cons.mp hn).1
  | a :: l, i + 1, j + 1, x, hn, h1, h2 => by
    simp only [List.getElem?_cons_succ] at h1 h2
    exact congrArg (· + 1) (nodup_idx (List.nodup_cons.mp hn).2 h1 h2)
/-- the store of a name -/
theorem store_ok (W : Wf C) {x : PySem.Str} {i : Nat} {d : D} {v : Value} {s : Shared} {Q : Unit → Shared → Prop} {E : Value → Shared → Prop} (hx : C.names[i]? = some x) (O : Ok C s.heap σ) (r : Rep (C.ex σ) s.heap v d)
    (h : ∀ h' t', Ok C h' (σ.set i d) → KpB [C.L] s.heap h' → Q () { s with heap := h', toks := t' }) : wpAny C.M C.A (storeName C.env x v) Q E s := by
  obtain ⟨⟨m, F, hv⟩, ho, hn, ht, hg⟩ := O
  refine wpAny_storeName_local (W.loc x (List.mem_of_getElem? hx)) F.ns (fun h' hns hsb => ?_) (by rw [W.kind]; rfl)
  have hk : ∀ (a : Addr) (o : Obj), a ∉ C.ex σ → s.heap.get? a = some o → SeqO o → h'.get? a = some o ∧ a ∉ C.ex σ := fun a o ha e _ => ⟨(hsb.2 a fun q => ha (q ▸ .head _)).trans e, ha⟩
  have ht' : TabOk h' := by
    obtain ⟨oL, es, ep, e, hd, _⟩ := F.ns
    exact ht.one e (.dict ⟨_, _, hd⟩) fun b ob hb e => (hsb.2 b hb).trans e
  refine h h' _ ⟨⟨_, F.set hns hsb, fun j y d' h1 h2 => ?_⟩, fun a ds hm => ?_, hn, ht', hg⟩ fun b o hb _ e => (hsb.2 b fun q => hb (q ▸ .head _)).trans e
  · by_cases e : y = x
    · subst e
      have hij : j = i := nodup_idx W.nd h1 hx
      subst hij
      have hd : d' = d := by
        simp only [St.set, List.getElem?_set_self'] at h2
        cases q : σ.vars[j]? with
        | none => rw [q] at h2; cases h2
        | some z => rw [q] at h2; cases h2; rfl
      subst hd
      exact ⟨v, by simp, r.walk hk⟩
    · have hij : i ≠ j := fun q => e (by subst q; exact Option.some.inj (h1.symm.trans hx))
      simp only [St.set, List.getElem?_set_ne hij] at h2
      obtain ⟨u, e1, r1⟩ := hv j y d' h1 h2
      exact ⟨u, by simp [e, e1], r1.walk hk⟩
  · obtain ⟨r, q1, q2⟩ := ho a ds hm
    exact ⟨r.walk hk fun o e => (hsb.2 a q2).trans e, q1, q2⟩
/-- one object of the frame's own turned -/
inductive Up (a : Addr) (ds ds' : List D) : List (Addr × List D) → List (Addr × List D) → Prop
  | here {r : List (Addr × List D)} : Up a ds ds' ((a, ds) :: r) ((a, ds') :: r)
  | there {p : Addr × List D} {r r' : List (Addr × List D)} : Up a ds ds' r r' → Up a ds ds' (p :: r) (p :: r')
theorem Up.mem {a : Addr} {ds ds' : List D} : ∀ {l l' : List (Addr × List D)}, Up a ds ds' l l' → (a, ds) ∈ l
  | _, _, .here => .head _
  | _, _, .there u => .tail _ u.mem
theorem Up.addrs {a : Addr} {ds ds' : List D} : ∀ {l l' : List (Addr × List D)}, Up a ds ds' l l' → l'.map (·.1) = l.map (·.1)
  | _, _, .here => rfl
  | _, _, .there u => by simp only [List.map_cons, u.addrs]
theorem Up.cases' {a : Addr} {ds ds' : List D} : ∀ {l l' : List (Addr × List D)}, Up a ds ds' l l' → (l.map (·.1)).Nodup → ∀ b es, (b, es) ∈ l' → (b = a ∧ es = ds') ∨ (b ≠ a ∧ (b, es) ∈ l)
  | _, _, .here, hn, b, es, hm => by
    rcases List.mem_cons.mp hm with q | q
    · cases q; exact .inl ⟨rfl, rfl⟩
    · refine .inr ⟨?_, .tail _ q⟩
      rintro rfl
      exact (List.nodup_cons.mp hn).1 (List.mem_map_of_mem (f := (·.1)) q)
  | _, _, .there u, hn, b, es, hm => by
    rcases List.mem_cons.mp hm with q | q
    · refine .inr ⟨?_, q ▸ .head _⟩
      rintro rfl
      have := List.mem_map_of_mem (f := (·.1)) u.mem
      rw [← q] at hn
      exact (List.nodup_cons.mp hn).1 this
    · rcases u.cases' (List.nodup_cons.mp hn).2 b es q with z | z
      · exact .inl z
      · exact .inr ⟨z.1, .tail _ z.2⟩
theorem Ok.upOwn {h h' : Heap} {a : Addr} {ds ds' : List D} {objs' : List (Addr × List D)} (O : Ok C h σ) (u : Up a ds ds' σ.objs objs') (hn' : OwnAt C.cs (C.ex σ) h' a ds') (k : ∀ b ob, b ≠ a → h.get? b = some ob → h'.get? b = some ob) (hT : NoC' h a) : Ok C h' ⟨σ.vars, objs'⟩ := by
  have hex : C.ex ⟨σ.vars, objs'⟩ = C.ex σ := by
    show C.L :: (C.X ++ objs'.map (·.1)) = C.L :: (C.X ++ σ.objs.map (·.1))
    rw [u.addrs]
  have hin : a ∈ C.ex σ := .tail _ (List.mem_append_right _ (List.mem_map_of_mem (f := (·.1)) u.mem))
  have hk : ∀ (b : Addr) (o : Obj), b ∉ C.ex σ → h.get? b = some o → SeqO o → h'.get? b = some o ∧ b ∉ C.ex σ := fun b o hb e _ => ⟨k b o (fun z => by subst z; exact hb hin) e, hb⟩
  obtain ⟨⟨m, F, hv⟩, ho, hn, ht, hg⟩ := O
  obtain ⟨_, q0, qL⟩ := ho a ds u.mem
  obtain ⟨oa, ea, hc⟩ := hT
  refine ⟨⟨m, ⟨?_, fun b o e => k b o (fun z => ?_) (F.keep b o e), F.above⟩, fun i x d h1 h2 => ?_⟩, fun b es hm => ?_, ?_, ht.one ea hc k, hg⟩
  · obtain ⟨oL, es, ep, e, r⟩ := F.ns
    exact ⟨oL, es, ep, k _ _ (fun z => qL z.symm) e, r⟩
  · subst z; rw [q0] at e; cases e
  · obtain ⟨v, e, r⟩ := hv i x d h1 h2
    exact ⟨v, e, hex ▸ r.walk hk⟩
  · rcases u.cases' hn b es hm with ⟨rfl, rfl⟩ | ⟨hne, hm'⟩
    · exact ⟨hex ▸ hn', q0, qL⟩
    · obtain ⟨r, q1, q2⟩ := ho b es hm'
      exact ⟨hex ▸ r.walk hk fun o e => k _ _ hne e, q1, q2⟩
  · show (objs'.map (·.1)).Nodup
    rw [u.addrs]; exact hn
noncomputable def setAt' : List (Addr × List D) → Nat → D → List (Addr × List D)
  | [], _, _ => []
  | p :: r, 0, d => (p.1, [d]) :: r
  | p :: r, j + 1, d => p :: setAt' r j d
/-- a cell of the frame's own is set -/
noncomputable def St.setO (σ : St) (j : Nat) (d : D) : St := ⟨σ.vars, setAt' σ.objs j d⟩
theorem up_set : ∀ {l : List (Addr × List D)} {j : Nat} {c : Addr} {ds : List D} {d : D}, l[j]? = some (c, ds) → Up c ds [d] l (setAt' l j d)
  | [], _, _, _, _, h => by simp at h
  | p :: r, 0, _, _, _, h => by simp at h; subst h; exact .here
  | p :: r, j + 1, _, _, _, h => by simp at h; exact .there (up_set h)
theorem setO_addrs (σ : St) (j : Nat) (d : D) : (σ.setO j d).addrs = σ.addrs := by
  show (setAt' σ.objs j d).map (·.1) = σ.objs.map (·.1)
  generalize σ.objs = l
  induction l generalizing j with
  | nil => rfl
  | cons p r ih => cases j with
    | zero => rfl
    | succ j => simp only [setAt', List.map_cons, ih]
/-- the store of a cell's name -/
theorem store_cell (W : Wf C) {x : PySem.Str} {c : Addr} {ds : List D} {d : D} {v : Value} {s : Shared} {Q : Unit → Shared → Prop} {E : Value → Shared → Prop} (j : Nat) (hx : (x, c) ∈ C.cl) (hj : σ.objs[j]? = some (c, ds)) (O : Ok C s.heap σ) (r : Rep (C.ex σ) s.heap v d)
    (h : ∀ h' t', Ok C h' (σ.setO j d) → KpB [c] s.heap h' → Q () { s with heap := h', toks := t' }) : wpAny C.M C.A (storeName C.env x v) Q E s := by
  obtain ⟨hk, hl⟩ := W.cells x c hx
  have hcs : c ∈ C.cs := List.mem_map_of_mem (f := (·.2)) hx
  have hm : (c, ds) ∈ σ.objs := List.mem_of_getElem? hj
  obtain ⟨rc, q0, qL⟩ := O.objs c ds hm
  obtain ⟨v₀, hc, rs⟩ := rc.cell hcs
  refine wpAny_storeName_cell W.kind hk hl hc fun h' hc' hsb => ?_
  have hin : c ∈ C.ex σ := .tail _ (List.mem_append_right _ (List.mem_map_of_mem (f := (·.1)) hm))
  obtain ⟨o, e, hd⟩ := hc
  obtain ⟨o', e', hd'⟩ := hc'
  refine h h' s.toks (O.upOwn (up_set hj) (.inr ⟨hcs, o', some v, e', hd', .cons (r.walk fun a oa ha e _ => ⟨(hsb.2 a fun z => ha (z ▸ hin)).trans e, ha⟩) .nil⟩) (fun b ob hb e => (hsb.2 b hb).trans e) ⟨o, e, fun vs q => by rw [hd] at q; cases q⟩) fun b ob hb _ e => (hsb.2 b fun z => hb (z ▸ .head _)).trans e
theorem kpB_weak {xs ys : List Addr} {h h' : Heap} (k : KpB xs h h') (m : ∀ a ∈ xs, a ∈ ys) : KpB ys h h' := fun b o hb f e => k b o (fun q => hb (m b q)) f e
theorem kpB_kp {xs : List Addr} {h h₁ h₂ : Heap} (k : Kp h h₁) (k' : KpB xs h₁ h₂) : KpB xs h h₂ := fun b o hb f e => k' b o hb f (k.keep b o f e)
theorem kpB_trans {xs : List Addr} {h h₁ h₂ : Heap} (k : KpB xs h h₁) (k' : KpB xs h₁ h₂) : KpB xs h h₂ := fun b o hb f e => k' b o hb f (k b o hb f e)
theorem mem_L {σ : St} : ∀ a ∈ [C.L], a ∈ C.L :: σ.addrs := fun a ha => by rw [List.mem_singleton] at ha; subst ha; exact .head _
theorem mem_C {σ : St} {j : Nat} {c : Addr} {ds : List D} (hj : σ.objs[j]? = some (c, ds)) : ∀ a ∈ [c], a ∈ C.L :: σ.addrs := fun a ha => by rw [List.mem_singleton] at ha; subst ha; exact .tail _ (List.mem_map_of_mem (f := (·.1)) (List.mem_of_getElem? hj))
theorem ex_assign (W : Wf C) {x : PySem.Str} {p p' : Pos} {e : Expr} {d : D} (i : Nat) (hx : C.names[i]? = some x) (he : Ev C σ e d) (h : Φ .next (σ.set i d)) (hs : noComp e = true := by rfl) : Ex C σ (.Assign [.Name x p'] e p) Φ := .mk fun s Q E O k =>
  wpAny_Assign_Name (he.run s _ E O fun v h₁ t₁ k₁ r₁ => store_ok W hx (O.keep k₁) r₁ fun h₂ t₂ O₂ k₂ => k _ .next _ h₂ t₂ .next O₂ (kpB_kp k₁ (kpB_weak k₂ mem_L)) (fun a ha => .inl ha) h) (swaps_of hs _ _ _)
theorem ex_ret {e : Expr} {p : Pos} {d : D} (he : Ev C σ e d) (h : Φ (.ret d) σ) : Ex C σ (.Return (some e) p) Φ := .mk fun s Q E O k =>
  wpAny_Return_some (he.run s _ E O fun v h₁ t₁ k₁ r₁ => k _ _ σ h₁ t₁ (.ret r₁) (O.keep k₁) k₁.but (fun a ha => .inl ha) h)
theorem ex_ret0 {p : Pos} (h : Φ (.ret .none) σ) : Ex C σ (.Return none p) Φ := .mk fun s Q E O k =>
  wpAny_Return_none (k _ _ σ s.heap s.toks (.ret .none) O KpB.refl (fun a ha => .inl ha) h)
theorem post_kp {s : Shared} {Q : Flow → Shared → Prop} {h₁ : Heap} {t₁ : Nat} (k₁ : Kp s.heap h₁) (k : Post C σ s Φ Q) : Post C σ { s with heap := h₁, toks := t₁ } Φ Q := fun f fl σ' h' t' a b c d e =>
  k f fl σ' h' t' a b (kpB_kp k₁ c) (fun x hx => (d x hx).imp id fun q => by
    cases z : s.heap.get? x with
    | none => rfl
    | some o => have := k₁.keep _ _ (.inl (b.objT x hx)) z; rw [show h₁.get? x = none from q] at this; cases this) e
theorem ex_if {t : Expr} {a b : List Stmt} {p : Pos} {c : Bool} (ht : Ts C σ t c) (ha : c = true → Exs C σ a Φ) (hb : c = false → Exs C σ b Φ) : Ex C σ (.If t a b p) Φ := .mk fun s Q E O k =>
  wpAny_If (ht.run s _ E O fun h₁ t₁ k₁ => by
    cases c with
    | true => exact (ha rfl).run _ _ E (O.keep k₁) (post_kp k₁ k)
    | false => exact (hb rfl).run _ _ E (O.keep k₁) (post_kp k₁ k))
/-- an operator with a store -/
theorem ex_aug (W : Wf C) {op : Operator} {x : PySem.Str} {p p' : Pos} {e : Expr} {d₀ d d' : D} (i : Nat) (hx : C.names[i]? = some x) (h0 : σ.vars[i]? = some (some d₀)) (he : Ev C σ e d)
    (ho : ∀ (s : Shared) (Q E : Value → Shared → Prop) (v u : Value), Ok C s.heap σ → Rep (C.ex σ) s.heap v d₀ → Rep (C.ex σ) s.heap u d → (∀ v h' t', Kp s.heap h' → Rep (C.ex σ) h' v d' → Q v { s with heap := h', toks := t' }) → wpAny C.M C.A (inplaceOp op v u) Q E s)
    (h : Φ .next (σ.set i d')) : Ex C σ (.AugAssign (.Name x p') op e p) Φ := .mk fun s Q E O k => by
  obtain ⟨m, F, hv⟩ := O.vars
  obtain ⟨v, e0, r0⟩ := hv i x d₀ hx h0
  exact wpAny_AugAssign_Name (wpAny_loadName_local W.kind (W.loc x (List.mem_of_getElem? hx)) F.ns e0 (he.run s _ E O fun u h₁ t₁ k₁ r₁ => ho _ _ _ v u (O.keep k₁) (r0.keep k₁) r₁ fun z h₂ t₂ k₂ r₂ =>
    store_ok W hx ((O.keep k₁).keep k₂) r₂ fun h₃ t₃ O₃ k₃ => k _ .next _ h₃ t₃ .next O₃ (kpB_kp (k₁.trans k₂) (kpB_weak k₃ mem_L)) (fun a ha => .inl ha) h))
theorem ex_aug_add (W : Wf C) {x : PySem.Str} {p p' : Pos} {e : Expr} {a b : Int} (i : Nat) (hx : C.names[i]? = some x) (h0 : σ.vars[i]? = some (some (.int a))) (he : Ev C σ e (.int b)) (h : Φ .next (σ.set i (.int (a + b)))) : Ex C σ (.AugAssign (.Name x p') .Add e p) Φ :=
  ex_aug W i hx h0 he (fun s Q E v u O r1 r2 h => by cases r1; cases r2; exact P.iadd_int (h _ _ _ Kp.refl (.int _ _))) h
theorem ex_aug_sub (W : Wf C) {x : PySem.Str} {p p' : Pos} {e : Expr} {a b : Int} (i : Nat) (hx : C.names[i]? = some x) (h0 : σ.vars[i]? = some (some (.int a))) (he : Ev C σ e (.int b)) (h : Φ .next (σ.set i (.int (a - b)))) : Ex C σ (.AugAssign (.Name x p') .Sub e p) Φ :=
  ex_aug W i hx h0 he (fun s Q E v u O r1 r2 h => by cases r1; cases r2; exact P.isub_int (h _ _ _ Kp.refl (.int _ _))) h
theorem ex_aug_shl (W : Wf C) {x : PySem.Str} {p p' : Pos} {e : Expr} {a n : Int} (i : Nat) (hx : C.names[i]? = some x) (h0 : σ.vars[i]? = some (some (.int a))) (he : Ev C σ e (.int n)) (hn : 0 ≤ n) (hz : (Builtin.Int.intBits a : Int) + n ≤ 2 ^ 27) (h : Φ .next (σ.set i (.int (a * 2 ^ n.toNat)))) : Ex C σ (.AugAssign (.Name x p') .LShift e p) Φ :=
  ex_aug W i hx h0 he (fun s Q E v u O r1 r2 h => by cases r1; cases r2; exact ilshift_int hn hz (h _ _ _ Kp.refl (.int _ _))) h
theorem ex_aug_shr (W : Wf C) {x : PySem.Str} {p p' : Pos} {e : Expr} {a n : Int} (i : Nat) (hx : C.names[i]? = some x) (h0 : σ.vars[i]? = some (some (.int a))) (he : Ev C σ e (.int n)) (hn : 0 ≤ n) (h : Φ .next (σ.set i (.int (a.fdiv (2 ^ n.toNat))))) : Ex C σ (.AugAssign (.Name x p') .RShift e p) Φ :=
  ex_aug W i hx h0 he (fun s Q E v u O r1 r2 h => by cases r1; cases r2; exact irshift_int hn (h _ _ _ Kp.refl (.int _ _))) h
theorem Kp.ofExtBut {h h' : Heap} (e : Heap.ExtBut h.objs.size h h') : Kp h h' := .full fun b o q => e b o (Nat.ne_of_lt (Heap.lt_size q)) q
/-- stores of names in order -/
noncomputable def setL (σ : St) : List (Nat × D) → St
  | [] => σ
  | (i, d) :: r => setL (σ.set i d) r
theorem setL_ex (C : Cx) : ∀ (l : List (Nat × D)) (σ : St), C.ex (setL σ l) = C.ex σ
  | [], _ => rfl
  | (i, d) :: r, σ => (setL_ex C r _).trans rfl
theorem setL_addrs : ∀ (l : List (Nat × D)) (σ : St), (setL σ l).addrs = σ.addrs
  | [], _ => rfl
  | (i, d) :: r, σ => (setL_addrs r _).trans rfl
end
end Mine
-- part V4
namespace Mine
section
variable {C : Cx} {σ : St} {Φ : Fl → St → Prop}
/-- where a run stands against its start -/
structure Since (C : Cx) (σ : St) (s : Shared) (σ' : St) (s' : Shared) : Prop where
  ok : Ok C s'.heap σ'
  kp : KpB (C.L :: σ.addrs) s.heap s'.heap
  new : ∀ a ∈ σ'.addrs, a ∈ σ.addrs ∨ s.heap.get? a = none
  rest : ∃ h t, s' = { s with heap := h, toks := t }
theorem Since.refl {s : Shared} (O : Ok C s.heap σ) : Since C σ s σ s := ⟨O, KpB.refl, fun a h => .inl h, s.heap, s.toks, rfl⟩
theorem Since.kp' {s s' : Shared} {σ' : St} {h : Heap} {t : Nat} (S : Since C σ s σ' s') (k : Kp s'.heap h) : Since C σ s σ' { s' with heap := h, toks := t } :=
  ⟨S.ok.keep k, fun b o hb f e => k.keep b o f (S.kp b o hb f e), S.new, let ⟨h₁, t₁, e⟩ := S.rest; ⟨h, t, by rw [e]⟩⟩
theorem Since.step {s s' : Shared} {σ' σ'' : St} {h : Heap} {t : Nat} (S : Since C σ s σ' s') (O : Ok C h σ'') (k : KpB (C.L :: σ'.addrs) s'.heap h) (g : ∀ a ∈ σ''.addrs, a ∈ σ'.addrs ∨ s'.heap.get? a = none) : Since C σ s σ'' { s' with heap := h, toks := t } :=
  ⟨O, kpB_step S.kp S.new k, new_step S.kp O.objL O.objT S.new g, let ⟨h₁, t₁, e⟩ := S.rest; ⟨h, t, by rw [e]⟩⟩
theorem Since.post {s s' : Shared} {σ' : St} {fl : Fl} {f : Flow} {Q : Flow → Shared → Prop} (S : Since C σ s σ' s') (k : Post C σ s Φ Q) (hf : FlR (C.ex σ') s'.heap f fl) (h : Φ fl σ') : Q f s' := by
  obtain ⟨h₁, t₁, e⟩ := S.rest
  have a := S.ok; have b := S.kp; have c := S.new
  subst e
  exact k f fl σ' h₁ t₁ hf a b c h
theorem ex_while {t : Expr} {body : List Stmt} {p : Pos} (I : Nat → St → Prop)
    (turn : ∀ n σ', I n σ' → ∃ c, Ts C σ' t c ∧ (c = true → Exs C σ' body fun fl σ'' => match fl with | .next | .cont => ∃ m, m < n ∧ I m σ'' | .brk => Φ .next σ'' | .ret d => Φ (.ret d) σ'') ∧ (c = false → Φ .next σ'))
    (n : Nat) (h : I n σ) : Ex C σ (.While t body [] p) Φ := .mk fun s Q E O k => by
  refine wpAny_While (codeAny_whileLoop (fun n s' => ∃ σ', I n σ' ∧ Since C σ s σ' s') (fun n s' ⟨σ', hI, S⟩ => ?_) n ⟨σ, h, .refl O⟩)
  obtain ⟨c, ht, hb, he⟩ := turn n σ' hI
  refine ht.run s' _ _ S.ok fun h₁ t₁ k₁ => ?_
  have S₁ := S.kp' (t := t₁) k₁
  cases c with
  | true =>
    refine (hb rfl).run _ _ _ S₁.ok fun f fl σ'' h₂ t₂ hf O₂ k₂ g₂ hΦ => ?_
    have S₂ := S₁.step (t := t₂) O₂ k₂ g₂
    cases hf with
    | next => obtain ⟨m, hm, hI'⟩ := hΦ; exact ⟨m, hm, σ'', hI', S₂⟩
    | cont => obtain ⟨m, hm, hI'⟩ := hΦ; exact ⟨m, hm, σ'', hI', S₂⟩
    | brk => exact S₂.post k .next hΦ
    | ret r => exact S₂.post k (.ret r) hΦ
  | false => exact wpAny_execs_nil (S₁.post k .next (he rfl))
/-- an iterator whose items no one else holds -/
noncomputable def Quiet (o : Obj) : Prop := ∀ n, o.cls = .type n → ["enumerate", "zip", "dict_itemiterator", "dict_reverseitemiterator", "odict_iterator", "itertools.zip_longest", "itertools.pairwise"].contains n = false
theorem quiet_go {M : Model} {A : Around} {tg : Expr} {I : Addr} {v : Value} {o : Obj} {s : Shared} {Q : Unit → Shared → Prop} {E : Value → Shared → Prop} (ho : s.heap.get? I = some o) (hq : Quiet o) (hQ : Q () s) : wpAny M A (letOwnedTupleGo tg (.ref I) v) Q E s := by
  have key : ∀ a, wpAny M A (load I >>= fun o => match o.cls, o.data with
      | .type n, .fields vs => if (["enumerate", "zip", "dict_itemiterator", "dict_reverseitemiterator", "odict_iterator", "itertools.zip_longest", "itertools.pairwise"].contains n && vs[0]? == some (rawInt a)) = true then (do rule "for.unpacks-the-owned-tuple"; updateField I 0 .none) else pure ()
      | _, _ => pure ()) Q E s := fun a => by
    refine wpAny_bind (wpAny_load ho ?_)
    split
    · rename_i n vs h1 h2
      rw [hq n h1, Bool.false_and]
      exact wpAny_pure hQ
    · exact wpAny_pure hQ
  unfold letOwnedTupleGo
  split
  · cases v <;> first | exact wpAny_pure hQ | exact key _
  · cases v <;> first | exact wpAny_pure hQ | exact key _
  · exact wpAny_pure hQ
/-- an iterator over data -/
structure Iter (C : Cx) (σ : St) (I : Addr) (ds : List D) (h : Heap) where
  fp : List Addr
  P : Nat → Value → Prop
  St : Nat → Heap → Prop
  walks : Walks C.B.prog C.B.w C.A I fp [I] ds.length P St
  start : St 0 h
  apart : ∀ b ∈ fp, b ∉ C.ex σ ∧ b ∉ TT ∧ ∃ o, h.get? b = some o
  kind : ∀ j h', St j h' → ∃ o, h'.get? I = some o ∧ ¬ SeqO o ∧ NoC o ∧ ∀ v, o.data ≠ .cell v
  quiet : ∀ j h', St j h' → ∃ o, h'.get? I = some o ∧ Quiet o
  items : ∀ i v d, P i v → ds[i]? = some d → Rep (C.ex σ) h v d
/-- an expression in a for's head -/
structure EvIt (C : Cx) (σ : St) (e : Expr) (ds : List D) : Prop where
  run : ∀ (s : Shared) (Q : Value → Shared → Prop) (E : Value → Shared → Prop), Ok C s.heap σ → (∀ I h' t', Kp s.heap h' → s.heap.get? I = none → Iter C σ I ds h' → Q (.ref I) { s with heap := h', toks := t' }) →
    wpAny C.M C.A (eval e C.env) (fun x s₁ => wpAny C.M C.A (pyIter x) Q E s₁) E s
/-- the store of a loop's target -/
noncomputable def Asg (C : Cx) (tg : Expr) (f : St → D → St) (ok : St → D → Prop) : Prop :=
  (∀ σ d, (f σ d).addrs = σ.addrs) ∧ 
  ∀ (σ : St) (d : D) (s : Shared) (v : Value) (Q : Unit → Shared → Prop) (E : Value → Shared → Prop), ok σ d → Ok C s.heap σ → Rep (C.ex σ) s.heap v d → (∀ h' t', Ok C h' (f σ d) → KpB (C.L :: σ.addrs) s.heap h' → Q () { s with heap := h', toks := t' }) → wpAny C.M C.A (assign tg C.env v) Q E s
theorem asg_name (W : Wf C) {x : PySem.Str} {p : Pos} (i : Nat) (hx : C.names[i]? = some x) : Asg C (.Name x p) (fun σ d => σ.set i d) (fun _ _ => True) :=
  ⟨fun _ _ => rfl, fun σ d s v Q E _ O r h => wpAny_assign_Name (store_ok W hx O r fun h' t' O' k => h h' t' O' (kpB_weak k mem_L))⟩
theorem asg_cell (W : Wf C) {x : PySem.Str} {c : Addr} {p : Pos} (j : Nat) (hx : (x, c) ∈ C.cl) : Asg C (.Name x p) (fun σ d => σ.setO j d) (fun σ _ => ∃ ds, σ.objs[j]? = some (c, ds)) :=
  ⟨fun _ _ => setO_addrs _ _ _, fun σ d s v Q E ⟨_, hj⟩ O r h => wpAny_assign_Name (store_cell W j hx hj O r fun h' t' O' k => h h' t' O' (kpB_weak k (mem_C hj)))⟩
/-- one object that is no sequence of the frame's turns -/
theorem Ok.turn {h h' : Heap} {I : Addr} {o : Obj} (O : Ok C h σ) (hI : h.get? I = some o) (hs : ¬ SeqO o) (hc : NoC o) (hd : ∀ v, o.data ≠ .cell v) (hL : I ≠ C.L) (hh : C.h₀.get? I = none) (k : ∀ b ob, b ≠ I → h.get? b = some ob → h'.get? b = some ob) : Ok C h' σ := by
  have hk : ∀ (a : Addr) (o' : Obj), a ∉ C.ex σ → h.get? a = some o' → SeqO o' → h'.get? a = some o' ∧ a ∉ C.ex σ := fun a o' ha e q => ⟨k a o' (fun z => by subst z; rw [hI] at e; cases e; exact hs q) e, ha⟩
  obtain ⟨⟨m, F, hv⟩, ho, hn, ht, hg⟩ := O
  refine ⟨⟨m, ⟨?_, fun b o' e => k b o' (fun z => ?_) (F.keep b o' e), F.above⟩, fun i x d h1 h2 => ?_⟩, fun a ds hm => ?_, hn, ht.one hI hc k, hg⟩
  · obtain ⟨oL, es, ep, e, r⟩ := F.ns
    exact ⟨oL, es, ep, k _ _ (fun z => hL z.symm) e, r⟩
  · subst z; rw [hh] at e; cases e
  · obtain ⟨v, e, r⟩ := hv i x d h1 h2
    exact ⟨v, e, r.walk hk⟩
  · obtain ⟨r, q⟩ := ho a ds hm
    exact ⟨r.walk hk fun o e => k _ _ (r.neq hI hs hd) e, q⟩
theorem ex_for_gen (W : Wf C) {tg iter : Expr} {body : List Stmt} {q : Pos} {ds : List D} {f : St → D → St} {ok : St → D → Prop} (ha : Asg C tg f ok) (J : Nat → St → Prop) (hok : ∀ (n : Nat) d σ', ds[n]? = some d → J n σ' → ok σ' d) (hi : EvIt C σ iter ds) (h0 : J 0 σ)
    (turn : ∀ n d σ', ds[n]? = some d → J n σ' → Exs C (f σ' d) body fun fl σ'' => match fl with | .next | .cont => J (n + 1) σ'' | .brk => Φ .next σ'' | .ret r => Φ (.ret r) σ'')
    (hend : ∀ σ', J ds.length σ' → Φ .next σ') (hs : notSet iter = true := by rfl) : Ex C σ (.For tg iter body [] q) Φ := .mk fun s Q E O k => by
  refine wpAny_For (hi.run s _ E O fun I h₁ t₁ k₁ hI it => ?_) (folded_of hs _)
  have hIfp : I ∈ it.fp := it.walks.sub I (.head _)
  obtain ⟨hIex, hIT, oI, hoI⟩ := it.apart I hIfp
  have hI0 : C.h₀.get? I = none := by
    cases z : C.h₀.get? I with
    | none => rfl
    | some o => rw [O.kp0 _ _ z] at hI; cases hI
  have hIL : I ≠ C.L := fun z => hIex (z ▸ .head _)
  refine codeAny_forLoop_any (fun n s' => ∃ j σ', n = ds.length - j ∧ j ≤ ds.length ∧ J j σ' ∧ Ok C s'.heap σ' ∧ it.St j s'.heap ∧ KpB (I :: C.L :: σ.addrs) h₁ s'.heap ∧ (∀ a ∈ σ'.addrs, a ∈ σ.addrs ∨ h₁.get? a = none) ∧ ∃ h t, s' = { s with heap := h, toks := t })
    (fun n s' ⟨j, σ', hn, hj, hJ, O', hSt, hk, hnew, h', t', hs'⟩ => ?_) (ds.length - 0) ⟨0, σ, rfl, Nat.zero_le _, h0, O.keep k₁, it.start, KpB.refl, fun a ha => .inl ha, h₁, t₁, rfl⟩
  subst hs'
  dsimp only at O' hSt hk
  have fin : ∀ f fl σ'' h'' t'', FlR (C.ex σ'') h'' f fl → Ok C h'' σ'' → KpB (I :: C.L :: σ.addrs) h₁ h'' → (∀ a ∈ σ''.addrs, a ∈ σ.addrs ∨ h₁.get? a = none) → Φ fl σ'' → Q f { s with heap := h'', toks := t'' } := fun f fl σ'' h'' t'' a b c d e =>
    k f fl σ'' h'' t'' a b (fun x o hx fx z => c x o (fun m => by
      rcases List.mem_cons.mp m with rfl | m
      · rw [hI] at z; cases z
      · exact hx m) fx (k₁.keep _ _ fx z)) (fun x hx => (d x hx).imp id fun z => by
        cases y : s.heap.get? x with
        | none => rfl
        | some o => rw [k₁.keep _ _ (.inl (b.objT x hx)) y] at z; cases z) e
  obtain ⟨o', hoI', hns, hnc, hnd⟩ := it.kind j h' hSt
  obtain ⟨o₁, hoI₁, hns₁, _⟩ := it.kind 0 h₁ it.start
  have apart : ∀ a o, h₁.get? a = some o → a ∉ C.ex σ → a ∉ C.ex σ' := fun a o e hx m => by
    rcases List.mem_cons.mp m with rfl | m
    · exact hx (.head _)
    rcases List.mem_append.mp m with m | m
    · exact hx (.tail _ (List.mem_append_left _ m))
    · rcases hnew a m with z | z
      · exact hx (.tail _ (List.mem_append_right _ z))
      · rw [z] at e; cases e
  rcases Nat.lt_or_eq_of_le hj with hlt | rfl
  · refine it.walks.item j _ _ _ hlt hSt fun v h₂ t₂ hP hSt₂ hk₂ => ?_
    have hd : ds[j]? = some ds[j] := List.getElem?_eq_getElem hlt
    have hk₂' : ∀ b ob, b ≠ I → h'.get? b = some ob → h₂.get? b = some ob := fun b ob hb e => hk₂ b ob (fun z => hb (List.mem_singleton.mp z)) e
    have O₂ : Ok C h₂ σ' := O'.turn hoI' hns hnc hnd hIL hI0 hk₂'
    have r : Rep (C.ex σ') h₂ v ds[j] := (it.items j v _ hP hd).walk fun a o ha e q => by
      have hne : a ≠ I := fun z => by subst z; rw [hoI₁] at e; cases e; exact hns₁ q
      refine ⟨hk₂ a o (fun z => hne (List.mem_singleton.mp z)) (hk a o (fun m => ?_) q.fix e), apart a o e ha⟩
      rcases List.mem_cons.mp m with m | m
      · exact hne m
      · rcases List.mem_cons.mp m with rfl | m
        · exact ha (.head _)
        · exact ha (.tail _ (List.mem_append_right _ m))
    obtain ⟨oq, eoq, hoq⟩ := it.quiet (j + 1) h₂ hSt₂
    refine quiet_go (s := { s with heap := h₂, toks := t₂ }) eoq hoq ?_
    refine ha.2 σ' ds[j] _ v _ _ (hok j _ _ hd hJ) O₂ r fun h₃ t₃ O₃ k₃ => ?_
    refine (turn j ds[j] σ' hd hJ).run _ _ _ O₃ fun f fl σ'' h₄ t₄ hf O₄ k₄ g₄ hΦ => ?_
    rw [show (f : Flow) = f from rfl] at hf
    have hadd : C.L :: (_ : St).addrs = C.L :: σ'.addrs := congrArg (C.L :: ·) (ha.1 σ' ds[j])
    rw [hadd] at k₄
    have to4 : ∀ a o, Fix a o → h₂.get? a = some o → a ∉ C.L :: σ'.addrs → h₄.get? a = some o := fun a o f e hx => k₄ a o hx f (k₃ a o hx f e)
    have St₄ : it.St (j + 1) h₄ := it.walks.frame (j + 1) h₂ h₄ hSt₂ fun b hb o e => to4 b o (.inl (it.apart b hb).2.1) e fun m => by
      obtain ⟨hx, _, ob, hob⟩ := it.apart b hb
      exact apart b ob hob hx (by
        rcases List.mem_cons.mp m with rfl | m
        · exact .head _
        · exact .tail _ (List.mem_append_right _ m))
    have K₄ : KpB (I :: C.L :: σ.addrs) h₁ h₄ := fun b o hb f e => by
      have hne : b ≠ I := fun z => hb (z ▸ .head _)
      have e' := hk b o hb f e
      refine to4 b o f (hk₂ b o (fun z => hne (List.mem_singleton.mp z)) e') fun m => ?_
      rcases List.mem_cons.mp m with rfl | m
      · exact hb (.tail _ (.head _))
      · rcases hnew b m with z | z
        · exact hb (.tail _ (.tail _ z))
        · rw [z] at e; cases e
    have N₄ : ∀ a ∈ σ''.addrs, a ∈ σ.addrs ∨ h₁.get? a = none := fun a ha' => by
      rcases g₄ a ha' with z | z
      · rw [ha.1] at z; exact hnew a z
      · by_cases m : a ∈ σ.addrs
        · exact .inl m
        · refine .inr ?_
          cases e : h₁.get? a with
          | none => rfl
          | some o =>
            exfalso
            have hL := O₄.objL a ha'
            have z' : h₃.get? a = none := z
            have hnm : a ∉ σ'.addrs := fun q => by
              rcases hnew a q with q | q
              · exact m q
              · rw [q] at e; cases e
            have hno : a ∉ C.L :: σ'.addrs := fun q => (List.mem_cons.mp q).elim hL hnm
            by_cases hne : a = I
            · subst hne
              obtain ⟨o₂, e₂, _⟩ := it.kind (j + 1) h₂ hSt₂
              rw [k₃ a o₂ hno (.inl hIT) e₂] at z'; cases z'
            · have e' := hk a o (fun q => by
                rcases List.mem_cons.mp q with q | q
                · exact hne q
                · rcases List.mem_cons.mp q with q | q
                  · exact hL q
                  · exact m q) (.inl (O₄.objT a ha')) e
              rw [k₃ a o hno (.inl (O₄.objT a ha')) (hk₂ a o (fun q => hne (List.mem_singleton.mp q)) e')] at z'; cases z'
    cases hf with
    | next => exact ⟨ds.length - (j + 1), by omega, j + 1, σ'', rfl, hlt, hΦ, O₄, St₄, K₄, N₄, h₄, t₄, rfl⟩
    | cont => exact ⟨ds.length - (j + 1), by omega, j + 1, σ'', rfl, hlt, hΦ, O₄, St₄, K₄, N₄, h₄, t₄, rfl⟩
    | brk => exact fin _ .next σ'' h₄ t₄ .next O₄ K₄ N₄ hΦ
    | ret r => exact fin _ _ σ'' h₄ t₄ (.ret r) O₄ K₄ N₄ hΦ
  · refine it.walks.done _ _ _ hSt fun h₂ t₂ hk₂ => ?_
    have hk₂' : ∀ b ob, b ≠ I → h'.get? b = some ob → h₂.get? b = some ob := fun b ob hb e => hk₂ b ob (fun z => hb (List.mem_singleton.mp z)) e
    exact wpAny_execs_nil (fin _ .next σ' h₂ t₂ .next (O'.turn hoI' hns hnc hnd hIL hI0 hk₂') (fun b o hb f e => hk₂ b o (fun z => hb (List.mem_singleton.mp z ▸ .head _)) (hk b o hb f e)) hnew (hend σ' hJ))
theorem ex_for (W : Wf C) {x : PySem.Str} {p : Pos} {iter : Expr} {body : List Stmt} {q : Pos} {ds : List D} (i : Nat) (hx : C.names[i]? = some x) (hi : EvIt C σ iter ds) (J : Nat → St → Prop) (h0 : J 0 σ)
    (turn : ∀ n d σ', ds[n]? = some d → J n σ' → Exs C (σ'.set i d) body fun fl σ'' => match fl with | .next | .cont => J (n + 1) σ'' | .brk => Φ .next σ'' | .ret r => Φ (.ret r) σ'')
    (hend : ∀ σ', J ds.length σ' → Φ .next σ') (hs : notSet iter = true := by rfl) : Ex C σ (.For (.Name x p) iter body [] q) Φ :=
  ex_for_gen W (asg_name W i hx) J (fun _ _ _ _ _ => trivial) hi h0 turn hend hs
end
end Mine
-- part V5
namespace Mine
section
variable {C : Cx} {σ : St} {Φ : Fl → St → Prop}
/-- names in a tuple of targets -/
inductive Tg (C : Cx) : List Expr → List Nat → Prop
  | nil : Tg C [] []
  | cons {x : PySem.Str} {p : Pos} {es : List Expr} {is : List Nat} (i : Nat) (hx : C.names[i]? = some x) : Tg C es is → Tg C (.Name x p :: es) (i :: is)
theorem setL_snoc : ∀ (l : List (Nat × D)) (σ : St) (i : Nat) (d : D), setL σ (l ++ [(i, d)]) = (setL σ l).set i d
  | [], _, _, _ => rfl
  | (j, e) :: r, σ, i, d => setL_snoc r _ i d
theorem tg_assign (W : Wf C) : ∀ {es : List Expr} {is : List Nat}, Tg C es is → ∀ {σ : St} {vs : List Value} {ds : List D} {s : Shared} {Q : Unit → Shared → Prop} {E : Value → Shared → Prop}, Ok C s.heap σ → Reps (C.ex σ) s.heap vs ds → is.length = ds.length →
    (∀ h' t', Ok C h' (setL σ (is.zip ds)) → KpB [C.L] s.heap h' → Q () { s with heap := h', toks := t' }) → wpAny C.M C.A (assignInOrder ((assignEach es C.env).map (·.2)) vs) Q E s
  | _, _, .nil, σ, _, _, s, Q, E, O, .nil, _, h => wpAny_assignInOrder_none (h s.heap s.toks O KpB.refl)
  | _, _, .nil, σ, _, _, s, Q, E, O, .cons _ _, hl, h => by cases hl
  | _, _, .cons i hx t, σ, _, _, s, Q, E, O, .nil, hl, h => by cases hl
  | _, _, .cons i hx t, σ, _, _, s, Q, E, O, .cons r rs, hl, h => by
    refine wpAny_assignInOrder_more (wpAny_assign_Name (store_ok W hx O r fun h₁ t₁ O₁ k₁ => ?_))
    have rs₁ : Reps (C.ex σ) h₁ _ _ := rs.walk fun a o ha e q => ⟨k₁ a o (fun m => ha (by rw [List.mem_singleton] at m; subst m; exact .head _)) q.fix e, ha⟩
    exact tg_assign W t O₁ rs₁ (by simpa using hl) fun h₂ t₂ O₂ k₂ => h h₂ t₂ O₂ (kpB_trans k₁ k₂)
theorem assignEach_len : ∀ {es : List Expr} {is : List Nat}, Tg C es is → (assignEach es C.env).length = is.length ∧ (assignEach es C.env).findIdx? (·.1) = none
  | _, _, .nil => ⟨rfl, rfl⟩
  | _, _, .cons i hx t => by
    obtain ⟨a, b⟩ := assignEach_len t
    refine ⟨by simpa [assignEach] using a, ?_⟩
    simp only [assignEach, List.findIdx?_cons, b]
    rfl
theorem ex_tuple (W : Wf C) {es : List Expr} {is : List Nat} {k : Nat} {tp p : Pos} {e : Expr} {ds : List D} (t : Tg C es is) (he : Ev C σ e (.tup ds)) (hl : is.length = ds.length) (h : Φ .next (setL σ (is.zip ds)))
    (hs : noComp e = true := by rfl) (hw : noTuple e = true := by rfl) : Ex C σ (.Assign [.Tuple es k tp] e p) Φ := .mk fun s Q E O kk =>
  Assign_Tuple (he.run s _ E O fun v h₁ t₁ k₁ r₁ => by
    cases r₁ with
    | tup ht ha rs =>
      obtain ⟨a, b⟩ := assignEach_len t
      refine assign_Tuple_tuple W.handled ht (by rw [a, List.size_toArray, rs.length, hl]) b fun h₂ e₂ => ?_
      have k₂ := Kp.ofExtBut e₂
      rw [List.toList_toArray]
      exact tg_assign W t ((O.keep k₁).keep k₂) (rs.keep k₂) hl fun h₃ t₃ O₃ k₃ => kk _ .next _ h₃ t₃ .next O₃ (kpB_kp (k₁.trans k₂) (kpB_weak k₃ mem_L)) (fun a ha => .inl (by rw [setL_addrs] at ha; exact ha)) h) (sole_of hs _ _ _) (stores_of hw _ _)
theorem asg_tuple (W : Wf C) {es : List Expr} {is : List Nat} {k : Nat} {tp : Pos} (t : Tg C es is) : Asg C (.Tuple es k tp) (fun σ d => match d with | .tup ds => setL σ (is.zip ds) | _ => σ) (fun _ d => ∃ ds, d = .tup ds ∧ is.length = ds.length) :=
  ⟨fun σ d => by cases d <;> first | rfl | exact setL_addrs _ _, fun σ d s v Q E ⟨ds, hd, hl⟩ O r h => by
    subst hd
    cases r with
    | tup ht ha rs =>
      obtain ⟨a, b⟩ := assignEach_len t
      refine assign_Tuple_tuple W.handled ht (by rw [a, List.size_toArray, rs.length, hl]) b fun h₂ e₂ => ?_
      have k₂ := Kp.ofExtBut e₂
      rw [List.toList_toArray]
      exact tg_assign W t (O.keep k₂) (rs.keep k₂) hl fun h₃ t₃ O₃ k₃ => h h₃ t₃ O₃ (kpB_kp k₂ (kpB_weak k₃ mem_L))⟩
theorem tg_names (W : Wf C) : ∀ (is : List Nat) (xs : List PySem.Str), (∀ (j : Nat) i, is[j]? = some i → ∃ x, xs[j]? = some x ∧ C.names[i]? = some x) → is.length = xs.length → ∀ {σ : St} {vs : List Value} {ds : List D} {s : Shared} {Q : Unit → Shared → Prop} {E : Value → Shared → Prop}, Ok C s.heap σ → Reps (C.ex σ) s.heap vs ds → is.length = ds.length →
    (∀ h' t', Ok C h' (setL σ (is.zip ds)) → KpB [C.L] s.heap h' → Q () { s with heap := h', toks := t' }) → wpAny C.M C.A (assignInOrder (xs.map fun n => bindName C.env n) vs) Q E s
  | [], [], _, _, σ, _, _, s, Q, E, O, .nil, _, h => wpAny_assignInOrder_none (h s.heap s.toks O KpB.refl)
  | [], [], _, _, σ, _, _, s, Q, E, O, .cons _ _, hl, h => by cases hl
  | [], _ :: _, _, hx, σ, _, _, s, Q, E, O, _, hl, h => by cases hx
  | _ :: _, [], _, hx, σ, _, _, s, Q, E, O, _, hl, h => by cases hx
  | i :: is, x :: xs, hx, hlx, σ, _, _, s, Q, E, O, .nil, hl, h => by cases hl
  | i :: is, x :: xs, hx, hlx, σ, _, _, s, Q, E, O, .cons r rs, hl, h => by
    have hx0 : C.names[i]? = some x := by
      obtain ⟨y, h1, h2⟩ := hx 0 i rfl
      cases h1; exact h2
    refine wpAny_assignInOrder_more (wpAny_bindName (store_ok W hx0 O r fun h₁ t₁ O₁ k₁ => ?_))
    have rs₁ : Reps (C.ex σ) h₁ _ _ := rs.walk fun a o ha e q => ⟨k₁ a o (fun m => ha (by rw [List.mem_singleton] at m; subst m; exact .head _)) q.fix e, ha⟩
    exact tg_names W is xs (fun j i' e => hx (j + 1) i' e) (by simpa using hlx) O₁ rs₁ (by simpa using hl) fun h₂ t₂ O₂ k₂ => h h₂ t₂ O₂ (kpB_trans k₁ k₂)
/-- stores in the turned order: a, b = x, y -/
theorem ex_tuple_swap (W : Wf C) {es : List Expr} {is : List Nat} {xs : List PySem.Str} {k : Nat} {tp p : Pos} {e : Expr} {ds : List D} (he : Ev C σ e (.tup ds)) (hx : ∀ (j : Nat) i, is.reverse[j]? = some i → ∃ x, xs.reverse[j]? = some x ∧ C.names[i]? = some x) (hlx : is.length = xs.length) (hl : is.length = ds.length) (h : Φ .next (setL σ (is.reverse.zip ds.reverse)))
    (hw : swappedStores [.Tuple es k tp] e C.env = pure (some xs)) (hs : noComp e = true := by rfl) : Ex C σ (.Assign [.Tuple es k tp] e p) Φ := .mk fun s Q E O kk =>
  Assign_Tuple_swapped (names := xs) (he.run s _ E O fun v h₁ t₁ k₁ r₁ => by
    cases r₁ with
    | @tup _ vs _ ht ha rs =>
      have hsz : xs.length = vs.toArray.size := by rw [List.size_toArray, rs.length, ← hl, hlx]
      rw [hsz]
      refine unpackItems_tuple W.handled ht fun h₂ e₂ => ?_
      have k₂ := Kp.ofExtBut e₂
      rw [List.toList_toArray]
      exact tg_names W is.reverse xs.reverse hx (by simpa using hlx) ((O.keep k₁).keep k₂) (rs.keep k₂).reverse (by simpa using hl) fun h₃ t₃ O₃ k₃ => kk _ .next _ h₃ t₃ .next O₃ (kpB_kp (k₁.trans k₂) (kpB_weak k₃ mem_L)) (fun a ha => .inl (by rw [setL_addrs] at ha; exact ha)) h) (sole_of hs _ _ _) hw
/-- a def from its body -/
theorem lookup_zip : ∀ (ps : List PySem.Str) (vs : List Value) (i : Nat) (x : PySem.Str), ps.Nodup → ps.length = vs.length → ps[i]? = some x → (ps.zip vs).reverse.lookup x = vs[i]?
  | [], _, i, x, _, _, h => by simp at h
  | p :: ps, [], i, x, _, hl, _ => by cases hl
  | p :: ps, v :: vs, i, x, hn, hl, h => by
    have hn' := List.nodup_cons.mp hn
    rw [List.zip_cons_cons, List.reverse_cons, List.lookup_append]
    cases i with
    | zero =>
      simp only [List.getElem?_cons_zero, Option.some.injEq] at h ⊢
      subst h
      have : (ps.zip vs).reverse.lookup p = none := by
        rw [List.lookup_eq_none_iff]
        intro q hq
        rw [List.mem_reverse] at hq
        have := (List.of_mem_zip hq).1
        simp only [bne_iff_ne, ne_eq, beq_eq_false_iff_ne]
        rintro rfl
        exact hn'.1 this
      rw [this]
      simp [List.lookup]
    | succ i =>
      simp only [List.getElem?_cons_succ] at h ⊢
      rw [lookup_zip ps vs i x hn'.2 (by simpa using hl) h]
      have hi : i < vs.length := by
        rcases List.getElem?_eq_some_iff.mp h with ⟨q, _⟩
        simp only [List.length_cons] at hl; omega
      rw [List.getElem?_eq_getElem hi]
      rfl
theorem ns_hide {h : Heap} {a : Addr} {m : PySem.Str → Option Value} (x : h.Ns a m) (ha : a ∉ TT) : (hideAll h TT).Ns a m :=
  let ⟨o, es, ep, e, r⟩ := x; ⟨o, es, ep, hideAll_get _ e ha, r⟩
theorem fn_of_body {B : Bs} {f : Addr} {fd : FuncData} {body : List Stmt} {ps names : List PySem.Str} {ds : List D} {r : D} {k : Nat} {oc : Value} {od : Option Addr} {osl : Array (Option Value)}
    (ho : B.K.lookup f = some ⟨oc, od, .func fd, osl⟩) (hcd : codeIn B.K fd.code fd.qualname = true) (hbody : fd.body = .stmts body) (hbind : ∀ vs : List Value, vs.length = ps.length → bindArgs fd ⟨vs, []⟩ = pure (ps.zip vs))
    (hps : ps.length = ds.length) (hnd : names.Nodup) (hn : names.take ps.length = ps) (hloc : ∀ x ∈ names, fd.scope.names.lookup x = some .local) (hcell : ∀ x ∈ fd.scope.names, x.2 ≠ .cell) (hk : fd.scope.kind = .function) (hco : fd.scope.isCoroutine = false) (hgen : fd.scope.isGenerator = false)
    (hgl : fd.globals = mainGlobals) (hbl : fd.builtins = builtinsNs)
    (H : ∀ (A : Around) (L : Addr) (h₀ : Heap) (X : List Addr), Wf ⟨B, A, callEnv fd L f, h₀, X, names, [], []⟩ → A.depth + k < recursionLimit → A.units + 8 * k < cLine →
      Exs ⟨B, A, callEnv fd L f, h₀, X, names, [], []⟩ ⟨ds.map some ++ List.replicate (names.length - ds.length) none, []⟩ body (fun fl _ => fl = .ret r ∨ (fl = .next ∧ r = .none))) : Fn B f (k + 1) ds r := by
  constructor
  intro A s X vs Q E hB hTb hX hrep hh hdep hun hQ
  have hvl : vs.length = ps.length := hrep.length.trans hps.symm
  have hpn : ps.Nodup := by rw [← hn]; exact hnd.take
  have hpin : ∀ x ∈ ps, x ∈ names := fun x hx => by rw [← hn] at hx; exact List.mem_of_mem_take hx
  refine wpAny_call (codeAny_call_def (o := ⟨oc, od, .func fd, osl⟩) (fd := fd) (body := body) (binds := ps.zip vs) (by omega) (hB.K _ _ ho) rfl hB.lim (codeRec_of hB.K hcd) hbody (.of_eq (hbind vs hvl)) hcell (fun x hx => hloc _ (hpin _ (List.of_mem_zip hx).1)) (fun h₁ hns hkp => ?_) hco hgen hk)
  have hBg : B.In (hideAll s.heap TT) :=
    ⟨fun a o e => hideAll_get _ (hB.K a o e) (B.hT a o e), ns_hide hB.g (by decide), ns_hide hB.b (by decide), let ⟨mc, n, r⟩ := hB.lim; ⟨mc, ns_hide n (by decide), r⟩⟩
  have hW : Wf ⟨B, A.deeper (callEnv fd s.heap.objs.size f), callEnv fd s.heap.objs.size f, hideAll s.heap TT, X, names, [], []⟩ :=
    { kind := hk, gl := hgl, bl := hbl, loc := fun x hx => hloc x hx, nd := hnd, base := hBg, old := fun x hx => let ⟨h1, o, e⟩ := hX x hx; ⟨o, hideAll_get _ e h1⟩, handled := hh, cons := fun x d hx => (nomatch hx), cells := fun _ _ h => (nomatch h) }
  have hd1 : (A.deeper (callEnv fd s.heap.objs.size f)).depth = A.depth + 1 := rfl
  have hu1 : (A.deeper (callEnv fd s.heap.objs.size f)).units = A.units + 3 := rfl
  have O : Ok ⟨B, A.deeper (callEnv fd s.heap.objs.size f), callEnv fd s.heap.objs.size f, hideAll s.heap TT, X, names, [], []⟩ h₁ ⟨ds.map some ++ List.replicate (names.length - ds.length) none, []⟩ := by
    refine ⟨⟨_, ⟨hns, fun b o e => hkp b o (of_hideAll _ e), Nat.le_of_eq (hideAll_size _ _)⟩, fun i x d h1 h2 => ?_⟩, fun a l h => (nomatch h), .nil, hTb.full hkp, fun t ht => hideAll_none _ ht⟩
    have hi : i < ds.length := by
      by_cases q : i < ds.length
      · exact q
      · exfalso
        rw [List.getElem?_append_right (by simpa using Nat.le_of_not_lt q)] at h2
        rw [List.getElem?_replicate] at h2
        split at h2 <;> cases h2
    have e1 : ds[i]? = some d := by
      rw [List.getElem?_append_left (by simpa using hi), List.getElem?_map] at h2
      cases z : ds[i]? with
      | none => rw [z] at h2; cases h2
      | some d' => rw [z] at h2; cases h2; rfl
    have hp : ps[i]? = some x := by
      rw [← hn, List.getElem?_take_of_lt (by omega)]; exact h1
    obtain ⟨v, hv, rv⟩ := hrep.get e1
    refine ⟨v, (lookup_zip ps vs i x hpn hvl.symm hp).trans hv, rv.walk fun a o ha e _ => ⟨hkp a o e, fun m => ?_⟩⟩
    rcases List.mem_cons.mp m with m | m
    · exact absurd (Heap.lt_size e) (by rw [m]; exact Nat.lt_irrefl _)
    · rcases List.mem_append.mp m with m | m
      · exact ha m
      · cases m
  refine wpAny_mono ((H _ _ _ X hW (by omega) (by omega)).run { s with heap := h₁, toks := s.toks + (ps.zip vs).length } (fun fl s' => Q (match fl with | .ret v => v | _ => .none) s') (fun _ _ => False) O fun fl fl' σ' h' t' hf O' kp' nw hΦ => ?_) (fun fl s' h => h) (fun _ _ h => h.elim)
  have kk : Kp s.heap h' := ⟨fun b o f e => O'.kp0 b o (hideAll_get _ e (f.elim id fun hc => hTb.ne e (.inl hc))), fun _ => O'.tab⟩
  rcases hΦ with rfl | ⟨rfl, rfl⟩
  · cases hf with
    | ret r' => exact hQ _ h' t' kk (r'.mono fun a ha => .tail _ (List.mem_append_left _ ha))
  · cases hf; exact hQ _ h' t' kk .none
end
end Mine
-- part V6
namespace Mine
section
variable {C : Cx} {σ : St} {Φ : Fl → St → Prop}
/-- a list's items, frozen or the frame's own -/
inductive LstOf (C : Cx) (σ : St) : D → List D → Prop
  | lst (ds : List D) : LstOf C σ (.lst ds) ds
  | obj {a : Addr} {ds : List D} : a ∉ C.cs → (a, ds) ∈ σ.objs → LstOf C σ (.obj a) ds
theorem LstOf.get {h : Heap} {v : Value} {d : D} {ds : List D} (L : LstOf C σ d ds) (O : Ok C h σ) (r : Rep (C.ex σ) h v d) : ∃ l vs, v = .ref l ∧ h.IsList l vs.toArray ∧ Reps (C.ex σ) h vs ds := by
  cases L with
  | lst =>
    cases r with
    | lst hl _ rs => exact ⟨_, _, rfl, hl, rs⟩
  | obj hc hm =>
    cases r
    obtain ⟨vs, n, e, rs⟩ := (O.objs _ _ hm).1.list hc
    exact ⟨_, vs, rfl, ⟨_, e, rfl, n, rfl⟩, rs⟩
theorem reps_get {X : List Addr} {h : Heap} {vs : List Value} {ds : List D} {i : Nat} {d : D} (r : Reps X h vs ds) (e : ds[i]? = some d) : ∃ v, vs.toArray[i]? = some v ∧ Rep X h v d := by
  obtain ⟨v, e', r'⟩ := r.get e
  exact ⟨v, by simpa using e', r'⟩
theorem ev_item {a i : Expr} {p : Pos} {d x : D} {ds : List D} {k : Int} (ha : Ev C σ a d) (hl : LstOf C σ d ds) (hi : Ev C σ i (.int k)) (h0 : 0 ≤ k) (hk : k < 2 ^ 63) (hx : ds[k.toNat]? = some x)
    (hs : notSlice i = true := by rfl) : Ev C σ (.Subscript a i p) x := .mk fun s Q E O h =>
  Subscript_ (ha.run s _ E O fun v h₁ t₁ k₁ r₁ => hi.run _ _ E (O.keep k₁) fun u h₂ t₂ k₂ r₂ => by
    obtain ⟨l, vs, rfl, il, rs⟩ := hl.get ((O.keep k₁).keep k₂) (r₁.keep k₂)
    cases r₂
    obtain ⟨y, e, ry⟩ := reps_get rs hx
    exact tail_any il.typeIs slot_list_getitem.lookup (wpAny_getItem_list il h0 hk e (h y h₂ t₂ (k₁.trans k₂) ry)) (sub_of hs _ _))
theorem ev_len (W : Wf C) {p q : Pos} {e : Expr} {d : D} {ds : List D} (hk : C.env.kindOf (PySem.Str.ofString "len") = some .globalImplicit) (hg : C.B.mg (PySem.Str.ofString "len") = none) (hb : C.B.mb (PySem.Str.ofString "len") = some (.builtin "len")) (he : Ev C σ e d) (hl : LstOf C σ d ds) (hz : ds.length < 2 ^ 60)
    (hn : nst e = true := by rfl) : Ev C σ (.Call (.Name (PySem.Str.ofString "len") p) [e] [] q) (.int ds.length) :=
  ev_call_builtin W hk hg hb (evs_cons he evs_nil hn) (fun s Q E vs O rs h => by
    cases rs with
    | cons r1 rn =>
      cases rn
      obtain ⟨l, ws, rfl, il, rs⟩ := hl.get O r1
      have hsz : ws.toArray.size = ds.length := by rw [List.size_toArray, rs.length]
      refine len_list il (by rw [hsz]; omega) ?_
      rw [hsz]
      exact h _ _ _ Kp.refl (.int _ _)) (by simp [nsts, hn])
theorem ev_lens (W : Wf C) {p q : Pos} {e : Expr} {x : PySem.Str} (hk : C.env.kindOf (PySem.Str.ofString "len") = some .globalImplicit) (hg : C.B.mg (PySem.Str.ofString "len") = none) (hb : C.B.mb (PySem.Str.ofString "len") = some (.builtin "len")) (he : Ev C σ e (.str x)) (hz : x.length < 2 ^ 60)
    (hn : nst e = true := by rfl) : Ev C σ (.Call (.Name (PySem.Str.ofString "len") p) [e] [] q) (.int x.length) :=
  ev_call_builtin W hk hg hb (evs_cons he evs_nil hn) (fun s Q E vs O rs h => by
    cases rs with
    | cons r1 rn => cases rn; cases r1; exact P.len_str (by omega) (h _ _ _ Kp.refl (.int _ _))) (by simp [nsts, hn])
theorem ev_ord (W : Wf C) {p q : Pos} {e : Expr} {c : Nat} (hk : C.env.kindOf (PySem.Str.ofString "ord") = some .globalImplicit) (hg : C.B.mg (PySem.Str.ofString "ord") = none) (hb : C.B.mb (PySem.Str.ofString "ord") = some (.builtin "ord")) (he : Ev C σ e (.str ⟨⟨[c]⟩⟩))
    (hn : nst e = true := by rfl) : Ev C σ (.Call (.Name (PySem.Str.ofString "ord") p) [e] [] q) (.int c) :=
  ev_call_builtin W hk hg hb (evs_cons he evs_nil hn) (fun s Q E vs O rs h => by
    cases rs with
    | cons r1 rn => cases rn; cases r1; exact P.ord_of_char (h _ _ _ Kp.refl (.int _ _))) (by simp [nsts, hn])
theorem ev_chr (W : Wf C) {p q : Pos} {e : Expr} {i : Int} (hk : C.env.kindOf (PySem.Str.ofString "chr") = some .globalImplicit) (hg : C.B.mg (PySem.Str.ofString "chr") = none) (hb : C.B.mb (PySem.Str.ofString "chr") = some (.builtin "chr")) (he : Ev C σ e (.int i)) (h0 : 0 ≤ i) (h1 : i ≤ 1114111)
    (hn : nst e = true := by rfl) : Ev C σ (.Call (.Name (PySem.Str.ofString "chr") p) [e] [] q) (.str ⟨⟨[i.toNat]⟩⟩) :=
  ev_call_builtin W hk hg hb (evs_cons he evs_nil hn) (fun s Q E vs O rs h => by
    cases rs with
    | cons r1 rn => cases rn; cases r1; exact chr_of_range h0 h1 (h _ _ _ Kp.refl (.str _ _))) (by simp [nsts, hn])
theorem ev_divmod (W : Wf C) {p q : Pos} {e f : Expr} {a b : Int} (hk : C.env.kindOf (PySem.Str.ofString "divmod") = some .globalImplicit) (hg : C.B.mg (PySem.Str.ofString "divmod") = none) (hb : C.B.mb (PySem.Str.ofString "divmod") = some (.builtin "divmod")) (he : Ev C σ e (.int a)) (hf : Ev C σ f (.int b)) (h0 : b ≠ 0) (hp : Builtin.divisionGoesByPylong a b = false)
    (hn : nst e = true := by rfl) (hn' : nst f = true := by rfl) : Ev C σ (.Call (.Name (PySem.Str.ofString "divmod") p) [e, f] [] q) (.tup [.int (a.fdiv b), .int (a.fmod b)]) :=
  ev_call_builtin W hk hg hb (evs_cons he (evs_cons hf evs_nil hn') hn) (fun s Q E vs O rs h => by
    cases rs with
    | cons r1 rn =>
      cases rn with
      | cons r2 rn =>
        cases rn; cases r1; cases r2
        exact divmod_int h0 (h _ _ _ Kp.push (.tup (vs := [_, _]) ⟨_, Heap.get?_push_size _ rfl, rfl, _, rfl⟩ (O.freshA W) (.cons (.int _ _) (.cons (.int _ _) .nil)))) (.inl hp)) (by simp [nsts, hn, hn'])
theorem ev_meth0 {o : Expr} {name : PySem.Str} {apos pos : Pos} {d r : D} {id : String} {pl : Sem Bool} (ha : Ev C σ o d)
    (hget : ∀ (s : Shared) (v : Value) (Q : Value × List Value → Shared → Prop) (E : Value → Shared → Prop), Ok C s.heap σ → Rep (C.ex σ) s.heap v d → Q (.builtin id, [v]) s → wpAny C.M C.A (getMethod v name pl) Q E s)
    (hc : ∀ (s : Shared) (Q E : Value → Shared → Prop) (v : Value), Ok C s.heap σ → Rep (C.ex σ) s.heap v d → (∀ v h' t', Kp s.heap h' → Rep (C.ex σ) h' v r → Q v { s with heap := h', toks := t' }) → wpAny C.M C.A (call (.builtin id) [v]) Q E s)
    (he : eval (.Call (.Attribute o name apos) [] [] pos) C.env = (do
      let ov ← eval o C.env
      standAt apos.atName
      let (f, first) ← holding [ov] (getMethod ov name pl)
      callWith pos f first (backTo pos (starEach [] C.env)) []) := by rfl) : Ev C σ (.Call (.Attribute o name apos) [] [] pos) r := .mk fun s Q E O h =>
  MethodCall_ (ha.run s _ E O fun v h₁ t₁ k₁ r₁ => hget { s with heap := h₁, toks := t₁ } v _ _ (O.keep k₁) r₁ (callWith_method0 (hc { s with heap := h₁, toks := t₁ } _ _ v (O.keep k₁) r₁ fun z h₂ t₂ k₂ r₂ => h z h₂ t₂ (k₁.trans k₂) r₂))) he
theorem ev_bitlen {o : Expr} {apos pos : Pos} {x : Int} {pl : Sem Bool} (ha : Ev C σ o (.int x))
    (he : eval (.Call (.Attribute o (PySem.Str.ofString "bit_length") apos) [] [] pos) C.env = (do
      let ov ← eval o C.env
      standAt apos.atName
      let (f, first) ← holding [ov] (getMethod ov (PySem.Str.ofString "bit_length") pl)
      callWith pos f first (backTo pos (starEach [] C.env)) []) := by rfl) : Ev C σ (.Call (.Attribute o (PySem.Str.ofString "bit_length") apos) [] [] pos) (.int (Builtin.Int.intBits x)) :=
  ev_meth0 (id := "int.bit_length") ha (fun s v Q E O r h => by cases r; exact getMethod_int_bit_length h) (fun s Q E v O r h => by cases r; exact call_int_bit_length (h _ _ _ Kp.refl (.int _ _))) he
end
end Mine
-- part V7
namespace Mine
section
variable {C : Cx} {σ : St} {Φ : Fl → St → Prop}
theorem no_seq {o : Obj} {T : String} (h : o.cls = .type T) (h1 : T ≠ "tuple") (h2 : T ≠ "list") (h3 : T ≠ "dict" := by decide) : ¬ SeqO o := fun q => by
  rcases q with q | q | q <;> (rw [h] at q; cases q; first | exact h1 rfl | exact h2 rfl | exact h3 rfl)
theorem quiet_of {o : Obj} {T : String} (h : o.cls = .type T) (hq : ["enumerate", "zip", "dict_itemiterator", "dict_reverseitemiterator", "odict_iterator", "itertools.zip_longest", "itertools.pairwise"].contains T = false) : Quiet o := fun n e => by
  rw [h] at e; cases e; exact hq
theorem noC_iter {o : Obj} {v : Value} {i : Int} {t : Tok} {T : String} (h : o.cls = .type T) (hd : o.data = .fields #[v, .int i t]) : NoC o := fun vs e => by
  rw [hd] at e; cases e
  exact ⟨⟨i, t, rfl⟩, by rw [h]; nofun⟩
theorem listT {h : Heap} (x : TabOk h) {l : Addr} {vs : Array Value} (il : h.IsList l vs) : l ∉ TT := by
  obtain ⟨o, e, hc, _⟩ := il
  exact x.ne e (.inl (by rw [hc]; nofun))
theorem get_fresh {h : Heap} : h.get? h.objs.size = none := by
  cases e : h.get? h.objs.size with
  | none => rfl
  | some o => exact absurd (Heap.lt_size e) (Nat.lt_irrefl _)
theorem none_back {h h' : Heap} (k : Kp h h') {a : Addr} (ha : a ∉ TT) (e : h'.get? a = none) : h.get? a = none := by
  cases z : h.get? a with
  | none => rfl
  | some o => have := k.keep _ _ (.inl ha) z; rw [e] at this; cases this
theorem evIt_list (W : Wf C) {e : Expr} {ds : List D} (he : Ev C σ e (.lst ds)) : EvIt C σ e ds := .mk fun s Q E O h =>
  he.run s _ E O fun v h₁ t₁ k₁ r₁ => by
    have O₁ := O.keep k₁
    cases r₁ with
    | @lst l vs _ il ha rs =>
      obtain ⟨ol, hol, _⟩ := id il
      have hne : l ≠ h₁.objs.size := Nat.ne_of_lt (Heap.lt_size hol)
      refine wpAny_pyIter_list il ?_
      have hfr : s.heap.get? h₁.objs.size = none := by
        cases z : s.heap.get? h₁.objs.size with
        | none => rfl
        | some o => have := k₁.keep _ _ (.inl O₁.tab.fresh) z; rw [get_fresh] at this; cases this
      have hsz : vs.toArray.size = ds.length := by rw [List.size_toArray, rs.length]
      refine h h₁.objs.size _ t₁ (k₁.trans Kp.push) hfr ?_
      exact {
        fp := [h₁.objs.size, l]
        P := fun i v => vs.toArray[i]? = some v
        St := fun i h => h.IsListIter h₁.objs.size l i ∧ h.IsList l vs.toArray
        walks := hsz ▸ Walks.list W.handled h₁.objs.size l hne vs.toArray
        start := ⟨⟨_, Heap.get?_push_size _ rfl, rfl, rfl⟩, isList_kpB (xs := []) il (Kp.but Kp.push) (fun q => by cases q)⟩
        apart := fun b hb => by
          rcases List.mem_cons.mp hb with rfl | hb
          · exact ⟨O₁.freshA W, O₁.tab.fresh, _, Heap.get?_push_size _ rfl⟩
          · rw [List.mem_singleton] at hb; subst hb
            exact ⟨ha, listT O₁.tab il, _, Heap.get?_push_of_some _ hol⟩
        quiet := fun j h' st => let ⟨⟨o, ho, hc, hd⟩, _⟩ := st; ⟨o, ho, quiet_of hc (by decide)⟩
        kind := fun j h' st => by
          obtain ⟨⟨o, ho, hc, hd⟩, _⟩ := st
          exact ⟨o, ho, no_seq hc (by decide) (by decide), noC_iter hc hd, fun _ q => by rw [hd] at q; cases q⟩
        items := fun i v d hP hd => by
          obtain ⟨v', e', r'⟩ := reps_get rs hd
          rw [e'] at hP; cases hP
          exact r'.keep Kp.push }
theorem evIt_str (W : Wf C) {e : Expr} {x : PySem.Str} (he : Ev C σ e (.str x)) : EvIt C σ e (x.cps.toList.map fun c => .str ⟨⟨[c]⟩⟩) := .mk fun s Q E O h =>
  he.run s _ E O fun v h₁ t₁ k₁ r₁ => by
    have O₁ := O.keep k₁
    cases r₁ with
    | str _ t =>
      have hfr : s.heap.get? h₁.objs.size = none := by
        cases z : s.heap.get? h₁.objs.size with
        | none => rfl
        | some o => have := k₁.keep _ _ (.inl O₁.tab.fresh) z; rw [get_fresh] at this; cases this
      have hsz : x.cps.size = (x.cps.toList.map fun c => D.str ⟨⟨[c]⟩⟩).length := by simp
      have items : ∀ (hh : Heap) (i : Nat) (v : Value) (d : D), SignAt x i v → (x.cps.toList.map fun c => D.str ⟨⟨[c]⟩⟩)[i]? = some d → Rep (C.ex σ) hh v d := fun hh i v d hP hd => by
        obtain ⟨c, u, hc, rfl⟩ := hP
        rw [List.getElem?_map, Array.getElem?_toList, hc] at hd
        cases hd
        exact .str _ _
      cases ha : x.cps.all (· < 128)
      · refine wpAny_pyIter_wide ha (h h₁.objs.size _ t₁ (k₁.trans Kp.push) hfr ?_)
        exact {
          fp := [h₁.objs.size]
          P := SignAt x
          St := fun i h => h.IsStrIter h₁.objs.size "str_iterator" x t i
          walks := hsz ▸ Walks.strWide W.handled _ x t
          start := ⟨_, Heap.get?_push_size _ rfl, rfl, rfl⟩
          apart := fun b hb => by rw [List.mem_singleton] at hb; subst hb; exact ⟨O₁.freshA W, O₁.tab.fresh, _, Heap.get?_push_size _ rfl⟩
          quiet := fun j h' ⟨o, ho, hc, hd⟩ => ⟨o, ho, quiet_of hc (by decide)⟩
          kind := fun j h' ⟨o, ho, hc, hd⟩ => ⟨o, ho, no_seq hc (by decide) (by decide), noC_iter hc hd, fun _ q => by rw [hd] at q; cases q⟩
          items := items _ }
      · refine wpAny_pyIter_ascii ha (h h₁.objs.size _ t₁ (k₁.trans Kp.push) hfr ?_)
        exact {
          fp := [h₁.objs.size]
          P := SignAt x
          St := fun i h => h.IsStrIter h₁.objs.size "str_ascii_iterator" x t i
          walks := hsz ▸ Walks.strAscii W.handled _ x t
          start := ⟨_, Heap.get?_push_size _ rfl, rfl, rfl⟩
          apart := fun b hb => by rw [List.mem_singleton] at hb; subst hb; exact ⟨O₁.freshA W, O₁.tab.fresh, _, Heap.get?_push_size _ rfl⟩
          quiet := fun j h' ⟨o, ho, hc, hd⟩ => ⟨o, ho, quiet_of hc (by decide)⟩
          kind := fun j h' ⟨o, ho, hc, hd⟩ => ⟨o, ho, no_seq hc (by decide) (by decide), noC_iter hc hd, fun _ q => by rw [hd] at q; cases q⟩
          items := items _ }
/-- the ints of a range -/
noncomputable def rangeD (a : Int) (n : Nat) : List D := (List.range n).map fun i : Nat => .int (a + i)
theorem evIt_rangeOf (W : Wf C) {s : Shared} {Q E : Value → Shared → Prop} {r : Addr} {a b : Int} {t u v : Tok} (O : Ok C s.heap σ) (hr : IsRange s.heap r a b 1 t u v) (ha : -(2 ^ 62) ≤ a) (ha' : a < 2 ^ 62) (hb : -(2 ^ 62) ≤ b) (hb' : b < 2 ^ 62)
    (h : ∀ I h' t', Kp s.heap h' → s.heap.get? I = none → Iter C σ I (rangeD a (b - a).toNat) h' → Q (.ref I) { s with heap := h', toks := t' }) : wpAny C.M C.A (pyIter (.ref r)) Q E s := by
  refine wpAny_pyIter_range hr (small_one ha ha' hb hb') (h s.heap.objs.size _ s.toks Kp.push get_fresh ?_)
  have hsz : Builtin.Range.rangeSize a b 1 = ((b - a).toNat : Int) := by rw [rangeSize_one]; split <;> omega
  exact {
    fp := [s.heap.objs.size]
    P := fun i v => ∃ t, v = .int (a + i * 1) t
    St := fun i h => IsRangeIter h s.heap.objs.size (a + (i : Nat) * 1) (((b - a).toNat : Int) - (i : Nat)) 1
    walks := by
      rw [show (rangeD a (b - a).toNat).length = (b - a).toNat by simp [rangeD]]
      exact Walks.range W.handled _ a 1 (b - a).toNat
    start := by
      have e1 : (a + ((0 : Nat) : Int) * 1) = a := by simp
      have e2 : (((b - a).toNat : Int) - ((0 : Nat) : Int)) = Builtin.Range.rangeSize a b 1 := by rw [hsz]; simp
      rw [e1, e2]
      exact Heap.get?_push_size _ rfl
    apart := fun b hb => by rw [List.mem_singleton] at hb; subst hb; exact ⟨O.freshA W, O.tab.fresh, _, Heap.get?_push_size _ rfl⟩
    quiet := fun j h' st => ⟨_, st, quiet_of (T := "range_iterator") rfl (by decide)⟩
    kind := fun j h' st => ⟨_, st, no_seq (T := "range_iterator") rfl (by decide) (by decide), fun vs e => by cases e; exact ⟨⟨_, _, rfl⟩, nofun⟩, nofun⟩
    items := fun i v d ⟨tk, hv⟩ hd => by
      subst hv
      simp only [rangeD, List.getElem?_map] at hd
      cases z : (List.range (b - a).toNat)[i]? with
      | none => rw [z] at hd; cases hd
      | some j =>
        rw [z] at hd
        have : j = i := by
          have := List.getElem?_eq_some_iff.mp z
          obtain ⟨q1, q2⟩ := this
          simpa using q2.symm
        subst this
        cases hd
        rw [Int.mul_one]
        exact .int _ _ }
theorem evIt_range1 (W : Wf C) {p q : Pos} {e : Expr} {n : Int} (hk : C.env.kindOf (PySem.Str.ofString "range") = some .globalImplicit) (hg : C.B.mg (PySem.Str.ofString "range") = none) (hb : C.B.mb (PySem.Str.ofString "range") = some (.type "range")) (he : Ev C σ e (.int n)) (h1 : -(2 ^ 62) ≤ n) (h2 : n < 2 ^ 62)
    (hn : nst e = true := by rfl) : EvIt C σ (.Call (.Name (PySem.Str.ofString "range") p) [e] [] q) (rangeD 0 n.toNat) := .mk fun s Q E O h => by
  refine Call_Name rfl (name_builtin W O hk hg hb ?_ rfl)
  refine PyProof.Rows.callWith_type (star_any (by simp [nsts, hn]) _ _) ?_
  rw [star_cons hn]
  refine evalArgs_plain (spliced_cons (he.run s _ E O fun v h₁ t₁ k₁ r₁ => spliced_nil ?_))
  obtain ⟨tk, rfl⟩ : ∃ tk, v = .int n tk := by cases r₁; exact ⟨_, rfl⟩
  refine call_range_1 ?_
  have O₁ := (O.keep k₁).keep (Kp.push (o := { cls := .type "range", data := .fields #[.int 0 t₁, .int n tk, .int 1 (t₁ + 1)] }))
  refine evIt_rangeOf W (s := { s with heap := _, toks := t₁ + 1 + 1 }) O₁ (IsRange.new ..) (by decide) (by decide) h1 h2 fun I h' t' k' hI it => ?_
  rw [show n - 0 = n by omega] at it
  refine h I h' t' (k₁.trans (Kp.push.trans k')) ?_ it
  exact none_back (k₁.trans Kp.push) (it.apart I (it.walks.sub I (.head _))).2.1 hI
theorem evIt_range2 (W : Wf C) {p q : Pos} {e f : Expr} {a b : Int} (hk : C.env.kindOf (PySem.Str.ofString "range") = some .globalImplicit) (hg : C.B.mg (PySem.Str.ofString "range") = none) (hb : C.B.mb (PySem.Str.ofString "range") = some (.type "range")) (he : Ev C σ e (.int a)) (hf : Ev C σ f (.int b)) (h1 : -(2 ^ 62) ≤ a) (h2 : a < 2 ^ 62) (h3 : -(2 ^ 62) ≤ b) (h4 : b < 2 ^ 62)
    (hn : nst e = true := by rfl) (hn' : nst f = true := by rfl) : EvIt C σ (.Call (.Name (PySem.Str.ofString "range") p) [e, f] [] q) (rangeD a (b - a).toNat) := .mk fun s Q E O h => by
  refine Call_Name rfl (name_builtin W O hk hg hb ?_ rfl)
  refine PyProof.Rows.callWith_type (star_any (by simp [nsts, hn, hn']) _ _) ?_
  rw [star_cons hn, star_cons hn']
  refine evalArgs_plain (spliced_cons (he.run s _ E O fun v h₁ t₁ k₁ r₁ => spliced_cons (hf.run _ _ E (O.keep k₁) fun u h₂ t₂ k₂ r₂ => spliced_nil ?_)))
  obtain ⟨tk, rfl⟩ : ∃ tk, v = .int a tk := by cases r₁; exact ⟨_, rfl⟩
  obtain ⟨uk, rfl⟩ : ∃ tk, u = .int b tk := by cases r₂; exact ⟨_, rfl⟩
  refine call_range_2 ?_
  have O₂ := ((O.keep k₁).keep k₂).keep (Kp.push (o := { cls := .type "range", data := .fields #[.int a tk, .int b uk, .int 1 t₂] }))
  refine evIt_rangeOf W (s := { s with heap := _, toks := t₂ + 1 }) O₂ (IsRange.new ..) h1 h2 h3 h4 fun I h' t' k' hI it => ?_
  refine h I h' t' (k₁.trans (k₂.trans (Kp.push.trans k'))) ?_ it
  exact none_back (k₁.trans (k₂.trans Kp.push)) (it.apart I (it.walks.sub I (.head _))).2.1 hI
theorem evIt_rev (W : Wf C) {p q : Pos} {e : Expr} {ds : List D} (hk : C.env.kindOf (PySem.Str.ofString "reversed") = some .globalImplicit) (hg : C.B.mg (PySem.Str.ofString "reversed") = none) (hb : C.B.mb (PySem.Str.ofString "reversed") = some (.type "reversed")) (he : Ev C σ e (.lst ds))
    (hn : nst e = true := by rfl) : EvIt C σ (.Call (.Name (PySem.Str.ofString "reversed") p) [e] [] q) ds.reverse := .mk fun s Q E O h => by
  refine Call_Name rfl (name_builtin W O hk hg hb ?_ rfl)
  refine PyProof.Rows.callWith_type (star_any (by simp [nsts, hn]) _ _) ?_
  rw [star_cons hn]
  refine evalArgs_plain (spliced_cons (he.run s _ E O fun v h₁ t₁ k₁ r₁ => spliced_nil ?_))
  have O₁ := O.keep k₁
  cases r₁ with
  | @lst l vs _ il ha rs =>
    obtain ⟨ol, hol, _⟩ := id il
    have hne : l ≠ h₁.objs.size := Nat.ne_of_lt (Heap.lt_size hol)
    refine call_reversed_list il ?_
    have hsz : vs.toArray.size = ds.reverse.length := by rw [List.size_toArray, rs.length, List.length_reverse]
    have il' : (h₁.push (revObj l ((vs.toArray.size : Int) - 1))).IsList l vs.toArray := isList_kpB (xs := []) il (Kp.but Kp.push) (fun q => by cases q)
    have st : (h₁.push (revObj l ((vs.toArray.size : Int) - 1))).IsRevIter h₁.objs.size l ((vs.toArray.size : Int) - 1) := ⟨_, Heap.get?_push_size _ rfl, rfl, rfl⟩
    refine wpAny_pyIter_revIter st (h h₁.objs.size _ t₁ (k₁.trans Kp.push) ?_ ?_)
    · exact none_back k₁ O₁.tab.fresh get_fresh
    · exact {
        fp := [h₁.objs.size, l]
        P := fun i v => vs.toArray[vs.toArray.size - 1 - i]? = some v
        St := fun i h => i ≤ vs.toArray.size ∧ h.IsRevIter h₁.objs.size l ((vs.toArray.size : Int) - 1 - (i : Int)) ∧ h.IsList l vs.toArray
        walks := hsz ▸ Walks.listRev W.handled h₁.objs.size l hne vs.toArray
        start := ⟨Nat.zero_le _, by simpa using st, il'⟩
        apart := fun b hb => by
          rcases List.mem_cons.mp hb with rfl | hb
          · exact ⟨O₁.freshA W, O₁.tab.fresh, _, Heap.get?_push_size _ rfl⟩
          · rw [List.mem_singleton] at hb; subst hb
            exact ⟨ha, listT O₁.tab il, _, Heap.get?_push_of_some _ hol⟩
        quiet := fun j h' x => let ⟨_, ⟨o, ho, hc, hd⟩, _⟩ := x; ⟨o, ho, quiet_of hc (by decide)⟩
        kind := fun j h' x => by
          obtain ⟨_, ⟨o, ho, hc, hd⟩, _⟩ := x
          exact ⟨o, ho, no_seq hc (by decide) (by decide), noC_iter hc hd, fun _ q => by rw [hd] at q; cases q⟩
        items := fun i v d hP hd => by
          have hi : i < ds.length := by
            have := List.getElem?_eq_some_iff.mp hd
            obtain ⟨q, _⟩ := this
            simpa using q
          rw [List.getElem?_reverse hi] at hd
          obtain ⟨v', e', r'⟩ := reps_get rs hd
          have hvl : vs.toArray.size = ds.length := by rw [List.size_toArray, rs.length]
          rw [hvl, e'] at hP; cases hP
          exact r'.keep Kp.push }
end
end Mine
-- part V8
namespace Mine
section
variable {C : Cx} {σ : St} {Φ : Fl → St → Prop}
theorem no_cs (hz : C.cl = []) (a : Addr) : a ∉ C.cs := fun m => by
  rw [Cx.cs, hz] at m; cases m
theorem Ok.addObj (W : Wf C) (hcl : C.cl = []) {h : Heap} {vs : List Value} {ds : List D} {n : Nat} (O : Ok C h σ) (rs : Reps (C.ex σ) h vs ds) : Ok C (h.push (lob vs n)) ⟨σ.vars, (h.objs.size, ds) :: σ.objs⟩ := by
  have hk : ∀ (a : Addr) (o : Obj), a ∉ C.ex σ → h.get? a = some o → SeqO o → (h.push (lob vs n)).get? a = some o ∧ a ∉ C.ex ⟨σ.vars, (h.objs.size, ds) :: σ.objs⟩ := fun a o ha e _ => ⟨Heap.get?_push_of_some _ e, fun m => by
    rcases List.mem_cons.mp m with rfl | m
    · exact ha (.head _)
    rcases List.mem_append.mp m with m | m
    · exact ha (.tail _ (List.mem_append_left _ m))
    · rcases List.mem_cons.mp m with rfl | m
      · exact absurd (Heap.lt_size e) (Nat.lt_irrefl _)
      · exact ha (.tail _ (List.mem_append_right _ m))⟩
  have hA := O.freshA W
  have hcs := no_cs hcl h.objs.size
  obtain ⟨⟨m, F, hv⟩, ho, hn, ht, hg⟩ := O
  refine ⟨⟨m, F.push _, fun i x d h1 h2 => ?_⟩, fun a es hm => ?_, ?_, Kp.push.tab ht, hg⟩
  · obtain ⟨v, e, r⟩ := hv i x d h1 h2
    exact ⟨v, e, r.walk hk⟩
  · rcases List.mem_cons.mp hm with q | q
    · cases q
      refine ⟨.inl ⟨hcs, vs, n, Heap.get?_push_size _ rfl, rs.walk hk⟩, ?_, fun z => hA (z ▸ .head _)⟩
      cases z : C.h₀.get? h.objs.size with
      | none => rfl
      | some o => exact absurd (Heap.lt_size (F.keep _ _ z)) (Nat.lt_irrefl _)
    · obtain ⟨r, q1, q2⟩ := ho a es q
      exact ⟨r.walk hk fun o e => Heap.get?_push_of_some _ e, q1, q2⟩
  · refine List.nodup_cons.mpr ⟨fun z => hA (.tail _ (List.mem_append_right _ z)), hn⟩
/-- a new list of the frame's own -/
theorem ex_own (W : Wf C) (hcl : C.cl = []) {x : PySem.Str} {p p' q : Pos} {es : List Expr} {ds : List D} (i : Nat) (hx : C.names[i]? = some x) (hs : Evs C σ es ds) (hz : Nat.ble ds.length 1000 = true) (h : ∀ a, a ∉ σ.addrs → Φ .next ⟨σ.vars.set i (some (.obj a)), (a, ds) :: σ.objs⟩) : Ex C σ (.Assign [.Name x p'] (.List es q) p) Φ := .mk fun s Q E O k =>
  wpAny_Assign_Name (List_ (hs.run q s _ E O fun vs h₁ t₁ k₁ rs => by
    have O₁ := O.keep k₁
    refine wpAny_newObj_type ?_ (by show vs.toArray.size ≤ sizeLine; rw [List.size_toArray, rs.length, sizeLine_eq]; have := Nat.le_of_ble_eq_true hz; omega)
    have O₂ := O₁.addObj W hcl (n := 0) rs
    have hfr : h₁.objs.size ∉ σ.addrs := fun z => O₁.freshA W (.tail _ (List.mem_append_right _ z))
    refine store_ok W (σ := ⟨σ.vars, (h₁.objs.size, ds) :: σ.objs⟩) hx O₂ (.obj _) fun h₂ t₂ O₃ k₃ => k _ .next _ h₂ t₂ .next O₃ (kpB_kp (k₁.trans Kp.push) (kpB_weak k₃ mem_L)) (fun a ha => ?_) (h _ hfr)
    rcases List.mem_cons.mp ha with rfl | ha
    · refine .inr ?_
      exact none_back k₁ O₁.tab.fresh get_fresh
    · exact .inl ha)) (swaps_of rfl _ _ _)
theorem Ok.upObj {h h' : Heap} {a : Addr} {ds ds' : List D} {objs' : List (Addr × List D)} {vs' : List Value} {n' : Nat} (O : Ok C h σ) (u : Up a ds ds' σ.objs objs') (hc : a ∉ C.cs) (ha : h'.get? a = some (lob vs' n')) (rs : Reps (C.ex σ) h vs' ds') (k : ∀ b ob, b ≠ a → h.get? b = some ob → h'.get? b = some ob) : Ok C h' ⟨σ.vars, objs'⟩ := by
  have hin : a ∈ C.ex σ := .tail _ (List.mem_append_right _ (List.mem_map_of_mem (f := (·.1)) u.mem))
  obtain ⟨_, _, ea, _⟩ := (O.objs a ds u.mem).1.list hc
  exact O.upOwn u (.inl ⟨hc, vs', n', ha, rs.walk fun b o hb e _ => ⟨k b o (fun z => hb (z ▸ hin)) e, hb⟩⟩) k ⟨_, ea, SeqO.noC rfl⟩
theorem ex_append (W : Wf C) (hcl : C.cl = []) {x : PySem.Str} {p px ap q : Pos} {e : Expr} {d : D} {a : Addr} {ds : List D} {objs' : List (Addr × List D)} {pl : Sem Bool} (i : Nat) (hx : C.names[i]? = some x) (hv : σ.vars[i]? = some (some (.obj a))) (he : Ev C σ e d) (u : Up a ds (ds ++ [d]) σ.objs objs') (hz : ds.length ≤ 100000) (h : Φ .next ⟨σ.vars, objs'⟩)
    (hn : nst e = true := by rfl)
    (hc : eval (.Call (.Attribute (.Name x px) (PySem.Str.ofString "append") ap) [e] [] q) C.env = (do
      let ov ← eval (.Name x px) C.env
      standAt ap.atName
      let (f, first) ← holding [ov] (getMethod ov (PySem.Str.ofString "append") pl)
      callWith q f first (backTo q (starEach [e] C.env)) []) := by rfl)
    (hi : interactive C.env = false := by rfl) (hb : (x == ("__debug__" : PySem.Str)) = false := by rfl) :
    Ex C σ (.Expr (.Call (.Attribute (.Name x px) (PySem.Str.ofString "append") ap) [e] [] q) p) Φ := .mk fun s Q E O k => by
  refine wpAny_Expr (MethodCall_ ?_ hc) hi (swaps_of rfl _ _ _)
  refine (ev_name W i hx hv hb).run s _ E O fun v h₁ t₁ k₁ r₁ => ?_
  have O₁ := O.keep k₁
  cases r₁
  obtain ⟨vs, n, hA, rs⟩ := (O₁.objs _ _ u.mem).1.list (no_cs hcl _)
  refine getMethod_list_append hA rfl rfl ?_
  rw [star_cons hn]
  refine callWith_builtin rfl (evalArgs_plain (spliced_cons (he.run _ _ E O₁ fun y h₂ t₂ k₂ r₂ => spliced_nil ?_)))
  have O₂ := O₁.keep k₂
  refine wpAny_list_append_plain (s := { s with heap := h₂, toks := t₂ }) (items := ⟨vs⟩) ⟨n, k₂.keep _ _ (.inr nofun) hA⟩ (fun h₃ hp hsb => ?_) (by show vs.length ≤ sizeLine; rw [rs.length, sizeLine_eq]; omega)
  obtain ⟨n₃, e₃⟩ := hp
  have kB : ∀ b o, b ≠ a → h₂.get? b = some o → h₃.get? b = some o := fun b o hb e => (hsb.2 b hb).trans e
  refine k _ .next _ h₃ t₂ .next (O₂.upObj u (no_cs hcl _) (vs' := vs ++ [y]) (n' := n₃) (by rw [e₃]; simp [lob]) ((rs.keep k₂).append (.cons r₂ .nil)) kB) ?_ (fun b hb => .inl (by rw [St.addrs, u.addrs] at hb; exact hb)) h
  exact kpB_kp (k₁.trans k₂) fun b o hb _ e => kB b o (fun z => hb (z ▸ .tail _ (List.mem_map_of_mem (f := (·.1)) u.mem))) e
theorem ex_reverse (W : Wf C) (hcl : C.cl = []) {x : PySem.Str} {p px ap q : Pos} {a : Addr} {ds : List D} {objs' : List (Addr × List D)} {pl : Sem Bool} (i : Nat) (hx : C.names[i]? = some x) (hv : σ.vars[i]? = some (some (.obj a))) (u : Up a ds ds.reverse σ.objs objs') (hz : ds.length ≤ 100000) (h : Φ .next ⟨σ.vars, objs'⟩)
    (hc : eval (.Call (.Attribute (.Name x px) (PySem.Str.ofString "reverse") ap) [] [] q) C.env = (do
      let ov ← eval (.Name x px) C.env
      standAt ap.atName
      let (f, first) ← holding [ov] (getMethod ov (PySem.Str.ofString "reverse") pl)
      callWith q f first (backTo q (starEach [] C.env)) []) := by rfl)
    (hi : interactive C.env = false := by rfl) (hb : (x == ("__debug__" : PySem.Str)) = false := by rfl) :
    Ex C σ (.Expr (.Call (.Attribute (.Name x px) (PySem.Str.ofString "reverse") ap) [] [] q) p) Φ := .mk fun s Q E O k => by
  refine wpAny_Expr (MethodCall_ ?_ hc) hi (swaps_of rfl _ _ _)
  refine (ev_name W i hx hv hb).run s _ E O fun v h₁ t₁ k₁ r₁ => ?_
  have O₁ := O.keep k₁
  cases r₁
  obtain ⟨vs, n, hA, rs⟩ := (O₁.objs _ _ u.mem).1.list (no_cs hcl _)
  have il : h₁.IsList a vs.toArray := ⟨_, hA, rfl, n, rfl⟩
  refine getMethod_list_of (s := { s with heap := h₁, toks := t₁ }) (items := vs.toArray) PySem.F.slot_list_reverse PySem.F.type_list_reverse il ?_ (callWith_method0 ?_)
  · exact ⟨_, hA, rfl⟩
  refine call_meets PySem.F.slot_list_reverse ⟨_, hA, rfl⟩ PySem.F.entry_list_reverse (PySem.F.args_list_reverse_1 _) (PySem.AutoSeq1.list_reverse_list_0 a ⟨vs⟩ n (by show vs.length ≤ sizeLine; rw [rs.length, sizeLine_eq]; omega)) ⟨hA, ?_⟩
  have kB : ∀ b o, b ≠ a → h₁.get? b = some o → (h₁.update a (Obj.mapSeq fun x => x.reverse)).get? b = some o := fun b o hb e => (Heap.get?_update_ne _ _ _ _ hb).trans e
  have e₃ : (h₁.update a (Obj.mapSeq fun x => x.reverse)).get? a = some (lob vs.reverse n) := by
    rw [Heap.get?_update_self _ hA (by simp [lob, Obj.mapSeq, Obj.isFreed])]
    simp [lob, Obj.mapSeq]
  refine k _ .next _ _ t₁ .next (O₁.upObj u (no_cs hcl _) (vs' := vs.reverse) (n' := n) e₃ rs.reverse kB) ?_ (fun b hb => .inl (by rw [St.addrs, u.addrs] at hb; exact hb)) h
  exact kpB_kp k₁ fun b o hb _ e => kB b o (fun z => hb (z ▸ .tail _ (List.mem_map_of_mem (f := (·.1)) u.mem))) e
end
end Mine
-- part V9
namespace Mine
section
variable {C : Cx} {σ : St} {Φ : Fl → St → Prop} {rest : List Stmt}
theorem exs_assign (W : Wf C) {x : PySem.Str} {p p' : Pos} {e : Expr} {d : D} (i : Nat) (hx : C.names[i]? = some x) (he : Ev C σ e d) (h : Exs C (σ.set i d) rest Φ) (hs : noComp e = true := by rfl) : Exs C σ (.Assign [.Name x p'] e p :: rest) Φ :=
  exs_cons (ex_assign W i hx he h hs)
theorem exs_ret {e : Expr} {p : Pos} {d : D} (he : Ev C σ e d) (h : Φ (.ret d) σ) : Exs C σ (.Return (some e) p :: rest) Φ := exs_cons (ex_ret he h)
theorem exs_if {t : Expr} {a b : List Stmt} {p : Pos} {c : Bool} (ht : Ts C σ t c) (ha : c = true → Exs C σ a fun fl σ' => match fl with | .next => Exs C σ' rest Φ | fl => Φ fl σ') (hb : c = false → Exs C σ b fun fl σ' => match fl with | .next => Exs C σ' rest Φ | fl => Φ fl σ') : Exs C σ (.If t a b p :: rest) Φ :=
  exs_cons (ex_if ht ha hb)
/-- an if that leaves when its test holds -/
theorem exs_if_leave {t : Expr} {a : List Stmt} {p : Pos} {c : Bool} (ht : Ts C σ t c) (ha : c = true → Exs C σ a fun fl σ' => match fl with | .next => Exs C σ' rest Φ | fl => Φ fl σ') (hb : c = false → Exs C σ rest Φ) : Exs C σ (.If t a [] p :: rest) Φ :=
  exs_if ht ha fun q => exs_nil (hb q)
theorem exs_tuple (W : Wf C) {es : List Expr} {is : List Nat} {k : Nat} {tp p : Pos} {e : Expr} {ds : List D} (t : Tg C es is) (he : Ev C σ e (.tup ds)) (hl : is.length = ds.length) (h : Exs C (setL σ (is.zip ds)) rest Φ)
    (hs : noComp e = true := by rfl) (hw : noTuple e = true := by rfl) : Exs C σ (.Assign [.Tuple es k tp] e p :: rest) Φ :=
  exs_cons (ex_tuple W t he hl h hs hw)
theorem ts_conv {e : Expr} {a b : Bool} (h : Ts C σ e a) (q : a = b) : Ts C σ e b := q ▸ h
theorem ev_conv {e : Expr} {a b : D} (h : Ev C σ e a) (q : a = b) : Ev C σ e b := q ▸ h
theorem evIt_conv {e : Expr} {a b : List D} (h : EvIt C σ e a) (q : a = b) : EvIt C σ e b := q ▸ h
end
theorem fmod_range (n : Int) {m : Int} (h : 0 < m) : 0 ≤ n.fmod m ∧ n.fmod m < m := by
  rw [Int.fmod_eq_emod_of_nonneg _ (Int.le_of_lt h)]
  exact ⟨Int.emod_nonneg _ (by omega), Int.emod_lt_of_pos _ h⟩
end Mine
-- part V10
namespace Mine
section
variable {C : Cx} {σ : St} {Φ : Fl → St → Prop}
theorem Reps.set {X : List Addr} {h : Heap} {v : Value} {d : D} : ∀ {vs : List Value} {ds : List D} (j : Nat), Reps X h vs ds → Rep X h v d → Reps X h (vs.set j v) (ds.set j d)
  | _, _, _, .nil, _ => .nil
  | _, _, 0, .cons _ b, rv => .cons rv b
  | _, _, j + 1, .cons a b, rv => .cons a (b.set j rv)
theorem exs_view {σ' : St} {l : List Stmt} (v : ∀ h, Ok C h σ → Ok C h σ') (ha : ∀ a ∈ σ'.addrs, a ∈ σ.addrs) (h : Exs C σ' l Φ) : Exs C σ l Φ := .mk fun s Q E O k =>
  h.run s Q E (v _ O) fun f fl σ'' h' t' hf O' kB nw hΦ => k f fl σ'' h' t' hf O' (kpB_weak kB fun a m => (List.mem_cons.mp m).elim (fun z => z ▸ .head _) fun z => .tail _ (ha a z)) (fun a m => (nw a m).imp (ha a) id) hΦ
/-- a list of the frame's own given away -/
theorem Ok.freeze (W : Wf C) (hcl : C.cl = []) {h : Heap} {vars : List (Option D)} {i : Nat} {a : Addr} {ds : List D} {objs : List (Addr × List D)} (O : Ok C h ⟨vars, (a, ds) :: objs⟩) (hi : vars[i]? = some (some (.obj a))) : Ok C h ⟨vars.set i (some (.lst ds)), objs⟩ := by
  obtain ⟨⟨m, F, hv⟩, ho, hn, ht, hg⟩ := O
  have hsub : ∀ b ∈ C.ex ⟨vars.set i (some (.lst ds)), objs⟩, b ∈ C.ex ⟨vars, (a, ds) :: objs⟩ := fun b hb => by
    rcases List.mem_cons.mp hb with rfl | hb
    · exact .head _
    rcases List.mem_append.mp hb with hb | hb
    · exact .tail _ (List.mem_append_left _ hb)
    · exact .tail _ (List.mem_append_right _ (.tail _ hb))
  obtain ⟨r₀, q0, qL⟩ := ho a ds (.head _)
  obtain ⟨vs, n, e, rs⟩ := r₀.list (no_cs hcl _)
  have hna : a ∉ C.ex ⟨vars.set i (some (.lst ds)), objs⟩ := fun hb => by
    rcases List.mem_cons.mp hb with hb | hb
    · exact qL hb
    rcases List.mem_append.mp hb with hb | hb
    · obtain ⟨o, z⟩ := W.old a hb
      rw [q0] at z; cases z
    · exact (List.nodup_cons.mp hn).1 hb
  refine ⟨⟨m, F, fun j x d h1 h2 => ?_⟩, fun b es hm => ?_, (List.nodup_cons.mp hn).2, ht, hg⟩
  · by_cases hij : i = j
    · subst hij
      have hd : d = .lst ds := by
        simp only [List.getElem?_set_self'] at h2
        rw [hi] at h2; cases h2; rfl
      subst hd
      obtain ⟨v, e1, r1⟩ := hv i x _ h1 hi
      cases r1
      exact ⟨_, e1, .lst (vs := vs) ⟨_, e, rfl, n, rfl⟩ hna (rs.mono hsub)⟩
    · simp only [List.getElem?_set_ne hij] at h2
      obtain ⟨v, e1, r1⟩ := hv j x d h1 h2
      exact ⟨v, e1, r1.mono hsub⟩
  · obtain ⟨r1, q⟩ := ho b es (.tail _ hm)
    exact ⟨r1.walk (fun x o hx e _ => ⟨e, fun z => hx (hsub _ z)⟩) (fun o e => e), q⟩
theorem exs_freeze (W : Wf C) (hcl : C.cl = []) {l : List Stmt} {vars : List (Option D)} {a : Addr} {ds : List D} {objs : List (Addr × List D)} (i : Nat) (hi : vars[i]? = some (some (.obj a))) (h : Exs C ⟨vars.set i (some (.lst ds)), objs⟩ l Φ) : Exs C ⟨vars, (a, ds) :: objs⟩ l Φ :=
  exs_view (fun _ O => O.freeze W hcl hi) (fun b hb => .tail _ hb) h
abbrev adr (ob : List (Addr × List D)) : List Addr := ob.map (·.1)
/-- lists that a def turns -/
structure Own (X : List Addr) (h : Heap) (ob : List (Addr × List D)) : Prop where
  at' : ∀ a ds, (a, ds) ∈ ob → ∃ vs n, h.get? a = some (lob vs n) ∧ Reps (X ++ adr ob) h vs ds ∧ a ∉ X
  nodup : (adr ob).Nodup
structure FnO (B : Bs) (f : Addr) (k : Nat) (ds : List D) (ob ob' : List (Addr × List D)) (r : D) : Prop where
  run : ∀ (A : Around) (s : Shared) (X : List Addr) (vs : List Value) (Q E : Value → Shared → Prop), B.In s.heap → TabOk s.heap → (∀ x ∈ X, x ∉ TT ∧ ∃ o, s.heap.get? x = some o) → Own X s.heap ob → Reps (X ++ adr ob) s.heap vs ds → A.handled = none → A.depth + k < recursionLimit → A.units + 8 * k < cLine →
    (∀ v h' t', KpB (adr ob) s.heap h' → TabOk h' → Own X h' ob' → Rep (X ++ adr ob') h' v r → Q v { s with heap := h', toks := t' }) → wpAny (model B.prog B.w) A (call (.ref f) vs) Q E s
theorem FnO.le {B : Bs} {f : Addr} {k j : Nat} {ds : List D} {ob ob' : List (Addr × List D)} {r : D} (h : FnO B f k ds ob ob' r) (hk : k ≤ j) : FnO B f j ds ob ob' r :=
  .mk fun A s X vs Q E b tb x ow v hh hd hu q => h.run A s X vs Q E b tb x ow v hh (by omega) (by omega) q
theorem fn_of_fno {B : Bs} {f : Addr} {k : Nat} {ds : List D} {r : D} (h : FnO B f k ds [] [] r) : Fn B f k ds r :=
  .mk fun A s X vs Q E b tb x v hh hd hu q => h.run A s X vs Q E b tb x ⟨fun a l hm => (nomatch hm), .nil⟩ (by simpa using v) hh hd hu fun v h' t' kB tb' _ r => q v h' t' ⟨fun b o f e => kB b o (fun m => nomatch m) f e, fun _ => tb'⟩ (by simpa using r)
theorem ns_hideO {h : Heap} {a : Addr} {m : PySem.Str → Option Value} {X : List Addr} {ob : List (Addr × List D)} (x : h.Ns a m) (ha : a ∉ TT) (ow : Own X h ob) : (hideAll h (adr ob ++ TT)).Ns a m := by
  obtain ⟨o, es, ep, e, hd, r⟩ := x
  refine ⟨o, es, ep, hideAll_get _ e fun hm => ?_, hd, r⟩
  rcases List.mem_append.mp hm with hm | hm
  · obtain ⟨p, hp, rfl⟩ := List.mem_map.mp hm
    obtain ⟨vs, n, e', _⟩ := ow.at' p.1 p.2 hp
    rw [e] at e'; cases e'; cases hd
  · exact ha hm
theorem fno_of_body {B : Bs} {f : Addr} {fd : FuncData} {body : List Stmt} {ps names : List PySem.Str} {ds : List D} {r : D} {k : Nat} {oc : Value} {od : Option Addr} {osl : Array (Option Value)} (cv : List (PySem.Str × D)) (ob ob' : List (Addr × List D))
    (ho : B.K.lookup f = some ⟨oc, od, .func fd, osl⟩) (hcd : ∀ h, B.In h → h.CodeRec fd.code fd.qualname) (hbody : fd.body = .stmts body) (hbind : ∀ vs : List Value, vs.length = ps.length → bindArgs fd ⟨vs, []⟩ = pure (ps.zip vs))
    (hps : ps.length = ds.length) (hnd : names.Nodup) (hn : names.take ps.length = ps) (hloc : ∀ x ∈ names, fd.scope.names.lookup x = some .local) (hcell : ∀ x ∈ fd.scope.names, x.2 ≠ .cell) (hk : fd.scope.kind = .function) (hco : fd.scope.isCoroutine = false) (hgen : fd.scope.isGenerator = false)
    (hgl : fd.globals = mainGlobals) (hbl : fd.builtins = builtinsNs)
    (hcv : ∀ x d, (x, d) ∈ cv → fd.scope.names.lookup x = some .free ∧ ∃ c v o, fd.closure.lookup x = some c ∧ B.K.lookup c = some o ∧ o.data = .cell (some v) ∧ ∀ X h, Rep X h v d)
    (hKo : ∀ a ∈ adr ob, B.K.lookup a = none)
    (H : ∀ (A : Around) (L : Addr) (h₀ : Heap) (X : List Addr), Wf ⟨B, A, callEnv fd L f, h₀, X, names, cv, []⟩ → A.depth + k < recursionLimit → A.units + 8 * k < cLine →
      Exs ⟨B, A, callEnv fd L f, h₀, X, names, cv, []⟩ ⟨ds.map some ++ List.replicate (names.length - ds.length) none, ob⟩ body (fun fl σ' => (fl = .ret r ∨ (fl = .next ∧ r = .none)) ∧ σ'.objs = ob')) : FnO B f (k + 1) ds ob ob' r := by
  constructor
  intro A s X vs Q E hB hTb hX hO hrep hh hdep hun hQ
  have hvl : vs.length = ps.length := hrep.length.trans hps.symm
  have hpn : ps.Nodup := by rw [← hn]; exact hnd.take
  have hpin : ∀ x ∈ ps, x ∈ names := fun x hx => by rw [← hn] at hx; exact List.mem_of_mem_take hx
  refine wpAny_call (codeAny_call_def (o := ⟨oc, od, .func fd, osl⟩) (fd := fd) (body := body) (binds := ps.zip vs) (by omega) (hB.K _ _ ho) rfl hB.lim (hcd _ hB) hbody (.of_eq (hbind vs hvl)) hcell (fun x hx => hloc _ (hpin _ (List.of_mem_zip hx).1)) (fun h₁ hns hkp => ?_) hco hgen hk)
  have hBg : B.In (hideAll s.heap (adr ob ++ TT)) :=
    ⟨fun a o e => hideAll_get _ (hB.K a o e) fun m => (List.mem_append.mp m).elim (fun m => by rw [hKo a m] at e; cases e) (B.hT a o e), ns_hideO hB.g (by decide) hO, ns_hideO hB.b (by decide) hO, let ⟨mc, n, r⟩ := hB.lim; ⟨mc, ns_hideO n (by decide) hO, r⟩⟩
  have hXo : ∀ x ∈ X, x ∉ adr ob ++ TT := fun x hx m => (List.mem_append.mp m).elim (fun m => by
    obtain ⟨p, hp, rfl⟩ := List.mem_map.mp m
    obtain ⟨_, _, _, _, q⟩ := hO.at' p.1 p.2 hp
    exact q hx) (hX x hx).1
  have hW : Wf ⟨B, A.deeper (callEnv fd s.heap.objs.size f), callEnv fd s.heap.objs.size f, hideAll s.heap (adr ob ++ TT), X, names, cv, []⟩ :=
    { kind := hk, gl := hgl, bl := hbl, loc := fun x hx => hloc x hx, nd := hnd, base := hBg, old := fun x hx => let ⟨h1, o, e⟩ := hX x hx; ⟨o, hideAll_get _ e (hXo x hx)⟩, handled := hh, cons := fun x d hx => let ⟨h1, c, v, o, h2, h3, h4, h5⟩ := hcv x d hx; ⟨.inr h1, c, v, h2, ⟨o, hBg.K _ _ h3, h4⟩, h5 _ _⟩, cells := fun _ _ h => (nomatch h) }
  have hd1 : (A.deeper (callEnv fd s.heap.objs.size f)).depth = A.depth + 1 := rfl
  have hu1 : (A.deeper (callEnv fd s.heap.objs.size f)).units = A.units + 3 := rfl
  have hwalk : ∀ a o, a ∉ X ++ adr ob → s.heap.get? a = some o → SeqO o → h₁.get? a = some o ∧ a ∉ s.heap.objs.size :: (X ++ adr ob) := fun a o ha e _ => ⟨hkp a o e, fun m => by
    rcases List.mem_cons.mp m with m | m
    · exact absurd (Heap.lt_size e) (by rw [m]; exact Nat.lt_irrefl _)
    · exact ha m⟩
  have O : Ok ⟨B, A.deeper (callEnv fd s.heap.objs.size f), callEnv fd s.heap.objs.size f, hideAll s.heap (adr ob ++ TT), X, names, cv, []⟩ h₁ ⟨ds.map some ++ List.replicate (names.length - ds.length) none, ob⟩ := by
    refine ⟨⟨_, ⟨hns, fun b o e => hkp b o (of_hideAll _ e), Nat.le_of_eq (hideAll_size _ _)⟩, fun i x d h1 h2 => ?_⟩, fun a l hm => ?_, hO.nodup, hTb.full hkp, fun t ht => hideAll_none _ (List.mem_append_right _ ht)⟩
    · have hi : i < ds.length := by
        by_cases q : i < ds.length
        · exact q
        · exfalso
          rw [List.getElem?_append_right (by simpa using Nat.le_of_not_lt q)] at h2
          rw [List.getElem?_replicate] at h2
          split at h2 <;> cases h2
      have e1 : ds[i]? = some d := by
        rw [List.getElem?_append_left (by simpa using hi), List.getElem?_map] at h2
        cases z : ds[i]? with
        | none => rw [z] at h2; cases h2
        | some d' => rw [z] at h2; cases h2; rfl
      have hp : ps[i]? = some x := by
        rw [← hn, List.getElem?_take_of_lt (by omega)]; exact h1
      obtain ⟨v, hv, rv⟩ := hrep.get e1
      exact ⟨v, (lookup_zip ps vs i x hpn hvl.symm hp).trans hv, rv.walk hwalk⟩
    · obtain ⟨ws, n, e, rs, q⟩ := hO.at' a l hm
      exact ⟨.inl ⟨fun h => (nomatch h), ws, n, hkp _ _ e, rs.walk hwalk⟩, hideAll_none _ (List.mem_append_left _ (List.mem_map_of_mem (f := (·.1)) hm)), fun z => absurd (Heap.lt_size e) (by rw [z]; exact Nat.lt_irrefl _)⟩
  refine wpAny_mono ((H _ _ _ X hW (by omega) (by omega)).run { s with heap := h₁, toks := s.toks + (ps.zip vs).length } (fun fl s' => Q (match fl with | .ret v => v | _ => .none) s') (fun _ _ => False) O fun fl fl' σ' h' t' hf O' kp' nw hΦ => ?_) (fun fl s' h => h) (fun _ _ h => h.elim)
  obtain ⟨hΦ, hob⟩ := hΦ
  have kk : KpB (adr ob) s.heap h' := fun b o hb f e => O'.kp0 b o (hideAll_get _ e fun m => (List.mem_append.mp m).elim hb (f.elim id fun hc => hTb.ne e (.inl hc)))
  have hex : ∀ a ∈ X ++ adr ob', a ∈ (s.heap.objs.size :: (X ++ σ'.addrs)) := fun a ha => by rw [← hob] at ha; exact .tail _ ha
  have ow : Own X h' ob' := by
    refine ⟨fun a l hm => ?_, hob ▸ O'.nodup⟩
    rw [← hob] at hm
    obtain ⟨r₀, q0, _⟩ := O'.objs a l hm
    obtain ⟨ws, n, e, rs⟩ := r₀.list (fun h => (nomatch h))
    refine ⟨ws, n, e, rs.mono hex, fun hx => ?_⟩
    obtain ⟨h1, o, e'⟩ := hX a hx
    have := hideAll_get (adr ob ++ TT) e' (hXo a hx)
    rw [show (hideAll s.heap (adr ob ++ TT)).get? a = none from q0] at this; cases this
  rcases hΦ with rfl | ⟨rfl, rfl⟩
  · cases hf with
    | ret r' => exact hQ _ h' t' kk O'.tab ow (r'.mono hex)
  · cases hf; exact hQ _ h' t' kk O'.tab ow .none
/-- a call of a def that a cell holds -/
theorem ev_call_cons (W : Wf C) {x : PySem.Str} {p q : Pos} {f : Addr} {k : Nat} {o : Obj} {fd : FuncData} {e : Expr} {es : List Expr} {ds : List D} {r : D} (hx : (x, D.obj f) ∈ C.cv) (ho : C.B.K.lookup f = some o) (hf : o.data = .func fd) (hs : Evs C σ (e :: es) ds)
    (hc : Fn C.B f k ds r) (hd1 : C.A.depth + k < recursionLimit) (hu1 : C.A.units + 8 * k < cLine)
    (hn : nst e = true := by rfl) (hd : (x == ("__debug__" : PySem.Str)) = false := by rfl) (hd' : (x == ("__classdict__" : PySem.Str)) = false := by rfl) :
    Ev C σ (.Call (.Name x p) (e :: es) [] q) r := .mk fun s Q E O h => by
  refine Call_Name rfl ((ev_cons W hx hd hd').run s _ E O fun v h₁ t₁ k₁ r₁ => ?_)
  cases r₁
  have O₁ := O.keep k₁
  refine callWith_function (o := o) (fd := fd) ?_
  have := hs.run q { s with heap := h₁, toks := t₁ } (fun vs s' => (s'.heap.get? f = some o ∧ o.data = .func fd) ∧ wpAny C.M C.A (call (.ref f) ([] ++ vs) []) Q E s') E O₁ fun vs h₂ t₂ k₂ r₂ =>
    have O₂ := O₁.keep k₂
    ⟨⟨(O₂.base W).K _ _ ho, hf⟩, hc.run C.A { s with heap := h₂, toks := t₂ } (C.ex σ) vs _ _ (O₂.base W) O₂.tab (O₂.live W) r₂ W.handled hd1 hu1 fun v h₃ t₃ k₃ r₃ => h v h₃ t₃ (k₁.trans (k₂.trans k₃)) r₃⟩
  rw [star_cons hn] at this ⊢
  exact evalArgs_plain this
theorem Ok.callM (hcl : C.cl = []) {h h' : Heap} {ob' : List (Addr × List D)} (O : Ok C h σ) (k : KpB σ.addrs h h') (tb : TabOk h') (ow : Own (C.L :: C.X) h' ob') (had : adr ob' = σ.addrs) (h0 : ∀ a ∈ σ.addrs, C.h₀.get? a = none) : Ok C h' ⟨σ.vars, ob'⟩ := by
  have hL := O.objL
  obtain ⟨⟨m, F, hv⟩, ho, hn, ht, hg⟩ := O
  have hex : C.ex ⟨σ.vars, ob'⟩ = C.ex σ := by
    show C.L :: (C.X ++ adr ob') = C.L :: (C.X ++ σ.addrs)
    rw [had]
  have hk : ∀ (b : Addr) (o : Obj), b ∉ C.ex σ → h.get? b = some o → SeqO o → h'.get? b = some o ∧ b ∉ C.ex σ := fun b o hb e q => ⟨k b o (fun z => hb (.tail _ (List.mem_append_right _ z))) q.fix e, hb⟩
  refine ⟨⟨m, ⟨?_, fun b o e => k b o (fun z => by rw [h0 b z] at e; cases e) (.inl (gh_fix hg e)) (F.keep b o e), F.above⟩, fun i x d h1 h2 => ?_⟩, fun b es hm => ?_, ow.nodup, tb, hg⟩
  · have hLT := ht.nsT F.ns
    obtain ⟨oL, es, ep, e, r⟩ := F.ns
    exact ⟨oL, es, ep, k _ _ (fun z => hL _ z rfl) (.inl hLT) e, r⟩
  · obtain ⟨v, e, r⟩ := hv i x d h1 h2
    exact ⟨v, e, hex ▸ r.walk hk⟩
  · obtain ⟨vs, n, e, r, q⟩ := ow.at' b es hm
    have hb : b ∈ σ.addrs := had ▸ List.mem_map_of_mem (f := (·.1)) hm
    exact ⟨.inl ⟨no_cs hcl _, vs, n, e, r⟩, h0 b hb, fun z => q (z ▸ .head _)⟩
theorem ex_callM (W : Wf C) (hcl : C.cl = []) {x : PySem.Str} {p q p' : Pos} {f : Addr} {k : Nat} {o : Obj} {fd : FuncData} {e : Expr} {es : List Expr} {ds : List D} {ob' : List (Addr × List D)} (hx : (x, D.obj f) ∈ C.cv) (ho : C.B.K.lookup f = some o) (hf : o.data = .func fd) (hs : Evs C σ (e :: es) ds)
    (hc : FnO C.B f k ds σ.objs ob' .none) (had : adr ob' = σ.addrs) (hd1 : C.A.depth + k < recursionLimit) (hu1 : C.A.units + 8 * k < cLine) (h : Φ .next ⟨σ.vars, ob'⟩)
    (hn : nst e = true := by rfl) (hi : interactive C.env = false := by rfl) (hd : (x == ("__debug__" : PySem.Str)) = false := by rfl) (hd' : (x == ("__classdict__" : PySem.Str)) = false := by rfl) :
    Ex C σ (.Expr (.Call (.Name x p) (e :: es) [] q) p') Φ := .mk fun s Q E O kk => by
  refine wpAny_Expr ?_ hi (swaps_of rfl _ _ _)
  refine Call_Name rfl ((ev_cons W hx hd hd').run s _ E O fun v h₁ t₁ k₁ r₁ => ?_)
  cases r₁
  have O₁ := O.keep k₁
  refine callWith_function (o := o) (fd := fd) ?_
  have := hs.run q { s with heap := h₁, toks := t₁ } (fun vs s' => (s'.heap.get? f = some o ∧ o.data = .func fd) ∧ wpAny C.M C.A (call (.ref f) ([] ++ vs) []) (fun v s'' => match v with | .ref _ => False | _ => Q .next s'') E s') E O₁ fun vs h₂ t₂ k₂ r₂ => by
    have O₂ := O₁.keep k₂
    have hz : ∀ a ∈ σ.addrs, C.h₀.get? a = none := fun a ha => by
      obtain ⟨p, hp, rfl⟩ := List.mem_map.mp ha
      obtain ⟨_, q0, _⟩ := O.objs p.1 p.2 hp
      exact q0
    have ow : Own (C.L :: C.X) h₂ σ.objs := by
      refine ⟨fun a l hm => ?_, O₂.nodup⟩
      obtain ⟨r₀, q0, qL⟩ := O₂.objs a l hm
      obtain ⟨ws, n, e, rs⟩ := r₀.list (no_cs hcl _)
      refine ⟨ws, n, e, rs, fun hx => ?_⟩
      rcases List.mem_cons.mp hx with hx | hx
      · exact qL hx
      · obtain ⟨o, z⟩ := W.old a hx
        rw [q0] at z; cases z
    refine ⟨⟨(O₂.base W).K _ _ ho, hf⟩, hc.run C.A { s with heap := h₂, toks := t₂ } (C.L :: C.X) vs _ _ (O₂.base W) O₂.tab (fun x hx => O₂.live W x (by
      rcases List.mem_cons.mp hx with rfl | hx
      · exact .head _
      · exact .tail _ (List.mem_append_left _ hx))) ow r₂ W.handled hd1 hu1 fun v h₃ t₃ k₃ tb ow' r₃ => ?_⟩
    have O₃ := O₂.callM hcl k₃ tb ow' had hz
    cases r₃
    refine kk .next .next _ h₃ t₃ .next O₃ ?_ (fun a ha => .inl (by rw [St.addrs] at ha; rw [← had]; exact ha)) h
    exact kpB_kp (k₁.trans k₂) (kpB_weak k₃ fun a ha => .tail _ ha)
  rw [star_cons hn] at this ⊢
  exact evalArgs_plain this
/-- an item of a list of the frame's own stored -/
theorem ex_setitem (hcl : C.cl = []) {eo ei ev : Expr} {pos pos' : Pos} {a : Addr} {ds : List D} {objs' : List (Addr × List D)} {k : Int} {d : D} (hv : Ev C σ ev d) (ho : Ev C σ eo (.obj a)) (hi : Ev C σ ei (.int k)) (u : Up a ds (ds.set k.toNat d) σ.objs objs') (h0 : 0 ≤ k) (hk : k < ds.length) (hf : k < 2 ^ 63) (h : Φ .next ⟨σ.vars, objs'⟩)
    (hs : noComp ev = true := by rfl) : Ex C σ (.Assign [.Subscript eo ei pos'] ev pos) Φ := .mk fun s Q E O kk => by
  refine wpAny_Assign_Subscript (hv.run s _ E O fun v h₁ t₁ k₁ r₁ => ho.run _ _ E (O.keep k₁) fun ov h₂ t₂ k₂ r₂ => hi.run _ _ E ((O.keep k₁).keep k₂) fun iv h₃ t₃ k₃ r₃ => ?_) (swaps_of hs _ _ _)
  have O₃ := ((O.keep k₁).keep k₂).keep k₃
  cases r₂; cases r₃
  have rv := (r₁.keep k₂).keep k₃
  obtain ⟨vs, n, hA, rs⟩ := (O₃.objs _ _ u.mem).1.list (no_cs hcl _)
  refine ki_setAt (s := { s with heap := h₃, toks := t₃ }) (items := ⟨vs⟩) (n := n) hA h0 hf (by show k < ((vs.length : Nat) : Int); rw [rs.length]; exact hk) ?_
  have kB : ∀ b o, b ≠ a → h₃.get? b = some o → (h₃.update a (Obj.mapSeq (·.setIfInBounds k.toNat v))).get? b = some o := fun b o hb e => (Heap.get?_update_ne _ _ _ _ hb).trans e
  have e₃ : ∃ n', (h₃.update a (Obj.mapSeq (·.setIfInBounds k.toNat v))).get? a = some (lob (vs.set k.toNat v) n') := by
    refine ⟨n, ?_⟩
    rw [Heap.get?_update_self _ hA (by simp [lob, Obj.mapSeq, Obj.isFreed])]
    simp [lob, Obj.mapSeq]
  obtain ⟨n', e₃⟩ := e₃
  have rs' : Reps (C.ex σ) h₃ (vs.set k.toNat v) (ds.set k.toNat d) := rs.set _ rv
  refine kk _ .next _ _ t₃ .next (O₃.upObj u (no_cs hcl _) e₃ rs' kB) ?_ (fun b hb => .inl (by rw [St.addrs, u.addrs] at hb; exact hb)) h
  exact kpB_kp (k₁.trans (k₂.trans k₃)) fun b o hb _ e => kB b o (fun z => hb (z ▸ .tail _ (List.mem_map_of_mem (f := (·.1)) u.mem))) e
/-- an item of a list that stands in the base -/
theorem ev_item_base (W : Wf C) {ea ei : Expr} {p : Pos} {a : Addr} {o : Obj} {vs : List Value} {n : Nat} {k : Int} {v : Value} {d : D} (ha : Ev C σ ea (.obj a)) (hl : C.B.K.lookup a = some o) (hc : o.cls = .type "list") (hd : o.data = .seq vs.toArray n) (hi : Ev C σ ei (.int k)) (h0 : 0 ≤ k) (hk : k < 2 ^ 63) (hx : vs[k.toNat]? = some v) (hr : ∀ X h, Rep X h v d)
    (hs : notSlice ei = true := by rfl) : Ev C σ (.Subscript ea ei p) d := .mk fun s Q E O h =>
  Subscript_ (ha.run s _ E O fun v' h₁ t₁ k₁ r₁ => hi.run _ _ E (O.keep k₁) fun u h₂ t₂ k₂ r₂ => by
    cases r₁; cases r₂
    have il : h₂.IsList a vs.toArray := ⟨o, (((O.keep k₁).keep k₂).base W).K _ _ hl, hc, n, hd⟩
    exact tail_any il.typeIs slot_list_getitem.lookup (wpAny_getItem_list il h0 hk (by simpa using hx) (h v h₂ t₂ (k₁.trans k₂) (hr _ _))) (sub_of hs _ _))
end
end Mine
-- part V11
namespace Mine
/-- objects of a heap, by their addresses -/
noncomputable def fragOf (h : Heap) : List Addr → Frag
  | [] => []
  | a :: as => match h.get? a with
    | some o => (a, o) :: fragOf h as
    | none => fragOf h as
theorem fragOf_get {h : Heap} : ∀ {as : List Addr} {K : Frag} {a : Addr} {o : Obj}, a ∈ as → h.get? a = some o → (fragOf h as ++ K).lookup a = some o
  | [], _, _, _, hm, _ => nomatch hm
  | b :: as, K, a, o, hm, e => by
    unfold fragOf
    by_cases hab : a = b
    · subst hab
      rw [e]
      show List.lookup a ((a, o) :: (fragOf h as ++ K)) = _
      rw [List.lookup_cons_self]
    · have hm' : a ∈ as := (List.mem_cons.mp hm).resolve_left hab
      cases hb : h.get? b with
      | none => exact fragOf_get hm' e
      | some o' =>
        show List.lookup a ((b, o') :: (fragOf h as ++ K)) = _
        rw [List.lookup_cons]
        have : (a == b) = false := by simpa using hab
        rw [this]
        exact fragOf_get hm' e
theorem fragOf_is {h : Heap} : ∀ {as : List Addr} {K : Frag} {a : Addr} {o : Obj}, (fragOf h as ++ K).lookup a = some o → (a ∈ as ∧ h.get? a = some o) ∨ K.lookup a = some o
  | [], _, _, _, e => .inr e
  | b :: as, K, a, o, e => by
    unfold fragOf at e
    cases hb : h.get? b with
    | none =>
      rw [hb] at e
      exact (fragOf_is e).imp (fun q => ⟨.tail _ q.1, q.2⟩) id
    | some o' =>
      rw [hb] at e
      change List.lookup a ((b, o') :: (fragOf h as ++ K)) = _ at e
      rw [List.lookup_cons] at e
      cases hab : a == b with
      | true =>
        rw [hab] at e
        have := eq_of_beq hab
        subst this
        cases e
        exact .inl ⟨.head _, hb⟩
      | false =>
        rw [hab] at e
        exact (fragOf_is e).imp (fun q => ⟨.tail _ q.1, q.2⟩) id
/-- a base with more objects in it -/
noncomputable def Bs.ext (B : Bs) (h : Heap) (as : List Addr) (has : ∀ a ∈ as, a ∉ TT) : Bs :=
  { B with K := fragOf h as ++ B.K, hT := fun a o e => (fragOf_is e).elim (fun q => has a q.1) (B.hT a o) }
theorem Bs.ext_in {B : Bs} {h : Heap} {as : List Addr} {has : ∀ a ∈ as, a ∉ TT} (x : B.In h) : (B.ext h as has).In h :=
  ⟨fun a o e => (fragOf_is e).elim (fun q => q.2) (x.K a o), x.g, x.b, x.lim⟩
theorem TabOk.codeT {h : Heap} (x : TabOk h) {c : Addr} {q : PySem.Str} (r : h.CodeRec (.ref c) q) : c ∉ TT := fun ht => by
  obtain ⟨c', oc, vs, t, e, h1, h2, h3⟩ := r
  cases e
  have key : ∀ l k q', tab1 h c l k q' → False := by
    rintro l k q' ⟨ps, e1, e2⟩
    rw [h1] at e1; cases e1
    cases h2
    rcases e2 with rfl | ⟨c2, rfl, _⟩
    · cases h3
    · cases h3
  rcases List.mem_cons.mp ht with rfl | ht
  · exact key _ _ _ x.a
  · rw [List.mem_singleton] at ht; subst ht
    exact key _ _ _ x.b
theorem IsCell.T {h : Heap} (x : TabOk h) {c : Addr} {v : Option Value} (hc : h.IsCell c v) : c ∉ TT := by
  obtain ⟨o, e, hd⟩ := hc
  exact x.ne e (.inr fun vs z => by rw [hd] at z; cases z)
theorem IsCell.kp {h h' : Heap} {c : Addr} {v : Option Value} (hc : h.IsCell c v) (x : TabOk h) (k : Kp h h') : h'.IsCell c v := by
  have hT := IsCell.T x hc
  obtain ⟨o, e, hd⟩ := hc
  exact ⟨o, k.keep _ _ (.inl hT) e, hd⟩
theorem CodeRec.kp {h h' : Heap} {c : Addr} {q : PySem.Str} (r : h.CodeRec (.ref c) q) (x : TabOk h) (k : Kp h h') : h'.CodeRec (.ref c) q := by
  have hT := x.codeT r
  obtain ⟨c', oc, vs, t, e, h1, h2⟩ := r
  cases e
  exact ⟨c, oc, vs, t, rfl, k.keep _ _ (.inl hT) h1, h2⟩
/-- one cell turned -/
theorem tab_cell {h h' : Heap} {c : Addr} {v : Option Value} (x : TabOk h) (hc : h.IsCell c v) (hs : Heap.SameBut c h h') : TabOk h' := by
  obtain ⟨o, e, hd⟩ := hc
  exact x.one e (fun vs z => by rw [hd] at z; cases z) fun b ob hb e => (hs.2 b hb).trans e
theorem Reps.int {X : List Addr} {h : Heap} {vs : List Value} {l : List Int} (r : Reps X h vs (l.map .int)) : ∀ (i : Nat) x, l[i]? = some x → ∃ t, vs[i]? = some (.int x t) := fun i x e => by
  obtain ⟨v, e1, r1⟩ := r.get (i := i) (d := .int x) (by rw [List.getElem?_map, e]; rfl)
  cases r1
  exact ⟨_, e1⟩
end Mine
-- part V12
namespace Mine
theorem mulL {prog : Program} {w : World} {A : Around} {E : Value → Shared → Prop} {s : Shared} {l : Addr} {vs : List Value} {x : Int} {u : Tok} {Q : Value → Shared → Prop} (hl : s.heap.IsList l vs.toArray) (hlo : -(2 ^ 63 : Int) ≤ x) (hhi : x < 2 ^ 63) (hsz : vs.length * x.toNat ≤ 2 ^ 24)
    (h : Q (.ref s.heap.objs.size) { s with heap := s.heap.push (lob (List.replicate x.toNat vs).flatten 0) }) : wpAny (model prog w) A (binaryOp .Mult (.ref l) (.int x u)) Q E s := by
  obtain ⟨⟨cls, d, data, sl⟩, ho, hcl, k, hd⟩ := id hl
  simp only at hcl hd
  subst hcl hd
  have hsz' : vs.toArray.size * x.toNat ≤ 2 ^ 24 := by simpa using hsz
  refine wpAny_binaryOp_repeat_ref (T := "list") (U := "int") (by decide) ⟨_, ho, rfl⟩ (fun s' => typeIs_int s' x u) noFill_list_mul F.fills_int_mul F.slot_int_rmul repeat_list F.slot_int_index.lookup
    (call_meets F.slot_int_rmul (typeIs_int s x u) F.entry_int_rmul (F.args_int_rmul_2 _ _) (lm_int_rmul_list_any x u l vs.toArray k d sl)
      ⟨ho, rfl, ⟨_, ho, rfl⟩, call_meets F.slot_list_mul ⟨_, ho, rfl⟩ F.entry_list_mul (F.args_list_mul_2 _ _)
        (lm_list_mul_any l vs.toArray k d sl x u (by simp [Builtin.List.listFitsIndex]; omega) (by omega) (by simp [Builtin.List.listTooLong, sizeLine]; omega))
        ⟨ho, ?_⟩⟩)
  rw [listMul_foldl_if]
  exact h
theorem Reps.rep {X : List Addr} {h : Heap} {vs : List Value} {ds : List D} (r : Reps X h vs ds) : ∀ n, Reps X h (List.replicate n vs).flatten (List.replicate n ds).flatten
  | 0 => .nil
  | n + 1 => by simp only [List.replicate_succ, List.flatten_cons]; exact r.append (r.rep n)
section
variable {C : Cx} {σ : St}
theorem ev_mulL (W : Wf C) {a b : Expr} {p : Pos} {d : D} {ds : List D} {x : Int} (ha : Ev C σ a d) (hl : LstOf C σ d ds) (hb : Ev C σ b (.int x)) (hlo : -(2 ^ 63 : Int) ≤ x) (hhi : x < 2 ^ 63) (hsz : ds.length * x.toNat ≤ 2 ^ 24) : Ev C σ (.BinOp a .Mult b p) (.lst (List.replicate x.toNat ds).flatten) :=
  ev_bin ha hb fun s Q E v u O r1 r2 h => by
    obtain ⟨l, vs, rfl, il, rs⟩ := hl.get O r1
    cases r2
    refine mulL il hlo hhi (by rw [rs.length]; exact hsz) (h _ _ s.toks Kp.push (.lst ⟨_, Heap.get?_push_size _ rfl, rfl, 0, rfl⟩ (O.freshA W) ?_))
    exact (rs.keep Kp.push).rep _
end
theorem fragOf_none {h : Heap} {as : List Addr} {K : Frag} {a : Addr} (h1 : a ∉ as) (h2 : K.lookup a = none) : (fragOf h as ++ K).lookup a = none := by
  cases e : (fragOf h as ++ K).lookup a with
  | none => rfl
  | some o =>
    rcases fragOf_is e with ⟨q, _⟩ | q
    · exact absurd q h1
    · rw [h2] at q; cases q
theorem lt_bits {x : Int} (h : 0 ≤ x) : x < 2 ^ (Builtin.Int.intBits x) := by
  unfold Builtin.Int.intBits
  split
  · rename_i e
    have : x.natAbs = 0 := by simpa using e
    have : x = 0 := by omega
    subst this; decide
  · rename_i e
    have h0 : x.natAbs ≠ 0 := by simpa using e
    have := Nat.lt_log2_self (n := x.natAbs)
    have h2 : ((x.natAbs : Nat) : Int) < ((2 ^ (x.natAbs.log2 + 1) : Nat) : Int) := Int.ofNat_lt.mpr this
    push_cast at h2
    omega
/-- how many digits of n bits -/
noncomputable def nd (x : Int) (n : Nat) : Nat := (Builtin.Int.intBits x + n - 1) / n
theorem nd_bits (x : Int) {n : Nat} (hn : 0 < n) : Builtin.Int.intBits x ≤ n * nd x n := by
  unfold nd
  have h1 := Nat.div_add_mod (Builtin.Int.intBits x + n - 1) n
  have h2 := Nat.mod_lt (Builtin.Int.intBits x + n - 1) hn
  omega
theorem lt_nd {x : Int} (h : 0 ≤ x) {n : Nat} (hn : 0 < n) : x < 2 ^ (n * nd x n) := by
  have h1 := lt_bits h
  have h2 : (2 : Int) ^ (Builtin.Int.intBits x) ≤ 2 ^ (n * nd x n) := by
    have := Nat.pow_le_pow_right (n := 2) (by omega) (nd_bits x hn)
    have h3 : (((2 ^ (Builtin.Int.intBits x) : Nat)) : Int) ≤ ((2 ^ (n * nd x n) : Nat) : Int) := Int.ofNat_le.mpr this
    push_cast at h3; exact h3
  omega
end Mine
-- part V13
namespace Mine
/-- the context of a comprehension -/
noncomputable def compCx (C : Cx) (scope : Scope) (cl : List (PySem.Str × Addr)) (cv : List (PySem.Str × D)) (h₀ : Heap) (X : List Addr) (L : Addr) (x : PySem.Str) : Cx := ⟨C.B, C.A, compEnvC scope cl L C.env, h₀, X, [x], cv, []⟩
theorem lookup_relabel_free {env : Env} : ∀ {names : List (PySem.Str × NameKind)} {x : PySem.Str}, names.lookup x = some .free →
    (names.map fun (n, k) => if (k == NameKind.free && env.scope.kind == .function && env.kindOf n == some .cell) then (n, NameKind.cell) else (n, k)).lookup x = some .cell ∨ (names.map fun (n, k) => if (k == NameKind.free && env.scope.kind == .function && env.kindOf n == some .cell) then (n, NameKind.cell) else (n, k)).lookup x = some .free
  | [], _, h => by simp at h
  | (n, k) :: r, x, h => by
    have ih := @lookup_relabel_free env r x
    show List.lookup x ((if (k == NameKind.free && env.scope.kind == .function && env.kindOf n == some .cell) = true then (n, NameKind.cell) else (n, k)) :: _) = _ ∨ List.lookup x ((if (k == NameKind.free && env.scope.kind == .function && env.kindOf n == some .cell) = true then (n, NameKind.cell) else (n, k)) :: _) = _
    cases hx : x == n with
    | true =>
      simp only [List.lookup_cons, hx] at h
      cases h
      by_cases hc : (NameKind.free == NameKind.free && env.scope.kind == .function && env.kindOf n == some .cell) = true
      · rw [if_pos hc]; simp [List.lookup_cons, hx]
      · rw [if_neg hc]; simp [List.lookup_cons, hx]
    | false =>
      simp only [List.lookup_cons, hx] at h
      by_cases hc : (k == NameKind.free && env.scope.kind == .function && env.kindOf n == some .cell) = true
      · rw [if_pos hc]; simp only [List.lookup_cons, hx]; exact ih h
      · rw [if_neg hc]; simp only [List.lookup_cons, hx]; exact ih h
/-- what a comprehension reads of its frame -/
structure Cap (C : Cx) (σ : St) (scope : Scope) (cl : List (PySem.Str × Addr)) (cv : List (PySem.Str × D)) : Prop where
  run : ∀ y d, (y, d) ∈ cv → scope.names.lookup y = some .free ∧ ∃ c, cl.lookup y = some c ∧ c ∈ C.cs ∧ (c, [d]) ∈ σ.objs
theorem cap_nil {C : Cx} {σ : St} {scope : Scope} {cl : List (PySem.Str × Addr)} : Cap C σ scope cl [] := ⟨fun _ _ h => nomatch h⟩
theorem cap_cons {C : Cx} {σ : St} {scope : Scope} {cl : List (PySem.Str × Addr)} {cv : List (PySem.Str × D)} {y : PySem.Str} {d : D} {c : Addr} (h1 : scope.names.lookup y = some .free) (h2 : cl.lookup y = some c) (h3 : c ∈ C.cs) (h4 : (c, [d]) ∈ σ.objs) (h : Cap C σ scope cl cv) : Cap C σ scope cl ((y, d) :: cv) :=
  ⟨fun y' d' m => (List.mem_cons.mp m).elim (fun q => by cases q; exact ⟨h1, c, h2, h3, h4⟩) (h.run y' d')⟩
section
variable {C : Cx} {σ : St} {Φ : Fl → St → Prop}
/-- a test in a comprehension -/
structure TsC (C : Cx) (σ : St) (ifs : List Expr) (b : Bool) : Prop where
  run : ∀ (s : Shared) (Q : Bool → Shared → Prop) (E : Value → Shared → Prop), Ok C s.heap σ → (∀ h' t', Kp s.heap h' → Q b { s with heap := h', toks := t' }) →
    wpAny C.M C.A (forIn ifs true fun c r => if r = true then do let ok ← isTrue c C.env (eval c C.env); pure (ForInStep.yield ok) else pure (ForInStep.yield r)) Q E s
theorem tsC_nil : TsC C σ [] true := .mk fun s Q E O h => wpAny_tests_nil (h s.heap s.toks Kp.refl)
theorem tsC_one {e : Expr} {b : Bool} (ht : Ts C σ e b) : TsC C σ [e] b := .mk fun s Q E O h => wpAny_tests_one (ht.run s Q E O h)
theorem sub_in {B : Bs} {h h' : Heap} (x : B.In h) (k : ∀ b o, h.get? b = some o → h'.get? b = some o) : B.In h' := x.full k
/-- the turns of a comprehension -/
theorem comp_core (W : Wf C) {cl : List (PySem.Str × Addr)} {cv : List (PySem.Str × D)} {elt iter : Expr} {x : PySem.Str} {px : Pos} {ifs : List Expr} {scope : Scope} {pos : Pos} {ds : List D} (p : D → Bool) (g : D → D)
    (hcell : ∀ y ∈ scope.names, y.2 ≠ .cell) (hkind : scope.kind = .function) (hx : scope.names.lookup x = some .local) (hcap : Cap C σ scope cl cv) (hsz : ds.length ≤ 100000)
    (ht : ∀ h₀ X L d ob, Wf (compCx C scope cl cv h₀ X L x) → d ∈ ds → TsC (compCx C scope cl cv h₀ X L x) ⟨[some d], ob⟩ ifs (p d))
    (he : ∀ h₀ X L d ob, Wf (compCx C scope cl cv h₀ X L x) → d ∈ ds → p d = true → Ev (compCx C scope cl cv h₀ X L x) ⟨[some d], ob⟩ elt (g d))
    {s₂ : Shared} (O : Ok C s₂.heap σ) {I : Addr} (hI0 : C.h₀.get? I = none) (it : Iter C σ I ds s₂.heap) {E : Value → Shared → Prop} {RR : Value → Addr → Result → Shared → Prop}
    (hRR : ∀ (D L : Addr) h' tk m, s₂.heap.get? D = none → s₂.heap.get? L = none → D ≠ L → h'.Ns L m → Rep (L :: C.ex σ) h' (.ref D) (.lst ((ds.filter p).map g)) → TabOk h' → KpB [I] s₂.heap h' → RR (.ref D) L (.ok .next) { s₂ with heap := h', toks := tk }) :
    wpAny C.M C.A (newList []) (fun acc s₃ => wpAny C.M C.A (newFunctionEnv scope C.env.globals cl [] C.env.qual none .none (some C.env)) (fun cenv s₄ =>
      codeAny C.M C.A (.compStart (.ListComp elt [⟨.Name x px, iter, ifs, 0⟩] scope pos) 0 (.ref I) acc { cenv with scope := relabel scope C.env }) (RR acc cenv.locals) s₄) E s₃) E s₂ := by
  refine wpAny_newObj_type (wpAny_newFunctionEnv hcell (by intro y hy; simp at hy) (fun h₁ hns₁ hsb₁ => ?_) hkind)
  dsimp only at hns₁ hsb₁ ⊢
  obtain ⟨D, hDe⟩ : ∃ D, s₂.heap.objs.size = D := ⟨_, rfl⟩
  obtain ⟨L, hLe⟩ : ∃ L, (s₂.heap.push { cls := .type "list", dict := none, data := .seq ([] : List Value).toArray }).objs.size = L := ⟨_, rfl⟩
  have hLD : L = D + 1 := by rw [← hLe, ← hDe, Heap.size_push]
  rw [hLe] at hns₁ hsb₁ ⊢
  rw [hDe]
  have hDL : D ≠ L := by rw [hLD]; exact Nat.ne_of_lt (Nat.lt_succ_self _)
  have lt : ∀ {b o}, s₂.heap.get? b = some o → b < D := fun e => hDe ▸ Heap.lt_size e
  have hD0 : s₂.heap.get? D = none := by rw [← hDe]; exact get_fresh
  have hL0 : s₂.heap.get? L = none := by
    cases e : s₂.heap.get? L with
    | none => rfl
    | some o => have := lt e; rw [hLD] at this; exact absurd this (Nat.not_lt.mpr (Nat.le_succ _))
  have old : ∀ b o, s₂.heap.get? b = some o → h₁.get? b = some o := fun b o e =>
    hsb₁.extBut b o (fun z => by rw [z, hL0] at e; cases e) (Heap.get?_push_of_some _ (Heap.get?_push_of_some _ e))
  have accD : h₁.get? D = some (lob [] 0) := (hsb₁.2 D hDL).trans (Heap.get?_push_of_some _ (by rw [← hDe]; exact Heap.get?_push_size _ rfl))
  have hIfp : I ∈ it.fp := it.walks.sub I (.head _)
  obtain ⟨hIex, hIT, oI, hoI⟩ := it.apart I hIfp
  have hID : I ≠ D := Nat.ne_of_lt (lt hoI)
  have hIL : I ≠ L := fun z => by rw [z, hL0] at hoI; cases hoI
  have hDT : D ∉ TT := fun m => by obtain ⟨ps, e⟩ := O.tab.at m; rw [hD0] at e; cases e
  have hLT : L ∉ TT := fun m => by obtain ⟨ps, e⟩ := O.tab.at m; rw [hL0] at e; cases e
  obtain ⟨h₀, hh₀⟩ : ∃ h₀, hideAll s₂.heap (I :: TT) = h₀ := ⟨_, rfl⟩
  have up₀ : ∀ b o, h₀.get? b = some o → s₂.heap.get? b = some o := fun b o e => by rw [← hh₀] at e; exact of_hideAll _ e
  have in₀ : ∀ b o, s₂.heap.get? b = some o → b ≠ I → b ∉ TT → h₀.get? b = some o := fun b o e h1 h2 => by rw [← hh₀]; exact hideAll_get _ e fun m => (List.mem_cons.mp m).elim h1 h2
  have no₀ : ∀ b, s₂.heap.get? b = none → h₀.get? b = none := fun b e => by
    cases z : h₀.get? b with
    | none => rfl
    | some o => rw [up₀ b o z] at e; cases e
  have hI00 : h₀.get? I = none := by rw [← hh₀]; exact hideAll_none _ (.head _)
  have exl : ∀ b ∈ C.ex σ, ∃ o, h₀.get? b = some o := fun b hb => by
    obtain ⟨h1, o, e⟩ := O.live W b hb
    exact ⟨o, in₀ b o e (fun z => hIex (z ▸ hb)) h1⟩
  have Bh₀ : C.B.In h₀ := W.base.full fun b o e => in₀ b o (O.kp0 b o e) (fun z => by rw [z, hI0] at e; cases e) (gh_fix O.gh e)
  have cons0 : ∀ y d, (y, d) ∈ cv → ((compEnvC scope cl L C.env).kindOf y = some .cell ∨ (compEnvC scope cl L C.env).kindOf y = some .free) ∧ ∃ c v, (compEnvC scope cl L C.env).cells.lookup y = some c ∧ h₀.IsCell c (some v) ∧ Rep (C.ex σ) h₀ v d := fun y d hm => by
    obtain ⟨h1, c, h2, h3, h4⟩ := hcap.run y d hm
    refine ⟨lookup_relabel_free h1, c, ?_⟩
    obtain ⟨rc, q0, qL⟩ := O.objs c [d] h4
    obtain ⟨o', hoI', hns, hnc, hnd⟩ := it.kind 0 _ it.start
    have hcI := rc.neq hoI' hns hnd
    have hcT := rc.T O.tab
    obtain ⟨v, ⟨oc, ec, hd⟩, rs⟩ := rc.cell h3
    cases v with
    | none => cases rs
    | some v =>
      cases rs with
      | cons r _ =>
        refine ⟨v, h2, ⟨oc, in₀ c oc ec hcI hcT, hd⟩, r.walk fun a o ha e q => ⟨in₀ a o e (fun z => ?_) (O.tab.ne e (.inl (by rcases q with q | q | q <;> (rw [q]; nofun)))), ha⟩⟩
        subst z
        rw [hoI'] at e; cases e; exact hns q
  have W' : Wf (compCx C scope cl cv h₀ (C.ex σ) L x) :=
    { kind := hkind, gl := W.gl, bl := W.bl, loc := fun y hy => by rw [List.mem_singleton.mp hy]; exact lookup_relabel_local hx, nd := List.nodup_cons.mpr ⟨fun q => (nomatch q), .nil⟩, base := Bh₀, old := exl, handled := W.handled, cons := cons0, cells := fun _ _ h => (nomatch h) }
  have O₁ : Ok (compCx C scope cl cv h₀ (C.ex σ) L x) h₁ ⟨[none], [(D, [])]⟩ := by
    refine ⟨⟨_, ⟨hns₁, fun b o e => old b o (up₀ b o e), ?_⟩, fun i y d h1 h2 => ?_⟩, fun a es hm => ?_, List.nodup_cons.mpr ⟨fun q => (nomatch q), .nil⟩, O.tab.full old, fun t ht => ?_⟩
    · show h₀.objs.size ≤ L
      rw [← hh₀, hideAll_size, hDe, hLD]; exact Nat.le_succ _
    · exfalso
      match i with
      | 0 => cases h2
      | i + 1 => cases h2
    · rw [List.mem_singleton] at hm; cases hm
      exact ⟨.inl ⟨fun q => (nomatch q), [], 0, accD, .nil⟩, no₀ D hD0, hDL⟩
    · rw [← hh₀]; exact hideAll_none _ (.tail _ ht)
  have hex : C.ex σ ⊆ (compCx C scope cl cv h₀ (C.ex σ) L x).X := fun a ha => ha
  have exno : ∀ a o, s₂.heap.get? a = some o → SeqO o → a ∉ C.ex σ → a ∉ L :: (C.ex σ ++ [D]) := fun a o e q ha m => by
    rcases List.mem_cons.mp m with rfl | m
    · rw [hL0] at e; cases e
    rcases List.mem_append.mp m with m | m
    · exact ha m
    · rw [List.mem_singleton] at m; subst m; rw [hD0] at e; cases e
  have loop : ∀ s₃ : Shared, s₃ = { s₂ with heap := h₁, toks := s₂.toks + ([] : List (PySem.Str × Value)).length } →
      codeAny C.M C.A (.compLoop (.ListComp elt [⟨.Name x px, iter, ifs, 0⟩] scope pos) 0 (.ref I) (.ref D) (compEnvC scope cl L C.env)) (RR (.ref D) L) s₃ := by
    rintro s₃ rfl
    refine codeAny_compLoop_tests (fun n s' => ∃ j a h t, n = ds.length + 1 - j ∧ j ≤ ds.length ∧ s' = { s₂ with heap := h, toks := t } ∧ it.St j h ∧ Ok (compCx C scope cl cv h₀ (C.ex σ) L x) h ⟨[a], [(D, ((ds.take j).filter p).map g)]⟩ ∧ KpB [I, D, L] h₁ h)
      ?_ (ds.length + 1) ⟨0, none, h₁, _, rfl, Nat.zero_le _, rfl, it.walks.frame 0 _ _ it.start (fun b _ o e => old b o e), O₁, KpB.refl⟩
    rintro n _ ⟨j, a, h, t, rfl, hj, rfl, hSt, Oj, hk⟩
    obtain ⟨o', hoI', hns, hnc, hnd⟩ := it.kind j h hSt
    obtain ⟨o₁, hoI₁, hns₁', _⟩ := it.kind 0 _ it.start
    rcases Nat.lt_or_eq_of_le hj with hlt | rfl
    · refine it.walks.item j _ _ _ hlt hSt fun v h₂ t₂ hP hSt₂ hk₂ => ?_
      have hd : ds[j]? = some ds[j] := List.getElem?_eq_getElem hlt
      have hdm : ds[j] ∈ ds := List.getElem_mem hlt
      have hk₂' : ∀ b ob, b ≠ I → h.get? b = some ob → h₂.get? b = some ob := fun b ob hb e => hk₂ b ob (fun z => hb (List.mem_singleton.mp z)) e
      have O₂ := Oj.turn hoI' hns hnc hnd hIL hI00 hk₂'
      have to2 : ∀ b o, Fix b o → s₂.heap.get? b = some o → b ≠ I → h₂.get? b = some o := fun b o fx e hb => hk₂' b o hb (hk b o (fun m => by
        rcases List.mem_cons.mp m with m | m
        · exact hb m
        rcases List.mem_cons.mp m with rfl | m
        · rw [hD0] at e; cases e
        · rw [List.mem_singleton] at m; subst m; rw [hL0] at e; cases e) fx (old b o e))
      have r : Rep ((compCx C scope cl cv h₀ (C.ex σ) L x).ex ⟨[a], [(D, ((ds.take j).filter p).map g)]⟩) h₂ v ds[j] := (it.items j v _ hP hd).walk fun b o ha e q =>
        ⟨to2 b o q.fix e (fun z => by subst z; rw [hoI₁] at e; cases e; exact hns₁' q), exno b o e q ha⟩
      refine wpAny_assign_Name (store_ok (C := compCx C scope cl cv h₀ (C.ex σ) L x) W' (i := 0) (s := { s₂ with heap := h₂, toks := t₂ }) rfl O₂ r fun h₃ t₃ O₃ k₃ => ?_)
      have O₃' : Ok (compCx C scope cl cv h₀ (C.ex σ) L x) h₃ ⟨[some ds[j]], [(D, ((ds.take j).filter p).map g)]⟩ := O₃
      have step : ∀ h₄ es, Ok (compCx C scope cl cv h₀ (C.ex σ) L x) h₄ ⟨[some ds[j]], [(D, es)]⟩ → es = ((ds.take (j + 1)).filter p).map g → KpB [D] h₃ h₄ → ∀ t₄, ∃ m, m < ds.length + 1 - j ∧ ∃ j' a' h' t', m = ds.length + 1 - j' ∧ j' ≤ ds.length ∧ ({ s₂ with heap := h₄, toks := t₄ } : Shared) = { s₂ with heap := h', toks := t' } ∧ it.St j' h' ∧ Ok (compCx C scope cl cv h₀ (C.ex σ) L x) h' ⟨[a'], [(D, ((ds.take j').filter p).map g)]⟩ ∧ KpB [I, D, L] h₁ h' := fun h₄ es O₄ hes k₄ t₄ => by
        have K24 : ∀ b o, b ≠ D → b ≠ L → Fix b o → h₂.get? b = some o → h₄.get? b = some o := fun b o h1 h2 fx e => k₄ b o (fun m => h1 (List.mem_singleton.mp m)) fx (k₃ b o (fun m => h2 (List.mem_singleton.mp m)) fx e)
        refine ⟨ds.length + 1 - (j + 1), by omega, j + 1, _, h₄, t₄, rfl, hlt, rfl, it.walks.frame (j + 1) h₂ h₄ hSt₂ (fun b hb o e => ?_), hes ▸ O₄, fun b o hb fx e => ?_⟩
        · obtain ⟨_, hbT, ob, hob⟩ := it.apart b hb
          exact K24 b o (fun z => by subst z; rw [hD0] at hob; cases hob) (fun z => by subst z; rw [hL0] at hob; cases hob) (.inl hbT) e
        · exact K24 b o (fun z => hb (z ▸ .tail _ (.head _))) (fun z => hb (z ▸ .tail _ (.tail _ (.head _)))) fx (hk₂' b o (fun z => hb (z ▸ .head _)) (hk b o hb fx e))
      have tk : ds.take (j + 1) = ds.take j ++ [ds[j]] := List.take_succ_eq_append_getElem hlt
      refine (ht h₀ (C.ex σ) L ds[j] _ W' hdm).run { s₂ with heap := h₃, toks := t₃ } _ _ O₃' fun h₄ t₄ k₄ => ?_
      have O₄ := O₃'.keep k₄
      cases hp : p ds[j] with
      | false =>
        rw [if_neg Bool.false_ne_true]
        refine step h₄ _ O₄ ?_ k₄.but t₄
        rw [tk, List.filter_append, List.filter_cons, hp]
        simp
      | true =>
        rw [if_pos rfl]
        refine (he h₀ (C.ex σ) L ds[j] _ W' hdm hp).run { s₂ with heap := h₄, toks := t₄ } _ _ O₄ fun y h₅ t₅ k₅ r₅ => ?_
        have O₅ := O₄.keep k₅
        obtain ⟨vs, n, hA, rs⟩ := (O₅.objs _ _ (.head _)).1.list (fun q => (nomatch q))
        refine wpAny_list_append_plain (s := { s₂ with heap := h₅, toks := t₅ }) (items := ⟨vs⟩) ⟨n, hA⟩ (fun h₆ hp₆ hsb => ?_) ?_
        · obtain ⟨n₆, e₆⟩ := hp₆
          have kB : ∀ b o, b ≠ D → h₅.get? b = some o → h₆.get? b = some o := fun b o hb e => (hsb.2 b hb).trans e
          refine step h₆ _ (O₅.upObj .here (fun q => (nomatch q)) (vs' := vs ++ [y]) (n' := n₆) (by rw [e₆]; simp [lob]) (rs.append (.cons r₅ .nil)) kB) ?_ (fun b o hb fx e => kB b o (fun z => hb (z ▸ .head _)) (k₅.keep b o fx (k₄.keep b o fx e))) t₅
          rw [tk, List.filter_append, List.filter_cons, hp]
          simp
        · show vs.length ≤ sizeLine
          rw [rs.length, List.length_map, sizeLine_eq]
          have h1 : ((ds.take j).filter p).length ≤ (ds.take j).length := List.length_filter_le _ _
          have h2 : (ds.take j).length ≤ j := by rw [List.length_take]; omega
          omega
    · refine it.walks.done _ _ _ hSt fun h₂ t₂ hk₂ => ?_
      have hk₂' : ∀ b ob, b ≠ I → h.get? b = some ob → h₂.get? b = some ob := fun b ob hb e => hk₂ b ob (fun z => hb (List.mem_singleton.mp z)) e
      have O₂ := Oj.turn hoI' hns hnc hnd hIL hI00 hk₂'
      obtain ⟨m, F⟩ := O₂.fr
      obtain ⟨vs, n, hA, rs⟩ := (O₂.objs _ _ (.head _)).1.list (fun q => (nomatch q))
      rw [List.take_of_length_le (Nat.le_refl _)] at rs
      refine hRR D L h₂ t₂ m hD0 hL0 hDL F.ns (.lst (vs := vs) ⟨_, hA, rfl, n, rfl⟩ (fun q => ?_) (rs.mono fun a ha => (List.mem_cons.mp ha).elim (fun z => z ▸ .head _) fun ha => .tail _ (List.mem_append_left _ ha))) O₂.tab fun b o hb fx e => ?_
      · rcases List.mem_cons.mp q with q | q
        · exact hDL q
        obtain ⟨_, o, e⟩ := O.live W D q
        rw [hD0] at e; cases e
      · have hbI : b ≠ I := fun z => hb (z ▸ .head _)
        refine hk₂' b o hbI (hk b o (fun m => ?_) fx (old b o e))
        rcases List.mem_cons.mp m with m | m
        · exact hbI m
        rcases List.mem_cons.mp m with rfl | m
        · rw [hD0] at e; cases e
        · rw [List.mem_singleton] at m; subst m; rw [hL0] at e; cases e
  exact codeAny_compStart_list (loop _ rfl) (it.walks.self 0 _ _ _ (it.walks.frame 0 _ _ it.start (fun b _ o e => old b o e)) (loop _ rfl))
theorem ns_noC {h : Heap} {L : Addr} {m : PySem.Str → Option Value} (n : h.Ns L m) : ∃ o, h.get? L = some o ∧ NoC o := by
  obtain ⟨o', es, ep, e', hd, hc, _⟩ := n
  exact ⟨o', e', .dict ⟨_, _, hd⟩⟩
theorem tab_same {h h' : Heap} {L : Addr} {m : PySem.Str → Option Value} (x : TabOk h) (n : h.Ns L m) (hs : Heap.SameBut L h h') : TabOk h' := by
  obtain ⟨o, e, hc⟩ := ns_noC n
  exact x.one e hc fun b ob hb e => (hs.2 b hb).trans e
theorem ev_listcomp (W : Wf C) {cl : List (PySem.Str × Addr)} {cv : List (PySem.Str × D)} {elt iter : Expr} {x : PySem.Str} {px : Pos} {ifs : List Expr} {scope : Scope} {pos : Pos} {ds : List D} (p : D → Bool) (g : D → D) (hi : EvIt C σ iter ds)
    (hclos : closureFor scope C.env = pure cl) (hcell : ∀ y ∈ scope.names, y.2 ≠ .cell) (hkind : scope.kind = .function) (hnames : ∀ y ∈ scope.names, y.2 = .local → scope.names.lookup y.1 = some .local) (hx : scope.names.lookup x = some .local) (hcap : Cap C σ scope cl cv) (hsz : ds.length ≤ 100000)
    (ht : ∀ h₀ X L d ob, Wf (compCx C scope cl cv h₀ X L x) → d ∈ ds → TsC (compCx C scope cl cv h₀ X L x) ⟨[some d], ob⟩ ifs (p d))
    (he : ∀ h₀ X L d ob, Wf (compCx C scope cl cv h₀ X L x) → d ∈ ds → p d = true → Ev (compCx C scope cl cv h₀ X L x) ⟨[some d], ob⟩ elt (g d))
    (hs : notSet iter = true := by rfl) : Ev C σ (.ListComp elt [⟨.Name x px, iter, ifs, 0⟩] scope pos) (.lst ((ds.filter p).map g)) := .mk fun s Q E O h => by
  rw [eval_ListComp]
  refine wpAny_comprehension_free (use := none) rfl (folded_of hs _) hclos hkind hnames ?_
  refine hi.run s _ E O fun I h₁ t₁ k₁ hI it => ?_
  have hI0 : C.h₀.get? I = none := by
    cases z : C.h₀.get? I with
    | none => rfl
    | some o => rw [O.kp0 _ _ z] at hI; cases hI
  refine comp_core W p g hcell hkind hx hcap hsz ht he (s₂ := { s with heap := h₁, toks := t₁ }) (O.keep k₁) hI0 it (RR := fun acc L => compPost C.M C.A E none Q acc L) fun D L h' tk m hD hL hDL hns r tb kB => ?_
  refine ⟨m, hns, fun h'' hs'' => h (.ref D) h'' tk ⟨fun b o fx e => ?_, fun _ => tab_same tb hns hs''⟩ (r.walk fun a o ha e _ => ⟨(hs''.2 a fun z => ha (z ▸ .head _)).trans e, fun q => ha (.tail _ q)⟩)⟩
  have e₁ := k₁.keep b o fx e
  refine (hs''.2 b fun z => ?_).trans (kB b o (fun m => ?_) fx e₁)
  · subst z; rw [show h₁.get? b = none from hL] at e₁; cases e₁
  · rw [List.mem_singleton] at m; subst m; rw [hI] at e; cases e
theorem ex_assign_comp (W : Wf C) {cl : List (PySem.Str × Addr)} {cv : List (PySem.Str × D)} {elt iter : Expr} {x y : PySem.Str} {px py : Pos} {ifs : List Expr} {scope : Scope} {pos spos : Pos} {ds : List D} (p : D → Bool) (g : D → D) (i : Nat) (hy : C.names[i]? = some y) (hi : EvIt C σ iter ds)
    (hclos : closureFor scope C.env = pure cl) (hcell : ∀ y ∈ scope.names, y.2 ≠ .cell) (hkind : scope.kind = .function) (hnames : ∀ y ∈ scope.names, y.2 = .local → scope.names.lookup y.1 = some .local) (hx : scope.names.lookup x = some .local) (hcap : Cap C σ scope cl cv) (hsz : ds.length ≤ 100000)
    (ht : ∀ h₀ X L d ob, Wf (compCx C scope cl cv h₀ X L x) → d ∈ ds → TsC (compCx C scope cl cv h₀ X L x) ⟨[some d], ob⟩ ifs (p d))
    (he : ∀ h₀ X L d ob, Wf (compCx C scope cl cv h₀ X L x) → d ∈ ds → p d = true → Ev (compCx C scope cl cv h₀ X L x) ⟨[some d], ob⟩ elt (g d))
    (hsw : swapsWith (.ListComp elt [⟨.Name x px, iter, ifs, 0⟩] scope pos) (some (.Name y py)) spos.line C.env = pure true) (h : Φ .next (σ.set i (.lst ((ds.filter p).map g))))
    (hs : notSet iter = true := by rfl) : Ex C σ (.Assign [.Name y py] (.ListComp elt [⟨.Name x px, iter, ifs, 0⟩] scope pos) spos) Φ := .mk fun s Q E O k => by
  rw [exec_Assign_Name_used _ _ _ _ hsw]
  refine wpAny_bind (wpAny_standAt (wpAny_bind ?_))
  show wpAny _ C.A (do let _ ← comprehension (.ListComp elt [⟨.Name x px, iter, ifs, 0⟩] scope pos) scope C.env _ (newList []) false (eval iter C.env) (some (assign (.Name y py) C.env))) _ _ s
  refine wpAny_bind (wpAny_mono (wpAny_comprehension_free (use := some (assign (.Name y py) C.env)) (Q := fun _ s' => Q .next s') rfl (folded_of hs _) hclos hkind hnames ?_) (fun _ s' hq => wpAny_pure (wpAny_pure hq)) fun _ _ e => e)
  refine hi.run s _ E O fun I h₁ t₁ k₁ hI it => ?_
  have hI0 : C.h₀.get? I = none := by
    cases z : C.h₀.get? I with
    | none => rfl
    | some o => rw [O.kp0 _ _ z] at hI; cases hI
  have O₁ := O.keep k₁
  have hIfp : I ∈ it.fp := it.walks.sub I (.head _)
  obtain ⟨hIex, hIT, oI, hoI⟩ := it.apart I hIfp
  obtain ⟨oI', hoI', hnsI, _, hndI⟩ := it.kind 0 _ it.start
  refine comp_core W p g hcell hkind hx hcap hsz ht he (s₂ := { s with heap := h₁, toks := t₁ }) O₁ hI0 it (RR := fun acc L => compPost C.M C.A E (some (assign (.Name y py) C.env)) (fun _ s' => Q .next s') acc L) fun D L h' tk m hD hL hDL hns r tb kB => ?_
  show wpAny _ C.A (assign (.Name y py) C.env (.ref D)) _ _ _
  obtain ⟨⟨mf, F, hv⟩, ho, hn, htb, hg⟩ := O₁
  have hLT : C.L ∉ TT := htb.nsT F.ns
  have hCL : C.L ≠ L := fun z => by
    obtain ⟨oL, es, ep, e, _⟩ := F.ns
    rw [z] at e; rw [show h₁.get? L = none from hL] at e; cases e
  have nsL : h'.Ns C.L mf := by
    obtain ⟨oL, es, ep, e, q⟩ := F.ns
    exact ⟨oL, es, ep, kB _ _ (fun m => hIex (by rw [List.mem_singleton] at m; rw [← m]; exact .head _)) (.inl hLT) e, q⟩
  refine wpAny_assign_Name (wpAny_storeName_local (W.loc y (List.mem_of_getElem? hy)) nsL (fun h₂ hns₂ hsb₂ => ?_) (by rw [W.kind]; rfl))
  have nsL2 : h₂.Ns L m := hns.sameBut hsb₂ (Ne.symm hCL)
  have tb₂ : TabOk h₂ := tab_same tb nsL hsb₂
  refine ⟨m, nsL2, fun h₃ hsb₃ => ?_⟩
  have tb₃ : TabOk h₃ := tab_same tb₂ nsL2 hsb₃
  have to3 : ∀ b o, Fix b o → b ≠ I → b ≠ C.L → b ≠ L → h₁.get? b = some o → h₃.get? b = some o := fun b o fx h1 h2 h3 e => (hsb₃.2 b h3).trans ((hsb₂.2 b h2).trans (kB b o (fun m => h1 (List.mem_singleton.mp m)) fx e))
  have nL : ∀ {b o}, h₁.get? b = some o → b ≠ L := fun e z => by rw [z] at e; rw [show h₁.get? L = none from hL] at e; cases e
  have hk : ∀ (b : Addr) (o : Obj), b ∉ C.ex σ → h₁.get? b = some o → SeqO o → h₃.get? b = some o ∧ b ∉ C.ex σ := fun b o hb e q => ⟨to3 b o q.fix (fun z => by subst z; rw [hoI'] at e; cases e; exact hnsI q) (fun z => hb (z ▸ .head _)) (nL e) e, hb⟩
  have rD : Rep (C.ex σ) h₃ (.ref D) (.lst ((ds.filter p).map g)) := r.walk fun a o ha e q => ⟨(hsb₃.2 a fun z => ha (z ▸ .head _)).trans ((hsb₂.2 a fun z => ha (z ▸ .tail _ (.head _))).trans e), fun q => ha (.tail _ q)⟩
  have O₃ : Ok C h₃ (σ.set i (.lst ((ds.filter p).map g))) := by
    refine ⟨⟨_, ⟨hns₂.sameBut hsb₃ hCL, fun b o e => ?_, F.above⟩, fun j z d' h1 h2 => ?_⟩, fun a es hm => ?_, hn, tb₃, hg⟩
    · have e1 := F.keep b o e
      refine to3 b o (.inl (gh_fix hg e)) (fun z => by rw [z, hI0] at e; cases e) (fun z => ?_) (nL e1) e1
      have h1 := Heap.lt_size e
      rw [z] at h1
      exact absurd h1 (Nat.not_lt.mpr F.above)
    · by_cases e : z = y
      · subst e
        have hij : j = i := nodup_idx W.nd h1 hy
        subst hij
        have hd : d' = .lst ((ds.filter p).map g) := by
          simp only [St.set, List.getElem?_set_self'] at h2
          cases q : σ.vars[j]? with
          | none => rw [q] at h2; cases h2
          | some z => rw [q] at h2; cases h2; rfl
        subst hd
        exact ⟨_, by simp, rD⟩
      · have hij : i ≠ j := fun q => e (by subst q; exact Option.some.inj (h1.symm.trans hy))
        simp only [St.set, List.getElem?_set_ne hij] at h2
        obtain ⟨u, e1, r1⟩ := hv j z d' h1 h2
        exact ⟨u, by simp [e, e1], r1.walk hk⟩
    · obtain ⟨r, q1, q2⟩ := ho a es hm
      refine ⟨r.walk hk fun o e => to3 a _ (.inl (r.T htb)) (fun z => ?_) q2 (nL e) e, q1, q2⟩
      exact hIex (z ▸ .tail _ (List.mem_append_right _ (List.mem_map_of_mem (f := (·.1)) hm)))
  refine k _ .next _ h₃ _ .next O₃ (fun b o hb fx e => ?_) (fun a ha => .inl ha) h
  have e₁ := k₁.keep b o fx e
  exact to3 b o fx (fun z => by subst z; rw [hI] at e; cases e) (fun z => hb (z ▸ .head _)) (nL e₁) e₁
end
end Mine
-- part V14
namespace Mine
section
variable {C : Cx} {σ : St} {Φ : Fl → St → Prop}
theorem back1 {e : Expr} {q : Pos} {env : Env} (hn : nst e = true) : backTo q (starEach [e] env) = [(false, eval e env)] := by rw [star_cons hn]; rfl
/-- a global name's object -/
theorem ev_gref (W : Wf C) {x : PySem.Str} {p : Pos} {a : Addr} (hk : C.env.kindOf x = some .globalImplicit) (hg : C.B.mg x = some (.ref a)) (hd : (x == ("__debug__" : PySem.Str)) = false := by rfl) : Ev C σ (.Name x p) (.obj a) := .mk fun s Q E O h =>
  name_global W O hk hg (h _ s.heap s.toks Kp.refl (.obj _)) hd
theorem co_inset (W : Wf C) {x : Int} {a : Addr} {S : Int → Bool} {n : Nat} (hS : ∀ h, C.B.In h → h.SetOf (intKind C.B.prog C.B.w) a S n) : CmpOn C σ .In (.int x) (.obj a) (S x) := fun s Q E v u O r1 r2 h => by
  cases r1; cases r2
  exact wpAny_inSet_of (knd := intKind C.B.prog C.B.w) (k := x) (by simp [intKind, Value.isInt]) rfl (hS _ (O.base W)) (h _ _ Kp.refl)
theorem co_isnot_str {x : PySem.Str} : CmpOn C σ .IsNot (.str x) .none true := fun s Q E v u O r1 r2 h => by cases r1; cases r2; exact isnot_str_none (h _ _ Kp.refl)
theorem co_isnot_none : CmpOn C σ .IsNot .none .none false := fun s Q E v u O r1 r2 h => by cases r1; cases r2; exact wpAny_isNot_self rfl (h _ _ Kp.refl)
/-- get of a dict by ints that stands in the base -/
theorem ev_dict_get (W : Wf C) {o e : Expr} {ap pos : Pos} {a : Addr} {x : Int} {f : Int → Option Value} {r : D} {pl : Sem Bool} (ho : Ev C σ o (.obj a)) (he : Ev C σ e (.int x)) (ha : (a == sysModules) = false) (hm : ∀ h, C.B.In h → h.MapOf (intKind C.B.prog C.B.w) a f) (hr : ∀ X h, Rep X h ((f x).getD .none) r)
    (hn : nst e = true := by rfl)
    (hc : eval (.Call (.Attribute o (PySem.Str.ofString "get") ap) [e] [] pos) C.env = (do
      let ov ← eval o C.env
      standAt ap.atName
      let (f, first) ← holding [ov] (getMethod ov (PySem.Str.ofString "get") pl)
      callWith pos f first (backTo pos (starEach [e] C.env)) []) := by rfl) : Ev C σ (.Call (.Attribute o (PySem.Str.ofString "get") ap) [e] [] pos) r := .mk fun s Q E O h => by
  refine MethodCall_ (ho.run s _ E O fun v h₁ t₁ k₁ r₁ => ?_) hc
  cases r₁
  have O₁ := O.keep k₁
  have m₁ := hm h₁ (O₁.base W)
  refine getMethod_builtin (s := { s with heap := h₁, toks := t₁ }) m₁.typeIs PySem.F.plainAttrs_dict PySem.F.slot_dict_get PySem.F.type_dict_get m₁.noDict ?_
  rw [back1 hn]
  refine wpAny_dict_get1 (knd := intKind C.B.prog C.B.w) ha (he.run _ _ E O₁ fun u h₂ t₂ k₂ r₂ => ?_)
  cases r₂
  exact ⟨x, f, by simp [intKind, Value.isInt], hm h₂ ((O₁.keep k₂).base W), h _ h₂ _ (k₁.trans k₂) (hr _ _)⟩
theorem ev_lower {o : Expr} {apos pos : Pos} {x : PySem.Str} {pl : Sem Bool} (ha : Ev C σ o (.str x)) (hx : Builtin.Str.tooLong (Txt.lower x).length = false)
    (he : eval (.Call (.Attribute o (PySem.Str.ofString "lower") apos) [] [] pos) C.env = (do
      let ov ← eval o C.env
      standAt apos.atName
      let (f, first) ← holding [ov] (getMethod ov (PySem.Str.ofString "lower") pl)
      callWith pos f first (backTo pos (starEach [] C.env)) []) := by rfl) : Ev C σ (.Call (.Attribute o (PySem.Str.ofString "lower") apos) [] [] pos) (.str (Txt.lower x)) :=
  ev_meth0 (id := "str.lower") ha (fun s v Q E O r h => by cases r; exact GM.lower h) (fun s Q E v O r h => by cases r; exact SC.lower hx (h _ _ _ Kp.refl (.str _ _))) he
theorem Reps.strs {X : List Addr} {h : Heap} : ∀ {vs : List Value} {ts : List PySem.Str}, Reps X h vs (ts.map .str) → ∃ l : List (PySem.Str × Tok), vs = strValues l ∧ l.map (·.1) = ts
  | [], [], _ => ⟨[], rfl, rfl⟩
  | [], _ :: _, h => nomatch h
  | _ :: _, [], h => nomatch h
  | v :: vs, t :: ts, .cons r rs => by
    obtain ⟨l, e1, e2⟩ := Reps.strs (ts := ts) rs
    cases r with
    | str _ tk => exact ⟨(t, tk) :: l, by simp [strValues, e1], by simp [e2]⟩
theorem ev_join (W : Wf C) {o e : Expr} {ap pos : Pos} {x : PySem.Str} {d : D} {ts : List PySem.Str} {pl : Sem Bool} (ho : Ev C σ o (.str x)) (he : Ev C σ e d) (hl : LstOf C σ d (ts.map .str)) (hj : JoinOk x ts = true)
    (hn : nst e = true := by rfl)
    (hc : eval (.Call (.Attribute o (PySem.Str.ofString "join") ap) [e] [] pos) C.env = (do
      let ov ← eval o C.env
      standAt ap.atName
      let (f, first) ← holding [ov] (getMethod ov (PySem.Str.ofString "join") pl)
      callWith pos f first (backTo pos (starEach [e] C.env)) []) := by rfl) : Ev C σ (.Call (.Attribute o (PySem.Str.ofString "join") ap) [e] [] pos) (.str (Txt.join x ts)) := .mk fun s Q E O h => by
  refine MethodCall_ (ho.run s _ E O fun v h₁ t₁ k₁ r₁ => ?_) hc
  cases r₁
  have O₁ := O.keep k₁
  refine GM.join ?_
  rw [back1 hn]
  refine callWith_builtin rfl (evalArgs_plain (spliced_cons (he.run _ _ E O₁ fun u h₂ t₂ k₂ r₂ => spliced_nil ?_)))
  obtain ⟨l, vs, rfl, il, rs⟩ := hl.get (O₁.keep k₂) r₂
  obtain ⟨l', e1, e2⟩ := rs.strs
  subst e1
  exact SC.join (s := { s with heap := h₂, toks := t₂ }) il e2 hj fun t' k => h _ h₂ k (k₁.trans k₂) (.str _ _)
end
end Mine
-- part V16
namespace Mine
section
variable {C : Cx} {σ : St} {Φ : Fl → St → Prop}
theorem kp_push2 {h : Heap} {a b : Obj} : Kp h ((h.push a).push b) := Kp.push.trans Kp.push
/-- the first items of a list -/
theorem ev_take (W : Wf C) {a b : Expr} {p pos : Pos} {d : D} {ds : List D} {k : Int} (ha : Ev C σ a d) (hl : LstOf C σ d ds) (hb : Ev C σ b (.int k)) (h0 : 0 ≤ k) (hz : ds.length ≤ 100000) : Ev C σ (.Subscript a (.Slice none (some b) none p) pos) (.lst (ds.take k.toNat)) := .mk fun s Q E O h => by
  refine Subscript_ (ha.run s _ E O fun v h₁ t₁ k₁ r₁ => wpAny_Slice (evalPart_none_step (evalPart_some_step (hb.run { s with heap := h₁, toks := t₁ } _ E (O.keep k₁) fun u h₂ t₂ k₂ r₂ => ?_))))
  have O₂ := (O.keep k₁).keep k₂
  obtain ⟨l, vs, rfl, il, rs⟩ := hl.get O₂ (r₁.keep k₂)
  obtain ⟨t, rfl⟩ : ∃ t, u = .int k t := by cases r₂; exact ⟨_, rfl⟩
  have e : slicePick vs.toArray none (some k) none = (vs.take k.toNat).toArray := by
    have ek : k = (k.toNat : Int) := by omega
    conv => lhs; rw [ek]
    rw [slicePick_upto']
  rw [evalPart_none]
  refine wpAny_pure (tail_any (il.push _).typeIs slot_list_getitem.lookup (wpAny_getItem_list_slice (lo := none) (hi := (some k)) (st := none) (il.push _) (Heap.IsSliceOf.new ..) .none (.int _ _) .none (by simp) ?_ (by rw [List.size_toArray, rs.length, sizeLine_eq]; omega)) rfl)
  rw [e, Heap.size_push]
  refine h _ _ t₂ (k₁.trans (k₂.trans kp_push2)) (.lst (vs := vs.take k.toNat) ⟨_, by rw [show h₂.objs.size + 1 = (h₂.push _).objs.size from (Heap.size_push ..).symm]; exact Heap.get?_push_size _ rfl, rfl, 0, rfl⟩ (fun q => ?_) ((rs.take _).keep kp_push2))
  obtain ⟨_, o, e'⟩ := O₂.live W _ q
  exact absurd (Heap.lt_size e') (Nat.not_lt.mpr (Nat.le_succ _))
/-- the items of a list from a place -/
theorem ev_drop (W : Wf C) {a b : Expr} {p pos : Pos} {d : D} {ds : List D} {k : Int} (ha : Ev C σ a d) (hl : LstOf C σ d ds) (hb : Ev C σ b (.int k)) (h0 : 0 ≤ k) (hz : ds.length ≤ 100000) : Ev C σ (.Subscript a (.Slice (some b) none none p) pos) (.lst (ds.drop k.toNat)) := .mk fun s Q E O h => by
  refine Subscript_ (ha.run s _ E O fun v h₁ t₁ k₁ r₁ => wpAny_Slice (evalPart_some_step (hb.run { s with heap := h₁, toks := t₁ } _ E (O.keep k₁) fun u h₂ t₂ k₂ r₂ => evalPart_none_step ?_)))
  have O₂ := (O.keep k₁).keep k₂
  obtain ⟨l, vs, rfl, il, rs⟩ := hl.get O₂ (r₁.keep k₂)
  obtain ⟨t, rfl⟩ : ∃ t, u = .int k t := by cases r₂; exact ⟨_, rfl⟩
  have e : slicePick vs.toArray (some k) none none = (vs.drop k.toNat).toArray := by
    have ek : k = (k.toNat : Int) := by omega
    conv => lhs; rw [ek]
    rw [slicePick_from']
  rw [evalPart_none]
  refine wpAny_pure (tail_any (il.push _).typeIs slot_list_getitem.lookup (wpAny_getItem_list_slice (lo := (some k)) (hi := none) (st := none) (il.push _) (Heap.IsSliceOf.new ..) (.int _ _) .none .none (by simp) ?_ (by rw [List.size_toArray, rs.length, sizeLine_eq]; omega)) rfl)
  rw [e, Heap.size_push]
  refine h _ _ t₂ (k₁.trans (k₂.trans kp_push2)) (.lst (vs := vs.drop k.toNat) ⟨_, by rw [show h₂.objs.size + 1 = (h₂.push _).objs.size from (Heap.size_push ..).symm]; exact Heap.get?_push_size _ rfl, rfl, 0, rfl⟩ (fun q => ?_) ((rs.drop _).keep kp_push2))
  obtain ⟨_, o, e'⟩ := O₂.live W _ q
  exact absurd (Heap.lt_size e') (Nat.not_lt.mpr (Nat.le_succ _))
theorem ev_addL (W : Wf C) {a b : Expr} {p : Pos} {d e : D} {ds es : List D} (ha : Ev C σ a d) (hl : LstOf C σ d ds) (hb : Ev C σ b e) (hm : LstOf C σ e es) (hz : ds.length + es.length ≤ 100000) : Ev C σ (.BinOp a .Add b p) (.lst (ds ++ es)) :=
  ev_bin ha hb fun s Q E v u O r1 r2 h => by
    obtain ⟨l, vs, rfl, il, rs⟩ := hl.get O r1
    obtain ⟨m, ws, rfl, im, rt⟩ := hm.get O r2
    obtain ⟨⟨cls, dd, data, sl⟩, ho, hc, n, hd⟩ := id il
    obtain ⟨⟨cls2, dd2, data2, sl2⟩, ho2, hc2, n2, hd2⟩ := id im
    simp only at hc hd hc2 hd2
    subst hc hd hc2 hd2
    have e : vs.toArray ++ ws.toArray = (vs ++ ws).toArray := by simp
    refine concat_meets ⟨_, ho, rfl⟩ ⟨_, ho2, rfl⟩ noFill_list_add seq_list_add PySem.F.slot_list_add PySem.F.entry_list_add (PySem.F.args_list_add_2 _ _) (list_addW l m vs.toArray ws.toArray n n2 dd dd2 sl sl2 (by
      simp only [List.size_toArray]; rw [rs.length, rt.length, sizeLine_eq]; omega)) ⟨ho, ho2, ?_⟩
    rw [e]
    exact h _ _ s.toks Kp.push (.lst (vs := vs ++ ws) ⟨_, Heap.get?_push_size _ rfl, rfl, 0, rfl⟩ (O.freshA W) ((rs.append rt).keep Kp.push))
theorem Reps.ints {X : List Addr} {h : Heap} : ∀ {vs : List Value} {l : List Int}, Reps X h vs (l.map .int) → ∃ ys : List (Int × Tok), vs = ys.map (fun p => .int p.1 p.2) ∧ ys.map (·.1) = l
  | [], [], _ => ⟨[], rfl, rfl⟩
  | [], _ :: _, h => nomatch h
  | _ :: _, [], h => nomatch h
  | v :: vs, t :: ts, .cons r rs => by
    obtain ⟨l, e1, e2⟩ := Reps.ints (l := ts) rs
    cases r with
    | int _ tk => exact ⟨(t, tk) :: l, by simp [e1], by simp [e2]⟩
end
end Mine
-- part V17
namespace Mine
theorem lookup_mem : ∀ {α : Type} {l : List (PySem.Str × α)} {x : PySem.Str} {c : α}, (l.map (·.1)).Nodup → (x, c) ∈ l → l.lookup x = some c
  | _, [], _, _, _, h => nomatch h
  | _, (y, e) :: r, x, c, hn, h => by
    rw [List.lookup_cons]
    rcases List.mem_cons.mp h with q | q
    · cases q; rw [beq_self_eq_true]
    · have hy : x ≠ y := fun z => (List.nodup_cons.mp hn).1 (z ▸ List.mem_map_of_mem (f := (·.1)) q)
      rw [show (x == y) = false by simpa using hy]
      exact lookup_mem (List.nodup_cons.mp hn).2 q
theorem lookup_not {α : Type} : ∀ {l : List (PySem.Str × α)} {x : PySem.Str}, x ∉ l.map (·.1) → l.lookup x = none
  | [], _, _ => rfl
  | (y, e) :: r, x, h => by
    rw [List.lookup_cons, show (x == y) = false by simpa using fun z : x = y => h (z ▸ .head _)]
    exact lookup_not fun m => h (.tail _ m)
theorem bindL_get {kf : PySem.Str → Option NameKind} : ∀ {bs : List (PySem.Str × Value)} {m : PySem.Str → Option Value} {x : PySem.Str}, (bs.map (·.1)).Nodup → kf x = some .local → bindL kf bs m x = (match bs.lookup x with | some v => some v | none => m x)
  | [], _, _, _, _ => rfl
  | (n, v) :: r, m, x, hn, hk => by
    have hn' := List.nodup_cons.mp hn
    unfold bindL
    rw [bindL_get hn'.2 hk, List.lookup_cons]
    cases e : x == n with
    | true =>
      have e := eq_of_beq e
      subst e
      rw [lookup_not hn'.1, if_pos hk]
      simp
    | false =>
      have e : x ≠ n := by simpa using e
      cases r.lookup x with
      | some u => rfl
      | none =>
        dsimp only
        split
        · simp [e]
        · rfl
theorem bindC_get {kf : PySem.Str → Option NameKind} : ∀ {bs : List (PySem.Str × Value)} {m : PySem.Str → Option Value} {x : PySem.Str}, (bs.map (·.1)).Nodup → kf x ≠ some .local → bindC kf bs m x = (match bs.lookup x with | some v => some v | none => m x)
  | [], _, _, _, _ => rfl
  | (n, v) :: r, m, x, hn, hk => by
    have hn' := List.nodup_cons.mp hn
    unfold bindC
    rw [bindC_get hn'.2 hk, List.lookup_cons]
    cases e : x == n with
    | true =>
      have e := eq_of_beq e
      subst e
      rw [lookup_not hn'.1, if_neg hk]
      simp
    | false =>
      have e : x ≠ n := by simpa using e
      cases r.lookup x with
      | some u => rfl
      | none =>
        dsimp only
        split
        · rfl
        · simp [e]
theorem zip_lookup {X : List Addr} {h : Heap} {x : PySem.Str} : ∀ {ps : List PySem.Str} {vs : List Value} {ds : List D}, Reps X h vs ds → (∀ d, (ps.zip ds).lookup x = some d → ∃ v, (ps.zip vs).lookup x = some v ∧ Rep X h v d) ∧ ((ps.zip ds).lookup x = none → (ps.zip vs).lookup x = none)
  | [], _, _, _ => by simp
  | p :: ps, _, _, .nil => by simp
  | p :: ps, _, _, .cons r rs => by
    have ih := @zip_lookup X h x ps _ _ rs
    simp only [List.zip_cons_cons, List.lookup_cons]
    cases x == p with
    | true => exact ⟨fun d e => by cases e; exact ⟨_, rfl, r⟩, fun e => nomatch e⟩
    | false => exact ih
/-- the state at the entry of a def with cells -/
noncomputable def entry (ps names : List PySem.Str) (ds : List D) (cf : List (PySem.Str × Addr)) : St := ⟨names.map fun x => (ps.zip ds).lookup x, cf.map fun p => (p.2, ((ps.zip ds).lookup p.1).toList)⟩
theorem fn_of_body_cells {B : Bs} {f : Addr} {fd : FuncData} {body : List Stmt} {ps names cns : List PySem.Str} {ds : List D} {r : D} {k : Nat} {oc : Value} {od : Option Addr} {osl : Array (Option Value)} (cf : Addr → List (PySem.Str × Addr))
    (ho : B.K.lookup f = some ⟨oc, od, .func fd, osl⟩) (hcd : codeIn B.K fd.code fd.qualname = true) (hbody : fd.body = .stmts body) (hbind : ∀ vs : List Value, vs.length = ps.length → bindArgs fd ⟨vs, []⟩ = pure (ps.zip vs))
    (hps : ps.length = ds.length) (hpn : ps.Nodup) (hnd : names.Nodup) (hloc : ∀ x ∈ names, fd.scope.names.lookup x = some .local) (hclo : fd.closure = [])
    (hcf : ∀ L, cellsFrom (L + 1) fd.scope.names [] = cf L) (hcn : ∀ L, (cf L).map (·.1) = cns) (hcnd : cns.Nodup) (hck : ∀ x ∈ cns, fd.scope.names.lookup x = some .cell) (hpk : ∀ x ∈ ps, fd.scope.names.lookup x = some .local ∨ x ∈ cns)
    (hk : fd.scope.kind = .function) (hco : fd.scope.isCoroutine = false) (hgen : fd.scope.isGenerator = false)
    (hgl : fd.globals = mainGlobals) (hbl : fd.builtins = builtinsNs)
    (H : ∀ (A : Around) (L : Addr) (h₀ : Heap) (X : List Addr), Wf ⟨B, A, callEnvC fd L f, h₀, X, names, [], cf L⟩ → A.depth + k < recursionLimit → A.units + 8 * k < cLine →
      Exs ⟨B, A, callEnvC fd L f, h₀, X, names, [], cf L⟩ (entry ps names ds (cf L)) body (fun fl _ => fl = .ret r ∨ (fl = .next ∧ r = .none))) : Fn B f (k + 1) ds r := by
  constructor
  intro A s X vs Q E hB hTb hX hrep hh hdep hun hQ
  have hvl : vs.length = ps.length := hrep.length.trans hps.symm
  have hzn : ((ps.zip vs).map (·.1)).Nodup := by
    have : (ps.zip vs).map (·.1) = ps := by rw [List.map_fst_zip (by omega)]
    rw [this]; exact hpn
  have hmem : ∀ L x c, (x, c) ∈ cf L → (cf L).lookup x = some c := fun L x c hm => lookup_mem (by rw [hcn]; exact hcnd) hm
  have hmemn : ∀ L x c, (x, c) ∈ cf L → x ∈ cns := fun L x c hm => by rw [← hcn L]; exact List.mem_map_of_mem (f := (·.1)) hm
  refine wpAny_call (codeAny_call_cells (o := ⟨oc, od, .func fd, osl⟩) (fd := fd) (body := body) (binds := ps.zip vs) (by omega) (hB.K _ _ ho) rfl hB.lim (codeRec_of hB.K hcd) hbody (hbind vs hvl) hclo (fun x hx => ?_) (fun s₁ IC => ?_) hco hgen hk)
  · rcases hpk _ (List.of_mem_zip hx).1 with q | q
    · exact .inl q
    · refine .inr ⟨hck _ q, ?_⟩
      rw [hcf]
      rw [← hcn s.heap.objs.size] at q
      obtain ⟨p, hp, e⟩ := List.mem_map.mp q
      rw [← e, hmem _ p.1 p.2 hp]; rfl
  obtain ⟨h₁, tk, rfl, hkp⟩ := IC.done
  have hBg : B.In (hideAll s.heap TT) :=
    ⟨fun a o e => hideAll_get _ (hB.K a o e) (B.hT a o e), ns_hide hB.g (by decide), ns_hide hB.b (by decide), let ⟨mc, n, r⟩ := hB.lim; ⟨mc, ns_hide n (by decide), r⟩⟩
  have hW : Wf ⟨B, A.deeper (callEnvC fd s.heap.objs.size f), callEnvC fd s.heap.objs.size f, hideAll s.heap TT, X, names, [], cf s.heap.objs.size⟩ :=
    { kind := hk, gl := hgl, bl := hbl, loc := fun x hx => hloc x hx, nd := hnd, base := hBg, old := fun x hx => let ⟨h1, o, e⟩ := hX x hx; ⟨o, hideAll_get _ e h1⟩, handled := hh, cons := fun x d hx => (nomatch hx),
      cells := fun x c hm => ⟨hck x (hmemn _ x c hm), (congrArg (List.lookup x) (hcf s.heap.objs.size)).trans (hmem _ x c hm)⟩ }
  have hd1 : (A.deeper (callEnvC fd s.heap.objs.size f)).depth = A.depth + 1 := rfl
  have hu1 : (A.deeper (callEnvC fd s.heap.objs.size f)).units = A.units + 3 := rfl
  have habove : ∀ x c, (x, c) ∈ cf s.heap.objs.size → s.heap.objs.size < c := fun x c hm => IC.above x c (by rw [show (callEnvC fd s.heap.objs.size f).cells = cf s.heap.objs.size from hcf _]; exact hm)
  have hno : ∀ x c, (x, c) ∈ cf s.heap.objs.size → s.heap.get? c = none := fun x c hm => by
    cases e : s.heap.get? c with
    | none => rfl
    | some o => exact absurd (Heap.lt_size e) (Nat.not_lt.mpr (Nat.le_of_lt (habove x c hm)))
  have hadr : (entry ps names ds (cf s.heap.objs.size)).addrs = (cf s.heap.objs.size).map (·.2) := by
    simp [entry, St.addrs, Function.comp_def]
  have hex : ∀ a o, a ∉ X ++ [] → s.heap.get? a = some o → SeqO o → h₁.get? a = some o ∧ a ∉ s.heap.objs.size :: (X ++ (entry ps names ds (cf s.heap.objs.size)).addrs) := fun a o ha e _ => by
    refine ⟨hkp a o e, fun m => ?_⟩
    rcases List.mem_cons.mp m with m | m
    · exact absurd (Heap.lt_size e) (by rw [m]; exact Nat.lt_irrefl _)
    · rcases List.mem_append.mp m with m | m
      · exact ha (List.mem_append_left _ m)
      · rw [hadr] at m
        obtain ⟨p, hp, rfl⟩ := List.mem_map.mp m
        rw [hno p.1 p.2 hp] at e; cases e
  have hrep' : Reps (X ++ []) s.heap vs ds := by simpa using hrep
  have O : Ok ⟨B, A.deeper (callEnvC fd s.heap.objs.size f), callEnvC fd s.heap.objs.size f, hideAll s.heap TT, X, names, [], cf s.heap.objs.size⟩ h₁ (entry ps names ds (cf s.heap.objs.size)) := by
    refine ⟨⟨_, ⟨IC.toInCall.ns, fun b o e => hkp b o (of_hideAll _ e), Nat.le_of_eq (hideAll_size _ _)⟩, fun i x d h1 h2 => ?_⟩, fun a l hm => ?_, ?_, hTb.full hkp, fun t ht => hideAll_none _ ht⟩
    · have hl := hloc x (List.mem_of_getElem? h1)
      have h2' : (ps.zip ds).lookup x = some d := by
        simp only [entry, List.getElem?_map] at h2
        rw [show names[i]? = some x from h1] at h2
        simpa using h2
      obtain ⟨v, e, rv⟩ := (zip_lookup hrep').1 d h2'
      refine ⟨v, ?_, rv.walk hex⟩
      have hl' : (callEnvC fd s.heap.objs.size f).kindOf x = some .local := hl
      rw [bindL_get hzn hl', e]
    · obtain ⟨p, hp, e⟩ := List.mem_map.mp hm
      cases e
      have hm' : p.2 ∈ (cf s.heap.objs.size).map (·.2) := List.mem_map_of_mem (f := (·.2)) hp
      have hl' : (callEnvC fd s.heap.objs.size f).kindOf p.1 ≠ some .local := by
        have := hck p.1 (hmemn _ p.1 p.2 hp)
        rw [show (callEnvC fd s.heap.objs.size f).kindOf p.1 = fd.scope.names.lookup p.1 from rfl, this]; nofun
      obtain ⟨o, e1, e2⟩ := IC.cell p.1 p.2 (by rw [show (callEnvC fd s.heap.objs.size f).cells = cf s.heap.objs.size from hcf _]; exact hmem _ p.1 p.2 hp)
      rw [bindC_get hzn hl'] at e2
      refine ⟨.inr ⟨hm', o, _, e1, e2, ?_⟩, ?_, fun z => ?_⟩
      · cases z : (ps.zip ds).lookup p.1 with
        | none => rw [(zip_lookup hrep').2 z]; exact .nil
        | some d =>
          obtain ⟨v, e, rv⟩ := (zip_lookup hrep').1 d z
          rw [e]; exact .cons (rv.walk hex) .nil
      · cases z : (hideAll s.heap TT).get? p.2 with
        | none => rfl
        | some o => have := of_hideAll _ z; rw [hno p.1 p.2 hp] at this; cases this
      · have := habove p.1 p.2 hp
        rw [show p.2 = s.heap.objs.size from z] at this
        exact absurd this (Nat.lt_irrefl _)
    · rw [hadr]
      have := IC.apart
      rw [show (callEnvC fd s.heap.objs.size f).cells = cf s.heap.objs.size from hcf _] at this
      exact List.pairwise_map.mpr this
  refine wpAny_mono ((H _ _ _ X hW (by omega) (by omega)).run { s with heap := h₁, toks := tk } (fun fl s' => Q (match fl with | .ret v => v | _ => .none) s') (fun _ _ => False) O fun fl fl' σ' h' t' hf O' kp' nw hΦ => ?_) (fun fl s' h => h) (fun _ _ h => h.elim)
  have kk : Kp s.heap h' := ⟨fun b o f e => O'.kp0 b o (hideAll_get _ e (f.elim id fun hc => hTb.ne e (.inl hc))), fun _ => O'.tab⟩
  rcases hΦ with rfl | ⟨rfl, rfl⟩
  · cases hf with
    | ret r' => exact hQ _ h' t' kk (r'.mono fun a ha => .tail _ (List.mem_append_left _ ha))
  · cases hf; exact hQ _ h' t' kk .none
end Mine
-- part V18
namespace Mine
section
variable {C : Cx} {σ : St} {Φ : Fl → St → Prop}
/-- a sign of a str -/
theorem ev_stritem {a i : Expr} {p : Pos} {x : PySem.Str} {k : Int} {c : Nat} (ha : Ev C σ a (.str x)) (hi : Ev C σ i (.int k)) (h0 : 0 ≤ k) (hk : k < 2 ^ 63) (hc : x.cps.toList[k.toNat]? = some c)
    (hs : notSlice i = true := by rfl) : Ev C σ (.Subscript a i p) (.str ⟨⟨[c]⟩⟩) := .mk fun s Q E O h =>
  Subscript_ (ha.run s _ E O fun v h₁ t₁ k₁ r₁ => hi.run _ _ E (O.keep k₁) fun u h₂ t₂ k₂ r₂ => by
    cases r₁; cases r₂
    have hlt : k.toNat < x.cps.toList.length := (List.getElem?_eq_some_iff.mp hc).1
    have hl : k < (x.length : Int) := by
      have : x.length = x.cps.toList.length := rfl
      omega
    refine tail_any (typeIs_str _ _ _) PySem.F.slot_str_getitem.lookup (P.getItem_str (c := c) ?_ ?_ (h _ _ _ (k₁.trans k₂) (.str _ _))) (sub_of hs _ _)
    · have h1 : ¬ k < -(2 ^ 63 : Int) := by omega
      have h2 : ¬ k ≥ (2 ^ 63 : Int) := by omega
      simp only [h1, h2, decide_false, Bool.or_self]
    · have e : seqIndex? k x.length = some k.toNat := by
        unfold seqIndex?
        rw [if_neg (by omega : ¬ k < 0)]
        simp only [decide_eq_true h0, decide_eq_true hl, Bool.and_self, if_true]
      rw [e]
      simpa using hc)
theorem slice_is {x : PySem.Str} {i j : Nat} (hi : i ≤ x.length) (hij : i ≤ j) : Txt.slice x (some (i : Int)) (some (j : Int)) = ⟨((x.cps.toList.drop i).take (j - i)).toArray⟩ := by
  by_cases h : j ≤ x.length
  · have := beq_iff_eq.mp (slice_closesL (x := x) (i := (i : Int)) (j := (j : Int)) (by omega) (by omega) (by omega))
    rw [this]
    congr 3 <;> omega
  · have e : Txt.slice x (some (i : Int)) (some (j : Int)) = Txt.slice x (some (i : Int)) (some (x.length : Int)) := by
      have hn : ¬ (j : Int) < 0 := by omega
      have hn' : ¬ ((x.length : Nat) : Int) < 0 := by omega
      unfold Txt.slice
      have : Builtin.Str.strSliceIndices (some (i : Int)) (some (j : Int)) 1 x.length = Builtin.Str.strSliceIndices (some (i : Int)) (some (x.length : Int)) 1 x.length := by
        have h1 : (1 : Int) > 0 := by decide
        simp only [h1, if_true, Builtin.Str.strSliceIndices, hn, hn', if_false, Int.min_eq_right (show (x.length : Int) ≤ j by omega), Int.min_self]
      rw [this]
    have := beq_iff_eq.mp (slice_closesL (x := x) (i := (i : Int)) (j := (x.length : Int)) (by omega) (by omega) (by omega))
    rw [e, this]
    have hlen : x.length = x.cps.toList.length := rfl
    have e1 : (i : Int).toNat = i := by omega
    have e2 : ((x.length : Int) - (i : Int)).toNat = x.length - i := by omega
    rw [e1, e2, List.take_of_length_le (by rw [List.length_drop, hlen]; omega), List.take_of_length_le (by rw [List.length_drop]; omega)]
/-- a piece of a str -/
theorem ev_strslice {a l u : Expr} {p pos : Pos} {x : PySem.Str} {i j : Nat} (ha : Ev C σ a (.str x)) (hl : Ev C σ l (.int i)) (hu : Ev C σ u (.int j)) (hi : i ≤ x.length) (hij : i ≤ j) (hz : x.length ≤ 100000) : Ev C σ (.Subscript a (.Slice (some l) (some u) none p) pos) (.str ⟨((x.cps.toList.drop i).take (j - i)).toArray⟩) := .mk fun s Q E O h => by
  refine Subscript_ (ha.run s _ E O fun v h₁ t₁ k₁ r₁ => wpAny_Slice (evalPart_some_step (hl.run { s with heap := h₁, toks := t₁ } _ E (O.keep k₁) fun v₂ h₂ t₂ k₂ r₂ => evalPart_some_step (hu.run _ _ E ((O.keep k₁).keep k₂) fun v₃ h₃ t₃ k₃ r₃ => ?_))))
  cases r₁
  obtain ⟨ti, rfl⟩ : ∃ t, v₂ = .int (i : Int) t := by cases r₂; exact ⟨_, rfl⟩
  obtain ⟨tj, rfl⟩ : ∃ t, v₃ = .int (j : Int) t := by cases r₃; exact ⟨_, rfl⟩
  rw [evalPart_none]
  refine wpAny_pure (tail_any (typeIs_str _ _ _) PySem.F.slot_str_getitem.lookup (wpAny_getItem_str_slice (l := some (_, ti)) (u := some (_, tj)) (st := none) ⟨_, Heap.get?_push_size _ rfl, rfl, rfl⟩ rfl
    (post_val_or_str ⟨Nat.le_trans (Txt.slice_le x _ _) (by rw [sizeLine_eq]; omega), fun t' k => ?_⟩)) rfl)
  have := slice_is hi hij
  unfold Txt.slice at this
  refine h _ _ k (k₁.trans (k₂.trans (k₃.trans Kp.push))) ?_
  show Rep _ _ (.str _ t') _
  rw [← this]
  exact .str _ _
theorem ev_index {o e : Expr} {ap pos : Pos} {x y : PySem.Str} {i : Nat} {rest : List Nat} {pl : Sem Bool} (ho : Ev C σ o (.str x)) (he : Ev C σ e (.str y)) (hi : Builtin.Str.occurrences x y 0 x.length 1 = i :: rest)
    (hn : nst e = true := by rfl)
    (hc : eval (.Call (.Attribute o (PySem.Str.ofString "index") ap) [e] [] pos) C.env = (do
      let ov ← eval o C.env
      standAt ap.atName
      let (f, first) ← holding [ov] (getMethod ov (PySem.Str.ofString "index") pl)
      callWith pos f first (backTo pos (starEach [e] C.env)) []) := by rfl) : Ev C σ (.Call (.Attribute o (PySem.Str.ofString "index") ap) [e] [] pos) (.int i) := .mk fun s Q E O h => by
  refine MethodCall_ (ho.run s _ E O fun v h₁ t₁ k₁ r₁ => ?_) hc
  cases r₁
  have O₁ := O.keep k₁
  refine GM.index ?_
  rw [back1 hn]
  refine callWith_builtin rfl (evalArgs_plain (spliced_cons (he.run _ _ E O₁ fun u h₂ t₂ k₂ r₂ => spliced_nil ?_)))
  cases r₂
  exact SC.index hi (h _ h₂ _ (k₁.trans k₂) (.int _ _))
theorem ev_min (W : Wf C) {p q : Pos} {e f : Expr} {a b : Int} (hk : C.env.kindOf (PySem.Str.ofString "min") = some .globalImplicit) (hg : C.B.mg (PySem.Str.ofString "min") = none) (hb : C.B.mb (PySem.Str.ofString "min") = some (.builtin "min")) (he : Ev C σ e (.int a)) (hf : Ev C σ f (.int b))
    (hn : nst e = true := by rfl) (hn' : nst f = true := by rfl) : Ev C σ (.Call (.Name (PySem.Str.ofString "min") p) [e, f] [] q) (.int (min a b)) :=
  ev_call_builtin W hk hg hb (evs_cons he (evs_cons hf evs_nil hn') hn) (fun s Q E vs O rs h => by
    cases rs with
    | cons r1 rn =>
      cases rn with
      | cons r2 rn =>
        cases rn; cases r1; cases r2
        refine min_two_ints W.handled fun h' tk hk => h _ _ _ (.full hk) ?_
        split
        · rename_i q
          rw [show min a b = b by omega]; exact .int _ _
        · rename_i q
          rw [show min a b = a by omega]; exact .int _ _) (by simp [nsts, hn, hn'])
/-- two like lists of numbers -/
theorem co_nel (W : Wf C) (hu : C.A.units < cLine) {l : List Int} : CmpOn C σ .NotEq (.lst (l.map .int)) (.lst (l.map .int)) false := fun s Q E v u O r1 r2 h => by
  cases r1 with
  | @lst _ vs _ t1 _ rs1 =>
    cases r2 with
    | @lst _ us _ t2 _ rs2 =>
      have h1 : vs.length = l.length := by rw [rs1.length, List.length_map]
      have h2 : us.length = l.length := by rw [rs2.length, List.length_map]
      refine PySem.SeqAt.RcNeAt.lists (e := fun _ => true) t1 t2 (by rw [List.size_toArray, List.size_toArray, h1, h2]) hu (fun j hj1 hj2 => ?_) C.B.prog C.B.w E Q ?_
      · have hj : j < l.length := by rw [List.size_toArray, h1] at hj1; exact hj1
        obtain ⟨t, e1⟩ := Reps.int rs1 j l[j] (List.getElem?_eq_getElem hj)
        obtain ⟨t', e2⟩ := Reps.int rs2 j l[j] (List.getElem?_eq_getElem hj)
        have g1 : vs.toArray[j] = .int l[j] t := by
          have := (List.getElem?_eq_some_iff.mp e1).2
          simpa using this
        have g2 : us.toArray[j] = .int l[j] t' := by
          have := (List.getElem?_eq_some_iff.mp e2).2
          simpa using this
        rw [g1, g2]
        have := PySem.SeqAt.EqAt.int_int (A := C.A.in1) (s := s) l[j] t l[j] t'
        rwa [beq_self_eq_true] at this
      · have e : (!((List.range vs.toArray.size).all fun _ => true)) = false := by
          rw [List.all_eq_true.mpr (fun _ _ => rfl)]; rfl
        exact e ▸ h s.heap s.toks Kp.refl
end
end Mine
-- part BS02
set_option maxHeartbeats 0
namespace Mine
noncomputable section
noncomputable def fdO (o : Obj) : FuncData := match o.data with
  | .func f => f
  | _ => default
/-- the names of the text and of the built-ins, behind the top -/
noncomputable def KN (P : Params) : Frag := (KK P).filter fun p => !TT.contains p.1
theorem lookup_filter (q : Addr → Bool) : ∀ (l : List (Addr × Obj)) (a : Addr), (l.filter fun p => q p.1).lookup a = if q a then l.lookup a else none
  | [], a => by simp
  | (b, o) :: l, a => by
    have ih := lookup_filter q l a
    by_cases hb : q b = true
    · rw [List.filter_cons_of_pos (by simpa using hb), List.lookup_cons, List.lookup_cons, ih]
      cases e : a == b with
      | true => rw [eq_of_beq e, hb]; rfl
      | false => rfl
    · rw [List.filter_cons_of_neg (by simpa using hb), ih, List.lookup_cons]
      cases e : a == b with
      | true => rw [eq_of_beq e]; simp [hb]
      | false => rfl
theorem KN_T (P : Params) (a : Addr) (o : Obj) (h : (KN P).lookup a = some o) : a ∉ TT := by
  unfold KN at h
  rw [lookup_filter (fun a => !TT.contains a)] at h
  split at h
  · rename_i e; simpa using e
  · cases h
theorem KN_in {P : Params} {h : Heap} (k : (KK P).In h) : (KN P).In h := fun a o e => by
  unfold KN at e
  rw [lookup_filter (fun a => !TT.contains a)] at e
  split at e
  · exact k a o e
  · cases e
noncomputable def B1 (w : World) : Bs := { prog := pw, w := w, mg := (H1 w.params).nsMap mainGlobals, mb := (H1 w.params).nsMap builtinsNs, K := KN w.params, hT := KN_T w.params }
theorem ns_carry {h h' : Heap} {a : Addr} {o : Obj} (x : h.isNs a = true) (e : h.get? a = some o) (e' : h'.get? a = some o) : h'.Ns a (h.nsMap a) := by
  obtain ⟨o', es, ep, h1, r⟩ := Heap.Ns.of_isNs x
  rw [e] at h1; cases h1
  exact ⟨o, es, ep, e', r⟩
theorem B1_in {w : World} {h : Heap} (k : (KK w.params).In h) : (B1 w).In h where
  K := KN_in k
  g := ns_carry (h := H1 w.params) (a := mainGlobals) (o := o3_24 w.params) (by kernel_rfl) (by kernel_rfl) (k _ _ (by kernel_rfl))
  b := ns_carry (h := H1 w.params) (a := builtinsNs) (o := boot_o_0 w.params) (by kernel_rfl) (by kernel_rfl) (k _ _ (by kernel_rfl))
  lim := ⟨_, ns_carry (o := boot_o_2 w.params) (h := H1 w.params) (by kernel_rfl) (by kernel_rfl) (k _ _ (by kernel_rfl)), by kernel_rfl⟩
theorem len_cons {vs : List Value} {n : Nat} (h : vs.length = n + 1) : ∃ a r, vs = a :: r ∧ r.length = n := by
  cases vs with
  | nil => cases h
  | cons a r => exact ⟨a, r, rfl, Nat.succ.inj h⟩
theorem args1 (P : List Value → Prop) (h : ∀ a0, P [a0]) : ∀ vs : List Value, vs.length = 1 → P vs := fun vs e => by
  obtain ⟨a0, r0, e0, f0⟩ := len_cons e
  rw [e0, List.eq_nil_of_length_eq_zero f0]
  exact h a0
theorem args2 (P : List Value → Prop) (h : ∀ a0 a1, P [a0, a1]) : ∀ vs : List Value, vs.length = 2 → P vs := fun vs e => by
  obtain ⟨a0, r0, e0, f0⟩ := len_cons e
  obtain ⟨a1, r1, e1, f1⟩ := len_cons f0
  rw [e0, e1, List.eq_nil_of_length_eq_zero f1]
  exact h a0 a1
theorem args3 (P : List Value → Prop) (h : ∀ a0 a1 a2, P [a0, a1, a2]) : ∀ vs : List Value, vs.length = 3 → P vs := fun vs e => by
  obtain ⟨a0, r0, e0, f0⟩ := len_cons e
  obtain ⟨a1, r1, e1, f1⟩ := len_cons f0
  obtain ⟨a2, r2, e2, f2⟩ := len_cons f1
  rw [e0, e1, e2, List.eq_nil_of_length_eq_zero f2]
  exact h a0 a1 a2
theorem args4 (P : List Value → Prop) (h : ∀ a0 a1 a2 a3, P [a0, a1, a2, a3]) : ∀ vs : List Value, vs.length = 4 → P vs := fun vs e => by
  obtain ⟨a0, r0, e0, f0⟩ := len_cons e
  obtain ⟨a1, r1, e1, f1⟩ := len_cons f0
  obtain ⟨a2, r2, e2, f2⟩ := len_cons f1
  obtain ⟨a3, r3, e3, f3⟩ := len_cons f2
  rw [e0, e1, e2, e3, List.eq_nil_of_length_eq_zero f3]
  exact h a0 a1 a2 a3
theorem args5 (P : List Value → Prop) (h : ∀ a0 a1 a2 a3 a4, P [a0, a1, a2, a3, a4]) : ∀ vs : List Value, vs.length = 5 → P vs := fun vs e => by
  obtain ⟨a0, r0, e0, f0⟩ := len_cons e
  obtain ⟨a1, r1, e1, f1⟩ := len_cons f0
  obtain ⟨a2, r2, e2, f2⟩ := len_cons f1
  obtain ⟨a3, r3, e3, f3⟩ := len_cons f2
  obtain ⟨a4, r4, e4, f4⟩ := len_cons f3
  rw [e0, e1, e2, e3, e4, List.eq_nil_of_length_eq_zero f4]
  exact h a0 a1 a2 a3 a4
theorem args6 (P : List Value → Prop) (h : ∀ a0 a1 a2 a3 a4 a5, P [a0, a1, a2, a3, a4, a5]) : ∀ vs : List Value, vs.length = 6 → P vs := fun vs e => by
  obtain ⟨a0, r0, e0, f0⟩ := len_cons e
  obtain ⟨a1, r1, e1, f1⟩ := len_cons f0
  obtain ⟨a2, r2, e2, f2⟩ := len_cons f1
  obtain ⟨a3, r3, e3, f3⟩ := len_cons f2
  obtain ⟨a4, r4, e4, f4⟩ := len_cons f3
  obtain ⟨a5, r5, e5, f5⟩ := len_cons f4
  rw [e0, e1, e2, e3, e4, e5, List.eq_nil_of_length_eq_zero f5]
  exact h a0 a1 a2 a3 a4 a5
noncomputable def fd_div2n1n : FuncData := fdO o21_9
noncomputable def ns_div2n1n : List PySem.Str := [PySem.Str.ofString "a", PySem.Str.ofString "b", PySem.Str.ofString "n", PySem.Str.ofString "pad", PySem.Str.ofString "half_n", PySem.Str.ofString "mask", PySem.Str.ofString "b1", PySem.Str.ofString "b2", PySem.Str.ofString "q1", PySem.Str.ofString "r", PySem.Str.ofString "q2"]
theorem s1_div2n1n (w : World) : (B1 w).K.lookup 21 = some ⟨.type "function", none, .func fd_div2n1n, ⟨[]⟩⟩ := by kernel_rfl
theorem s2_div2n1n (w : World) : codeIn (B1 w).K fd_div2n1n.code fd_div2n1n.qualname = true := by kernel_rfl
theorem s3_div2n1n : fd_div2n1n.body = .stmts (fdB (stAt 2)) := by kernel_rfl
noncomputable def ps_div2n1n : List PySem.Str := [PySem.Str.ofString "a", PySem.Str.ofString "b", PySem.Str.ofString "n"]
theorem s4_div2n1n : ∀ vs : List Value, vs.length = ps_div2n1n.length → bindArgs fd_div2n1n ⟨vs, []⟩ = pure (ps_div2n1n.zip vs) := args3 _ fun _ _ _ => by kernel_rfl
theorem s5_div2n1n : ns_div2n1n.Nodup := by decide +kernel
theorem s6_div2n1n : ns_div2n1n.take ps_div2n1n.length = ps_div2n1n := by kernel_rfl
theorem s7_div2n1n : ∀ x ∈ ns_div2n1n, fd_div2n1n.scope.names.lookup x = some .local := by decide +kernel
theorem s8_div2n1n : ∀ x ∈ fd_div2n1n.scope.names, x.2 ≠ .cell := by decide +kernel
theorem s9_div2n1n : fd_div2n1n.scope.kind = .function := by kernel_rfl
theorem s10_div2n1n : fd_div2n1n.scope.isCoroutine = false := by kernel_rfl
theorem s11_div2n1n : fd_div2n1n.scope.isGenerator = false := by kernel_rfl
theorem s12_div2n1n : fd_div2n1n.globals = mainGlobals := by kernel_rfl
theorem s13_div2n1n : fd_div2n1n.builtins = builtinsNs := by kernel_rfl
structure In_div2n1n (w : World) (C : Cx) : Prop where
  W : Wf C
  B : C.B = B1 w
  N : C.names = ns_div2n1n
  cl : C.cl = []
  E : ∃ L, C.env = callEnv fd_div2n1n L 21
theorem fn_div2n1n {w : World} {ds : List D} {r : D} {k : Nat} (hl : ps_div2n1n.length = ds.length)
    (H : ∀ C : Cx, In_div2n1n w C → C.A.depth + k < recursionLimit → C.A.units + 8 * k < cLine →
      Exs C ⟨ds.map some ++ List.replicate (ns_div2n1n.length - ds.length) none, []⟩ (fdB (stAt 2)) (fun fl _ => fl = .ret r ∨ (fl = .next ∧ r = .none))) : Fn (B1 w) 21 (k + 1) ds r := by
  refine fn_of_body (s1_div2n1n w) (s2_div2n1n w) s3_div2n1n s4_div2n1n hl s5_div2n1n s6_div2n1n s7_div2n1n s8_div2n1n s9_div2n1n s10_div2n1n s11_div2n1n s12_div2n1n s13_div2n1n ?_
  intro A L h₀ X W hd hu
  with_reducible exact H _ ⟨W, rfl, rfl, rfl, L, rfl⟩ hd hu
theorem nx_div2n1n_a {w : World} {C : Cx} (I : In_div2n1n w C) : C.names[0]? = some (PySem.Str.ofString "a") := by rw [I.N]; kernel_rfl
theorem nx_div2n1n_b {w : World} {C : Cx} (I : In_div2n1n w C) : C.names[1]? = some (PySem.Str.ofString "b") := by rw [I.N]; kernel_rfl
theorem nx_div2n1n_n {w : World} {C : Cx} (I : In_div2n1n w C) : C.names[2]? = some (PySem.Str.ofString "n") := by rw [I.N]; kernel_rfl
theorem nx_div2n1n_pad {w : World} {C : Cx} (I : In_div2n1n w C) : C.names[3]? = some (PySem.Str.ofString "pad") := by rw [I.N]; kernel_rfl
theorem nx_div2n1n_half_n {w : World} {C : Cx} (I : In_div2n1n w C) : C.names[4]? = some (PySem.Str.ofString "half_n") := by rw [I.N]; kernel_rfl
theorem nx_div2n1n_mask {w : World} {C : Cx} (I : In_div2n1n w C) : C.names[5]? = some (PySem.Str.ofString "mask") := by rw [I.N]; kernel_rfl
theorem nx_div2n1n_b1 {w : World} {C : Cx} (I : In_div2n1n w C) : C.names[6]? = some (PySem.Str.ofString "b1") := by rw [I.N]; kernel_rfl
theorem nx_div2n1n_b2 {w : World} {C : Cx} (I : In_div2n1n w C) : C.names[7]? = some (PySem.Str.ofString "b2") := by rw [I.N]; kernel_rfl
theorem nx_div2n1n_q1 {w : World} {C : Cx} (I : In_div2n1n w C) : C.names[8]? = some (PySem.Str.ofString "q1") := by rw [I.N]; kernel_rfl
theorem nx_div2n1n_r {w : World} {C : Cx} (I : In_div2n1n w C) : C.names[9]? = some (PySem.Str.ofString "r") := by rw [I.N]; kernel_rfl
theorem nx_div2n1n_q2 {w : World} {C : Cx} (I : In_div2n1n w C) : C.names[10]? = some (PySem.Str.ofString "q2") := by rw [I.N]; kernel_rfl
noncomputable def fd_div3n2n : FuncData := fdO o28_9
noncomputable def ns_div3n2n : List PySem.Str := [PySem.Str.ofString "a12", PySem.Str.ofString "a3", PySem.Str.ofString "b", PySem.Str.ofString "b1", PySem.Str.ofString "b2", PySem.Str.ofString "n", PySem.Str.ofString "q", PySem.Str.ofString "r"]
theorem s1_div3n2n (w : World) : (B1 w).K.lookup 28 = some ⟨.type "function", none, .func fd_div3n2n, ⟨[]⟩⟩ := by kernel_rfl
theorem s2_div3n2n (w : World) : codeIn (B1 w).K fd_div3n2n.code fd_div3n2n.qualname = true := by kernel_rfl
theorem s3_div3n2n : fd_div3n2n.body = .stmts (fdB (stAt 3)) := by kernel_rfl
noncomputable def ps_div3n2n : List PySem.Str := [PySem.Str.ofString "a12", PySem.Str.ofString "a3", PySem.Str.ofString "b", PySem.Str.ofString "b1", PySem.Str.ofString "b2", PySem.Str.ofString "n"]
theorem s4_div3n2n : ∀ vs : List Value, vs.length = ps_div3n2n.length → bindArgs fd_div3n2n ⟨vs, []⟩ = pure (ps_div3n2n.zip vs) := args6 _ fun _ _ _ _ _ _ => by kernel_rfl
theorem s5_div3n2n : ns_div3n2n.Nodup := by decide +kernel
theorem s6_div3n2n : ns_div3n2n.take ps_div3n2n.length = ps_div3n2n := by kernel_rfl
theorem s7_div3n2n : ∀ x ∈ ns_div3n2n, fd_div3n2n.scope.names.lookup x = some .local := by decide +kernel
theorem s8_div3n2n : ∀ x ∈ fd_div3n2n.scope.names, x.2 ≠ .cell := by decide +kernel
theorem s9_div3n2n : fd_div3n2n.scope.kind = .function := by kernel_rfl
theorem s10_div3n2n : fd_div3n2n.scope.isCoroutine = false := by kernel_rfl
theorem s11_div3n2n : fd_div3n2n.scope.isGenerator = false := by kernel_rfl
theorem s12_div3n2n : fd_div3n2n.globals = mainGlobals := by kernel_rfl
theorem s13_div3n2n : fd_div3n2n.builtins = builtinsNs := by kernel_rfl
structure In_div3n2n (w : World) (C : Cx) : Prop where
  W : Wf C
  B : C.B = B1 w
  N : C.names = ns_div3n2n
  cl : C.cl = []
  E : ∃ L, C.env = callEnv fd_div3n2n L 28
theorem fn_div3n2n {w : World} {ds : List D} {r : D} {k : Nat} (hl : ps_div3n2n.length = ds.length)
    (H : ∀ C : Cx, In_div3n2n w C → C.A.depth + k < recursionLimit → C.A.units + 8 * k < cLine →
      Exs C ⟨ds.map some ++ List.replicate (ns_div3n2n.length - ds.length) none, []⟩ (fdB (stAt 3)) (fun fl _ => fl = .ret r ∨ (fl = .next ∧ r = .none))) : Fn (B1 w) 28 (k + 1) ds r := by
  refine fn_of_body (s1_div3n2n w) (s2_div3n2n w) s3_div3n2n s4_div3n2n hl s5_div3n2n s6_div3n2n s7_div3n2n s8_div3n2n s9_div3n2n s10_div3n2n s11_div3n2n s12_div3n2n s13_div3n2n ?_
  intro A L h₀ X W hd hu
  with_reducible exact H _ ⟨W, rfl, rfl, rfl, L, rfl⟩ hd hu
theorem nx_div3n2n_a12 {w : World} {C : Cx} (I : In_div3n2n w C) : C.names[0]? = some (PySem.Str.ofString "a12") := by rw [I.N]; kernel_rfl
theorem nx_div3n2n_a3 {w : World} {C : Cx} (I : In_div3n2n w C) : C.names[1]? = some (PySem.Str.ofString "a3") := by rw [I.N]; kernel_rfl
theorem nx_div3n2n_b {w : World} {C : Cx} (I : In_div3n2n w C) : C.names[2]? = some (PySem.Str.ofString "b") := by rw [I.N]; kernel_rfl
theorem nx_div3n2n_b1 {w : World} {C : Cx} (I : In_div3n2n w C) : C.names[3]? = some (PySem.Str.ofString "b1") := by rw [I.N]; kernel_rfl
theorem nx_div3n2n_b2 {w : World} {C : Cx} (I : In_div3n2n w C) : C.names[4]? = some (PySem.Str.ofString "b2") := by rw [I.N]; kernel_rfl
theorem nx_div3n2n_n {w : World} {C : Cx} (I : In_div3n2n w C) : C.names[5]? = some (PySem.Str.ofString "n") := by rw [I.N]; kernel_rfl
theorem nx_div3n2n_q {w : World} {C : Cx} (I : In_div3n2n w C) : C.names[6]? = some (PySem.Str.ofString "q") := by rw [I.N]; kernel_rfl
theorem nx_div3n2n_r {w : World} {C : Cx} (I : In_div3n2n w C) : C.names[7]? = some (PySem.Str.ofString "r") := by rw [I.N]; kernel_rfl
noncomputable def fd_int2digits : FuncData := fdO o35_9
noncomputable def ns_int2digits : List PySem.Str := [PySem.Str.ofString "a", PySem.Str.ofString "n", PySem.Str.ofString "a_digits", PySem.Str.ofString "inner"]
noncomputable def fd_digits2int : FuncData := fdO o42_9
noncomputable def ns_digits2int : List PySem.Str := [PySem.Str.ofString "digits", PySem.Str.ofString "n", PySem.Str.ofString "inner"]
noncomputable def fd_divmod_pos : FuncData := fdO o49_9
noncomputable def ns_divmod_pos : List PySem.Str := [PySem.Str.ofString "a", PySem.Str.ofString "b", PySem.Str.ofString "n", PySem.Str.ofString "a_digits", PySem.Str.ofString "r", PySem.Str.ofString "q_digits", PySem.Str.ofString "a_digit", PySem.Str.ofString "q_digit", PySem.Str.ofString "q"]
theorem s1_divmod_pos (w : World) : (B1 w).K.lookup 49 = some ⟨.type "function", none, .func fd_divmod_pos, ⟨[]⟩⟩ := by kernel_rfl
theorem s2_divmod_pos (w : World) : codeIn (B1 w).K fd_divmod_pos.code fd_divmod_pos.qualname = true := by kernel_rfl
theorem s3_divmod_pos : fd_divmod_pos.body = .stmts (fdB (stAt 6)) := by kernel_rfl
noncomputable def ps_divmod_pos : List PySem.Str := [PySem.Str.ofString "a", PySem.Str.ofString "b"]
theorem s4_divmod_pos : ∀ vs : List Value, vs.length = ps_divmod_pos.length → bindArgs fd_divmod_pos ⟨vs, []⟩ = pure (ps_divmod_pos.zip vs) := args2 _ fun _ _ => by kernel_rfl
theorem s5_divmod_pos : ns_divmod_pos.Nodup := by decide +kernel
theorem s6_divmod_pos : ns_divmod_pos.take ps_divmod_pos.length = ps_divmod_pos := by kernel_rfl
theorem s7_divmod_pos : ∀ x ∈ ns_divmod_pos, fd_divmod_pos.scope.names.lookup x = some .local := by decide +kernel
theorem s8_divmod_pos : ∀ x ∈ fd_divmod_pos.scope.names, x.2 ≠ .cell := by decide +kernel
theorem s9_divmod_pos : fd_divmod_pos.scope.kind = .function := by kernel_rfl
theorem s10_divmod_pos : fd_divmod_pos.scope.isCoroutine = false := by kernel_rfl
theorem s11_divmod_pos : fd_divmod_pos.scope.isGenerator = false := by kernel_rfl
theorem s12_divmod_pos : fd_divmod_pos.globals = mainGlobals := by kernel_rfl
theorem s13_divmod_pos : fd_divmod_pos.builtins = builtinsNs := by kernel_rfl
structure In_divmod_pos (w : World) (C : Cx) : Prop where
  W : Wf C
  B : C.B = B1 w
  N : C.names = ns_divmod_pos
  cl : C.cl = []
  E : ∃ L, C.env = callEnv fd_divmod_pos L 49
theorem fn_divmod_pos {w : World} {ds : List D} {r : D} {k : Nat} (hl : ps_divmod_pos.length = ds.length)
    (H : ∀ C : Cx, In_divmod_pos w C → C.A.depth + k < recursionLimit → C.A.units + 8 * k < cLine →
      Exs C ⟨ds.map some ++ List.replicate (ns_divmod_pos.length - ds.length) none, []⟩ (fdB (stAt 6)) (fun fl _ => fl = .ret r ∨ (fl = .next ∧ r = .none))) : Fn (B1 w) 49 (k + 1) ds r := by
  refine fn_of_body (s1_divmod_pos w) (s2_divmod_pos w) s3_divmod_pos s4_divmod_pos hl s5_divmod_pos s6_divmod_pos s7_divmod_pos s8_divmod_pos s9_divmod_pos s10_divmod_pos s11_divmod_pos s12_divmod_pos s13_divmod_pos ?_
  intro A L h₀ X W hd hu
  with_reducible exact H _ ⟨W, rfl, rfl, rfl, L, rfl⟩ hd hu
theorem nx_divmod_pos_a {w : World} {C : Cx} (I : In_divmod_pos w C) : C.names[0]? = some (PySem.Str.ofString "a") := by rw [I.N]; kernel_rfl
theorem nx_divmod_pos_b {w : World} {C : Cx} (I : In_divmod_pos w C) : C.names[1]? = some (PySem.Str.ofString "b") := by rw [I.N]; kernel_rfl
theorem nx_divmod_pos_n {w : World} {C : Cx} (I : In_divmod_pos w C) : C.names[2]? = some (PySem.Str.ofString "n") := by rw [I.N]; kernel_rfl
theorem nx_divmod_pos_a_digits {w : World} {C : Cx} (I : In_divmod_pos w C) : C.names[3]? = some (PySem.Str.ofString "a_digits") := by rw [I.N]; kernel_rfl
theorem nx_divmod_pos_r {w : World} {C : Cx} (I : In_divmod_pos w C) : C.names[4]? = some (PySem.Str.ofString "r") := by rw [I.N]; kernel_rfl
theorem nx_divmod_pos_q_digits {w : World} {C : Cx} (I : In_divmod_pos w C) : C.names[5]? = some (PySem.Str.ofString "q_digits") := by rw [I.N]; kernel_rfl
theorem nx_divmod_pos_a_digit {w : World} {C : Cx} (I : In_divmod_pos w C) : C.names[6]? = some (PySem.Str.ofString "a_digit") := by rw [I.N]; kernel_rfl
theorem nx_divmod_pos_q_digit {w : World} {C : Cx} (I : In_divmod_pos w C) : C.names[7]? = some (PySem.Str.ofString "q_digit") := by rw [I.N]; kernel_rfl
theorem nx_divmod_pos_q {w : World} {C : Cx} (I : In_divmod_pos w C) : C.names[8]? = some (PySem.Str.ofString "q") := by rw [I.N]; kernel_rfl
noncomputable def fd_int_divmod : FuncData := fdO o56_9
noncomputable def ns_int_divmod : List PySem.Str := [PySem.Str.ofString "a", PySem.Str.ofString "b", PySem.Str.ofString "q", PySem.Str.ofString "r"]
theorem s1_int_divmod (w : World) : (B1 w).K.lookup 56 = some ⟨.type "function", none, .func fd_int_divmod, ⟨[]⟩⟩ := by kernel_rfl
theorem s2_int_divmod (w : World) : codeIn (B1 w).K fd_int_divmod.code fd_int_divmod.qualname = true := by kernel_rfl
theorem s3_int_divmod : fd_int_divmod.body = .stmts (fdB (stAt 7)) := by kernel_rfl
noncomputable def ps_int_divmod : List PySem.Str := [PySem.Str.ofString "a", PySem.Str.ofString "b"]
theorem s4_int_divmod : ∀ vs : List Value, vs.length = ps_int_divmod.length → bindArgs fd_int_divmod ⟨vs, []⟩ = pure (ps_int_divmod.zip vs) := args2 _ fun _ _ => by kernel_rfl
theorem s5_int_divmod : ns_int_divmod.Nodup := by decide +kernel
theorem s6_int_divmod : ns_int_divmod.take ps_int_divmod.length = ps_int_divmod := by kernel_rfl
theorem s7_int_divmod : ∀ x ∈ ns_int_divmod, fd_int_divmod.scope.names.lookup x = some .local := by decide +kernel
theorem s8_int_divmod : ∀ x ∈ fd_int_divmod.scope.names, x.2 ≠ .cell := by decide +kernel
theorem s9_int_divmod : fd_int_divmod.scope.kind = .function := by kernel_rfl
theorem s10_int_divmod : fd_int_divmod.scope.isCoroutine = false := by kernel_rfl
theorem s11_int_divmod : fd_int_divmod.scope.isGenerator = false := by kernel_rfl
theorem s12_int_divmod : fd_int_divmod.globals = mainGlobals := by kernel_rfl
theorem s13_int_divmod : fd_int_divmod.builtins = builtinsNs := by kernel_rfl
structure In_int_divmod (w : World) (C : Cx) : Prop where
  W : Wf C
  B : C.B = B1 w
  N : C.names = ns_int_divmod
  cl : C.cl = []
  E : ∃ L, C.env = callEnv fd_int_divmod L 56
theorem fn_int_divmod {w : World} {ds : List D} {r : D} {k : Nat} (hl : ps_int_divmod.length = ds.length)
    (H : ∀ C : Cx, In_int_divmod w C → C.A.depth + k < recursionLimit → C.A.units + 8 * k < cLine →
      Exs C ⟨ds.map some ++ List.replicate (ns_int_divmod.length - ds.length) none, []⟩ (fdB (stAt 7)) (fun fl _ => fl = .ret r ∨ (fl = .next ∧ r = .none))) : Fn (B1 w) 56 (k + 1) ds r := by
  refine fn_of_body (s1_int_divmod w) (s2_int_divmod w) s3_int_divmod s4_int_divmod hl s5_int_divmod s6_int_divmod s7_int_divmod s8_int_divmod s9_int_divmod s10_int_divmod s11_int_divmod s12_int_divmod s13_int_divmod ?_
  intro A L h₀ X W hd hu
  with_reducible exact H _ ⟨W, rfl, rfl, rfl, L, rfl⟩ hd hu
theorem nx_int_divmod_a {w : World} {C : Cx} (I : In_int_divmod w C) : C.names[0]? = some (PySem.Str.ofString "a") := by rw [I.N]; kernel_rfl
theorem nx_int_divmod_b {w : World} {C : Cx} (I : In_int_divmod w C) : C.names[1]? = some (PySem.Str.ofString "b") := by rw [I.N]; kernel_rfl
theorem nx_int_divmod_q {w : World} {C : Cx} (I : In_int_divmod w C) : C.names[2]? = some (PySem.Str.ofString "q") := by rw [I.N]; kernel_rfl
theorem nx_int_divmod_r {w : World} {C : Cx} (I : In_int_divmod w C) : C.names[3]? = some (PySem.Str.ofString "r") := by rw [I.N]; kernel_rfl
noncomputable def fd_in_table_b1 : FuncData := fdO o74_11
noncomputable def ns_in_table_b1 : List PySem.Str := [PySem.Str.ofString "code"]
theorem s1_in_table_b1 (w : World) : (B1 w).K.lookup 74 = some ⟨.type "function", none, .func fd_in_table_b1, ⟨[]⟩⟩ := by kernel_rfl
theorem s2_in_table_b1 (w : World) : codeIn (B1 w).K fd_in_table_b1.code fd_in_table_b1.qualname = true := by kernel_rfl
theorem s3_in_table_b1 : fd_in_table_b1.body = .stmts (fdB (stAt 10)) := by kernel_rfl
noncomputable def ps_in_table_b1 : List PySem.Str := [PySem.Str.ofString "code"]
theorem s4_in_table_b1 : ∀ vs : List Value, vs.length = ps_in_table_b1.length → bindArgs fd_in_table_b1 ⟨vs, []⟩ = pure (ps_in_table_b1.zip vs) := args1 _ fun _ => by kernel_rfl
theorem s5_in_table_b1 : ns_in_table_b1.Nodup := by decide +kernel
theorem s6_in_table_b1 : ns_in_table_b1.take ps_in_table_b1.length = ps_in_table_b1 := by kernel_rfl
theorem s7_in_table_b1 : ∀ x ∈ ns_in_table_b1, fd_in_table_b1.scope.names.lookup x = some .local := by decide +kernel
theorem s8_in_table_b1 : ∀ x ∈ fd_in_table_b1.scope.names, x.2 ≠ .cell := by decide +kernel
theorem s9_in_table_b1 : fd_in_table_b1.scope.kind = .function := by kernel_rfl
theorem s10_in_table_b1 : fd_in_table_b1.scope.isCoroutine = false := by kernel_rfl
theorem s11_in_table_b1 : fd_in_table_b1.scope.isGenerator = false := by kernel_rfl
theorem s12_in_table_b1 : fd_in_table_b1.globals = mainGlobals := by kernel_rfl
theorem s13_in_table_b1 : fd_in_table_b1.builtins = builtinsNs := by kernel_rfl
structure In_in_table_b1 (w : World) (C : Cx) : Prop where
  W : Wf C
  B : C.B = B1 w
  N : C.names = ns_in_table_b1
  cl : C.cl = []
  E : ∃ L, C.env = callEnv fd_in_table_b1 L 74
theorem fn_in_table_b1 {w : World} {ds : List D} {r : D} {k : Nat} (hl : ps_in_table_b1.length = ds.length)
    (H : ∀ C : Cx, In_in_table_b1 w C → C.A.depth + k < recursionLimit → C.A.units + 8 * k < cLine →
      Exs C ⟨ds.map some ++ List.replicate (ns_in_table_b1.length - ds.length) none, []⟩ (fdB (stAt 10)) (fun fl _ => fl = .ret r ∨ (fl = .next ∧ r = .none))) : Fn (B1 w) 74 (k + 1) ds r := by
  refine fn_of_body (s1_in_table_b1 w) (s2_in_table_b1 w) s3_in_table_b1 s4_in_table_b1 hl s5_in_table_b1 s6_in_table_b1 s7_in_table_b1 s8_in_table_b1 s9_in_table_b1 s10_in_table_b1 s11_in_table_b1 s12_in_table_b1 s13_in_table_b1 ?_
  intro A L h₀ X W hd hu
  with_reducible exact H _ ⟨W, rfl, rfl, rfl, L, rfl⟩ hd hu
theorem nx_in_table_b1_code {w : World} {C : Cx} (I : In_in_table_b1 w C) : C.names[0]? = some (PySem.Str.ofString "code") := by rw [I.N]; kernel_rfl
noncomputable def fd_map_table_b3 : FuncData := fdO o120_24
noncomputable def ns_map_table_b3 : List PySem.Str := [PySem.Str.ofString "code", PySem.Str.ofString "r"]
theorem s1_map_table_b3 (w : World) : (B1 w).K.lookup 120 = some ⟨.type "function", none, .func fd_map_table_b3, ⟨[]⟩⟩ := by kernel_rfl
theorem s2_map_table_b3 (w : World) : codeIn (B1 w).K fd_map_table_b3.code fd_map_table_b3.qualname = true := by kernel_rfl
theorem s3_map_table_b3 : fd_map_table_b3.body = .stmts (fdB (stAt 12)) := by kernel_rfl
noncomputable def ps_map_table_b3 : List PySem.Str := [PySem.Str.ofString "code"]
theorem s4_map_table_b3 : ∀ vs : List Value, vs.length = ps_map_table_b3.length → bindArgs fd_map_table_b3 ⟨vs, []⟩ = pure (ps_map_table_b3.zip vs) := args1 _ fun _ => by kernel_rfl
theorem s5_map_table_b3 : ns_map_table_b3.Nodup := by decide +kernel
theorem s6_map_table_b3 : ns_map_table_b3.take ps_map_table_b3.length = ps_map_table_b3 := by kernel_rfl
theorem s7_map_table_b3 : ∀ x ∈ ns_map_table_b3, fd_map_table_b3.scope.names.lookup x = some .local := by decide +kernel
theorem s8_map_table_b3 : ∀ x ∈ fd_map_table_b3.scope.names, x.2 ≠ .cell := by decide +kernel
theorem s9_map_table_b3 : fd_map_table_b3.scope.kind = .function := by kernel_rfl
theorem s10_map_table_b3 : fd_map_table_b3.scope.isCoroutine = false := by kernel_rfl
theorem s11_map_table_b3 : fd_map_table_b3.scope.isGenerator = false := by kernel_rfl
theorem s12_map_table_b3 : fd_map_table_b3.globals = mainGlobals := by kernel_rfl
theorem s13_map_table_b3 : fd_map_table_b3.builtins = builtinsNs := by kernel_rfl
structure In_map_table_b3 (w : World) (C : Cx) : Prop where
  W : Wf C
  B : C.B = B1 w
  N : C.names = ns_map_table_b3
  cl : C.cl = []
  E : ∃ L, C.env = callEnv fd_map_table_b3 L 120
theorem fn_map_table_b3 {w : World} {ds : List D} {r : D} {k : Nat} (hl : ps_map_table_b3.length = ds.length)
    (H : ∀ C : Cx, In_map_table_b3 w C → C.A.depth + k < recursionLimit → C.A.units + 8 * k < cLine →
      Exs C ⟨ds.map some ++ List.replicate (ns_map_table_b3.length - ds.length) none, []⟩ (fdB (stAt 12)) (fun fl _ => fl = .ret r ∨ (fl = .next ∧ r = .none))) : Fn (B1 w) 120 (k + 1) ds r := by
  refine fn_of_body (s1_map_table_b3 w) (s2_map_table_b3 w) s3_map_table_b3 s4_map_table_b3 hl s5_map_table_b3 s6_map_table_b3 s7_map_table_b3 s8_map_table_b3 s9_map_table_b3 s10_map_table_b3 s11_map_table_b3 s12_map_table_b3 s13_map_table_b3 ?_
  intro A L h₀ X W hd hu
  with_reducible exact H _ ⟨W, rfl, rfl, rfl, L, rfl⟩ hd hu
theorem nx_map_table_b3_code {w : World} {C : Cx} (I : In_map_table_b3 w C) : C.names[0]? = some (PySem.Str.ofString "code") := by rw [I.N]; kernel_rfl
theorem nx_map_table_b3_r {w : World} {C : Cx} (I : In_map_table_b3 w C) : C.names[1]? = some (PySem.Str.ofString "r") := by rw [I.N]; kernel_rfl
noncomputable def fd_law_prepared : FuncData := fdO o125_24
noncomputable def ns_law_prepared : List PySem.Str := [PySem.Str.ofString "text"]
theorem s1_law_prepared (w : World) : (B1 w).K.lookup 125 = some ⟨.type "function", none, .func fd_law_prepared, ⟨[]⟩⟩ := by kernel_rfl
theorem s2_law_prepared (w : World) : codeIn (B1 w).K fd_law_prepared.code fd_law_prepared.qualname = true := by kernel_rfl
theorem s3_law_prepared : fd_law_prepared.body = .stmts (fdB (stAt 14)) := by kernel_rfl
noncomputable def ps_law_prepared : List PySem.Str := [PySem.Str.ofString "text"]
theorem s4_law_prepared : ∀ vs : List Value, vs.length = ps_law_prepared.length → bindArgs fd_law_prepared ⟨vs, []⟩ = pure (ps_law_prepared.zip vs) := args1 _ fun _ => by kernel_rfl
theorem s5_law_prepared : ns_law_prepared.Nodup := by decide +kernel
theorem s6_law_prepared : ns_law_prepared.take ps_law_prepared.length = ps_law_prepared := by kernel_rfl
theorem s7_law_prepared : ∀ x ∈ ns_law_prepared, fd_law_prepared.scope.names.lookup x = some .local := by decide +kernel
theorem s8_law_prepared : ∀ x ∈ fd_law_prepared.scope.names, x.2 ≠ .cell := by decide +kernel
theorem s9_law_prepared : fd_law_prepared.scope.kind = .function := by kernel_rfl
theorem s10_law_prepared : fd_law_prepared.scope.isCoroutine = false := by kernel_rfl
theorem s11_law_prepared : fd_law_prepared.scope.isGenerator = false := by kernel_rfl
theorem s12_law_prepared : fd_law_prepared.globals = mainGlobals := by kernel_rfl
theorem s13_law_prepared : fd_law_prepared.builtins = builtinsNs := by kernel_rfl
structure In_law_prepared (w : World) (C : Cx) : Prop where
  W : Wf C
  B : C.B = B1 w
  N : C.names = ns_law_prepared
  cl : C.cl = []
  E : ∃ L, C.env = callEnv fd_law_prepared L 125
theorem fn_law_prepared {w : World} {ds : List D} {r : D} {k : Nat} (hl : ps_law_prepared.length = ds.length)
    (H : ∀ C : Cx, In_law_prepared w C → C.A.depth + k < recursionLimit → C.A.units + 8 * k < cLine →
      Exs C ⟨ds.map some ++ List.replicate (ns_law_prepared.length - ds.length) none, []⟩ (fdB (stAt 14)) (fun fl _ => fl = .ret r ∨ (fl = .next ∧ r = .none))) : Fn (B1 w) 125 (k + 1) ds r := by
  refine fn_of_body (s1_law_prepared w) (s2_law_prepared w) s3_law_prepared s4_law_prepared hl s5_law_prepared s6_law_prepared s7_law_prepared s8_law_prepared s9_law_prepared s10_law_prepared s11_law_prepared s12_law_prepared s13_law_prepared ?_
  intro A L h₀ X W hd hu
  with_reducible exact H _ ⟨W, rfl, rfl, rfl, L, rfl⟩ hd hu
theorem nx_law_prepared_text {w : World} {C : Cx} (I : In_law_prepared w C) : C.names[0]? = some (PySem.Str.ofString "text") := by rw [I.N]; kernel_rfl
noncomputable def fd_law_form : FuncData := fdO o132_24
noncomputable def ns_law_form : List PySem.Str := [PySem.Str.ofString "letter", PySem.Str.ofString "n", PySem.Str.ofString "kind", PySem.Str.ofString "alphabet"]
theorem s1_law_form (w : World) : (B1 w).K.lookup 132 = some ⟨.type "function", none, .func fd_law_form, ⟨[]⟩⟩ := by kernel_rfl
theorem s2_law_form (w : World) : codeIn (B1 w).K fd_law_form.code fd_law_form.qualname = true := by kernel_rfl
theorem s3_law_form : fd_law_form.body = .stmts (fdB (stAt 15)) := by kernel_rfl
noncomputable def ps_law_form : List PySem.Str := [PySem.Str.ofString "letter", PySem.Str.ofString "n"]
theorem s4_law_form : ∀ vs : List Value, vs.length = ps_law_form.length → bindArgs fd_law_form ⟨vs, []⟩ = pure (ps_law_form.zip vs) := args2 _ fun _ _ => by kernel_rfl
theorem s5_law_form : ns_law_form.Nodup := by decide +kernel
theorem s6_law_form : ns_law_form.take ps_law_form.length = ps_law_form := by kernel_rfl
theorem s7_law_form : ∀ x ∈ ns_law_form, fd_law_form.scope.names.lookup x = some .local := by decide +kernel
theorem s8_law_form : ∀ x ∈ fd_law_form.scope.names, x.2 ≠ .cell := by decide +kernel
theorem s9_law_form : fd_law_form.scope.kind = .function := by kernel_rfl
theorem s10_law_form : fd_law_form.scope.isCoroutine = false := by kernel_rfl
theorem s11_law_form : fd_law_form.scope.isGenerator = false := by kernel_rfl
theorem s12_law_form : fd_law_form.globals = mainGlobals := by kernel_rfl
theorem s13_law_form : fd_law_form.builtins = builtinsNs := by kernel_rfl
structure In_law_form (w : World) (C : Cx) : Prop where
  W : Wf C
  B : C.B = B1 w
  N : C.names = ns_law_form
  cl : C.cl = []
  E : ∃ L, C.env = callEnv fd_law_form L 132
theorem fn_law_form {w : World} {ds : List D} {r : D} {k : Nat} (hl : ps_law_form.length = ds.length)
    (H : ∀ C : Cx, In_law_form w C → C.A.depth + k < recursionLimit → C.A.units + 8 * k < cLine →
      Exs C ⟨ds.map some ++ List.replicate (ns_law_form.length - ds.length) none, []⟩ (fdB (stAt 15)) (fun fl _ => fl = .ret r ∨ (fl = .next ∧ r = .none))) : Fn (B1 w) 132 (k + 1) ds r := by
  refine fn_of_body (s1_law_form w) (s2_law_form w) s3_law_form s4_law_form hl s5_law_form s6_law_form s7_law_form s8_law_form s9_law_form s10_law_form s11_law_form s12_law_form s13_law_form ?_
  intro A L h₀ X W hd hu
  with_reducible exact H _ ⟨W, rfl, rfl, rfl, L, rfl⟩ hd hu
theorem nx_law_form_letter {w : World} {C : Cx} (I : In_law_form w C) : C.names[0]? = some (PySem.Str.ofString "letter") := by rw [I.N]; kernel_rfl
theorem nx_law_form_n {w : World} {C : Cx} (I : In_law_form w C) : C.names[1]? = some (PySem.Str.ofString "n") := by rw [I.N]; kernel_rfl
theorem nx_law_form_kind {w : World} {C : Cx} (I : In_law_form w C) : C.names[2]? = some (PySem.Str.ofString "kind") := by rw [I.N]; kernel_rfl
theorem nx_law_form_alphabet {w : World} {C : Cx} (I : In_law_form w C) : C.names[3]? = some (PySem.Str.ofString "alphabet") := by rw [I.N]; kernel_rfl
noncomputable def fd_law_unseen : FuncData := fdO o139_24
noncomputable def ns_law_unseen : List PySem.Str := [PySem.Str.ofString "n", PySem.Str.ofString "kind"]
theorem s1_law_unseen (w : World) : (B1 w).K.lookup 139 = some ⟨.type "function", none, .func fd_law_unseen, ⟨[]⟩⟩ := by kernel_rfl
theorem s2_law_unseen (w : World) : codeIn (B1 w).K fd_law_unseen.code fd_law_unseen.qualname = true := by kernel_rfl
theorem s3_law_unseen : fd_law_unseen.body = .stmts (fdB (stAt 16)) := by kernel_rfl
noncomputable def ps_law_unseen : List PySem.Str := [PySem.Str.ofString "n"]
theorem s4_law_unseen : ∀ vs : List Value, vs.length = ps_law_unseen.length → bindArgs fd_law_unseen ⟨vs, []⟩ = pure (ps_law_unseen.zip vs) := args1 _ fun _ => by kernel_rfl
theorem s5_law_unseen : ns_law_unseen.Nodup := by decide +kernel
theorem s6_law_unseen : ns_law_unseen.take ps_law_unseen.length = ps_law_unseen := by kernel_rfl
theorem s7_law_unseen : ∀ x ∈ ns_law_unseen, fd_law_unseen.scope.names.lookup x = some .local := by decide +kernel
theorem s8_law_unseen : ∀ x ∈ fd_law_unseen.scope.names, x.2 ≠ .cell := by decide +kernel
theorem s9_law_unseen : fd_law_unseen.scope.kind = .function := by kernel_rfl
theorem s10_law_unseen : fd_law_unseen.scope.isCoroutine = false := by kernel_rfl
theorem s11_law_unseen : fd_law_unseen.scope.isGenerator = false := by kernel_rfl
theorem s12_law_unseen : fd_law_unseen.globals = mainGlobals := by kernel_rfl
theorem s13_law_unseen : fd_law_unseen.builtins = builtinsNs := by kernel_rfl
structure In_law_unseen (w : World) (C : Cx) : Prop where
  W : Wf C
  B : C.B = B1 w
  N : C.names = ns_law_unseen
  cl : C.cl = []
  E : ∃ L, C.env = callEnv fd_law_unseen L 139
theorem fn_law_unseen {w : World} {ds : List D} {r : D} {k : Nat} (hl : ps_law_unseen.length = ds.length)
    (H : ∀ C : Cx, In_law_unseen w C → C.A.depth + k < recursionLimit → C.A.units + 8 * k < cLine →
      Exs C ⟨ds.map some ++ List.replicate (ns_law_unseen.length - ds.length) none, []⟩ (fdB (stAt 16)) (fun fl _ => fl = .ret r ∨ (fl = .next ∧ r = .none))) : Fn (B1 w) 139 (k + 1) ds r := by
  refine fn_of_body (s1_law_unseen w) (s2_law_unseen w) s3_law_unseen s4_law_unseen hl s5_law_unseen s6_law_unseen s7_law_unseen s8_law_unseen s9_law_unseen s10_law_unseen s11_law_unseen s12_law_unseen s13_law_unseen ?_
  intro A L h₀ X W hd hu
  with_reducible exact H _ ⟨W, rfl, rfl, rfl, L, rfl⟩ hd hu
theorem nx_law_unseen_n {w : World} {C : Cx} (I : In_law_unseen w C) : C.names[0]? = some (PySem.Str.ofString "n") := by rw [I.N]; kernel_rfl
theorem nx_law_unseen_kind {w : World} {C : Cx} (I : In_law_unseen w C) : C.names[1]? = some (PySem.Str.ofString "kind") := by rw [I.N]; kernel_rfl
noncomputable def fd_law_meant : FuncData := fdO o144_24
noncomputable def ns_law_meant : List PySem.Str := [PySem.Str.ofString "span"]
theorem s1_law_meant (w : World) : (B1 w).K.lookup 144 = some ⟨.type "function", none, .func fd_law_meant, ⟨[]⟩⟩ := by kernel_rfl
theorem s2_law_meant (w : World) : codeIn (B1 w).K fd_law_meant.code fd_law_meant.qualname = true := by kernel_rfl
theorem s3_law_meant : fd_law_meant.body = .stmts (fdB (stAt 17)) := by kernel_rfl
noncomputable def ps_law_meant : List PySem.Str := [PySem.Str.ofString "figures", PySem.Str.ofString "span"]
noncomputable def cns_law_meant : List PySem.Str := [PySem.Str.ofString "figures"]
noncomputable def cf_law_meant (L : Addr) : List (PySem.Str × Addr) := [(PySem.Str.ofString "figures", L + 1)]
theorem s4_law_meant : ∀ vs : List Value, vs.length = ps_law_meant.length → bindArgs fd_law_meant ⟨vs, []⟩ = pure (ps_law_meant.zip vs) := args2 _ fun _ _ => by kernel_rfl
theorem s5_law_meant : ns_law_meant.Nodup := by decide +kernel
theorem s6_law_meant : ps_law_meant.Nodup := by decide +kernel
theorem s7_law_meant : ∀ x ∈ ns_law_meant, fd_law_meant.scope.names.lookup x = some .local := by decide +kernel
theorem s8_law_meant : ∀ L, cellsFrom (L + 1) fd_law_meant.scope.names [] = cf_law_meant L := fun L => by kernel_rfl
theorem s9_law_meant : fd_law_meant.scope.kind = .function := by kernel_rfl
theorem s10_law_meant : fd_law_meant.scope.isCoroutine = false := by kernel_rfl
theorem s11_law_meant : fd_law_meant.scope.isGenerator = false := by kernel_rfl
theorem s12_law_meant : fd_law_meant.globals = mainGlobals := by kernel_rfl
theorem s13_law_meant : fd_law_meant.builtins = builtinsNs := by kernel_rfl
theorem s14_law_meant : fd_law_meant.closure = [] := by kernel_rfl
theorem s15_law_meant : cns_law_meant.Nodup := by decide +kernel
theorem s16_law_meant : ∀ x ∈ cns_law_meant, fd_law_meant.scope.names.lookup x = some .cell := by decide +kernel
theorem s17_law_meant : ∀ x ∈ ps_law_meant, fd_law_meant.scope.names.lookup x = some .local ∨ x ∈ cns_law_meant := by decide +kernel
structure In_law_meant (w : World) (C : Cx) (L : Addr) : Prop where
  W : Wf C
  B : C.B = B1 w
  N : C.names = ns_law_meant
  Cl : C.cl = cf_law_meant L
  E : C.env = callEnvC fd_law_meant L 144
theorem fn_law_meant {w : World} {ds : List D} {r : D} {k : Nat} (hl : ps_law_meant.length = ds.length)
    (H : ∀ (C : Cx) (L : Addr), In_law_meant w C L → C.A.depth + k < recursionLimit → C.A.units + 8 * k < cLine →
      Exs C (entry ps_law_meant ns_law_meant ds (cf_law_meant L)) (fdB (stAt 17)) (fun fl _ => fl = .ret r ∨ (fl = .next ∧ r = .none))) : Fn (B1 w) 144 (k + 1) ds r := by
  refine fn_of_body_cells cf_law_meant (s1_law_meant w) (s2_law_meant w) s3_law_meant s4_law_meant hl s6_law_meant s5_law_meant s7_law_meant s14_law_meant s8_law_meant (fun _ => rfl) s15_law_meant s16_law_meant s17_law_meant s9_law_meant s10_law_meant s11_law_meant s12_law_meant s13_law_meant ?_
  intro A L h₀ X W hd hu
  with_reducible exact H _ L ⟨W, rfl, rfl, rfl, rfl⟩ hd hu
theorem nx_law_meant_span {w : World} {C : Cx} {L : Addr} (I : In_law_meant w C L) : C.names[0]? = some (PySem.Str.ofString "span") := by rw [I.N]; kernel_rfl
theorem cx_law_meant_figures {w : World} {C : Cx} {L : Addr} (I : In_law_meant w C L) : (PySem.Str.ofString "figures", L + 1) ∈ C.cl := by rw [I.Cl]; exact List.mem_of_getElem? (i := 0) rfl
noncomputable def fd_law_written : FuncData := fdO o151_24
noncomputable def ns_law_written : List PySem.Str := [PySem.Str.ofString "meant", PySem.Str.ofString "n", PySem.Str.ofString "text", PySem.Str.ofString "at", PySem.Str.ofString "length", PySem.Str.ofString "sign", PySem.Str.ofString "means", PySem.Str.ofString "code"]
theorem s1_law_written (w : World) : (B1 w).K.lookup 151 = some ⟨.type "function", none, .func fd_law_written, ⟨[]⟩⟩ := by kernel_rfl
theorem s2_law_written (w : World) : codeIn (B1 w).K fd_law_written.code fd_law_written.qualname = true := by kernel_rfl
theorem s3_law_written : fd_law_written.body = .stmts (fdB (stAt 18)) := by kernel_rfl
noncomputable def ps_law_written : List PySem.Str := [PySem.Str.ofString "meant", PySem.Str.ofString "n"]
theorem s4_law_written : ∀ vs : List Value, vs.length = ps_law_written.length → bindArgs fd_law_written ⟨vs, []⟩ = pure (ps_law_written.zip vs) := args2 _ fun _ _ => by kernel_rfl
theorem s5_law_written : ns_law_written.Nodup := by decide +kernel
theorem s6_law_written : ns_law_written.take ps_law_written.length = ps_law_written := by kernel_rfl
theorem s7_law_written : ∀ x ∈ ns_law_written, fd_law_written.scope.names.lookup x = some .local := by decide +kernel
theorem s8_law_written : ∀ x ∈ fd_law_written.scope.names, x.2 ≠ .cell := by decide +kernel
theorem s9_law_written : fd_law_written.scope.kind = .function := by kernel_rfl
theorem s10_law_written : fd_law_written.scope.isCoroutine = false := by kernel_rfl
theorem s11_law_written : fd_law_written.scope.isGenerator = false := by kernel_rfl
theorem s12_law_written : fd_law_written.globals = mainGlobals := by kernel_rfl
theorem s13_law_written : fd_law_written.builtins = builtinsNs := by kernel_rfl
structure In_law_written (w : World) (C : Cx) : Prop where
  W : Wf C
  B : C.B = B1 w
  N : C.names = ns_law_written
  cl : C.cl = []
  E : ∃ L, C.env = callEnv fd_law_written L 151
theorem fn_law_written {w : World} {ds : List D} {r : D} {k : Nat} (hl : ps_law_written.length = ds.length)
    (H : ∀ C : Cx, In_law_written w C → C.A.depth + k < recursionLimit → C.A.units + 8 * k < cLine →
      Exs C ⟨ds.map some ++ List.replicate (ns_law_written.length - ds.length) none, []⟩ (fdB (stAt 18)) (fun fl _ => fl = .ret r ∨ (fl = .next ∧ r = .none))) : Fn (B1 w) 151 (k + 1) ds r := by
  refine fn_of_body (s1_law_written w) (s2_law_written w) s3_law_written s4_law_written hl s5_law_written s6_law_written s7_law_written s8_law_written s9_law_written s10_law_written s11_law_written s12_law_written s13_law_written ?_
  intro A L h₀ X W hd hu
  with_reducible exact H _ ⟨W, rfl, rfl, rfl, L, rfl⟩ hd hu
theorem nx_law_written_meant {w : World} {C : Cx} (I : In_law_written w C) : C.names[0]? = some (PySem.Str.ofString "meant") := by rw [I.N]; kernel_rfl
theorem nx_law_written_n {w : World} {C : Cx} (I : In_law_written w C) : C.names[1]? = some (PySem.Str.ofString "n") := by rw [I.N]; kernel_rfl
theorem nx_law_written_text {w : World} {C : Cx} (I : In_law_written w C) : C.names[2]? = some (PySem.Str.ofString "text") := by rw [I.N]; kernel_rfl
theorem nx_law_written_at {w : World} {C : Cx} (I : In_law_written w C) : C.names[3]? = some (PySem.Str.ofString "at") := by rw [I.N]; kernel_rfl
theorem nx_law_written_length {w : World} {C : Cx} (I : In_law_written w C) : C.names[4]? = some (PySem.Str.ofString "length") := by rw [I.N]; kernel_rfl
theorem nx_law_written_sign {w : World} {C : Cx} (I : In_law_written w C) : C.names[5]? = some (PySem.Str.ofString "sign") := by rw [I.N]; kernel_rfl
theorem nx_law_written_means {w : World} {C : Cx} (I : In_law_written w C) : C.names[6]? = some (PySem.Str.ofString "means") := by rw [I.N]; kernel_rfl
theorem nx_law_written_code {w : World} {C : Cx} (I : In_law_written w C) : C.names[7]? = some (PySem.Str.ofString "code") := by rw [I.N]; kernel_rfl
noncomputable def fd_law_each : FuncData := fdO o156_24
noncomputable def ns_law_each : List PySem.Str := [PySem.Str.ofString "text"]
theorem s1_law_each (w : World) : (B1 w).K.lookup 156 = some ⟨.type "function", none, .func fd_law_each, ⟨[]⟩⟩ := by kernel_rfl
theorem s2_law_each (w : World) : codeIn (B1 w).K fd_law_each.code fd_law_each.qualname = true := by kernel_rfl
theorem s3_law_each : fd_law_each.body = .stmts (fdB (stAt 19)) := by kernel_rfl
noncomputable def ps_law_each : List PySem.Str := [PySem.Str.ofString "rows", PySem.Str.ofString "text"]
noncomputable def cns_law_each : List PySem.Str := [PySem.Str.ofString "rows"]
noncomputable def cf_law_each (L : Addr) : List (PySem.Str × Addr) := [(PySem.Str.ofString "rows", L + 1)]
theorem s4_law_each : ∀ vs : List Value, vs.length = ps_law_each.length → bindArgs fd_law_each ⟨vs, []⟩ = pure (ps_law_each.zip vs) := args2 _ fun _ _ => by kernel_rfl
theorem s5_law_each : ns_law_each.Nodup := by decide +kernel
theorem s6_law_each : ps_law_each.Nodup := by decide +kernel
theorem s7_law_each : ∀ x ∈ ns_law_each, fd_law_each.scope.names.lookup x = some .local := by decide +kernel
theorem s8_law_each : ∀ L, cellsFrom (L + 1) fd_law_each.scope.names [] = cf_law_each L := fun L => by kernel_rfl
theorem s9_law_each : fd_law_each.scope.kind = .function := by kernel_rfl
theorem s10_law_each : fd_law_each.scope.isCoroutine = false := by kernel_rfl
theorem s11_law_each : fd_law_each.scope.isGenerator = false := by kernel_rfl
theorem s12_law_each : fd_law_each.globals = mainGlobals := by kernel_rfl
theorem s13_law_each : fd_law_each.builtins = builtinsNs := by kernel_rfl
theorem s14_law_each : fd_law_each.closure = [] := by kernel_rfl
theorem s15_law_each : cns_law_each.Nodup := by decide +kernel
theorem s16_law_each : ∀ x ∈ cns_law_each, fd_law_each.scope.names.lookup x = some .cell := by decide +kernel
theorem s17_law_each : ∀ x ∈ ps_law_each, fd_law_each.scope.names.lookup x = some .local ∨ x ∈ cns_law_each := by decide +kernel
structure In_law_each (w : World) (C : Cx) (L : Addr) : Prop where
  W : Wf C
  B : C.B = B1 w
  N : C.names = ns_law_each
  Cl : C.cl = cf_law_each L
  E : C.env = callEnvC fd_law_each L 156
theorem fn_law_each {w : World} {ds : List D} {r : D} {k : Nat} (hl : ps_law_each.length = ds.length)
    (H : ∀ (C : Cx) (L : Addr), In_law_each w C L → C.A.depth + k < recursionLimit → C.A.units + 8 * k < cLine →
      Exs C (entry ps_law_each ns_law_each ds (cf_law_each L)) (fdB (stAt 19)) (fun fl _ => fl = .ret r ∨ (fl = .next ∧ r = .none))) : Fn (B1 w) 156 (k + 1) ds r := by
  refine fn_of_body_cells cf_law_each (s1_law_each w) (s2_law_each w) s3_law_each s4_law_each hl s6_law_each s5_law_each s7_law_each s14_law_each s8_law_each (fun _ => rfl) s15_law_each s16_law_each s17_law_each s9_law_each s10_law_each s11_law_each s12_law_each s13_law_each ?_
  intro A L h₀ X W hd hu
  with_reducible exact H _ L ⟨W, rfl, rfl, rfl, rfl⟩ hd hu
theorem nx_law_each_text {w : World} {C : Cx} {L : Addr} (I : In_law_each w C L) : C.names[0]? = some (PySem.Str.ofString "text") := by rw [I.N]; kernel_rfl
theorem cx_law_each_rows {w : World} {C : Cx} {L : Addr} (I : In_law_each w C L) : (PySem.Str.ofString "rows", L + 1) ∈ C.cl := by rw [I.Cl]; exact List.mem_of_getElem? (i := 0) rfl
noncomputable def fd_law_digits : FuncData := fdO o161_24
noncomputable def ns_law_digits : List PySem.Str := [PySem.Str.ofString "text"]
theorem s1_law_digits (w : World) : (B1 w).K.lookup 161 = some ⟨.type "function", none, .func fd_law_digits, ⟨[]⟩⟩ := by kernel_rfl
theorem s2_law_digits (w : World) : codeIn (B1 w).K fd_law_digits.code fd_law_digits.qualname = true := by kernel_rfl
theorem s3_law_digits : fd_law_digits.body = .stmts (fdB (stAt 20)) := by kernel_rfl
noncomputable def ps_law_digits : List PySem.Str := [PySem.Str.ofString "text"]
theorem s4_law_digits : ∀ vs : List Value, vs.length = ps_law_digits.length → bindArgs fd_law_digits ⟨vs, []⟩ = pure (ps_law_digits.zip vs) := args1 _ fun _ => by kernel_rfl
theorem s5_law_digits : ns_law_digits.Nodup := by decide +kernel
theorem s6_law_digits : ns_law_digits.take ps_law_digits.length = ps_law_digits := by kernel_rfl
theorem s7_law_digits : ∀ x ∈ ns_law_digits, fd_law_digits.scope.names.lookup x = some .local := by decide +kernel
theorem s8_law_digits : ∀ x ∈ fd_law_digits.scope.names, x.2 ≠ .cell := by decide +kernel
theorem s9_law_digits : fd_law_digits.scope.kind = .function := by kernel_rfl
theorem s10_law_digits : fd_law_digits.scope.isCoroutine = false := by kernel_rfl
theorem s11_law_digits : fd_law_digits.scope.isGenerator = false := by kernel_rfl
theorem s12_law_digits : fd_law_digits.globals = mainGlobals := by kernel_rfl
theorem s13_law_digits : fd_law_digits.builtins = builtinsNs := by kernel_rfl
structure In_law_digits (w : World) (C : Cx) : Prop where
  W : Wf C
  B : C.B = B1 w
  N : C.names = ns_law_digits
  cl : C.cl = []
  E : ∃ L, C.env = callEnv fd_law_digits L 161
theorem fn_law_digits {w : World} {ds : List D} {r : D} {k : Nat} (hl : ps_law_digits.length = ds.length)
    (H : ∀ C : Cx, In_law_digits w C → C.A.depth + k < recursionLimit → C.A.units + 8 * k < cLine →
      Exs C ⟨ds.map some ++ List.replicate (ns_law_digits.length - ds.length) none, []⟩ (fdB (stAt 20)) (fun fl _ => fl = .ret r ∨ (fl = .next ∧ r = .none))) : Fn (B1 w) 161 (k + 1) ds r := by
  refine fn_of_body (s1_law_digits w) (s2_law_digits w) s3_law_digits s4_law_digits hl s5_law_digits s6_law_digits s7_law_digits s8_law_digits s9_law_digits s10_law_digits s11_law_digits s12_law_digits s13_law_digits ?_
  intro A L h₀ X W hd hu
  with_reducible exact H _ ⟨W, rfl, rfl, rfl, L, rfl⟩ hd hu
theorem nx_law_digits_text {w : World} {C : Cx} (I : In_law_digits w C) : C.names[0]? = some (PySem.Str.ofString "text") := by rw [I.N]; kernel_rfl
noncomputable def fd_law_at : FuncData := fdO o168_24
noncomputable def ns_law_at : List PySem.Str := [PySem.Str.ofString "images", PySem.Str.ofString "start", PySem.Str.ofString "place", PySem.Str.ofString "rounds", PySem.Str.ofString "span", PySem.Str.ofString "letter", PySem.Str.ofString "k"]
theorem s1_law_at (w : World) : (B1 w).K.lookup 168 = some ⟨.type "function", none, .func fd_law_at, ⟨[]⟩⟩ := by kernel_rfl
theorem s2_law_at (w : World) : codeIn (B1 w).K fd_law_at.code fd_law_at.qualname = true := by kernel_rfl
theorem s3_law_at : fd_law_at.body = .stmts (fdB (stAt 21)) := by kernel_rfl
noncomputable def ps_law_at : List PySem.Str := [PySem.Str.ofString "images", PySem.Str.ofString "start", PySem.Str.ofString "place", PySem.Str.ofString "rounds"]
theorem s4_law_at : ∀ vs : List Value, vs.length = ps_law_at.length → bindArgs fd_law_at ⟨vs, []⟩ = pure (ps_law_at.zip vs) := args4 _ fun _ _ _ _ => by kernel_rfl
theorem s5_law_at : ns_law_at.Nodup := by decide +kernel
theorem s6_law_at : ns_law_at.take ps_law_at.length = ps_law_at := by kernel_rfl
theorem s7_law_at : ∀ x ∈ ns_law_at, fd_law_at.scope.names.lookup x = some .local := by decide +kernel
theorem s8_law_at : ∀ x ∈ fd_law_at.scope.names, x.2 ≠ .cell := by decide +kernel
theorem s9_law_at : fd_law_at.scope.kind = .function := by kernel_rfl
theorem s10_law_at : fd_law_at.scope.isCoroutine = false := by kernel_rfl
theorem s11_law_at : fd_law_at.scope.isGenerator = false := by kernel_rfl
theorem s12_law_at : fd_law_at.globals = mainGlobals := by kernel_rfl
theorem s13_law_at : fd_law_at.builtins = builtinsNs := by kernel_rfl
structure In_law_at (w : World) (C : Cx) : Prop where
  W : Wf C
  B : C.B = B1 w
  N : C.names = ns_law_at
  cl : C.cl = []
  E : ∃ L, C.env = callEnv fd_law_at L 168
theorem fn_law_at {w : World} {ds : List D} {r : D} {k : Nat} (hl : ps_law_at.length = ds.length)
    (H : ∀ C : Cx, In_law_at w C → C.A.depth + k < recursionLimit → C.A.units + 8 * k < cLine →
      Exs C ⟨ds.map some ++ List.replicate (ns_law_at.length - ds.length) none, []⟩ (fdB (stAt 21)) (fun fl _ => fl = .ret r ∨ (fl = .next ∧ r = .none))) : Fn (B1 w) 168 (k + 1) ds r := by
  refine fn_of_body (s1_law_at w) (s2_law_at w) s3_law_at s4_law_at hl s5_law_at s6_law_at s7_law_at s8_law_at s9_law_at s10_law_at s11_law_at s12_law_at s13_law_at ?_
  intro A L h₀ X W hd hu
  with_reducible exact H _ ⟨W, rfl, rfl, rfl, L, rfl⟩ hd hu
theorem nx_law_at_images {w : World} {C : Cx} (I : In_law_at w C) : C.names[0]? = some (PySem.Str.ofString "images") := by rw [I.N]; kernel_rfl
theorem nx_law_at_start {w : World} {C : Cx} (I : In_law_at w C) : C.names[1]? = some (PySem.Str.ofString "start") := by rw [I.N]; kernel_rfl
theorem nx_law_at_place {w : World} {C : Cx} (I : In_law_at w C) : C.names[2]? = some (PySem.Str.ofString "place") := by rw [I.N]; kernel_rfl
theorem nx_law_at_rounds {w : World} {C : Cx} (I : In_law_at w C) : C.names[3]? = some (PySem.Str.ofString "rounds") := by rw [I.N]; kernel_rfl
theorem nx_law_at_span {w : World} {C : Cx} (I : In_law_at w C) : C.names[4]? = some (PySem.Str.ofString "span") := by rw [I.N]; kernel_rfl
theorem nx_law_at_letter {w : World} {C : Cx} (I : In_law_at w C) : C.names[5]? = some (PySem.Str.ofString "letter") := by rw [I.N]; kernel_rfl
theorem nx_law_at_k {w : World} {C : Cx} (I : In_law_at w C) : C.names[6]? = some (PySem.Str.ofString "k") := by rw [I.N]; kernel_rfl
noncomputable def fd_law_cut : FuncData := fdO o175_24
noncomputable def ns_law_cut : List PySem.Str := [PySem.Str.ofString "row", PySem.Str.ofString "end"]
theorem s1_law_cut (w : World) : (B1 w).K.lookup 175 = some ⟨.type "function", none, .func fd_law_cut, ⟨[]⟩⟩ := by kernel_rfl
theorem s2_law_cut (w : World) : codeIn (B1 w).K fd_law_cut.code fd_law_cut.qualname = true := by kernel_rfl
theorem s3_law_cut : fd_law_cut.body = .stmts (fdB (stAt 22)) := by kernel_rfl
noncomputable def ps_law_cut : List PySem.Str := [PySem.Str.ofString "row"]
theorem s4_law_cut : ∀ vs : List Value, vs.length = ps_law_cut.length → bindArgs fd_law_cut ⟨vs, []⟩ = pure (ps_law_cut.zip vs) := args1 _ fun _ => by kernel_rfl
theorem s5_law_cut : ns_law_cut.Nodup := by decide +kernel
theorem s6_law_cut : ns_law_cut.take ps_law_cut.length = ps_law_cut := by kernel_rfl
theorem s7_law_cut : ∀ x ∈ ns_law_cut, fd_law_cut.scope.names.lookup x = some .local := by decide +kernel
theorem s8_law_cut : ∀ x ∈ fd_law_cut.scope.names, x.2 ≠ .cell := by decide +kernel
theorem s9_law_cut : fd_law_cut.scope.kind = .function := by kernel_rfl
theorem s10_law_cut : fd_law_cut.scope.isCoroutine = false := by kernel_rfl
theorem s11_law_cut : fd_law_cut.scope.isGenerator = false := by kernel_rfl
theorem s12_law_cut : fd_law_cut.globals = mainGlobals := by kernel_rfl
theorem s13_law_cut : fd_law_cut.builtins = builtinsNs := by kernel_rfl
structure In_law_cut (w : World) (C : Cx) : Prop where
  W : Wf C
  B : C.B = B1 w
  N : C.names = ns_law_cut
  cl : C.cl = []
  E : ∃ L, C.env = callEnv fd_law_cut L 175
theorem fn_law_cut {w : World} {ds : List D} {r : D} {k : Nat} (hl : ps_law_cut.length = ds.length)
    (H : ∀ C : Cx, In_law_cut w C → C.A.depth + k < recursionLimit → C.A.units + 8 * k < cLine →
      Exs C ⟨ds.map some ++ List.replicate (ns_law_cut.length - ds.length) none, []⟩ (fdB (stAt 22)) (fun fl _ => fl = .ret r ∨ (fl = .next ∧ r = .none))) : Fn (B1 w) 175 (k + 1) ds r := by
  refine fn_of_body (s1_law_cut w) (s2_law_cut w) s3_law_cut s4_law_cut hl s5_law_cut s6_law_cut s7_law_cut s8_law_cut s9_law_cut s10_law_cut s11_law_cut s12_law_cut s13_law_cut ?_
  intro A L h₀ X W hd hu
  with_reducible exact H _ ⟨W, rfl, rfl, rfl, L, rfl⟩ hd hu
theorem nx_law_cut_row {w : World} {C : Cx} (I : In_law_cut w C) : C.names[0]? = some (PySem.Str.ofString "row") := by rw [I.N]; kernel_rfl
theorem nx_law_cut_end {w : World} {C : Cx} (I : In_law_cut w C) : C.names[1]? = some (PySem.Str.ofString "end") := by rw [I.N]; kernel_rfl
noncomputable def fd_law : FuncData := fdO o180_24
noncomputable def ns_law : List PySem.Str := [PySem.Str.ofString "script", PySem.Str.ofString "width", PySem.Str.ofString "spelled", PySem.Str.ofString "packed", PySem.Str.ofString "text", PySem.Str.ofString "blocks", PySem.Str.ofString "whole", PySem.Str.ofString "place", PySem.Str.ofString "rounds", PySem.Str.ofString "rest", PySem.Str.ofString "kept", PySem.Str.ofString "figure", PySem.Str.ofString "folded", PySem.Str.ofString "due", PySem.Str.ofString "read", PySem.Str.ofString "far", PySem.Str.ofString "row", PySem.Str.ofString "letter"]
theorem s1_law (w : World) : (B1 w).K.lookup 180 = some ⟨.type "function", none, .func fd_law, ⟨[]⟩⟩ := by kernel_rfl
theorem s2_law (w : World) : codeIn (B1 w).K fd_law.code fd_law.qualname = true := by kernel_rfl
theorem s3_law : fd_law.body = .stmts (fdB (stAt 23)) := by kernel_rfl
noncomputable def ps_law : List PySem.Str := [PySem.Str.ofString "script"]
noncomputable def cns_law : List PySem.Str := [PySem.Str.ofString "turn", PySem.Str.ofString "images", PySem.Str.ofString "start", PySem.Str.ofString "size", PySem.Str.ofString "span", PySem.Str.ofString "cells"]
noncomputable def cf_law (L : Addr) : List (PySem.Str × Addr) := [(PySem.Str.ofString "turn", L + 6), (PySem.Str.ofString "images", L + 5), (PySem.Str.ofString "start", L + 4), (PySem.Str.ofString "size", L + 3), (PySem.Str.ofString "span", L + 2), (PySem.Str.ofString "cells", L + 1)]
theorem s4_law : ∀ vs : List Value, vs.length = ps_law.length → bindArgs fd_law ⟨vs, []⟩ = pure (ps_law.zip vs) := args1 _ fun _ => by kernel_rfl
theorem s5_law : ns_law.Nodup := by decide +kernel
theorem s6_law : ps_law.Nodup := by decide +kernel
theorem s7_law : ∀ x ∈ ns_law, fd_law.scope.names.lookup x = some .local := by decide +kernel
theorem s8_law : ∀ L, cellsFrom (L + 1) fd_law.scope.names [] = cf_law L := fun L => by kernel_rfl
theorem s9_law : fd_law.scope.kind = .function := by kernel_rfl
theorem s10_law : fd_law.scope.isCoroutine = false := by kernel_rfl
theorem s11_law : fd_law.scope.isGenerator = false := by kernel_rfl
theorem s12_law : fd_law.globals = mainGlobals := by kernel_rfl
theorem s13_law : fd_law.builtins = builtinsNs := by kernel_rfl
theorem s14_law : fd_law.closure = [] := by kernel_rfl
theorem s15_law : cns_law.Nodup := by decide +kernel
theorem s16_law : ∀ x ∈ cns_law, fd_law.scope.names.lookup x = some .cell := by decide +kernel
theorem s17_law : ∀ x ∈ ps_law, fd_law.scope.names.lookup x = some .local ∨ x ∈ cns_law := by decide +kernel
structure In_law (w : World) (C : Cx) (L : Addr) : Prop where
  W : Wf C
  B : C.B = B1 w
  N : C.names = ns_law
  Cl : C.cl = cf_law L
  E : C.env = callEnvC fd_law L 180
theorem fn_law {w : World} {ds : List D} {r : D} {k : Nat} (hl : ps_law.length = ds.length)
    (H : ∀ (C : Cx) (L : Addr), In_law w C L → C.A.depth + k < recursionLimit → C.A.units + 8 * k < cLine →
      Exs C (entry ps_law ns_law ds (cf_law L)) (fdB (stAt 23)) (fun fl _ => fl = .ret r ∨ (fl = .next ∧ r = .none))) : Fn (B1 w) 180 (k + 1) ds r := by
  refine fn_of_body_cells cf_law (s1_law w) (s2_law w) s3_law s4_law hl s6_law s5_law s7_law s14_law s8_law (fun _ => rfl) s15_law s16_law s17_law s9_law s10_law s11_law s12_law s13_law ?_
  intro A L h₀ X W hd hu
  with_reducible exact H _ L ⟨W, rfl, rfl, rfl, rfl⟩ hd hu
theorem nx_law_script {w : World} {C : Cx} {L : Addr} (I : In_law w C L) : C.names[0]? = some (PySem.Str.ofString "script") := by rw [I.N]; kernel_rfl
theorem nx_law_width {w : World} {C : Cx} {L : Addr} (I : In_law w C L) : C.names[1]? = some (PySem.Str.ofString "width") := by rw [I.N]; kernel_rfl
theorem nx_law_spelled {w : World} {C : Cx} {L : Addr} (I : In_law w C L) : C.names[2]? = some (PySem.Str.ofString "spelled") := by rw [I.N]; kernel_rfl
theorem nx_law_packed {w : World} {C : Cx} {L : Addr} (I : In_law w C L) : C.names[3]? = some (PySem.Str.ofString "packed") := by rw [I.N]; kernel_rfl
theorem nx_law_text {w : World} {C : Cx} {L : Addr} (I : In_law w C L) : C.names[4]? = some (PySem.Str.ofString "text") := by rw [I.N]; kernel_rfl
theorem nx_law_blocks {w : World} {C : Cx} {L : Addr} (I : In_law w C L) : C.names[5]? = some (PySem.Str.ofString "blocks") := by rw [I.N]; kernel_rfl
theorem nx_law_whole {w : World} {C : Cx} {L : Addr} (I : In_law w C L) : C.names[6]? = some (PySem.Str.ofString "whole") := by rw [I.N]; kernel_rfl
theorem nx_law_place {w : World} {C : Cx} {L : Addr} (I : In_law w C L) : C.names[7]? = some (PySem.Str.ofString "place") := by rw [I.N]; kernel_rfl
theorem nx_law_rounds {w : World} {C : Cx} {L : Addr} (I : In_law w C L) : C.names[8]? = some (PySem.Str.ofString "rounds") := by rw [I.N]; kernel_rfl
theorem nx_law_rest {w : World} {C : Cx} {L : Addr} (I : In_law w C L) : C.names[9]? = some (PySem.Str.ofString "rest") := by rw [I.N]; kernel_rfl
theorem nx_law_kept {w : World} {C : Cx} {L : Addr} (I : In_law w C L) : C.names[10]? = some (PySem.Str.ofString "kept") := by rw [I.N]; kernel_rfl
theorem nx_law_figure {w : World} {C : Cx} {L : Addr} (I : In_law w C L) : C.names[11]? = some (PySem.Str.ofString "figure") := by rw [I.N]; kernel_rfl
theorem nx_law_folded {w : World} {C : Cx} {L : Addr} (I : In_law w C L) : C.names[12]? = some (PySem.Str.ofString "folded") := by rw [I.N]; kernel_rfl
theorem nx_law_due {w : World} {C : Cx} {L : Addr} (I : In_law w C L) : C.names[13]? = some (PySem.Str.ofString "due") := by rw [I.N]; kernel_rfl
theorem nx_law_read {w : World} {C : Cx} {L : Addr} (I : In_law w C L) : C.names[14]? = some (PySem.Str.ofString "read") := by rw [I.N]; kernel_rfl
theorem nx_law_far {w : World} {C : Cx} {L : Addr} (I : In_law w C L) : C.names[15]? = some (PySem.Str.ofString "far") := by rw [I.N]; kernel_rfl
theorem nx_law_row {w : World} {C : Cx} {L : Addr} (I : In_law w C L) : C.names[16]? = some (PySem.Str.ofString "row") := by rw [I.N]; kernel_rfl
theorem nx_law_letter {w : World} {C : Cx} {L : Addr} (I : In_law w C L) : C.names[17]? = some (PySem.Str.ofString "letter") := by rw [I.N]; kernel_rfl
theorem cx_law_cells {w : World} {C : Cx} {L : Addr} (I : In_law w C L) : (PySem.Str.ofString "cells", L + 1) ∈ C.cl := by rw [I.Cl]; exact List.mem_of_getElem? (i := 5) rfl
theorem cx_law_span {w : World} {C : Cx} {L : Addr} (I : In_law w C L) : (PySem.Str.ofString "span", L + 2) ∈ C.cl := by rw [I.Cl]; exact List.mem_of_getElem? (i := 4) rfl
theorem cx_law_size {w : World} {C : Cx} {L : Addr} (I : In_law w C L) : (PySem.Str.ofString "size", L + 3) ∈ C.cl := by rw [I.Cl]; exact List.mem_of_getElem? (i := 3) rfl
theorem cx_law_start {w : World} {C : Cx} {L : Addr} (I : In_law w C L) : (PySem.Str.ofString "start", L + 4) ∈ C.cl := by rw [I.Cl]; exact List.mem_of_getElem? (i := 2) rfl
theorem cx_law_images {w : World} {C : Cx} {L : Addr} (I : In_law w C L) : (PySem.Str.ofString "images", L + 5) ∈ C.cl := by rw [I.Cl]; exact List.mem_of_getElem? (i := 1) rfl
theorem cx_law_turn {w : World} {C : Cx} {L : Addr} (I : In_law w C L) : (PySem.Str.ofString "turn", L + 6) ∈ C.cl := by rw [I.Cl]; exact List.mem_of_getElem? (i := 0) rfl
theorem kn_div2n1n_DIV_LIMIT {w : World} {C : Cx} (I : In_div2n1n w C) : C.env.kindOf (PySem.Str.ofString "_DIV_LIMIT") = some .globalImplicit := by obtain ⟨L, e⟩ := I.E; rw [e]; kernel_rfl
theorem kn_div2n1n_divmod {w : World} {C : Cx} (I : In_div2n1n w C) : C.env.kindOf (PySem.Str.ofString "divmod") = some .globalImplicit := by obtain ⟨L, e⟩ := I.E; rw [e]; kernel_rfl
theorem kn_div2n1n_div3n2n {w : World} {C : Cx} (I : In_div2n1n w C) : C.env.kindOf (PySem.Str.ofString "_div3n2n") = some .globalImplicit := by obtain ⟨L, e⟩ := I.E; rw [e]; kernel_rfl
theorem kn_div3n2n_div2n1n {w : World} {C : Cx} (I : In_div3n2n w C) : C.env.kindOf (PySem.Str.ofString "_div2n1n") = some .globalImplicit := by obtain ⟨L, e⟩ := I.E; rw [e]; kernel_rfl
theorem kn_int2digits_len (L : Addr) : (callEnv fd_int2digits L 35).kindOf (PySem.Str.ofString "len") = some .globalImplicit := by kernel_rfl
theorem kn_digits2int_len (L : Addr) : (callEnv fd_digits2int L 42).kindOf (PySem.Str.ofString "len") = some .globalImplicit := by kernel_rfl
theorem kn_divmod_pos_int2digits {w : World} {C : Cx} (I : In_divmod_pos w C) : C.env.kindOf (PySem.Str.ofString "_int2digits") = some .globalImplicit := by obtain ⟨L, e⟩ := I.E; rw [e]; kernel_rfl
theorem kn_divmod_pos_reversed {w : World} {C : Cx} (I : In_divmod_pos w C) : C.env.kindOf (PySem.Str.ofString "reversed") = some .globalImplicit := by obtain ⟨L, e⟩ := I.E; rw [e]; kernel_rfl
theorem kn_divmod_pos_div2n1n {w : World} {C : Cx} (I : In_divmod_pos w C) : C.env.kindOf (PySem.Str.ofString "_div2n1n") = some .globalImplicit := by obtain ⟨L, e⟩ := I.E; rw [e]; kernel_rfl
theorem kn_divmod_pos_digits2int {w : World} {C : Cx} (I : In_divmod_pos w C) : C.env.kindOf (PySem.Str.ofString "_digits2int") = some .globalImplicit := by obtain ⟨L, e⟩ := I.E; rw [e]; kernel_rfl
theorem kn_int_divmod_ZeroDivisionError {w : World} {C : Cx} (I : In_int_divmod w C) : C.env.kindOf (PySem.Str.ofString "ZeroDivisionError") = some .globalImplicit := by obtain ⟨L, e⟩ := I.E; rw [e]; kernel_rfl
theorem kn_int_divmod_int_divmod {w : World} {C : Cx} (I : In_int_divmod w C) : C.env.kindOf (PySem.Str.ofString "int_divmod") = some .globalImplicit := by obtain ⟨L, e⟩ := I.E; rw [e]; kernel_rfl
theorem kn_int_divmod_divmod_pos {w : World} {C : Cx} (I : In_int_divmod w C) : C.env.kindOf (PySem.Str.ofString "_divmod_pos") = some .globalImplicit := by obtain ⟨L, e⟩ := I.E; rw [e]; kernel_rfl
theorem kn_in_table_b1_ord {w : World} {C : Cx} (I : In_in_table_b1 w C) : C.env.kindOf (PySem.Str.ofString "ord") = some .globalImplicit := by obtain ⟨L, e⟩ := I.E; rw [e]; kernel_rfl
theorem kn_in_table_b1_b1_set {w : World} {C : Cx} (I : In_in_table_b1 w C) : C.env.kindOf (PySem.Str.ofString "b1_set") = some .globalImplicit := by obtain ⟨L, e⟩ := I.E; rw [e]; kernel_rfl
theorem kn_map_table_b3_b3_exceptions {w : World} {C : Cx} (I : In_map_table_b3 w C) : C.env.kindOf (PySem.Str.ofString "b3_exceptions") = some .globalImplicit := by obtain ⟨L, e⟩ := I.E; rw [e]; kernel_rfl
theorem kn_map_table_b3_ord {w : World} {C : Cx} (I : In_map_table_b3 w C) : C.env.kindOf (PySem.Str.ofString "ord") = some .globalImplicit := by obtain ⟨L, e⟩ := I.E; rw [e]; kernel_rfl
theorem kn_law_form_chr {w : World} {C : Cx} (I : In_law_form w C) : C.env.kindOf (PySem.Str.ofString "chr") = some .globalImplicit := by obtain ⟨L, e⟩ := I.E; rw [e]; kernel_rfl
theorem kn_law_form_ord {w : World} {C : Cx} (I : In_law_form w C) : C.env.kindOf (PySem.Str.ofString "ord") = some .globalImplicit := by obtain ⟨L, e⟩ := I.E; rw [e]; kernel_rfl
theorem kn_law_unseen_chr {w : World} {C : Cx} (I : In_law_unseen w C) : C.env.kindOf (PySem.Str.ofString "chr") = some .globalImplicit := by obtain ⟨L, e⟩ := I.E; rw [e]; kernel_rfl
theorem kn_law_meant_range {w : World} {C : Cx} {L : Addr} (I : In_law_meant w C L) : C.env.kindOf (PySem.Str.ofString "range") = some .globalImplicit := by rw [I.E]; kernel_rfl
theorem kn_law_written_len {w : World} {C : Cx} (I : In_law_written w C) : C.env.kindOf (PySem.Str.ofString "len") = some .globalImplicit := by obtain ⟨L, e⟩ := I.E; rw [e]; kernel_rfl
theorem kn_law_written_law_form {w : World} {C : Cx} (I : In_law_written w C) : C.env.kindOf (PySem.Str.ofString "_law_form") = some .globalImplicit := by obtain ⟨L, e⟩ := I.E; rw [e]; kernel_rfl
theorem kn_law_written_chr {w : World} {C : Cx} (I : In_law_written w C) : C.env.kindOf (PySem.Str.ofString "chr") = some .globalImplicit := by obtain ⟨L, e⟩ := I.E; rw [e]; kernel_rfl
theorem kn_law_written_law_unseen {w : World} {C : Cx} (I : In_law_written w C) : C.env.kindOf (PySem.Str.ofString "_law_unseen") = some .globalImplicit := by obtain ⟨L, e⟩ := I.E; rw [e]; kernel_rfl
theorem kn_law_at_len {w : World} {C : Cx} (I : In_law_at w C) : C.env.kindOf (PySem.Str.ofString "len") = some .globalImplicit := by obtain ⟨L, e⟩ := I.E; rw [e]; kernel_rfl
theorem kn_law_at_range {w : World} {C : Cx} (I : In_law_at w C) : C.env.kindOf (PySem.Str.ofString "range") = some .globalImplicit := by obtain ⟨L, e⟩ := I.E; rw [e]; kernel_rfl
theorem kn_law_cut_len {w : World} {C : Cx} (I : In_law_cut w C) : C.env.kindOf (PySem.Str.ofString "len") = some .globalImplicit := by obtain ⟨L, e⟩ := I.E; rw [e]; kernel_rfl
theorem kn_law_len {w : World} {C : Cx} {L : Addr} (I : In_law w C L) : C.env.kindOf (PySem.Str.ofString "len") = some .globalImplicit := by rw [I.E]; kernel_rfl
theorem kn_law_range {w : World} {C : Cx} {L : Addr} (I : In_law w C L) : C.env.kindOf (PySem.Str.ofString "range") = some .globalImplicit := by rw [I.E]; kernel_rfl
theorem kn_law_law_each {w : World} {C : Cx} {L : Addr} (I : In_law w C L) : C.env.kindOf (PySem.Str.ofString "_law_each") = some .globalImplicit := by rw [I.E]; kernel_rfl
theorem kn_law_law_prepared {w : World} {C : Cx} {L : Addr} (I : In_law w C L) : C.env.kindOf (PySem.Str.ofString "_law_prepared") = some .globalImplicit := by rw [I.E]; kernel_rfl
theorem kn_law_digits2int {w : World} {C : Cx} {L : Addr} (I : In_law w C L) : C.env.kindOf (PySem.Str.ofString "_digits2int") = some .globalImplicit := by rw [I.E]; kernel_rfl
theorem kn_law_law_digits {w : World} {C : Cx} {L : Addr} (I : In_law w C L) : C.env.kindOf (PySem.Str.ofString "_law_digits") = some .globalImplicit := by rw [I.E]; kernel_rfl
theorem kn_law_int2digits {w : World} {C : Cx} {L : Addr} (I : In_law w C L) : C.env.kindOf (PySem.Str.ofString "_int2digits") = some .globalImplicit := by rw [I.E]; kernel_rfl
theorem kn_law_law_cut {w : World} {C : Cx} {L : Addr} (I : In_law w C L) : C.env.kindOf (PySem.Str.ofString "_law_cut") = some .globalImplicit := by rw [I.E]; kernel_rfl
theorem kn_law_int_divmod {w : World} {C : Cx} {L : Addr} (I : In_law w C L) : C.env.kindOf (PySem.Str.ofString "int_divmod") = some .globalImplicit := by rw [I.E]; kernel_rfl
theorem kn_law_min {w : World} {C : Cx} {L : Addr} (I : In_law w C L) : C.env.kindOf (PySem.Str.ofString "min") = some .globalImplicit := by rw [I.E]; kernel_rfl
theorem kn_law_law_at {w : World} {C : Cx} {L : Addr} (I : In_law w C L) : C.env.kindOf (PySem.Str.ofString "_law_at") = some .globalImplicit := by rw [I.E]; kernel_rfl
theorem kn_law_reversed {w : World} {C : Cx} {L : Addr} (I : In_law w C L) : C.env.kindOf (PySem.Str.ofString "reversed") = some .globalImplicit := by rw [I.E]; kernel_rfl
theorem mg_ZeroDivisionError {w : World} {C : Cx} (h : C.B = B1 w) : C.B.mg (PySem.Str.ofString "ZeroDivisionError") = none := by rw [h]; kernel_rfl
theorem mb_ZeroDivisionError {w : World} {C : Cx} (h : C.B = B1 w) : C.B.mb (PySem.Str.ofString "ZeroDivisionError") = some (.type "ZeroDivisionError") := by rw [h]; kernel_rfl
theorem mg_DIV_LIMIT {w : World} {C : Cx} (h : C.B = B1 w) : C.B.mg (PySem.Str.ofString "_DIV_LIMIT") = some (.int 4000 189) := by rw [h]; kernel_rfl
theorem mg_digits2int {w : World} {C : Cx} (h : C.B = B1 w) : C.B.mg (PySem.Str.ofString "_digits2int") = some (.ref 42) := by rw [h]; kernel_rfl
theorem mg_div2n1n {w : World} {C : Cx} (h : C.B = B1 w) : C.B.mg (PySem.Str.ofString "_div2n1n") = some (.ref 21) := by rw [h]; kernel_rfl
theorem mg_div3n2n {w : World} {C : Cx} (h : C.B = B1 w) : C.B.mg (PySem.Str.ofString "_div3n2n") = some (.ref 28) := by rw [h]; kernel_rfl
theorem mg_divmod_pos {w : World} {C : Cx} (h : C.B = B1 w) : C.B.mg (PySem.Str.ofString "_divmod_pos") = some (.ref 49) := by rw [h]; kernel_rfl
theorem mg_int2digits {w : World} {C : Cx} (h : C.B = B1 w) : C.B.mg (PySem.Str.ofString "_int2digits") = some (.ref 35) := by rw [h]; kernel_rfl
theorem mg_law_at {w : World} {C : Cx} (h : C.B = B1 w) : C.B.mg (PySem.Str.ofString "_law_at") = some (.ref 168) := by rw [h]; kernel_rfl
theorem mg_law_cut {w : World} {C : Cx} (h : C.B = B1 w) : C.B.mg (PySem.Str.ofString "_law_cut") = some (.ref 175) := by rw [h]; kernel_rfl
theorem mg_law_digits {w : World} {C : Cx} (h : C.B = B1 w) : C.B.mg (PySem.Str.ofString "_law_digits") = some (.ref 161) := by rw [h]; kernel_rfl
theorem mg_law_each {w : World} {C : Cx} (h : C.B = B1 w) : C.B.mg (PySem.Str.ofString "_law_each") = some (.ref 156) := by rw [h]; kernel_rfl
theorem mg_law_form {w : World} {C : Cx} (h : C.B = B1 w) : C.B.mg (PySem.Str.ofString "_law_form") = some (.ref 132) := by rw [h]; kernel_rfl
theorem mg_law_meant {w : World} {C : Cx} (h : C.B = B1 w) : C.B.mg (PySem.Str.ofString "_law_meant") = some (.ref 144) := by rw [h]; kernel_rfl
theorem mg_law_prepared {w : World} {C : Cx} (h : C.B = B1 w) : C.B.mg (PySem.Str.ofString "_law_prepared") = some (.ref 125) := by rw [h]; kernel_rfl
theorem mg_law_unseen {w : World} {C : Cx} (h : C.B = B1 w) : C.B.mg (PySem.Str.ofString "_law_unseen") = some (.ref 139) := by rw [h]; kernel_rfl
theorem mg_law_written {w : World} {C : Cx} (h : C.B = B1 w) : C.B.mg (PySem.Str.ofString "_law_written") = some (.ref 151) := by rw [h]; kernel_rfl
theorem mg_b1_set {w : World} {C : Cx} (h : C.B = B1 w) : C.B.mg (PySem.Str.ofString "b1_set") = some (.ref 64) := by rw [h]; kernel_rfl
theorem mg_b3_exceptions {w : World} {C : Cx} (h : C.B = B1 w) : C.B.mg (PySem.Str.ofString "b3_exceptions") = some (.ref 75) := by rw [h]; kernel_rfl
theorem mg_chr {w : World} {C : Cx} (h : C.B = B1 w) : C.B.mg (PySem.Str.ofString "chr") = none := by rw [h]; kernel_rfl
theorem mb_chr {w : World} {C : Cx} (h : C.B = B1 w) : C.B.mb (PySem.Str.ofString "chr") = some (.builtin "chr") := by rw [h]; kernel_rfl
theorem mg_divmod {w : World} {C : Cx} (h : C.B = B1 w) : C.B.mg (PySem.Str.ofString "divmod") = none := by rw [h]; kernel_rfl
theorem mb_divmod {w : World} {C : Cx} (h : C.B = B1 w) : C.B.mb (PySem.Str.ofString "divmod") = some (.builtin "divmod") := by rw [h]; kernel_rfl
theorem mg_in_table_b1 {w : World} {C : Cx} (h : C.B = B1 w) : C.B.mg (PySem.Str.ofString "in_table_b1") = some (.ref 74) := by rw [h]; kernel_rfl
theorem mg_int_divmod {w : World} {C : Cx} (h : C.B = B1 w) : C.B.mg (PySem.Str.ofString "int_divmod") = some (.ref 56) := by rw [h]; kernel_rfl
theorem mg_len {w : World} {C : Cx} (h : C.B = B1 w) : C.B.mg (PySem.Str.ofString "len") = none := by rw [h]; kernel_rfl
theorem mb_len {w : World} {C : Cx} (h : C.B = B1 w) : C.B.mb (PySem.Str.ofString "len") = some (.builtin "len") := by rw [h]; kernel_rfl
theorem mg_map_table_b3 {w : World} {C : Cx} (h : C.B = B1 w) : C.B.mg (PySem.Str.ofString "map_table_b3") = some (.ref 120) := by rw [h]; kernel_rfl
theorem mg_min {w : World} {C : Cx} (h : C.B = B1 w) : C.B.mg (PySem.Str.ofString "min") = none := by rw [h]; kernel_rfl
theorem mb_min {w : World} {C : Cx} (h : C.B = B1 w) : C.B.mb (PySem.Str.ofString "min") = some (.builtin "min") := by rw [h]; kernel_rfl
theorem mg_ord {w : World} {C : Cx} (h : C.B = B1 w) : C.B.mg (PySem.Str.ofString "ord") = none := by rw [h]; kernel_rfl
theorem mb_ord {w : World} {C : Cx} (h : C.B = B1 w) : C.B.mb (PySem.Str.ofString "ord") = some (.builtin "ord") := by rw [h]; kernel_rfl
theorem mg_range {w : World} {C : Cx} (h : C.B = B1 w) : C.B.mg (PySem.Str.ofString "range") = none := by rw [h]; kernel_rfl
theorem mb_range {w : World} {C : Cx} (h : C.B = B1 w) : C.B.mb (PySem.Str.ofString "range") = some (.type "range") := by rw [h]; kernel_rfl
theorem mg_reversed {w : World} {C : Cx} (h : C.B = B1 w) : C.B.mg (PySem.Str.ofString "reversed") = none := by rw [h]; kernel_rfl
theorem mb_reversed {w : World} {C : Cx} (h : C.B = B1 w) : C.B.mb (PySem.Str.ofString "reversed") = some (.type "reversed") := by rw [h]; kernel_rfl
end
end Mine
-- part N1
namespace Mine
theorem toNat_mul_pow {x : Int} (hx : 0 ≤ x) (k : Nat) : (x * 2 ^ k).toNat = x.toNat <<< k := by
  obtain ⟨n, rfl⟩ := Int.eq_ofNat_of_zero_le hx
  rw [Nat.shiftLeft_eq]
  have : ((n : Int) * 2 ^ k) = ((n * 2 ^ k : Nat) : Int) := by push_cast; rfl
  rw [this, Int.toNat_natCast, Int.toNat_natCast]
theorem two_pow_pos (k : Nat) : (0 : Int) < 2 ^ k := Int.pow_pos (by omega)
theorem or_disj {x y : Int} {k : Nat} (hx : 0 ≤ x) (hy : 0 ≤ y) (h : y < 2 ^ k) : Builtin.bitOr (x * 2 ^ k) y = x * 2 ^ k + y := by
  have hp := two_pow_pos k
  rw [bitOr_and, bitAnd_pp (Int.mul_nonneg hx (Int.le_of_lt hp)) hy, toNat_mul_pow hx]
  have : (x.toNat <<< k) &&& y.toNat = 0 := by
    obtain ⟨m, rfl⟩ := Int.eq_ofNat_of_zero_le hy
    have hm : m < 2 ^ k := by
      have : ((m : Int) < ((2 ^ k : Nat) : Int)) := by push_cast; exact h
      exact Int.ofNat_lt.mp this
    apply Nat.eq_of_testBit_eq
    intro i
    simp only [Nat.testBit_and, Nat.testBit_shiftLeft, Nat.zero_testBit, Int.toNat_natCast]
    by_cases hi : i < k
    · have : ¬ (k ≤ i) := by omega
      simp [this]
    · have : m.testBit i = false := Nat.testBit_lt_two_pow (Nat.lt_of_lt_of_le hm (Nat.pow_le_pow_right (by omega) (by omega)))
      simp [this]
  rw [this]; simp
theorem xor_hi {x : Int} (k : Nat) (hx : 0 ≤ x) : Builtin.bitXor x ((x / 2 ^ k) * 2 ^ k) = x % 2 ^ k := by
  have hp := two_pow_pos k
  have hq : 0 ≤ x / 2 ^ k := Int.ediv_nonneg hx (Int.le_of_lt hp)
  have hm := Int.emod_add_mul_ediv x (2 ^ k)
  rw [bitXor_and, bitAnd_pp hx (Int.mul_nonneg hq (Int.le_of_lt hp)), toNat_mul_pow hq]
  have : x.toNat &&& ((x / 2 ^ k).toNat <<< k) = (x / 2 ^ k).toNat <<< k := by
    obtain ⟨m, rfl⟩ := Int.eq_ofNat_of_zero_le hx
    have e : ((m : Int) / 2 ^ k).toNat = m >>> k := by
      rw [Nat.shiftRight_eq_div_pow]
      have : ((m : Int) / 2 ^ k) = ((m / 2 ^ k : Nat) : Int) := by push_cast; rfl
      rw [this, Int.toNat_natCast]
    rw [e, Int.toNat_natCast]
    apply Nat.eq_of_testBit_eq
    intro i
    simp only [Nat.testBit_and, Nat.testBit_shiftLeft, Nat.testBit_shiftRight]
    by_cases hi : k ≤ i
    · have : k + (i - k) = i := by omega
      simp [hi, this]
    · simp [hi]
  rw [this, ← toNat_mul_pow hq, Int.toNat_of_nonneg (Int.mul_nonneg hq (Int.le_of_lt hp))]
  have : (x / 2 ^ k) * 2 ^ k = 2 ^ k * (x / 2 ^ k) := Int.mul_comm _ _
  omega
theorem dm_of {A b q r : Int} (h : A = q * b + r) (h0 : 0 ≤ r) (h1 : r < b) : A / b = q ∧ A % b = r := by
  have hb : 0 < b := by omega
  subst h
  constructor
  · rw [Int.add_comm, Int.mul_comm, Int.add_mul_ediv_left _ _ (by omega), Int.ediv_eq_zero_of_lt h0 h1]; omega
  · rw [Int.add_comm, Int.mul_comm, Int.add_mul_emod_self_left, Int.emod_eq_of_lt h0 h1]
/-- the estimate of the three-by-two step -/
theorem d32_est {a12 a3 b b1 b2 q r P : Int} (hP : 0 < P) (hb : b = b1 * P + b2) (h1 : 0 < b1) (h2 : 0 ≤ b2) (h2' : b2 < P) (h3 : 0 ≤ a3) (h3' : a3 < P) (ha : 0 ≤ a12) (ha' : a12 < b)
    (hq : (a12 / P = b1 ∧ q = P - 1 ∧ r = a12 - b1 * P + b1) ∨ (a12 < b1 * P ∧ q = a12 / b1 ∧ r = a12 % b1)) :
    0 ≤ q ∧ q ≤ P ∧ 0 ≤ r ∧ a12 * P + a3 = q * b + ((r * P + a3) - q * b2) ∧ (r * P + a3) - q * b2 < b := by
  rcases hq with ⟨e1, rfl, rfl⟩ | ⟨e1, rfl, rfl⟩
  · have hlo : b1 * P ≤ a12 := by
      have := Int.mul_ediv_self_le (x := a12) (k := P) (by omega)
      rw [e1, Int.mul_comm] at this; exact this
    refine ⟨by omega, by omega, by omega, ?_, ?_⟩
    · subst hb; grind
    · have : (a12 - b1 * P + b1) * P + a3 - (P - 1) * b2 = (a12 * P + a3) - (P - 1) * b := by subst hb; grind
      rw [this]
      have h4 : a12 * P ≤ (b - 1) * P := Int.mul_le_mul_of_nonneg_right (by omega) (by omega)
      grind
  · have hm := Int.emod_add_mul_ediv a12 b1
    have m0 := Int.emod_nonneg a12 (b := b1) (by omega)
    have m1 := Int.emod_lt_of_pos a12 h1
    have q0 : 0 ≤ a12 / b1 := Int.ediv_nonneg ha (by omega)
    have q1 : a12 / b1 < P := by
      apply Int.ediv_lt_of_lt_mul h1
      rw [Int.mul_comm]; exact e1
    generalize a12 / b1 = q at *
    generalize a12 % b1 = r at *
    refine ⟨q0, by omega, m0, ?_, ?_⟩
    · subst hb; rw [← hm]; grind
    · have h4 : r * P ≤ (b1 - 1) * P := Int.mul_le_mul_of_nonneg_right (by omega) (by omega)
      have h5 : 0 ≤ q * b2 := Int.mul_nonneg q0 h2
      grind
end Mine
-- part N2
namespace Mine
theorem d21_step {a b P a12 mid low q1 r1 q2 r2 : Int} (hP : 0 < P) (hb : 0 < b) (ha : 0 ≤ a) (ha' : a < b * (P * P)) (e12 : a12 = a / (P * P)) (em : mid = a / P % P) (el : low = a % P)
    (e1 : q1 = (a12 * P + mid) / b) (e2 : r1 = (a12 * P + mid) % b) (e3 : q2 = (r1 * P + low) / b) (e4 : r2 = (r1 * P + low) % b) :
    (0 ≤ a12 ∧ a12 < b ∧ 0 ≤ mid ∧ mid < P ∧ 0 ≤ low ∧ low < P ∧ 0 ≤ r1 ∧ r1 < b) ∧ 0 ≤ q1 ∧ 0 ≤ q2 ∧ q2 < P ∧ a / b = q1 * P + q2 ∧ a % b = r2 := by
  have hPP : 0 < P * P := Int.mul_pos hP hP
  have a0 : 0 ≤ a12 := e12 ▸ Int.ediv_nonneg ha (Int.le_of_lt hPP)
  have a1 : a12 < b := e12 ▸ Int.ediv_lt_of_lt_mul hPP ha'
  have m0 : 0 ≤ mid := em ▸ Int.emod_nonneg _ (by omega)
  have m1 : mid < P := em ▸ Int.emod_lt_of_pos _ hP
  have l0 : 0 ≤ low := el ▸ Int.emod_nonneg _ (by omega)
  have l1 : low < P := el ▸ Int.emod_lt_of_pos _ hP
  have r0 : 0 ≤ r1 := e2 ▸ Int.emod_nonneg _ (by omega)
  have r1' : r1 < b := e2 ▸ Int.emod_lt_of_pos _ hb
  have x1 := Int.emod_add_mul_ediv (a12 * P + mid) b
  have x2 := Int.emod_add_mul_ediv (r1 * P + low) b
  have x3 := Int.emod_add_mul_ediv a P
  have x4 := Int.emod_add_mul_ediv (a / P) P
  rw [Int.ediv_ediv_of_nonneg (Int.le_of_lt hP), ← e12, ← em] at x4
  rw [← el] at x3
  rw [← e1, ← e2] at x1
  rw [← e3, ← e4] at x2
  have y0 : 0 ≤ r2 := e4 ▸ Int.emod_nonneg _ (by omega)
  have y1 : r2 < b := e4 ▸ Int.emod_lt_of_pos _ hb
  have q10 : 0 ≤ q1 := e1 ▸ Int.ediv_nonneg (by have := Int.mul_nonneg a0 (Int.le_of_lt hP); omega) (by omega)
  have q20 : 0 ≤ q2 := e3 ▸ Int.ediv_nonneg (by have := Int.mul_nonneg r0 (Int.le_of_lt hP); omega) (by omega)
  have q21 : q2 < P := by
    rw [e3]
    apply Int.ediv_lt_of_lt_mul hb
    have : r1 * P ≤ (b - 1) * P := Int.mul_le_mul_of_nonneg_right (by omega) (by omega)
    grind
  have tot : a = (q1 * P + q2) * b + r2 := by
    grind
  obtain ⟨z1, z2⟩ := dm_of tot y0 y1
  exact ⟨⟨a0, a1, m0, m1, l0, l1, r0, r1'⟩, q10, q20, q21, z1, z2⟩
end Mine
-- part N3
namespace Mine
/-- the digits of a number, the lowest first -/
noncomputable def digs (n : Nat) : Int → Nat → List Int
  | _, 0 => []
  | x, m + 1 => x % 2 ^ n :: digs n (x / 2 ^ n) m
noncomputable def dval (n : Nat) : List Int → Int
  | [] => 0
  | d :: l => d + 2 ^ n * dval n l
theorem digs_length (n : Nat) : ∀ (m : Nat) (x : Int), (digs n x m).length = m
  | 0, _ => rfl
  | m + 1, x => by simp [digs, digs_length n m]
theorem digs_add (n : Nat) : ∀ (a b : Nat) (x : Int), digs n x (a + b) = digs n x a ++ digs n (x / 2 ^ (n * a)) b
  | 0, b, x => by simp [digs]
  | a + 1, b, x => by
    rw [show a + 1 + b = (a + b) + 1 by omega]
    simp only [digs, List.cons_append]
    rw [digs_add n a b, Int.ediv_ediv_of_nonneg (Int.le_of_lt (two_pow_pos n)), ← Int.pow_add, show n * (a + 1) = n + n * a by rw [Nat.mul_succ]; omega]
theorem digs_mod (n : Nat) : ∀ (a : Nat) (x : Int), digs n (x % 2 ^ (n * a)) a = digs n x a
  | 0, x => rfl
  | a + 1, x => by
    simp only [digs]
    have hp := two_pow_pos n
    have hq := two_pow_pos (n * a)
    have e : (2 : Int) ^ (n * (a + 1)) = 2 ^ n * 2 ^ (n * a) := by rw [← Int.pow_add]; congr 1; rw [Nat.mul_succ]; omega
    rw [e]
    have h1 : x % (2 ^ n * 2 ^ (n * a)) % 2 ^ n = x % 2 ^ n := Int.emod_emod_of_dvd _ (Int.dvd_mul_right _ _)
    have h2 : x % (2 ^ n * 2 ^ (n * a)) / 2 ^ n = x / 2 ^ n % 2 ^ (n * a) := by
      have := Int.emod_add_mul_ediv x (2 ^ n * 2 ^ (n * a))
      have e2 := Int.emod_add_mul_ediv (x / 2 ^ n) (2 ^ (n * a))
      rw [Int.ediv_ediv_of_nonneg (Int.le_of_lt hp)] at e2
      have e3 : x = x % 2 ^ n + 2 ^ n * (x / 2 ^ n) := (Int.emod_add_mul_ediv x (2 ^ n)).symm
      have e4 : x % (2 ^ n * 2 ^ (n * a)) = x % 2 ^ n + 2 ^ n * (x / 2 ^ n % 2 ^ (n * a)) := by grind
      rw [e4, Int.add_mul_ediv_left _ _ (by omega), Int.ediv_eq_zero_of_lt (Int.emod_nonneg _ (by omega)) (Int.emod_lt_of_pos _ hp)]
      omega
    rw [h1, h2, digs_mod n a]
theorem dval_append (n : Nat) : ∀ (a b : List Int), dval n (a ++ b) = dval n a + 2 ^ (n * a.length) * dval n b
  | [], b => by simp [dval]
  | d :: a, b => by
    simp only [List.cons_append, dval, dval_append n a b, List.length_cons]
    have e : (2 : Int) ^ (n * (a.length + 1)) = 2 ^ n * 2 ^ (n * a.length) := by rw [← Int.pow_add]; congr 1; rw [Nat.mul_succ]; omega
    rw [e]; grind
theorem dval_range (n : Nat) : ∀ (l : List Int), (∀ d ∈ l, 0 ≤ d ∧ d < 2 ^ n) → 0 ≤ dval n l ∧ dval n l < 2 ^ (n * l.length)
  | [], _ => by simp [dval]
  | d :: l, h => by
    obtain ⟨h1, h2⟩ := dval_range n l fun x hx => h x (.tail _ hx)
    obtain ⟨h3, h4⟩ := h d (.head _)
    have hp := two_pow_pos n
    simp only [dval, List.length_cons]
    have e : (2 : Int) ^ (n * (l.length + 1)) = 2 ^ n * 2 ^ (n * l.length) := by rw [← Int.pow_add]; congr 1; rw [Nat.mul_succ]; omega
    rw [e]
    have h5 : 0 ≤ 2 ^ n * dval n l := Int.mul_nonneg (Int.le_of_lt hp) h1
    have h6 : 2 ^ n * dval n l ≤ 2 ^ n * (2 ^ (n * l.length) - 1) := Int.mul_le_mul_of_nonneg_left (by omega) (Int.le_of_lt hp)
    grind
theorem dval_digs (n : Nat) : ∀ (m : Nat) (x : Int), dval n (digs n x m) = x % 2 ^ (n * m)
  | 0, x => by simp [digs, dval, Int.emod_one]
  | m + 1, x => by
    simp only [digs, dval, dval_digs n m]
    have hp := two_pow_pos n
    have e : (2 : Int) ^ (n * (m + 1)) = 2 ^ n * 2 ^ (n * m) := by rw [← Int.pow_add]; congr 1; rw [Nat.mul_succ]; omega
    rw [e]
    have := Int.emod_add_mul_ediv x (2 ^ n * 2 ^ (n * m))
    have e2 := Int.emod_add_mul_ediv (x / 2 ^ n) (2 ^ (n * m))
    rw [Int.ediv_ediv_of_nonneg (Int.le_of_lt hp)] at e2
    have e3 : x = x % 2 ^ n + 2 ^ n * (x / 2 ^ n) := (Int.emod_add_mul_ediv x (2 ^ n)).symm
    grind
theorem digs_range (n : Nat) : ∀ (m : Nat) (x : Int), ∀ d ∈ digs n x m, 0 ≤ d ∧ d < 2 ^ n
  | 0, _, d, h => by cases h
  | m + 1, x, d, h => by
    have hp := two_pow_pos n
    rcases List.mem_cons.mp h with rfl | h
    · exact ⟨Int.emod_nonneg _ (by omega), Int.emod_lt_of_pos _ hp⟩
    · exact digs_range n m _ d h
/-- a part of a list -/
noncomputable def part (l : List Int) (a b : Nat) : List Int := (l.drop a).take (b - a)
theorem part_split (l : List Int) {a m b : Nat} (h1 : a ≤ m) (h2 : m ≤ b) : part l a b = part l a m ++ part l m b := by
  unfold part
  rw [show b - a = (m - a) + (b - m) by omega, List.take_add, List.drop_drop, show a + (m - a) = m by omega]
theorem part_length (l : List Int) {a b : Nat} (h2 : b ≤ l.length) : (part l a b).length = b - a := by
  unfold part; rw [List.length_take, List.length_drop]; omega
theorem part_one (l : List Int) {a : Nat} {x : Int} (h : l[a]? = some x) : part l a (a + 1) = [x] := by
  unfold part
  rw [show a + 1 - a = 1 by omega, List.take_one, List.head?_drop, h]; rfl
theorem part_all (l : List Int) : part l 0 l.length = l := by unfold part; simp
theorem part_mem {l : List Int} {a b : Nat} {x : Int} (h : x ∈ part l a b) : x ∈ l := List.mem_of_mem_drop (List.mem_of_mem_take h)
/-- a row written into a list -/
noncomputable def wr (l : List Int) (a : Nat) (r : List Int) : List Int := l.take a ++ r ++ l.drop (a + r.length)
theorem wr_length (l : List Int) {a : Nat} {r : List Int} (h : a + r.length ≤ l.length) : (wr l a r).length = l.length := by
  unfold wr; simp only [List.length_append, List.length_take, List.length_drop]; omega
theorem wr_one (l : List Int) {a : Nat} (x : Int) (h : a < l.length) : wr l a [x] = l.set a x := by
  unfold wr
  rw [List.set_eq_take_append_cons_drop, if_pos h]; simp
theorem wr_wr (l : List Int) {a : Nat} {r t : List Int} (h : a + r.length + t.length ≤ l.length) : wr (wr l a r) (a + r.length) t = wr l a (r ++ t) := by
  unfold wr
  have e1 : (l.take a ++ r).length = a + r.length := by simp only [List.length_append, List.length_take]; omega
  rw [List.take_append_of_le_length (by omega), ← e1, List.take_length]
  rw [List.drop_append, List.drop_eq_nil_of_le (by omega)]
  simp only [List.append_assoc, List.nil_append, List.length_append, List.drop_drop]
  congr 4
  simp only [List.length_take]; omega
theorem wr_all (l r : List Int) (h : r.length = l.length) : wr l 0 r = r := by unfold wr; simp [h]
end Mine
-- part U1
namespace Mine
set_option maxHeartbeats 0
noncomputable def unseenL : List Int := [173, 847, 6150, 6155, 6156, 6157, 8203, 8204, 8205, 8288, 65279]
noncomputable def unseen (n : Int) : PySem.Str :=
  let k := n.fmod 40
  if k < 11 then ⟨⟨[(unseenL.getD k.toNat 0).toNat]⟩⟩ else if k < 27 then ⟨⟨[(65013 + k).toNat]⟩⟩ else ⟨⟨[]⟩⟩
theorem f_unseen {w : World} (n : Int) : Fn (B1 w) 139 1 [.int n] (.str (unseen n)) := by
  refine fn_law_unseen rfl fun C I hd hu => ?_
  have W := I.W
  obtain ⟨hk0, hk1⟩ := fmod_range n (m := 40) (by omega)
  refine exs_assign W 1 (nx_law_unseen_kind I) (ev_mod (ev_name W 0 (nx_law_unseen_n I) rfl) ev_int (by decide)) ?_
  refine exs_if_leave (ts_cmp (ev_name W 1 (nx_law_unseen_kind I) rfl) ev_int co_lt) (fun q => ?_) (fun q => ?_)
  · have q : n.fmod 40 < 11 := of_decide_eq_true q
    obtain ⟨x, hx⟩ : ∃ x, unseenL[(n.fmod 40).toNat]? = some x := ⟨_, List.getElem?_eq_getElem (by show _ < 11; omega)⟩
    have hb : 0 ≤ x ∧ x ≤ 1114111 := (by decide : ∀ x ∈ unseenL, 0 ≤ x ∧ x ≤ 1114111) x (List.mem_of_getElem? hx)
    refine exs_ret (d := .str (unseen n)) ?_ (.inl rfl)
    refine ev_conv (ev_chr (i := x) W (kn_law_unseen_chr I) (mg_chr I.B) (mb_chr I.B) ?c1 hb.1 hb.2) ?c2
    case c1 =>
      refine ev_item (ds := unseenL.map .int) (k := n.fmod 40) (x := .int x) ?a1 (.lst _) (ev_name W 1 (nx_law_unseen_kind I) rfl) hk0 ?a5 ?a6
      case a5 => omega
      case a6 => rw [List.getElem?_map, hx]; rfl
      case a1 => refine ev_list W ?_; exact evs_cons ev_int (evs_cons ev_int (evs_cons ev_int (evs_cons ev_int (evs_cons ev_int (evs_cons ev_int (evs_cons ev_int (evs_cons ev_int (evs_cons ev_int (evs_cons ev_int (evs_cons ev_int evs_nil))))))))))
    case c2 => simp only [unseen, if_pos q, List.getD_eq_getElem?_getD, hx]; rfl
  · have q : ¬ n.fmod 40 < 11 := of_decide_eq_false q
    refine exs_if_leave (ts_cmp (ev_name W 1 (nx_law_unseen_kind I) rfl) ev_int co_lt) (fun q' => ?_) (fun q' => ?_)
    · have q' : n.fmod 40 < 27 := of_decide_eq_true q'
      refine exs_ret (d := .str (unseen n)) ?_ (.inl rfl)
      refine ev_conv (ev_chr (i := 65013 + n.fmod 40) W (kn_law_unseen_chr I) (mg_chr I.B) (mb_chr I.B) (ev_add ev_int (ev_name W 1 (nx_law_unseen_kind I) rfl)) (by omega) (by omega)) ?_
      simp only [unseen, if_neg q, if_pos q']
    · have q' : ¬ n.fmod 40 < 27 := of_decide_eq_false q'
      refine exs_ret (d := .str (unseen n)) ?_ (.inl rfl)
      refine ev_conv ev_str ?_
      simp only [unseen, if_neg q, if_neg q']
      rfl
end Mine
-- part U2
namespace Mine
set_option maxHeartbeats 0
noncomputable def c1 (c : Nat) : PySem.Str := ⟨⟨[c]⟩⟩
noncomputable def formL : List Int := [0, 1, 2, 4, 7, 8, 9, 10, 11, 12]
noncomputable def form (c : Nat) (n : Int) : Nat :=
  let k := n.fmod 12
  if k = 0 then c else if k = 1 then c - 32 else (119808 + 52 * (formL.getD (k - 2).toNat 0) + c - 97).toNat
noncomputable def form2 (c : Nat) (n : Int) : Nat := if c = 115 ∧ n.fmod 5 = 4 then 383 else form c n
theorem f_form {w : World} (c : Nat) (n : Int) (h1 : 97 ≤ c) (h2 : c ≤ 122) : Fn (B1 w) 132 1 [.str (c1 c), .int n] (.str (c1 (form2 c n))) := by
  refine fn_law_form rfl fun C I hd hu => ?_
  have W := I.W
  refine exs_if_leave (ts_conv (ts_bool (tsl_and (ts_cmp (ev_name W 0 (nx_law_form_letter I) rfl) ev_str co_eqs) fun _ => tsl_and (ts_cmp (ev_mod (ev_name W 1 (nx_law_form_n I) rfl) ev_int (by decide)) ev_int co_eq) fun _ => tsl_and_nil)) (b := decide (c = 115 ∧ n.fmod 5 = 4)) ?_) (fun q => ?_) (fun q => ?_)
  · have e : (c1 c == (⟨⟨[115]⟩⟩ : PySem.Str)) = decide (c = 115) := by
      by_cases h : c = 115
      · subst h; rfl
      · simp [c1, h]
    show ((c1 c == (⟨⟨[115]⟩⟩ : PySem.Str)) && ((n.fmod 5 == 4) && true)) = _
    rw [e, Bool.and_true, Bool.decide_and]
    rfl
  · have q := of_decide_eq_true q
    refine exs_ret (d := .str (c1 (form2 c n))) ?_ (.inl rfl)
    refine ev_conv (ev_chr (i := 383) W (kn_law_form_chr I) (mg_chr I.B) (mb_chr I.B) ev_int (by omega) (by omega)) ?_
    simp only [form2, if_pos q]; rfl
  have qs : ¬ (c = 115 ∧ n.fmod 5 = 4) := of_decide_eq_false q
  obtain ⟨hk0, hk1⟩ := fmod_range n (m := 12) (by omega)
  refine exs_assign W 2 (nx_law_form_kind I) (ev_mod (ev_name W 1 (nx_law_form_n I) rfl) ev_int (by decide)) ?_
  refine exs_if_leave (ts_cmp (ev_name W 2 (nx_law_form_kind I) rfl) ev_int co_eq) (fun q => ?_) (fun q => ?_)
  · have q : n.fmod 12 = 0 := by simpa using q
    refine exs_ret (d := .str (c1 (form2 c n))) ?_ (.inl rfl)
    refine ev_conv (ev_name W 0 (nx_law_form_letter I) rfl) ?_
    simp only [form2, if_neg qs, form, if_pos q]
  · have q : ¬ n.fmod 12 = 0 := by simpa using q
    refine exs_if_leave (ts_cmp (ev_name W 2 (nx_law_form_kind I) rfl) ev_int co_eq) (fun q' => ?_) (fun q' => ?_)
    · have q' : n.fmod 12 = 1 := by simpa using q'
      refine exs_ret (d := .str (c1 (form2 c n))) ?_ (.inl rfl)
      refine ev_conv (ev_chr (i := (c : Int) - 32) W (kn_law_form_chr I) (mg_chr I.B) (mb_chr I.B) (ev_sub (ev_ord W (kn_law_form_ord I) (mg_ord I.B) (mb_ord I.B) (ev_name W 0 (nx_law_form_letter I) rfl)) ev_int) (by omega) (by omega)) ?_
      simp only [form2, if_neg qs, form, if_neg q, if_pos q', c1]
      congr; omega
    · have q' : ¬ n.fmod 12 = 1 := by simpa using q'
      obtain ⟨x, hx⟩ : ∃ x, formL[(n.fmod 12 - 2).toNat]? = some x := ⟨_, List.getElem?_eq_getElem (by show _ < 10; omega)⟩
      have hb : 0 ≤ x ∧ x ≤ 12 := (by decide : ∀ x ∈ formL, 0 ≤ x ∧ x ≤ 12) x (List.mem_of_getElem? hx)
      refine exs_assign (d := .int x) W 3 (nx_law_form_alphabet I) ?a ?_
      case a =>
        refine ev_item (ds := formL.map .int) (k := n.fmod 12 - 2) (x := .int x) (ev_list W ?_) (.lst _) (ev_sub (ev_name W 2 (nx_law_form_kind I) rfl) ev_int) (by omega) (by omega) ?_
        · exact evs_cons ev_int (evs_cons ev_int (evs_cons ev_int (evs_cons ev_int (evs_cons ev_int (evs_cons ev_int (evs_cons ev_int (evs_cons ev_int (evs_cons ev_int (evs_cons ev_int evs_nil)))))))))
        · rw [List.getElem?_map, hx]; rfl
      refine exs_ret (d := .str (c1 (form2 c n))) ?_ (.inl rfl)
      refine ev_conv (ev_chr (i := 119808 + 52 * x + (c : Int) - 97) W (kn_law_form_chr I) (mg_chr I.B) (mb_chr I.B) (ev_sub (ev_add (ev_add ev_int (ev_mul ev_int (ev_name W 3 (nx_law_form_alphabet I) rfl) (.of_left (intBits_le_64 (by omega) (by omega))))) (ev_ord W (kn_law_form_ord I) (mg_ord I.B) (mb_ord I.B) (ev_name W 0 (nx_law_form_letter I) rfl))) ev_int) (by omega) (by omega)) ?_
      simp only [form2, if_neg qs, form, if_neg q, if_neg q', c1, List.getD_eq_getElem?_getD, hx]; rfl
end Mine
-- part U3
namespace Mine
theorem ev_def {w : World} {C : Cx} {σ : St} (W : Wf C) (hB : C.B = B1 w) {x : PySem.Str} {p q : Pos} {f : Addr} {k : Nat} {o : Obj} {fd : FuncData} {e : Expr} {es : List Expr} {ds : List D} {r : D} (hk : C.env.kindOf x = some .globalImplicit) (hg : C.B.mg x = some (.ref f)) (ho : (B1 w).K.lookup f = some o) (hf : o.data = .func fd) (hs : Evs C σ (e :: es) ds)
    (hc : Fn (B1 w) f k ds r) (hd1 : C.A.depth + k < recursionLimit) (hu1 : C.A.units + 8 * k < cLine)
    (hn : nst e = true := by rfl) (hd : (x == ("__debug__" : PySem.Str)) = false := by rfl) :
    Ev C σ (.Call (.Name x p) (e :: es) [] q) r := ev_call_def W hk hg (hB ▸ ho) hf hs (hB ▸ hc) hd1 hu1 hn hd
theorem exs_conv {C : Cx} {σ σ' : St} {l : List Stmt} {Φ : Fl → St → Prop} (h : Exs C σ' l Φ) (e : σ = σ') : Exs C σ l Φ := e ▸ h
theorem bits_le {x : Int} {m : Nat} (h0 : 0 ≤ x) (h : x < 2 ^ m) : Builtin.Int.intBits x ≤ m := by
  unfold Builtin.Int.intBits
  split
  · exact Nat.zero_le _
  · rename_i hx
    have h0' : x.natAbs ≠ 0 := by simpa using hx
    have hn : x.natAbs < 2 ^ m := by
      have : ((x.natAbs : Nat) : Int) < ((2 ^ m : Nat) : Int) := by push_cast; omega
      exact Int.ofNat_lt.mp this
    have := (Nat.log2_lt h0').mpr hn
    omega
set_option maxHeartbeats 0
noncomputable def exactBits (b : Int) (n : Nat) : Prop := 2 ^ n ≤ 2 * b ∧ b < 2 ^ n ∧ 0 < b
theorem f_div3n2n {w : World} {k : Nat} {a12 a3 b b1 b2 : Int} {n : Nat} (hb : b = b1 * 2 ^ n + b2) (h1 : 0 < b1) (h2 : 0 ≤ b2) (h2' : b2 < 2 ^ n) (h3 : 0 ≤ a3) (h3' : a3 < 2 ^ n) (ha : 0 ≤ a12) (ha' : a12 < b) (hbn : b1 < 2 ^ n) (hn : n ≤ 1000000)
    (H : a12 < b1 * 2 ^ n → Fn (B1 w) 21 k [.int a12, .int b1, .int n] (.tup [.int (a12 / b1), .int (a12 % b1)])) :
    Fn (B1 w) 28 (k + 1) [.int a12, .int a3, .int b, .int b1, .int b2, .int n] (.tup [.int ((a12 * 2 ^ n + a3) / b), .int ((a12 * 2 ^ n + a3) % b)]) := by
  refine fn_div3n2n rfl fun C I hd hu => ?_
  have W := I.W
  have hp := two_pow_pos n
  have key : ∀ q r, ((a12 / 2 ^ n = b1 ∧ q = 2 ^ n - 1 ∧ r = a12 - b1 * 2 ^ n + b1) ∨ (a12 < b1 * 2 ^ n ∧ q = a12 / b1 ∧ r = a12 % b1)) → Exs C ⟨[some (.int a12), some (.int a3), some (.int b), some (.int b1), some (.int b2), some (.int n), some (.int q), some (.int r)], []⟩ ((fdB (stAt 3)).drop 1) (fun fl _ => fl = .ret (.tup [.int ((a12 * 2 ^ n + a3) / b), .int ((a12 * 2 ^ n + a3) % b)]) ∨ (fl = .next ∧ (D.tup [.int ((a12 * 2 ^ n + a3) / b), .int ((a12 * 2 ^ n + a3) % b)]) = .none)) := by
    intro q r hq
    obtain ⟨q0, q1, r0, e1, e2⟩ := d32_est hp hb h1 h2 h2' h3 h3' ha ha' hq
    have hr : r < 2 ^ (n + 1) := by
      have e : (2 : Int) ^ (n + 1) = 2 ^ n + 2 ^ n := by rw [Int.pow_succ]; omega
      rcases hq with ⟨x1, x2, x3⟩ | ⟨x1, x2, x3⟩
      · omega
      · have := Int.emod_lt_of_pos a12 h1
        omega
    have hq' : q < 2 ^ (n + 1) := by
      have e : (2 : Int) ^ (n + 1) = 2 ^ n + 2 ^ n := by rw [Int.pow_succ]; omega
      omega
    have hbr := bits_le r0 hr
    have hbq := bits_le q0 hq'
    have hb2 := bits_le h2 h2'
    refine exs_assign (d := .int ((r * 2 ^ n + a3) - q * b2)) W 7 (nx_div3n2n_r I) ?e ?_
    case e =>
      refine ev_conv (ev_sub (ev_or (ev_shl (ev_name W 7 (nx_div3n2n_r I) rfl) (ev_name W 5 (nx_div3n2n_n I) rfl) (by omega) (by omega)) (ev_name W 1 (nx_div3n2n_a3 I) rfl)) (ev_mul (ev_name W 6 (nx_div3n2n_q I) rfl) (ev_name W 4 (nx_div3n2n_b2 I) rfl) (IntMulOk.of_le hbq hb2 (by omega)))) ?_
      rw [Int.toNat_natCast, or_disj r0 h3 h3']
    refine exs_cons (ex_while (fun m σ => ∃ q r, σ = ⟨[some (.int a12), some (.int a3), some (.int b), some (.int b1), some (.int b2), some (.int n), some (.int q), some (.int r)], []⟩ ∧ a12 * 2 ^ n + a3 = q * b + r ∧ r < b ∧ m = (-r).toNat) ?_ _ ⟨_, _, rfl, e1, e2, rfl⟩)
    rintro m _ ⟨q, r, rfl, i1, i2, i3⟩
    refine ⟨_, ts_cmp (ev_name W 7 (nx_div3n2n_r I) rfl) ev_int co_lt, fun c => ?_, fun c => ?_⟩
    · have c : r < 0 := of_decide_eq_true c
      refine exs_cons (ex_aug_sub W 6 (nx_div3n2n_q I) rfl ev_int ?_)
      refine exs_cons (ex_aug_add W 7 (nx_div3n2n_r I) rfl (ev_name W 2 (nx_div3n2n_b I) rfl) ?_)
      refine exs_nil ?_
      have hb0 : 0 < b := by omega
      refine ⟨(-(r + b)).toNat, by omega, q - 1, r + b, rfl, ?_, by omega, rfl⟩
      rw [i1]; grind
    · have c : ¬ r < 0 := of_decide_eq_false c
      obtain ⟨z1, z2⟩ := dm_of i1 (by omega) i2
      refine exs_ret (d := .tup [.int q, .int r]) (ev_tuple W (evs_cons (ev_name W 6 (nx_div3n2n_q I) rfl) (evs_cons (ev_name W 7 (nx_div3n2n_r I) rfl) evs_nil))) (.inl ?_)
      rw [z1, z2]
  have hd1 : C.A.depth + k < recursionLimit := by omega
  refine exs_if (ts_cmp (ev_shr (ev_name W 0 (nx_div3n2n_a12 I) rfl) (ev_name W 5 (nx_div3n2n_n I) rfl) (by omega)) (ev_name W 3 (nx_div3n2n_b1 I) rfl) co_eq) (fun c => ?_) (fun c => ?_)
  · have c : a12.fdiv (2 ^ (n : Int).toNat) = b1 := by simpa using c
    rw [Int.toNat_natCast, Int.fdiv_eq_ediv_of_nonneg _ (Int.le_of_lt hp)] at c
    have hb1 := bits_le (Int.le_of_lt h1) hbn
    have hone : Builtin.Int.intBits 1 ≤ 1 := bits_le (m := 1) (by omega) (by decide)
    refine exs_cons (ex_tuple_swap (is := [6, 7]) (xs := [PySem.Str.ofString "q", PySem.Str.ofString "r"]) (ds := [.int (2 ^ n - 1), .int (a12 - b1 * 2 ^ n + b1)]) W ?e ?x rfl rfl ?_ ?w)
    case e =>
      refine ev_tuple W (evs_cons ?_ (evs_cons ?_ evs_nil))
      · refine ev_conv (ev_sub (ev_shl ev_int (ev_name W 5 (nx_div3n2n_n I) rfl) (by omega) (by omega)) ev_int) ?_
        rw [Int.toNat_natCast, Int.one_mul]
      · refine ev_conv (ev_add (ev_sub (ev_name W 0 (nx_div3n2n_a12 I) rfl) (ev_shl (ev_name W 3 (nx_div3n2n_b1 I) rfl) (ev_name W 5 (nx_div3n2n_n I) rfl) (by omega) (by omega))) (ev_name W 3 (nx_div3n2n_b1 I) rfl)) ?_
        rw [Int.toNat_natCast]
    case x =>
      intro j i hj
      match j with
      | 0 => cases hj; exact ⟨_, rfl, nx_div3n2n_r I⟩
      | 1 => cases hj; exact ⟨_, rfl, nx_div3n2n_q I⟩
      | j + 2 => exact absurd hj (by simp)
    case w => obtain ⟨L, e⟩ := I.E; rw [e]; kernel_rfl
    refine exs_nil ?_
    exact key _ _ (.inl ⟨c, rfl, rfl⟩)
  · have c : ¬ a12.fdiv (2 ^ (n : Int).toNat) = b1 := by simpa using c
    rw [Int.toNat_natCast, Int.fdiv_eq_ediv_of_nonneg _ (Int.le_of_lt hp)] at c
    have hlt : a12 < b1 * 2 ^ n := by
      have h5 : a12 / 2 ^ n ≤ b1 := by
        have : a12 / 2 ^ n < b1 + 1 := by
          apply Int.ediv_lt_of_lt_mul hp
          rw [Int.add_mul]; omega
        omega
      have h6 : a12 / 2 ^ n < b1 := by omega
      exact Int.lt_mul_of_ediv_lt hp h6
    refine exs_tuple (is := [6, 7]) (ds := [.int (a12 / b1), .int (a12 % b1)]) W (.cons 6 (nx_div3n2n_q I) (.cons 7 (nx_div3n2n_r I) .nil)) (ev_def W I.B (kn_div3n2n_div2n1n I) (mg_div2n1n I.B) (s1_div2n1n w) rfl (evs_cons (ev_name W 0 (nx_div3n2n_a12 I) rfl) (evs_cons (ev_name W 3 (nx_div3n2n_b1 I) rfl) (evs_cons (ev_name W 5 (nx_div3n2n_n I) rfl) evs_nil))) (H hlt) hd hu) rfl ?_
    refine exs_nil ?_
    exact key _ _ (.inr ⟨hlt, rfl, rfl⟩)
end Mine
-- part U4
namespace Mine
set_option maxHeartbeats 0
abbrev dm (a b : Int) : D := .tup [.int (a / b), .int (a % b)]
theorem nopy {a b : Int} {n : Nat} (hb : 0 < b) (h : b < 2 ^ n) (hn : n ≤ 8500) : Builtin.divisionGoesByPylong a b = false := by
  refine PyProof.noPylong_of_log2 ?_
  have h1 : b.natAbs < 2 ^ n := by
    have : ((b.natAbs : Nat) : Int) < ((2 ^ n : Nat) : Int) := by push_cast; omega
    exact Int.ofNat_lt.mp this
  have := (Nat.log2_lt (n := b.natAbs) (by omega)).mpr h1
  omega
section
variable {C : Cx} {σ : St}
theorem ev_shr' {a b : Expr} {p : Pos} {x : Int} {m : Nat} (ha : Ev C σ a (.int x)) (hb : Ev C σ b (.int m)) : Ev C σ (.BinOp a .RShift b p) (.int (x / 2 ^ m)) :=
  ev_conv (ev_shr ha hb (by omega)) (by rw [Int.toNat_natCast, Int.fdiv_eq_ediv_of_nonneg _ (Int.le_of_lt (two_pow_pos m))])
theorem ev_shl' {a b : Expr} {p : Pos} {x : Int} {m : Nat} (ha : Ev C σ a (.int x)) (hb : Ev C σ b (.int m)) (hz : Builtin.Int.intBits x + m ≤ 2 ^ 27) : Ev C σ (.BinOp a .LShift b p) (.int (x * 2 ^ m)) :=
  ev_conv (ev_shl ha hb (by omega) (by omega)) (by rw [Int.toNat_natCast])
theorem ev_mask {a b : Expr} {p : Pos} {x y : Int} {m : Nat} (ha : Ev C σ a (.int x)) (hb : Ev C σ b (.int y)) (hy : y = 2 ^ m - 1) : Ev C σ (.BinOp a .BitAnd b p) (.int (x % 2 ^ m)) :=
  ev_conv (ev_and ha hb) (by rw [hy, kbt_mask])
end
theorem exactBits_half {b : Int} {h : Nat} (hb : exactBits b (h + h)) (h0 : 0 < h) : exactBits (b / 2 ^ h) h ∧ b = b / 2 ^ h * 2 ^ h + b % 2 ^ h := by
  obtain ⟨h1, h2, h3⟩ := hb
  unfold exactBits
  have hp := two_pow_pos h
  have e := Int.emod_add_mul_ediv b (2 ^ h)
  have m0 := Int.emod_nonneg b (b := 2 ^ h) (by omega)
  have m1 := Int.emod_lt_of_pos b hp
  obtain ⟨g, rfl⟩ : ∃ g, h = g + 1 := ⟨h - 1, by omega⟩
  have e2 : (2 : Int) ^ (g + 1) = 2 * 2 ^ g := by rw [Int.pow_succ]; omega
  rw [Int.pow_add] at h1 h2
  generalize b / 2 ^ (g + 1) = b1 at *
  generalize b % 2 ^ (g + 1) = b2 at *
  have hg := two_pow_pos g
  generalize (2 : Int) ^ (g + 1) = P at *
  generalize (2 : Int) ^ g = G at *
  have k1 : b1 < P := by
    refine Classical.byContradiction fun hc => ?_
    have : P * P ≤ P * b1 := Int.mul_le_mul_of_nonneg_left (by omega) (by omega)
    omega
  have k2 : P ≤ 2 * b1 := by
    refine Classical.byContradiction fun hc => ?_
    have h7 : P * b1 ≤ P * (G - 1) := Int.mul_le_mul_of_nonneg_left (by omega) (by omega)
    rw [Int.mul_sub, Int.mul_one] at h7
    have h8 : P * P = 2 * (P * G) := by subst e2; grind
    omega
  refine ⟨⟨k2, k1, by omega⟩, ?_⟩
  rw [Int.mul_comm]; omega
theorem f_div2n1n_0 {w : World} {a b : Int} {n : Nat} (hb : exactBits b n) (ha : 0 ≤ a) (ha' : a < b * 2 ^ n) (hn : n ≤ 4000) : Fn (B1 w) 21 1 [.int a, .int b, .int n] (dm a b) := by
  refine fn_div2n1n rfl fun C I hd hu => ?_
  have W := I.W
  obtain ⟨b1, b2, b3⟩ := hb
  have hbits : Builtin.Int.intBits a ≤ n + n := by
    refine bits_le ha (Int.lt_trans ha' ?_)
    rw [Int.pow_add]
    exact Int.mul_lt_mul_of_pos_right b2 (two_pow_pos n)
  refine exs_if_leave (ts_cmp (ev_sub (ev_bitlen (ev_name W 0 (nx_div2n1n_a I) rfl)) (ev_name W 2 (nx_div2n1n_n I) rfl)) (ev_gint W (kn_div2n1n_DIV_LIMIT I) (mg_DIV_LIMIT I.B)) co_le) (fun q => ?_) (fun q => ?_)
  · refine exs_ret (d := dm a b) ?_ (.inl rfl)
    refine ev_conv (ev_divmod W (kn_div2n1n_divmod I) (mg_divmod I.B) (mb_divmod I.B) (ev_name W 0 (nx_div2n1n_a I) rfl) (ev_name W 1 (nx_div2n1n_b I) rfl) (by omega) (nopy b3 b2 (by omega))) ?_
    rw [Int.fdiv_eq_ediv_of_nonneg _ (by omega), Int.fmod_eq_emod_of_nonneg _ (by omega)]
  · have q := of_decide_eq_false q
    exact absurd q (by omega)
theorem f_div2n1n {w : World} {a b : Int} {n : Nat} (hb : exactBits b n) (ha : 0 ≤ a) (ha' : a < b * 2 ^ n) (hn : n ≤ 7998) : Fn (B1 w) 21 3 [.int a, .int b, .int n] (dm a b) := by
  by_cases hs : n ≤ 4000
  · exact (f_div2n1n_0 hb ha ha' hs).le (by omega)
  refine fn_div2n1n rfl fun C I hd hu => ?_
  have W := I.W
  have key : ∀ (a' b' : Int) (h pad : Nat), exactBits b' (h + h) → 0 ≤ a' → a' < b' * 2 ^ (h + h) → 0 < h → h ≤ 4000 → (pad = 0 ∧ a' = a ∧ b' = b ∨ pad = 1 ∧ a' = a * 2 ∧ b' = b * 2) →
      Exs C ⟨[some (.int a'), some (.int b'), some (.int ((h + h : Nat) : Int)), some (.int pad), none, none, none, none, none, none, none], []⟩ ((fdB (stAt 2)).drop 3) (fun fl _ => fl = .ret (dm a b) ∨ (fl = .next ∧ dm a b = .none)) := by
    intro a' b' h pad hb' h0 h1 hh hh' hpad
    obtain ⟨x1, x2⟩ := exactBits_half hb' hh
    have hp := two_pow_pos h
    have hone : Builtin.Int.intBits 1 ≤ 1 := bits_le (m := 1) (by omega) (by decide)
    have hPP : (2 : Int) ^ (h + h) = 2 ^ h * 2 ^ h := Int.pow_add ..
    obtain ⟨⟨a0, a1, m0, m1, l0, l1, r0, r1'⟩, q10, q20, q21, z1, z2⟩ := d21_step (a := a') (b := b') (P := 2 ^ h) hp hb'.2.2 h0 (hPP ▸ h1) rfl rfl rfl rfl rfl rfl rfl
    rw [← hPP] at *
    refine exs_assign (d := .int h) W 4 (nx_div2n1n_half_n I) (ev_conv (ev_shr' (m := 1) (ev_name W 2 (nx_div2n1n_n I) rfl) ev_int) ?_) ?_
    · congr 1; omega
    refine exs_assign (d := .int (2 ^ h - 1)) W 5 (nx_div2n1n_mask I) (ev_conv (ev_sub (ev_shl' ev_int (ev_name W 4 (nx_div2n1n_half_n I) rfl) (by omega)) ev_int) ?_) ?_
    · rw [Int.one_mul]
    refine exs_cons (ex_tuple_swap (is := [6, 7]) (xs := [PySem.Str.ofString "b1", PySem.Str.ofString "b2"]) (ds := [.int (b' / 2 ^ h), .int (b' % 2 ^ h)]) W ?e ?x rfl rfl ?_ ?w)
    case e => exact ev_tuple W (evs_cons (ev_shr' (ev_name W 1 (nx_div2n1n_b I) rfl) (ev_name W 4 (nx_div2n1n_half_n I) rfl)) (evs_cons (ev_mask (ev_name W 1 (nx_div2n1n_b I) rfl) (ev_name W 5 (nx_div2n1n_mask I) rfl) rfl) evs_nil))
    case x =>
      intro j i hj
      match j with
      | 0 => cases hj; exact ⟨_, rfl, nx_div2n1n_b2 I⟩
      | 1 => cases hj; exact ⟨_, rfl, nx_div2n1n_b1 I⟩
      | j + 2 => exact absurd hj (by simp)
    case w => obtain ⟨L, e⟩ := I.E; rw [e]; kernel_rfl
    have F : ∀ (u v : Int), 0 ≤ u → u < b' → 0 ≤ v → v < 2 ^ h → Fn (B1 w) 28 2 [.int u, .int v, .int b', .int (b' / 2 ^ h), .int (b' % 2 ^ h), .int h] (dm (u * 2 ^ h + v) b') := fun u v u0 u1 v0 v1 =>
      f_div3n2n x2 x1.2.2 (Int.emod_nonneg _ (by omega)) (Int.emod_lt_of_pos _ hp) v0 v1 u0 u1 x1.2.1 (by omega) fun hu => f_div2n1n_0 x1 u0 hu hh'
    refine exs_tuple (is := [8, 9]) (ds := [.int ((a' / 2 ^ (h + h) * 2 ^ h + a' / 2 ^ h % 2 ^ h) / b'), .int ((a' / 2 ^ (h + h) * 2 ^ h + a' / 2 ^ h % 2 ^ h) % b')]) W (.cons 8 (nx_div2n1n_q1 I) (.cons 9 (nx_div2n1n_r I) .nil)) (ev_def W I.B (kn_div2n1n_div3n2n I) (mg_div3n2n I.B) (s1_div3n2n w) rfl ?e1 (F _ _ a0 a1 m0 m1) hd hu) rfl ?_
    case e1 => exact evs_cons (ev_shr' (ev_name W 0 (nx_div2n1n_a I) rfl) (ev_name W 2 (nx_div2n1n_n I) rfl)) (evs_cons (ev_mask (ev_shr' (ev_name W 0 (nx_div2n1n_a I) rfl) (ev_name W 4 (nx_div2n1n_half_n I) rfl)) (ev_name W 5 (nx_div2n1n_mask I) rfl) rfl) (evs_cons (ev_name W 1 (nx_div2n1n_b I) rfl) (evs_cons (ev_name W 6 (nx_div2n1n_b1 I) rfl) (evs_cons (ev_name W 7 (nx_div2n1n_b2 I) rfl) (evs_cons (ev_name W 4 (nx_div2n1n_half_n I) rfl) evs_nil)))))
    generalize (a' / 2 ^ (h + h) * 2 ^ h + a' / 2 ^ h % 2 ^ h) / b' = q1 at *
    generalize (a' / 2 ^ (h + h) * 2 ^ h + a' / 2 ^ h % 2 ^ h) % b' = r1 at *
    refine exs_tuple (is := [10, 9]) (ds := [.int ((r1 * 2 ^ h + a' % 2 ^ h) / b'), .int ((r1 * 2 ^ h + a' % 2 ^ h) % b')]) W (.cons 10 (nx_div2n1n_q2 I) (.cons 9 (nx_div2n1n_r I) .nil)) (ev_def W I.B (kn_div2n1n_div3n2n I) (mg_div3n2n I.B) (s1_div3n2n w) rfl ?e2 (F _ _ r0 r1' l0 l1) hd hu) rfl ?_
    case e2 => exact evs_cons (ev_name W 9 (nx_div2n1n_r I) rfl) (evs_cons (ev_mask (ev_name W 0 (nx_div2n1n_a I) rfl) (ev_name W 5 (nx_div2n1n_mask I) rfl) rfl) (evs_cons (ev_name W 1 (nx_div2n1n_b I) rfl) (evs_cons (ev_name W 6 (nx_div2n1n_b1 I) rfl) (evs_cons (ev_name W 7 (nx_div2n1n_b2 I) rfl) (evs_cons (ev_name W 4 (nx_div2n1n_half_n I) rfl) evs_nil)))))
    rw [← z2]
    generalize (r1 * 2 ^ h + a' % 2 ^ h) / b' = q2 at *
    have hq1 : q1 < 2 ^ (h + h) := by
      have y1 : a' / b' < 2 ^ (h + h) := by
        apply Int.ediv_lt_of_lt_mul hb'.2.2
        rw [Int.mul_comm]; exact h1
      have y2 : q1 * 1 ≤ q1 * 2 ^ h := Int.mul_le_mul_of_nonneg_left (by omega) q10
      omega
    have hbq := bits_le q10 hq1
    have last : ∀ r', r' = a % b → Exs C ⟨[some (.int a'), some (.int b'), some (.int ((h + h : Nat) : Int)), some (.int pad), some (.int h), some (.int (2 ^ h - 1)), some (.int (b' / 2 ^ h)), some (.int (b' % 2 ^ h)), some (.int q1), some (.int r'), some (.int q2)], []⟩ ((fdB (stAt 2)).drop 9) (fun fl _ => fl = .ret (dm a b) ∨ (fl = .next ∧ dm a b = .none)) := by
      rintro r' rfl
      refine exs_ret (d := dm a b) ?_ (.inl rfl)
      refine ev_conv (ev_tuple W (evs_cons (ev_or (ev_shl' (ev_name W 8 (nx_div2n1n_q1 I) rfl) (ev_name W 4 (nx_div2n1n_half_n I) rfl) (by omega)) (ev_name W 10 (nx_div2n1n_q2 I) rfl)) (evs_cons (ev_name W 9 (nx_div2n1n_r I) rfl) evs_nil))) ?_
      rw [or_disj q10 q20 q21, ← z1]
      rcases hpad with ⟨_, rfl, rfl⟩ | ⟨_, rfl, rfl⟩
      · rfl
      · rw [Int.mul_ediv_mul_of_pos_left _ _ (by omega)]
    refine exs_if_leave (ts_val (ev_name W 3 (nx_div2n1n_pad I) rfl) tr_int) (fun c => ?_) (fun c => ?_)
    · rcases hpad with ⟨rfl, e1, e2⟩ | ⟨rfl, e1, e2⟩
      · exact absurd c (by decide)
      refine exs_cons (ex_aug_shr W 9 (nx_div2n1n_r I) rfl ev_int (by omega) ?_)
      refine exs_nil ?_
      refine last _ ?_
      rw [e1, e2, Int.mul_comm a 2, Int.mul_comm b 2, Int.mul_emod_mul_of_pos _ _ (by omega)]
      show (2 * (a % b)).fdiv (2 ^ 1) = _
      rw [Int.fdiv_eq_ediv_of_nonneg _ (by omega)]
      omega
    · rcases hpad with ⟨rfl, e1, e2⟩ | ⟨rfl, e1, e2⟩
      · exact last _ (by rw [e1, e2])
      · exact absurd c (by decide)
  obtain ⟨b1, b2, b3⟩ := hb
  refine exs_if_leave (ts_cmp (ev_sub (ev_bitlen (ev_name W 0 (nx_div2n1n_a I) rfl)) (ev_name W 2 (nx_div2n1n_n I) rfl)) (ev_gint W (kn_div2n1n_DIV_LIMIT I) (mg_DIV_LIMIT I.B)) co_le) (fun q => ?_) (fun q => ?_)
  · refine exs_ret (d := dm a b) ?_ (.inl rfl)
    refine ev_conv (ev_divmod W (kn_div2n1n_divmod I) (mg_divmod I.B) (mb_divmod I.B) (ev_name W 0 (nx_div2n1n_a I) rfl) (ev_name W 1 (nx_div2n1n_b I) rfl) (by omega) (nopy b3 b2 (by omega))) ?_
    rw [Int.fdiv_eq_ediv_of_nonneg _ (by omega), Int.fmod_eq_emod_of_nonneg _ (by omega)]
  refine exs_assign (d := .int ((n % 2 : Nat) : Int)) W 3 (nx_div2n1n_pad I) (ev_conv (ev_and (ev_name W 2 (nx_div2n1n_n I) rfl) ev_int) ?_) ?_
  · rw [bitAnd_m1]; rfl
  have hbits : Builtin.Int.intBits a ≤ n + n := by
    refine bits_le ha (Int.lt_trans ha' ?_)
    rw [Int.pow_add]
    exact Int.mul_lt_mul_of_pos_right b2 (two_pow_pos n)
  have hbb := bits_le (Int.le_of_lt b3) b2
  refine exs_if_leave (ts_val (ev_name W 3 (nx_div2n1n_pad I) rfl) tr_int) (fun c => ?_) (fun c => ?_)
  · have hodd : n % 2 = 1 := by
      have : ((n % 2 : Nat) : Int) ≠ 0 := by simpa using c
      omega
    obtain ⟨h, hh⟩ : ∃ h, n + 1 = h + h := ⟨(n + 1) / 2, by omega⟩
    rw [hodd]
    have hone : Builtin.Int.intBits 1 ≤ 1 := bits_le (m := 1) (by omega) (by decide)
    refine exs_cons (ex_aug_shl W 0 (nx_div2n1n_a I) rfl ev_int (by omega) (by omega) ?_)
    refine exs_cons (ex_aug_shl W 1 (nx_div2n1n_b I) rfl ev_int (by omega) (by omega) ?_)
    refine exs_cons (ex_aug_add W 2 (nx_div2n1n_n I) rfl ev_int ?_)
    refine exs_nil ?_
    have ep : (2 : Int) ^ (n + 1) = 2 ^ n * 2 := Int.pow_succ ..
    have hp := two_pow_pos n
    have k := key (a * 2) (b * 2) h 1 (hh ▸ ⟨by omega, by omega, by omega⟩) (by omega) (by
      rw [← hh, ep, Int.mul_assoc]
      have : b * (2 ^ n) ≤ b * (2 ^ n * 2) := Int.mul_le_mul_of_nonneg_left (by omega) (by omega)
      rw [show b * (2 * (2 ^ n * 2)) = b * (2 ^ n * 2) * 2 by grind]
      omega) (by omega) (by omega) (.inr ⟨rfl, rfl, rfl⟩)
    rw [← hh] at k
    exact k
  · have heven : n % 2 = 0 := by
      have : ((n % 2 : Nat) : Int) = 0 := by simpa using c
      omega
    obtain ⟨h, rfl⟩ : ∃ h, n = h + h := ⟨n / 2, by omega⟩
    rw [heven]
    exact key a b h 0 ⟨b1, b2, b3⟩ ha ha' (by omega) (by omega) (.inl ⟨rfl, rfl, rfl⟩)
end Mine
-- part U5
set_option maxHeartbeats 0
namespace Mine
noncomputable section
abbrev S (x : String) : PySem.Str := PySem.Str.ofString x
noncomputable def in5 : Stmt := (fdB (stAt 5)).headD (.Pass default)
noncomputable def qD : PySem.Str := S "_digits2int.<locals>.inner"
noncomputable def fdD (clos : List (PySem.Str × Addr)) (doc pm : Value) (c' : Addr) (ctv : Value) : FuncData := fnX (S "inner") qD (fdA in5) (fdB in5) (fdS in5) clos .none .none doc pm none (.ref c') ctv
noncomputable def nsD : List PySem.Str := [S "L", S "R", S "mid", S "shift"]
theorem d1 : ∀ x ∈ nsD, (fdS in5).names.lookup x = some .local := by decide +kernel
theorem d2 : ∀ x ∈ (fdS in5).names, x.2 ≠ .cell := by decide +kernel
theorem d3 : (fdS in5).names.lookup (S "digits") = some .free ∧ (fdS in5).names.lookup (S "inner") = some .free ∧ (fdS in5).names.lookup (S "n") = some .free := by decide +kernel
theorem d4 (clos doc pm c' ctv) : ∀ vs : List Value, vs.length = [S "L", S "R"].length → bindArgs (fdD clos doc pm c' ctv) ⟨vs, []⟩ = pure ([S "L", S "R"].zip vs) := args2 _ fun _ _ => by kernel_rfl
theorem d5 : nsD.Nodup := by decide +kernel
theorem d6 : (fdS in5).kind = .function ∧ (fdS in5).isCoroutine = false ∧ (fdS in5).isGenerator = false := by decide +kernel
/-- what stands behind the inner def -/
structure EnvD (B : Bs) (f a : Addr) (l : List Int) (n : Nat) : Prop where
  fn : ∃ clos doc pm c' ctv, B.K.lookup f = some ⟨.type "function", none, .func (fdD clos doc pm c' ctv), #[]⟩ ∧ (∀ h, B.In h → h.CodeRec (.ref c') qD) ∧
    (∃ c o, clos.lookup (S "digits") = some c ∧ B.K.lookup c = some o ∧ o.data = .cell (some (.ref a))) ∧
    (∃ c o, clos.lookup (S "inner") = some c ∧ B.K.lookup c = some o ∧ o.data = .cell (some (.ref f))) ∧
    (∃ c o t, clos.lookup (S "n") = some c ∧ B.K.lookup c = some o ∧ o.data = .cell (some (.int n t)))
  ls : ∃ o vs k, B.K.lookup a = some o ∧ o.cls = .type "list" ∧ o.data = .seq (vs : List Value).toArray k ∧ ∀ (i : Nat) x, l[i]? = some x → ∃ t, vs[i]? = some (.int x t)
structure In5 (B : Bs) (f a : Addr) (n : Nat) (C : Cx) : Prop where
  W : Wf C
  B : C.B = B
  N : C.names = nsD
  V : C.cv = [(S "digits", .obj a), (S "inner", .obj f), (S "n", .int n)]
section
variable {B : Bs} {f a : Addr} {n : Nat} {C : Cx} (I : In5 B f a n C)
include I
theorem nx5_L : C.names[0]? = some (S "L") := by rw [I.N]; kernel_rfl
theorem nx5_R : C.names[1]? = some (S "R") := by rw [I.N]; kernel_rfl
theorem nx5_mid : C.names[2]? = some (S "mid") := by rw [I.N]; kernel_rfl
theorem nx5_shift : C.names[3]? = some (S "shift") := by rw [I.N]; kernel_rfl
theorem cv5_digits : (S "digits", D.obj a) ∈ C.cv := by rw [I.V]; exact .head _
theorem cv5_inner : (S "inner", D.obj f) ∈ C.cv := by rw [I.V]; exact .tail _ (.head _)
theorem cv5_n : (S "n", D.int n) ∈ C.cv := by rw [I.V]; exact .tail _ (.tail _ (.head _))
end
theorem enter5 {B : Bs} {f a : Addr} {l : List Int} {n : Nat} (V : EnvD B f a l n) {k : Nat} {x y : Int} {r : D}
    (H : ∀ C : Cx, In5 B f a n C → C.A.depth + k < recursionLimit → C.A.units + 8 * k < cLine → Exs C ⟨[some (.int x), some (.int y), none, none], []⟩ (fdB in5) (fun fl σ => (fl = .ret r ∨ (fl = .next ∧ r = .none)) ∧ σ.objs = [])) : Fn B f (k + 1) [.int x, .int y] r := by
  obtain ⟨⟨clos, doc, pm, c', ctv, hf, hcd, ⟨c1, o1, e11, e12, e13⟩, ⟨c2, o2, e21, e22, e23⟩, ⟨c3, o3, t3, e31, e32, e33⟩⟩, _⟩ := V
  refine fn_of_fno (fno_of_body (fd := fdD clos doc pm c' ctv) (ps := [S "L", S "R"]) (names := nsD) [(S "digits", .obj a), (S "inner", .obj f), (S "n", .int n)] [] [] hf hcd rfl (d4 clos doc pm c' ctv) rfl d5 rfl d1 d2 d6.1 d6.2.1 d6.2.2 rfl rfl ?_ (fun _ h => nomatch h) ?_)
  · intro x d hm
    rcases List.mem_cons.mp hm with e | hm
    · cases e; exact ⟨d3.1, c1, _, o1, e11, e12, e13, fun _ _ => .obj _⟩
    rcases List.mem_cons.mp hm with e | hm
    · cases e; exact ⟨d3.2.1, c2, _, o2, e21, e22, e23, fun _ _ => .obj _⟩
    rw [List.mem_singleton] at hm; cases hm
    exact ⟨d3.2.2, c3, _, o3, e31, e32, e33, fun _ _ => .int _ _⟩
  · intro A L' h₀ X W hd hu
    refine exs_conv (H _ ⟨W, rfl, rfl, rfl⟩ hd hu) ?_
    rfl
theorem inner5 {B : Bs} {f a : Addr} {l : List Int} {n : Nat} (V : EnvD B f a l n) (hl : ∀ d ∈ l, 0 ≤ d ∧ d < 2 ^ n) (hz : n * l.length ≤ 2 ^ 25) (hll : l.length ≤ 2 ^ 20) (hn : n ≤ 2 ^ 25) : ∀ (k L R : Nat), L < R → R ≤ l.length → R - L ≤ 2 ^ k → Fn B f (k + 1) [.int L, .int R] (.int (dval n (part l L R))) := by
  intro k
  induction k with
  | zero =>
    intro L R h1 h2 h3
    obtain rfl : R = L + 1 := by omega
    obtain ⟨x, hx⟩ : ∃ x, l[L]? = some x := ⟨_, List.getElem?_eq_getElem (by omega)⟩
    rw [part_one l hx, show dval n [x] = x by simp [dval]]
    refine enter5 V fun C I hd hu => ?_
    have W := I.W
    obtain ⟨_, oa, vs, ka, ha1, ha2, ha3, ha4⟩ := V
    obtain ⟨t, hv⟩ := ha4 L x hx
    refine exs_if_leave (ts_cmp (ev_add (ev_name W 0 (nx5_L I) rfl) ev_int) (ev_name W 1 (nx5_R I) rfl) co_eq) (fun q => ?_) (fun q => ?_)
    · exact exs_ret (d := .int x) (ev_item_base W (ev_cons W (cv5_digits I)) (I.B ▸ ha1) ha2 ha3 (ev_name W 0 (nx5_L I) rfl) (by omega) (by omega) (by simpa using hv) (fun _ _ => .int _ _)) ⟨.inl rfl, rfl⟩
    · exact absurd q (by simp)
  | succ k ih =>
    intro L R h1 h2 h3
    by_cases h4 : R - L ≤ 2 ^ k
    · exact (ih L R h1 h2 h4).le (by omega)
    have hp : 0 < 2 ^ k := Nat.two_pow_pos k
    have hp2 : 2 ^ (k + 1) = 2 * 2 ^ k := by rw [Nat.pow_succ]; omega
    refine enter5 V fun C I hd hu => ?_
    have W := I.W
    obtain ⟨⟨clos, doc, pm, c', ctv, hf, _⟩, _⟩ := id V
    obtain ⟨m, hm⟩ : ∃ m, (L + R) / 2 = m := ⟨_, rfl⟩
    have hLm : L < m := by omega
    have hmR : m < R := by omega
    refine exs_if_leave (ts_cmp (ev_add (ev_name W 0 (nx5_L I) rfl) ev_int) (ev_name W 1 (nx5_R I) rfl) co_eq) (fun q => ?_) (fun q => ?_)
    · exact absurd q (by simp; omega)
    refine exs_assign (d := .int m) W 2 (nx5_mid I) (ev_conv (ev_shr' (m := 1) (ev_add (ev_name W 0 (nx5_L I) rfl) (ev_name W 1 (nx5_R I) rfl)) ev_int) ?_) ?_
    · congr 1; omega
    refine exs_assign (d := .int ((n * (m - L) : Nat) : Int)) W 3 (nx5_shift I) (ev_conv (ev_mul (ev_sub (ev_name W 2 (nx5_mid I) rfl) (ev_name W 0 (nx5_L I) rfl)) (ev_cons W (cv5_n I)) (.of_left (intBits_le_64 (by omega) (by omega)))) ?_) ?_
    · congr 1; rw [Int.mul_comm, Int.natCast_mul, Int.ofNat_sub (by omega)]
    have F1 := ih m R hmR h2 (by omega)
    have F2 := ih L m hLm (by omega) (by omega)
    obtain ⟨r0, r1⟩ := dval_range n (part l m R) fun d hd => hl d (part_mem hd)
    rw [part_length l h2] at r1
    have hb := bits_le r0 r1
    have hmul : n * (R - m) + n * (m - L) ≤ n * l.length := by rw [← Nat.mul_add]; exact Nat.mul_le_mul_left _ (by omega)
    have hcat : dval n (part l L R) = dval n (part l L m) + 2 ^ (n * (m - L)) * dval n (part l m R) := by
      rw [part_split l (Nat.le_of_lt hLm) (Nat.le_of_lt hmR), dval_append, part_length l (by omega)]
    refine exs_ret (d := .int (dval n (part l L R))) (ev_conv (ev_add (ev_shl' (ev_call_cons W (cv5_inner I) (I.B ▸ hf) rfl (evs_cons (ev_name W 2 (nx5_mid I) rfl) (evs_cons (ev_name W 1 (nx5_R I) rfl) evs_nil)) (I.B ▸ F1) hd hu) (ev_name W 3 (nx5_shift I) rfl) (by omega)) (ev_call_cons W (cv5_inner I) (I.B ▸ hf) rfl (evs_cons (ev_name W 0 (nx5_L I) rfl) (evs_cons (ev_name W 2 (nx5_mid I) rfl) evs_nil)) (I.B ▸ F2) hd hu)) ?_) ⟨.inl rfl, rfl⟩
    rw [hcat, Int.mul_comm, Int.add_comm]
end
end Mine
-- part U6
set_option maxHeartbeats 0
namespace Mine
noncomputable section
theorem codeHd34 {w : World} {h : Heap} (hB : (B1 w).In h) : CodeHd h 34 30 := by
  refine ⟨_, _, _, _, _, _, _, _, _, hB.K 34 o34_9 (by kernel_rfl), rfl, rfl, rfl, rfl, rfl, rfl, rfl, rfl, by decide⟩
theorem codeHd41 {w : World} {h : Heap} (hB : (B1 w).In h) : CodeHd h 41 37 := by
  refine ⟨_, _, _, _, _, _, _, _, _, hB.K 41 o41_9 (by kernel_rfl), rfl, rfl, rfl, rfl, rfl, rfl, rfl, rfl, by decide⟩
theorem mgb (w : World) : (B1 w).mg (S "__builtins__") = some (.ref 4) := by kernel_rfl
theorem builtAt {w : World} {h : Heap} (hB : (B1 w).In h) {P : Addr} (hP : P ∈ TT) : h.BuiltinsAt (B1 w).mg P := by
  refine ⟨4, boot_o_4 w.params, mgb w, by decide, by decide, ?_, hB.K 4 (boot_o_4 w.params) (by kernel_rfl), by kernel_rfl, by kernel_rfl, by kernel_rfl⟩
  rintro rfl; exact absurd hP (by decide)
theorem tab1.ext {h h' : Heap} {t P : Addr} {l c : Nat} {q : PySem.Str} (x : tab1 h t l c q) (hP : h.get? P = some (tabObj #[])) (ne : t ≠ P) (k : Heap.ExtBut P h h') : tab1 h' t l c q := by
  obtain ⟨ps, e, r⟩ := x
  refine ⟨ps, k _ _ ne e, r.imp id fun ⟨c, e1, c', oc, vs, tk, f1, f2, f3, f4⟩ => ⟨c, e1, c', oc, vs, tk, f1, k _ _ (fun z => ?_) f2, f3, f4⟩⟩
  subst z; rw [hP] at f2; cases f2; cases f3; cases f4
/-- the def inside a def -/
theorem makeInner {w : World} {A : Around} {s : Shared} {Q E : Value → Shared → Prop} {name qual : PySem.Str} {params : Arguments} {body : List Stmt} {scope : Scope} {env : Env} {clos : List (PySem.Str × Addr)} {pos : Pos} {fl : Nat} {c P : Addr}
    (hB : (B1 w).In s.heap) (tb : TabOk s.heap) (hP : P ∈ TT) (ht : tab1 s.heap P pos.line pos.col qual) (hto : ∀ h', Heap.ExtBut P s.heap h' → s.heap.get? P = some (tabObj #[]) → tab1 h' P pos.line pos.col qual → TabOk h') (hcd : env.code = .ref c) (hC : CodeHd s.heap c P)
    (hcl : closureFor scope env = pure clos) (hgl : env.globals = mainGlobals)
    (h : ∀ c' ctv doc h' tk, Kp s.heap h' → h'.CodeRec (.ref c') qual → s.heap.objs.size ≤ h'.objs.size →
      Q (.ref h'.objs.size) { s with heap := h'.push (fnMade name qual params body scope clos doc (((B1 w).mg "__name__").getD .none) c' ctv), toks := tk }) :
    wpAny (model pw w) A (makeFunction name qual params (.stmts body) scope env [] [] [] pos fl) Q E s := by
  obtain ⟨ps, hp, r⟩ := ht
  have hgP : mainGlobals ≠ P := by rintro rfl; exact absurd hP (by decide)
  rcases r with rfl | ⟨c', rfl, hrec⟩
  · refine makeFunction_K hcl hgl hB.g hcd hC hp trivial rfl hgP (builtAt hB hP) fun c' ctv doc h' tk hx hge hlt hrec htb => ?_
    refine h c' ctv doc h' tk ⟨fun b o f e => hx b o ?_ e, fun _ => hto h' hx hp ⟨_, htb, .inr ⟨c', by simp, hrec⟩⟩⟩ hrec (by omega)
    rintro rfl
    rw [hp] at e; cases e
    rcases f with f | f
    · exact f hP
    · exact f rfl
  · refine makeFunction_hit hcl hgl hB.g hcd hC hp (by simp [TriplesOk, rawInt]) (cv := .ref c') (by simp [codeAmong, rawInt]) (builtAt hB hP) fun ctv doc h' tk hk hsz => ?_
    exact h c' ctv doc h' tk (.full hk) (hrec.keeps hk) hsz
end
end Mine
-- part U7
set_option maxHeartbeats 0
namespace Mine
noncomputable section
abbrev env5 (L : Addr) : Env := callEnvC fd_digits2int L 42
theorem g5_1 (w : World) : (B1 w).K.lookup 42 = some ⟨.type "function", none, .func fd_digits2int, ⟨[]⟩⟩ := by kernel_rfl
theorem g5_2 (w : World) : codeIn (B1 w).K fd_digits2int.code fd_digits2int.qualname = true := by kernel_rfl
theorem g5_3 : fd_digits2int.body = .stmts (fdB (stAt 5)) := by kernel_rfl
theorem g5_4 : ∀ vs : List Value, vs.length = 2 → bindArgs fd_digits2int ⟨vs, []⟩ = pure ([S "digits", S "n"].zip vs) := args2 _ fun _ _ => by kernel_rfl
theorem g5_5 : fd_digits2int.closure = [] := by kernel_rfl
theorem g5_6a (n : Nat) : fd_digits2int.scope.names.lookup (S "digits") = some .cell ∧ ((cellsFrom n fd_digits2int.scope.names []).lookup (S "digits")).isSome = true := ⟨by kernel_rfl, by kernel_rfl⟩
theorem g5_6b (n : Nat) : fd_digits2int.scope.names.lookup (S "n") = some .cell ∧ ((cellsFrom n fd_digits2int.scope.names []).lookup (S "n")).isSome = true := ⟨by kernel_rfl, by kernel_rfl⟩
theorem g5_7 (L : Addr) : (env5 L).cells.lookup (S "digits") = some (L + 1) ∧ (env5 L).cells.lookup (S "n") = some (L + 1 + 1) ∧ (env5 L).cells.lookup (S "inner") = some (L + 1 + 1 + 1) := ⟨by kernel_rfl, by kernel_rfl, by kernel_rfl⟩
theorem g5_8 (L : Addr) (a b : Value) : bindC (env5 L).kindOf [(S "digits", a), (S "n", b)] (fun _ => none) (S "digits") = some a ∧ bindC (env5 L).kindOf [(S "digits", a), (S "n", b)] (fun _ => none) (S "n") = some b ∧ bindC (env5 L).kindOf [(S "digits", a), (S "n", b)] (fun _ => none) (S "inner") = none := ⟨by kernel_rfl, by kernel_rfl, by kernel_rfl⟩
theorem g5_9 (L : Addr) : (env5 L).scope.kind = .function ∧ (env5 L).kindOf (S "digits") = some .cell ∧ (env5 L).kindOf (S "inner") = some .cell ∧ (env5 L).kindOf (S "len") = some .globalImplicit := ⟨by kernel_rfl, by kernel_rfl, by kernel_rfl, by kernel_rfl⟩
theorem g5_10 (L : Addr) : (env5 L).code = .ref 41 := by kernel_rfl
theorem g5_11 (L : Addr) : closureFor (fdS in5) (env5 L) = pure [(S "n", L + 1 + 1), (S "inner", L + 1 + 1 + 1), (S "digits", L + 1)] := by kernel_rfl
theorem g5_12 (L : Addr) : qualnameIn (env5 L) (S "inner") (S "inner") = qD := by kernel_rfl
theorem g5_13 (L : Addr) : annTrees (fdA in5) none (env5 L) = [] := by kernel_rfl
theorem g5_14 : (fdA in5).defaults = [] ∧ (fdA in5).kw_defaults = [] := ⟨by kernel_rfl, by kernel_rfl⟩
theorem g5_15 (L : Addr) : (env5 L).globals = mainGlobals ∧ (env5 L).builtins = builtinsNs := ⟨by kernel_rfl, by kernel_rfl⟩
noncomputable def ret5 : Stmt := (fdB (stAt 5)).getD 1 (.Pass default)
theorem b5 : fdB (stAt 5) = [in5, ret5] := by kernel_rfl
theorem in5_is : in5 = .FunctionDef (S "inner") (fdA in5) (fdB in5) [] none [] (fdS in5) none (S "inner") (fdP in5) := by kernel_rfl
theorem pos5 : (fdP in5).line = 47 ∧ (fdP in5).col = 4 := ⟨by kernel_rfl, by kernel_rfl⟩
theorem Heap.IsCell.kpB {h h' : Heap} {c cc : Addr} {v : Option Value} (x : h.IsCell c v) (tb : TabOk h) (hne : c ≠ cc) (k : KpB [cc] h h') : h'.IsCell c v := by
  have hT := IsCell.T tb x
  obtain ⟨o, e, hd⟩ := x
  exact ⟨o, k _ _ (fun m => hne (List.mem_singleton.mp m)) (.inl hT) e, hd⟩
theorem mg0_len (w : World) : (B1 w).mg (S "len") = none := by kernel_rfl
theorem mb0_len (w : World) : (B1 w).mb (S "len") = some (.builtin "len") := by kernel_rfl
section
variable {M : Model} {A : Around} {E : Value → Shared → Prop} {s : Shared} {env : Env} {q : Pos} {e : Expr} {es : List Expr}
theorem spl_cons {Q : List Value → Shared → Prop} (h : wpAny M A (eval e env) (fun v s₁ => wpAny M A (spliced (backTo q (starEach es env))) (fun vs s₂ => Q (v :: vs) s₂) E s₁) E s) (hn : nst e = true) : wpAny M A (spliced (backTo q (starEach (e :: es) env))) Q E s := by
  rw [star_cons hn]; exact spliced_cons h
theorem spl_nil {Q : List Value → Shared → Prop} (h : Q [] s) : wpAny M A (spliced (backTo q (starEach [] env))) Q E s := spliced_nil h
theorem args_star {f : Value} {Q : Args → Shared → Prop} (h : wpAny M A (spliced (backTo q (starEach (e :: es) env))) (fun vs s' => Q { pos := vs } s') E s) (hn : nst e = true) : wpAny M A (evalArgs f true (backTo q (starEach (e :: es) env)) []) Q E s := by
  rw [star_cons hn] at h ⊢; exact evalArgs_plain h
end
theorem adr_ne1 (L : Nat) : L + 1 ≠ L + 1 + 1 + 1 := by omega
theorem adr_ne2 (L : Nat) : L + 1 + 1 ≠ L + 1 + 1 + 1 := by omega
theorem adr_lt3 (L : Nat) : ¬ L + 1 + 1 + 1 < L := by omega
/-- the statement of a def inside a def, its name in a cell -/
theorem exec_inner {w : World} {A : Around} {s : Shared} {Q : Flow → Shared → Prop} {E : Value → Shared → Prop} {name qual : PySem.Str} {params : Arguments} {body : List Stmt} {scope : Scope} {env : Env} {clos : List (PySem.Str × Addr)} {pos : Pos} {c P cc : Addr}
    (hB : (B1 w).In s.heap) (tb : TabOk s.heap) (hP : P ∈ TT) (ht : tab1 s.heap P pos.line pos.col qual) (hto : ∀ h', Heap.ExtBut P s.heap h' → s.heap.get? P = some (tabObj #[]) → tab1 h' P pos.line pos.col qual → TabOk h') (hcd : env.code = .ref c) (hC : CodeHd s.heap c P)
    (hcl : closureFor scope env = pure clos) (hgl : env.globals = mainGlobals) (hq : qualnameIn env name name = qual) (hd0 : params.defaults = []) (hk0 : params.kw_defaults = []) (han : annTrees params none env = [])
    (hk : env.scope.kind = .function) (hl : env.kindOf name = some .cell) (hc : env.cells.lookup name = some cc) (hv : s.heap.IsCell cc none)
    (h : ∀ f c' ctv doc h' tk, KpB [cc] s.heap h' → TabOk h' → s.heap.objs.size ≤ f → h'.get? f = some (fnMade name qual params body scope clos doc (((B1 w).mg "__name__").getD .none) c' ctv) → h'.CodeRec (.ref c') qual → h'.IsCell cc (some (.ref f)) →
      Q .next { s with heap := h', toks := tk }) :
    wpAny (model pw w) A (exec (.FunctionDef name params body [] none [] scope none name pos) env) Q E s := by
  refine nestDef_K hd0 hk0 han ?_
  rw [hq]
  refine makeInner hB tb hP ht hto hcd hC hcl hgl fun c' ctv doc h' tk kp hrec hsz => ?_
  have hv' : h'.IsCell cc none := IsCell.kp hv tb kp
  have tb' := kp.tab tb
  have hlt : cc < h'.objs.size := hv'.lt
  have hv2 : (h'.push (fnMade name qual params body scope clos doc (((B1 w).mg "__name__").getD .none) c' ctv)).IsCell cc none := hv'.keeps fun b o e => Heap.get?_push_of_some _ e
  refine wpAny_storeName_cell (s := { s with heap := h'.push _, toks := tk }) hk hl hc hv2 fun h'' hc'' hs'' => ?_
  have tb2 : TabOk (h'.push (fnMade name qual params body scope clos doc (((B1 w).mg "__name__").getD .none) c' ctv)) := Kp.push.tab tb'
  have hcn : cc ∉ TT := IsCell.T tb hv
  refine h h'.objs.size c' ctv doc h'' tk (fun b o hb f e => ?_) (tab_cell tb2 hv2 hs'') hsz ?_ ?_ hc''
  · have hb' : b ≠ cc := fun z => hb (z ▸ .head _)
    exact (hs''.2 b hb').trans (Heap.get?_push_of_some _ (kp.keep b o f e))
  · exact (hs''.2 _ (Nat.ne_of_gt hlt)).trans (Heap.get?_push_size _ rfl)
  · obtain ⟨c2, oc, vs, tk', e0, e1, e2, e3⟩ := hrec
    refine ⟨c2, oc, vs, tk', e0, (hs''.2 c2 fun z => ?_).trans (Heap.get?_push_of_some _ e1), e2, e3⟩
    obtain ⟨o, q1, q2⟩ := hv'
    rw [z, q1] at e1; cases e1
    rw [q2] at e2; cases e2
theorem f_digits2int {w : World} {l : List Int} {n : Nat} (hl : ∀ d ∈ l, 0 ≤ d ∧ d < 2 ^ n) (hz : n * l.length ≤ 2 ^ 25) (hll : l.length ≤ 32) (hn : n ≤ 2 ^ 25) : Fn (B1 w) 42 7 [.lst (l.map .int), .int n] (.int (dval n l)) := by
  constructor
  intro A s X vs Q E hB hTb hX hrep hh hdep hun hQ
  obtain ⟨la, ws, t, rfl, il, hla, rws⟩ : ∃ la ws t, vs = [.ref la, .int n t] ∧ s.heap.IsList la ws.toArray ∧ la ∉ X ∧ Reps X s.heap ws (l.map .int) := by
    cases hrep with
    | cons r1 r2 => cases r2 with
      | cons r2 r3 => cases r3; cases r2; cases r1 with
        | lst h1 h2 h3 => exact ⟨_, _, _, rfl, h1, h2, h3⟩
  have hlim : s.heap.NoLimit := hB.lim
  refine wpAny_call (codeAny_call_cells (fd := fd_digits2int) (binds := [(S "digits", .ref la), (S "n", .int n t)]) (by omega) (hB.K _ _ (g5_1 w)) rfl hlim (codeRec_of hB.K (g5_2 w)) g5_3 (g5_4 [_, _] rfl) g5_5 ?hkind (fun s₁ I => ?_) (by kernel_rfl) (by kernel_rfl) (by kernel_rfl))
  case hkind =>
    intro x hx
    rcases List.mem_cons.mp hx with rfl | hx
    · exact .inr (g5_6a _)
    · rw [List.mem_singleton] at hx; subst hx; exact .inr (g5_6b _)
  obtain ⟨h₁, t₁, rfl, hk1⟩ := I.done
  obtain ⟨L, hL⟩ : ∃ L, s.heap.objs.size = L := ⟨_, rfl⟩
  rw [hL] at I ⊢
  change InCallC s (env5 L).locals _ (env5 L).cells _ _ at I
  show wpAny (model pw w) (A.deeper (env5 L)) (execs (fdB (stAt 5)) (env5 L)) _ _ _
  have hd1 : (A.deeper (env5 L)).depth = A.depth + 1 := rfl
  have hu1 : (A.deeper (env5 L)).units = A.units + 3 := rfl
  obtain ⟨A', hA'⟩ : ∃ A', A.deeper (env5 L) = A' := ⟨_, rfl⟩
  have hh' : A'.handled = none := by rw [← hA']; exact hh
  rw [hA'] at hd1 hu1 ⊢
  obtain ⟨k1, k2, k3⟩ := g5_7 L
  obtain ⟨v1, v2, v3⟩ := g5_8 L (.ref la) (.int n t)
  have c1 : h₁.IsCell (L + 1) (some (.ref la)) := v1 ▸ I.cell _ _ k1
  have c2 : h₁.IsCell (L + 1 + 1) (some (.int n t)) := v2 ▸ I.cell _ _ k2
  have c3 : h₁.IsCell (L + 1 + 1 + 1) none := v3 ▸ I.cell _ _ k3
  have hB1 : (B1 w).In h₁ := hB.full hk1
  have tb1 : TabOk h₁ := hTb.full hk1
  obtain ⟨kind, kd, ki, kl⟩ := g5_9 L
  refine wpAny_mono (Q := fun fl s' => Q (match fl with | .ret v => v | _ => .none) s') (E := fun _ _ => False) ?_ (fun fl s' h => h) (fun _ _ h => h.elim)
  rw [b5]
  refine wpAny_execs_cons ?_
  rw [in5_is]
  refine exec_inner (P := 37) (c := 41) (qual := qD) hB1 tb1 (by decide) ?ht ?hto (g5_10 L) (codeHd41 hB1) (g5_11 L) (g5_15 L).1 (g5_12 L) g5_14.1 g5_14.2 (g5_13 L) kind ki k3 c3 ?_
  case ht => rw [pos5.1, pos5.2]; exact tb1.b
  case hto =>
    rw [pos5.1, pos5.2]
    intro h' hx hp ht
    exact ⟨tb1.a.ext hp (by decide) hx, ht⟩
  intro f c' ctv doc h₂ t₂ kB tb2 hf fO cr c3'
  have c1' := Heap.IsCell.kpB c1 tb1 (adr_ne1 L) kB
  have c2' := Heap.IsCell.kpB c2 tb1 (adr_ne2 L) kB
  have hlo : ∀ b o, s.heap.get? b = some o → Fix b o → h₂.get? b = some o := fun b o e fx => kB b o (fun m => by
    rw [List.mem_singleton] at m
    have h1 := Heap.lt_size e
    rw [m, hL] at h1
    exact adr_lt3 L h1) fx (hk1 b o e)
  have kp : Kp s.heap h₂ := ⟨fun b o fx e => hlo b o e fx, fun _ => tb2⟩
  have hB2 : (B1 w).In h₂ := hB.keep kp
  have il2 : h₂.IsList la ws.toArray := isList_kpB (xs := []) il kp.but (fun q => by cases q)
  have hlT : la ∉ TT := listT tb2 il2
  have hsz : ws.length = l.length := by rw [rws.length, List.length_map]
  -- the return
  refine wpAny_execs_cons ?_
  show wpAny (model pw w) A' (exec ret5 (env5 L)) _ _ _
  have cases5 : l = [] ∨ 0 < l.length := by cases l with
    | nil => exact .inl rfl
    | cons a r => exact .inr (Nat.succ_pos _)
  refine wpAny_Return_some (wpAny_IfExp (wpAny_isTrue_value (wpAny_Name (wpAny_loadName_cell kind kd k1 c1' (wpAny_truthy_list il2 (by rw [List.size_toArray, hsz]; omega) ?_)) (by kernel_rfl)) rfl))
  rcases cases5 with rfl | hpos
  · have hw : ws = [] := List.length_eq_zero_iff.mp (by simpa using hsz)
    subst hw
    refine wpAny_Constant_int ?_
    exact hQ _ h₂ _ kp (.int _ _)
  have hne : ws.toArray.isEmpty = false := by
    cases ws with
    | nil => simp at hsz; omega
    | cons a r => rfl
  rw [hne]
  obtain ⟨oc1, ec1, dc1⟩ := id c1'
  obtain ⟨oc2, ec2, dc2⟩ := id c2'
  obtain ⟨oc3, ec3, dc3⟩ := id c3'
  obtain ⟨cr0, ocr, vcr, tcr, e0, ecr, dcr, vcr1⟩ := id cr
  cases e0
  obtain ⟨oll, ell, cll, nll, dll⟩ := id il2
  have has : ∀ a ∈ [L + 1, L + 1 + 1, L + 1 + 1 + 1, f, c', la], a ∉ TT := by
    intro a ha
    simp only [List.mem_cons, List.not_mem_nil, or_false] at ha
    rcases ha with rfl | rfl | rfl | rfl | rfl | rfl
    · exact IsCell.T tb2 c1'
    · exact IsCell.T tb2 c2'
    · exact IsCell.T tb2 c3'
    · exact tb2.ne fO (.inl nofun)
    · exact tb2.codeT cr
    · exact hlT
  have hB' : ((B1 w).ext h₂ _ has).In h₂ := Bs.ext_in hB2
  have V : EnvD ((B1 w).ext h₂ _ has) f la l n := by
    refine ⟨⟨_, doc, _, c', ctv, fragOf_get (by simp) fO, fun h hi => ⟨c', ocr, vcr, tcr, rfl, hi.K _ _ (fragOf_get (by simp) ecr), dcr, vcr1⟩, ⟨_, oc1, by kernel_rfl, fragOf_get (by simp) ec1, dc1⟩, ⟨_, oc3, by kernel_rfl, fragOf_get (by simp) ec3, dc3⟩, ⟨_, oc2, t, by kernel_rfl, fragOf_get (by simp) ec2, dc2⟩⟩, oll, ws, nll, fragOf_get (by simp) ell, cll, dll, fun i x e => rws.int i x e⟩
  have F := inner5 V hl hz (by omega) hn 5 0 l.length hpos (Nat.le_refl _) (by omega)
  rw [part_all] at F
  refine Call_Name rfl (wpAny_Name (wpAny_loadName_cell kind ki k3 c3' ?_) (by kernel_rfl))
  refine callWith_function (o := fnMade (S "inner") qD (fdA in5) (fdB in5) (fdS in5) [(S "n", L + 1 + 1), (S "inner", L + 1 + 1 + 1), (S "digits", L + 1)] doc (((B1 w).mg "__name__").getD .none) c' ctv) (fd := fdD [(S "n", L + 1 + 1), (S "inner", L + 1 + 1 + 1), (S "digits", L + 1)] doc (((B1 w).mg "__name__").getD .none) c' ctv) ?_
  refine args_star (spl_cons (wpAny_Constant_int (spl_cons ?_ rfl)) rfl) rfl
  refine Call_Name rfl (Name_function_global kind kl (loadGlobal_builtin (env := env5 L) (by rw [(g5_15 L).1]; exact hB2.g) (mg0_len w) (by rw [(g5_15 L).2]; exact hB2.b) (mb0_len w) ?_) (by kernel_rfl))
  refine callWith_builtin rfl (args_star (spl_cons (wpAny_Name (wpAny_loadName_cell kind kd k1 c1' (spl_nil ?_)) (by kernel_rfl)) rfl) rfl)
  refine len_list il2 (by rw [List.size_toArray, hsz]; omega) (spl_nil ?_)
  refine ⟨⟨fO, rfl⟩, ?_⟩
  have hsz' : (ws.toArray.size : Int) = (l.length : Nat) := by rw [List.size_toArray, hsz]
  rw [hsz']
  refine F.run A' { s with heap := h₂, toks := _ } X _ _ _ hB' tb2 (fun x hx => ⟨(hX x hx).1, ?_⟩) (.cons (.int _ _) (.cons (.int _ _) .nil)) hh' (by omega) (by omega) fun v h₃ t₃ k₃ r₃ => ?_
  · obtain ⟨o, e⟩ := (hX x hx).2
    exact ⟨o, hlo x o e (.inl (hX x hx).1)⟩
  · exact hQ v h₃ t₃ (kp.trans k₃) r₃
end
end Mine
-- part U8
set_option maxHeartbeats 0
namespace Mine
noncomputable section
noncomputable def in4 : Stmt := (fdB (stAt 4)).getD 1 (.Pass default)
noncomputable def qI : PySem.Str := S "_int2digits.<locals>.inner"
noncomputable def fdI (clos : List (PySem.Str × Addr)) (doc pm : Value) (c' : Addr) (ctv : Value) : FuncData := fnX (S "inner") qI (fdA in4) (fdB in4) (fdS in4) clos .none .none doc pm none (.ref c') ctv
noncomputable def nsI : List PySem.Str := [S "x", S "L", S "R", S "mid", S "shift", S "upper", S "lower"]
theorem e1 : ∀ x ∈ nsI, (fdS in4).names.lookup x = some .local := by decide +kernel
theorem e2 : ∀ x ∈ (fdS in4).names, x.2 ≠ .cell := by decide +kernel
theorem e3 : (fdS in4).names.lookup (S "a_digits") = some .free ∧ (fdS in4).names.lookup (S "inner") = some .free ∧ (fdS in4).names.lookup (S "n") = some .free := by decide +kernel
theorem e4 (clos doc pm c' ctv) : ∀ vs : List Value, vs.length = [S "x", S "L", S "R"].length → bindArgs (fdI clos doc pm c' ctv) ⟨vs, []⟩ = pure ([S "x", S "L", S "R"].zip vs) := args3 _ fun _ _ _ => by kernel_rfl
theorem e5 : nsI.Nodup := by decide +kernel
theorem e6 : (fdS in4).kind = .function ∧ (fdS in4).isCoroutine = false ∧ (fdS in4).isGenerator = false := by decide +kernel
/-- what stands behind the inner def -/
structure EnvI (B : Bs) (f a : Addr) (n : Nat) : Prop where
  fn : ∃ clos doc pm c' ctv, B.K.lookup f = some ⟨.type "function", none, .func (fdI clos doc pm c' ctv), #[]⟩ ∧ (∀ h, B.In h → h.CodeRec (.ref c') qI) ∧
    (∃ c o, clos.lookup (S "a_digits") = some c ∧ B.K.lookup c = some o ∧ o.data = .cell (some (.ref a))) ∧
    (∃ c o, clos.lookup (S "inner") = some c ∧ B.K.lookup c = some o ∧ o.data = .cell (some (.ref f))) ∧
    (∃ c o t, clos.lookup (S "n") = some c ∧ B.K.lookup c = some o ∧ o.data = .cell (some (.int n t)))
  no : B.K.lookup a = none
structure In4 (B : Bs) (f a : Addr) (n : Nat) (C : Cx) : Prop where
  W : Wf C
  B : C.B = B
  N : C.names = nsI
  V : C.cv = [(S "a_digits", .obj a), (S "inner", .obj f), (S "n", .int n)]
  cl : C.cl = []
  E : ∃ fd L, C.env = callEnv fd L f ∧ fd.scope.kind = .function
section
variable {B : Bs} {f a : Addr} {n : Nat} {C : Cx} (I : In4 B f a n C)
include I
theorem nx4_x : C.names[0]? = some (S "x") := by rw [I.N]; kernel_rfl
theorem nx4_L : C.names[1]? = some (S "L") := by rw [I.N]; kernel_rfl
theorem nx4_R : C.names[2]? = some (S "R") := by rw [I.N]; kernel_rfl
theorem nx4_mid : C.names[3]? = some (S "mid") := by rw [I.N]; kernel_rfl
theorem nx4_shift : C.names[4]? = some (S "shift") := by rw [I.N]; kernel_rfl
theorem nx4_upper : C.names[5]? = some (S "upper") := by rw [I.N]; kernel_rfl
theorem nx4_lower : C.names[6]? = some (S "lower") := by rw [I.N]; kernel_rfl
theorem cv4_a : (S "a_digits", D.obj a) ∈ C.cv := by rw [I.V]; exact .head _
theorem cv4_inner : (S "inner", D.obj f) ∈ C.cv := by rw [I.V]; exact .tail _ (.head _)
theorem cv4_n : (S "n", D.int n) ∈ C.cv := by rw [I.V]; exact .tail _ (.tail _ (.head _))
theorem int4 : interactive C.env = false := by obtain ⟨fd, L, e, h⟩ := I.E; rw [e]; show (fd.scope.kind == .module && _) = false; rw [h]; rfl
end
theorem enter4 {B : Bs} {f a : Addr} {n : Nat} (V : EnvI B f a n) {k : Nat} {x y z : Int} {l l' : List D}
    (H : ∀ C : Cx, In4 B f a n C → C.A.depth + k < recursionLimit → C.A.units + 8 * k < cLine → Exs C ⟨[some (.int x), some (.int y), some (.int z), none, none, none, none], [(a, l)]⟩ (fdB in4) (fun fl σ => (fl = .ret .none ∨ (fl = .next ∧ D.none = .none)) ∧ σ.objs = [(a, l')])) : FnO B f (k + 1) [.int x, .int y, .int z] [(a, l)] [(a, l')] .none := by
  obtain ⟨⟨clos, doc, pm, c', ctv, hf, hcd, ⟨c1, o1, e11, e12, e13⟩, ⟨c2, o2, e21, e22, e23⟩, ⟨c3, o3, t3, e31, e32, e33⟩⟩, hno⟩ := V
  refine fno_of_body (fd := fdI clos doc pm c' ctv) (ps := [S "x", S "L", S "R"]) (names := nsI) [(S "a_digits", .obj a), (S "inner", .obj f), (S "n", .int n)] [(a, l)] [(a, l')] hf hcd rfl (e4 clos doc pm c' ctv) rfl e5 rfl e1 e2 e6.1 e6.2.1 e6.2.2 rfl rfl ?_ (fun b hb => ?_) ?_
  · intro x d hm
    rcases List.mem_cons.mp hm with e | hm
    · cases e; exact ⟨e3.1, c1, _, o1, e11, e12, e13, fun _ _ => .obj _⟩
    rcases List.mem_cons.mp hm with e | hm
    · cases e; exact ⟨e3.2.1, c2, _, o2, e21, e22, e23, fun _ _ => .obj _⟩
    rw [List.mem_singleton] at hm; cases hm
    exact ⟨e3.2.2, c3, _, o3, e31, e32, e33, fun _ _ => .int _ _⟩
  · obtain rfl : b = a := List.mem_singleton.mp hb
    exact hno
  · intro A L' h₀ X W hd hu
    refine exs_conv (H _ ⟨W, rfl, rfl, rfl, rfl, _, L', rfl, e6.1⟩ hd hu) ?_
    rfl
theorem inner4 {B : Bs} {f a : Addr} {n : Nat} (V : EnvI B f a n) {N : Nat} (hN : n * N ≤ 2 ^ 25) (hNN : N ≤ 2 ^ 20) (hn : n ≤ 2 ^ 25) : ∀ (k L R : Nat) (x : Int) (l : List Int), l.length = N → L < R → R ≤ N → R - L ≤ 2 ^ k → 0 ≤ x → x < 2 ^ (n * (R - L)) →
    FnO B f (k + 1) [.int x, .int L, .int R] [(a, l.map .int)] [(a, (wr l L (digs n x (R - L))).map .int)] .none := by
  intro k
  induction k with
  | zero =>
    intro L R x l hl h1 h2 h3 h4 h5
    obtain rfl : R = L + 1 := by omega
    rw [show L + 1 - L = 1 by omega] at h5 ⊢
    have hx : x % 2 ^ n = x := Int.emod_eq_of_lt h4 (by simpa using h5)
    rw [show digs n x 1 = [x] by simp [digs, hx], wr_one l x (by omega)]
    refine enter4 V fun C I hd hu => ?_
    have W := I.W
    refine exs_if_leave (ts_cmp (ev_add (ev_name W 1 (nx4_L I) rfl) ev_int) (ev_name W 2 (nx4_R I) rfl) co_eq) (fun q => ?_) (fun q => ?_)
    · refine exs_cons (ex_setitem I.cl (k := L) (ds := l.map .int) (d := .int x) (ev_name W 0 (nx4_x I) rfl) (ev_cons W (cv4_a I)) (ev_name W 1 (nx4_L I) rfl) .here (by omega) (by rw [List.length_map]; omega) (by omega) ?_)
      refine exs_cons (ex_ret0 ⟨.inl rfl, ?_⟩)
      simp
    · exact absurd q (by simp)
  | succ k ih =>
    intro L R x l hl h1 h2 h3 h4 h5
    by_cases h6 : R - L ≤ 2 ^ k
    · exact (ih L R x l hl h1 h2 h6 h4 h5).le (by omega)
    have hp : 0 < 2 ^ k := Nat.two_pow_pos k
    have hp2 : 2 ^ (k + 1) = 2 * 2 ^ k := by rw [Nat.pow_succ]; omega
    refine enter4 V fun C I hd hu => ?_
    have W := I.W
    obtain ⟨⟨clos, doc, pm, c', ctv, hf, _⟩, _⟩ := id V
    obtain ⟨m, hm⟩ : ∃ m, (L + R) / 2 = m := ⟨_, rfl⟩
    have hLm : L < m := by omega
    have hmR : m < R := by omega
    have hsum : n * (R - L) = n * (m - L) + n * (R - m) := by rw [← Nat.mul_add]; congr 1; omega
    have hmul : n * (R - L) ≤ n * N := Nat.mul_le_mul_left _ (by omega)
    have hS := two_pow_pos (n * (m - L))
    have hu0 : 0 ≤ x / 2 ^ (n * (m - L)) := Int.ediv_nonneg h4 (Int.le_of_lt hS)
    have hu1 : x / 2 ^ (n * (m - L)) < 2 ^ (n * (R - m)) := by
      apply Int.ediv_lt_of_lt_mul hS
      rw [← Int.pow_add, Nat.add_comm, ← hsum]; exact h5
    have hl0 := Int.emod_nonneg x (b := 2 ^ (n * (m - L))) (by omega)
    have hl1 := Int.emod_lt_of_pos x hS
    have hbu := bits_le hu0 hu1
    refine exs_if_leave (ts_cmp (ev_add (ev_name W 1 (nx4_L I) rfl) ev_int) (ev_name W 2 (nx4_R I) rfl) co_eq) (fun q => ?_) (fun q => ?_)
    · exact absurd q (by simp; omega)
    refine exs_assign (d := .int m) W 3 (nx4_mid I) (ev_conv (ev_shr' (m := 1) (ev_add (ev_name W 1 (nx4_L I) rfl) (ev_name W 2 (nx4_R I) rfl)) ev_int) ?_) ?_
    · congr 1; omega
    refine exs_assign (d := .int ((n * (m - L) : Nat) : Int)) W 4 (nx4_shift I) (ev_conv (ev_mul (ev_sub (ev_name W 3 (nx4_mid I) rfl) (ev_name W 1 (nx4_L I) rfl)) (ev_cons W (cv4_n I)) (.of_left (intBits_le_64 (by omega) (by omega)))) ?_) ?_
    · congr 1; rw [Int.mul_comm, Int.natCast_mul, Int.ofNat_sub (by omega)]
    refine exs_assign (d := .int (x / 2 ^ (n * (m - L)))) W 5 (nx4_upper I) (ev_shr' (ev_name W 0 (nx4_x I) rfl) (ev_name W 4 (nx4_shift I) rfl)) ?_
    refine exs_assign (d := .int (x % 2 ^ (n * (m - L)))) W 6 (nx4_lower I) (ev_conv (ev_xor (ev_name W 0 (nx4_x I) rfl) (ev_shl' (ev_name W 5 (nx4_upper I) rfl) (ev_name W 4 (nx4_shift I) rfl) (by omega))) ?_) ?_
    · rw [xor_hi _ h4]
    have F1 := ih L m (x % 2 ^ (n * (m - L))) l hl hLm (by omega) (by omega) hl0 hl1
    have F2 := ih m R (x / 2 ^ (n * (m - L))) (wr l L (digs n (x % 2 ^ (n * (m - L))) (m - L))) (by rw [wr_length, hl]; rw [digs_length]; omega) hmR h2 (by omega) hu0 hu1
    refine exs_cons (ex_callM (ob' := [(a, (wr l L (digs n (x % 2 ^ (n * (m - L))) (m - L))).map .int)]) W I.cl (cv4_inner I) (I.B ▸ hf) rfl (evs_cons (ev_name W 6 (nx4_lower I) rfl) (evs_cons (ev_name W 1 (nx4_L I) rfl) (evs_cons (ev_name W 3 (nx4_mid I) rfl) evs_nil))) (I.B ▸ F1) rfl hd hu ?_ (hi := int4 I))
    refine exs_cons (ex_callM (ob' := [(a, (wr (wr l L (digs n (x % 2 ^ (n * (m - L))) (m - L))) m (digs n (x / 2 ^ (n * (m - L))) (R - m))).map .int)]) W I.cl (cv4_inner I) (I.B ▸ hf) rfl (evs_cons (ev_name W 5 (nx4_upper I) rfl) (evs_cons (ev_name W 3 (nx4_mid I) rfl) (evs_cons (ev_name W 2 (nx4_R I) rfl) evs_nil))) (I.B ▸ F2) rfl hd hu ?_ (hi := int4 I))
    refine exs_nil ⟨.inr ⟨rfl, rfl⟩, ?_⟩
    have hd0 : m = L + (digs n (x % 2 ^ (n * (m - L))) (m - L)).length := by rw [digs_length]; omega
    have e1 : wr (wr l L (digs n (x % 2 ^ (n * (m - L))) (m - L))) m (digs n (x / 2 ^ (n * (m - L))) (R - m)) = wr l L (digs n x (R - L)) := by
      conv => lhs; arg 2; rw [hd0]
      rw [wr_wr _ (by rw [digs_length, digs_length]; omega), digs_mod, ← digs_add, show m - L + (R - m) = R - L by omega]
    rw [e1]
end
end Mine
-- part U9
set_option maxHeartbeats 0
namespace Mine
noncomputable section
abbrev env4 (L : Addr) : Env := callEnvC fd_int2digits L 35
theorem g4_1 (w : World) : (B1 w).K.lookup 35 = some ⟨.type "function", none, .func fd_int2digits, ⟨[]⟩⟩ := by kernel_rfl
theorem g4_2 (w : World) : codeIn (B1 w).K fd_int2digits.code fd_int2digits.qualname = true := by kernel_rfl
theorem g4_3 : fd_int2digits.body = .stmts (fdB (stAt 4)) := by kernel_rfl
theorem g4_4 : ∀ vs : List Value, vs.length = 2 → bindArgs fd_int2digits ⟨vs, []⟩ = pure ([S "a", S "n"].zip vs) := args2 _ fun _ _ => by kernel_rfl
theorem g4_5 : fd_int2digits.closure = [] := by kernel_rfl
theorem g4_6a : fd_int2digits.scope.names.lookup (S "a") = some .local := by kernel_rfl
theorem g4_6b (n : Nat) : fd_int2digits.scope.names.lookup (S "n") = some .cell ∧ ((cellsFrom n fd_int2digits.scope.names []).lookup (S "n")).isSome = true := ⟨by kernel_rfl, by kernel_rfl⟩
theorem g4_7 (L : Addr) : (env4 L).cells.lookup (S "n") = some (L + 1) ∧ (env4 L).cells.lookup (S "a_digits") = some (L + 1 + 1) ∧ (env4 L).cells.lookup (S "inner") = some (L + 1 + 1 + 1) := ⟨by kernel_rfl, by kernel_rfl, by kernel_rfl⟩
theorem g4_8 (L : Addr) (a b : Value) : bindC (env4 L).kindOf [(S "a", a), (S "n", b)] (fun _ => none) (S "n") = some b ∧ bindC (env4 L).kindOf [(S "a", a), (S "n", b)] (fun _ => none) (S "a_digits") = none ∧ bindC (env4 L).kindOf [(S "a", a), (S "n", b)] (fun _ => none) (S "inner") = none ∧ bindL (env4 L).kindOf [(S "a", a), (S "n", b)] (fun _ => none) (S "a") = some a := ⟨by kernel_rfl, by kernel_rfl, by kernel_rfl, by kernel_rfl⟩
theorem g4_9 (L : Addr) : (env4 L).scope.kind = .function ∧ (env4 L).kindOf (S "n") = some .cell ∧ (env4 L).kindOf (S "a_digits") = some .cell ∧ (env4 L).kindOf (S "inner") = some .cell ∧ (env4 L).kindOf (S "len") = some .globalImplicit ∧ (env4 L).kindOf (S "a") = some .local := ⟨by kernel_rfl, by kernel_rfl, by kernel_rfl, by kernel_rfl, by kernel_rfl, by kernel_rfl⟩
theorem g4_10 (L : Addr) : (env4 L).code = .ref 34 := by kernel_rfl
theorem g4_11 (L : Addr) : closureFor (fdS in4) (env4 L) = pure [(S "n", L + 1), (S "inner", L + 1 + 1 + 1), (S "a_digits", L + 1 + 1)] := by kernel_rfl
theorem g4_12 (L : Addr) : qualnameIn (env4 L) (S "inner") (S "inner") = qI := by kernel_rfl
theorem g4_13 (L : Addr) : annTrees (fdA in4) none (env4 L) = [] := by kernel_rfl
theorem g4_14 : (fdA in4).defaults = [] ∧ (fdA in4).kw_defaults = [] := ⟨by kernel_rfl, by kernel_rfl⟩
theorem g4_15 (L : Addr) : (env4 L).globals = mainGlobals ∧ (env4 L).builtins = builtinsNs := ⟨by kernel_rfl, by kernel_rfl⟩
noncomputable def as4 : Stmt := (fdB (stAt 4)).getD 0 (.Pass default)
noncomputable def if4 : Stmt := (fdB (stAt 4)).getD 2 (.Pass default)
noncomputable def ret4 : Stmt := (fdB (stAt 4)).getD 3 (.Pass default)
theorem b4 : fdB (stAt 4) = [as4, in4, if4, ret4] := by kernel_rfl
theorem in4_is : in4 = .FunctionDef (S "inner") (fdA in4) (fdB in4) [] none [] (fdS in4) none (S "inner") (fdP in4) := by kernel_rfl
theorem pos4 : (fdP in4).line = 32 ∧ (fdP in4).col = 4 := ⟨by kernel_rfl, by kernel_rfl⟩
theorem ns_kpB {h h' : Heap} {a : Addr} {m : PySem.Str → Option Value} {xs : List Addr} (x : h.Ns a m) (tb : TabOk h) (k : KpB xs h h') (ha : a ∉ xs) : h'.Ns a m := by
  obtain ⟨oL, es, ep, e, hd, r⟩ := x
  exact ⟨oL, es, ep, k _ _ ha (.inl (tb.nsT ⟨oL, es, ep, e, hd, r⟩)) e, hd, r⟩
theorem adr4_1 (L : Nat) : L + 1 ≠ L + 1 + 1 + 1 ∧ L + 1 + 1 ≠ L + 1 + 1 + 1 ∧ L + 1 ≠ L + 1 + 1 ∧ L + 1 + 1 + 1 ≠ L + 1 + 1 := by omega
theorem adr4_2 (L : Nat) : ¬ L + 1 + 1 + 1 < L ∧ ¬ L + 1 + 1 < L := by omega
/-- behind the def inside: the test, the call, the return -/
theorem rest4 {w : World} {x : Int} {n : Nat} (hx : 0 ≤ x) (hn0 : 0 < n) (hz : n * nd x n ≤ 2 ^ 25) (hll : nd x n ≤ 32) (hn : n ≤ 2 ^ 20) {A' : Around} {s : Shared} {X : List Addr} {Q : Value → Shared → Prop} {L la f c' : Nat} {h₄ : Heap} {t₄ : Nat} {t u : Tok} {ctv doc : Value} {Z : List Value} {m : PySem.Str → Option Value}
    (hh' : A'.handled = none) (hd1 : A'.depth + 6 < recursionLimit) (hu1 : A'.units + 48 < cLine) (hX : ∀ x ∈ X, x ∉ TT ∧ ∃ o, h₄.get? x = some o) (kp : Kp s.heap h₄) (tb4 : TabOk h₄) (hB4 : (B1 w).In h₄) (hns4 : h₄.Ns L m) (v4 : m (S "a") = some (.int x u))
    (c1d : h₄.IsCell (L + 1) (some (.int n t))) (c2d : h₄.IsCell (L + 1 + 1) (some (.ref la))) (c3d : h₄.IsCell (L + 1 + 1 + 1) (some (.ref f)))
    (fO : h₄.get? f = some (fnMade (S "inner") qI (fdA in4) (fdB in4) (fdS in4) [(S "n", L + 1), (S "inner", L + 1 + 1 + 1), (S "a_digits", L + 1 + 1)] doc (((B1 w).mg "__name__").getD .none) c' ctv)) (cr : h₄.CodeRec (.ref c') qI)
    (laO4 : h₄.get? la = some (lob Z 0)) (laX : la ∉ X) (laK : (B1 w).K.lookup la = none) (laS : s.heap.get? la = none) (hZr : ∀ Y h, Reps Y h Z ((List.replicate (nd x n) (0 : Int)).map .int))
    (hQ : ∀ v h' t', Kp s.heap h' → Rep X h' v (.lst ((digs n x (nd x n)).map .int)) → Q v { s with heap := h', toks := t' }) :
    wpAny (model pw w) A' (execs [if4, ret4] (env4 L)) (fun fl s' => Q (match fl with | .ret v => v | _ => .none) s') (fun _ _ => False) { s with heap := h₄, toks := t₄ } := by
  obtain ⟨k1, k2, k3⟩ := g4_7 L
  obtain ⟨kind, kn, ka, ki, kl, kx⟩ := g4_9 L
  have tail : ∀ (h₅ : Heap) (t₅ : Nat) ws n₅, h₅.IsCell (L + 1 + 1) (some (.ref la)) → h₅.get? la = some (lob ws n₅) → Reps X h₅ ws ((digs n x (nd x n)).map .int) → Kp s.heap h₅ → wpAny (model pw w) A' (execs [ret4] (env4 L)) (fun fl s' => Q (match fl with | .ret v => v | _ => .none) s') (fun _ _ => False) { s with heap := h₅, toks := t₅ } := fun h₅ t₅ ws n₅ hc e r k => by
    refine wpAny_execs_cons ?_
    refine wpAny_Return_some (wpAny_Name (wpAny_loadName_cell kind ka k2 hc ?_) (by kernel_rfl))
    exact hQ _ h₅ _ k (.lst ⟨_, e, rfl, n₅, rfl⟩ laX r)
  refine wpAny_execs_cons ?_
  show wpAny (model pw w) A' (exec if4 (env4 L)) _ _ _
  refine wpAny_If (wpAny_isTrue_value (wpAny_Name (wpAny_loadName_local kind kx hns4 v4 (P.truthy_int ?_)) (by kernel_rfl)) rfl)
  by_cases hx0 : x = 0
  · rw [if_neg (by simp [hx0])]
    refine wpAny_execs_nil ?_
    have hnd : nd x n = 0 := by
      subst hx0
      unfold nd
      rw [show Builtin.Int.intBits 0 = 0 from rfl]
      exact Nat.div_eq_of_lt (by omega)
    refine tail h₄ _ Z 0 c2d laO4 ?_ kp
    have := hZr X h₄
    rw [hnd] at this ⊢
    exact this
  · rw [if_pos (by simpa using hx0)]
    have hpos : 0 < nd x n := by
      rcases Nat.eq_zero_or_pos (nd x n) with z | z
      · exfalso
        have h1 := lt_nd hx hn0
        rw [z, Nat.mul_zero] at h1
        have : (2 : Int) ^ 0 = 1 := rfl
        omega
      · exact z
    obtain ⟨oc1, ec1, dc1⟩ := id c1d
    obtain ⟨oc2, ec2, dc2⟩ := id c2d
    obtain ⟨oc3, ec3, dc3⟩ := id c3d
    obtain ⟨cr0, ocr, vcr, tcr, e0, ecr, dcr, vcr1⟩ := id cr
    cases e0
    have has : ∀ a ∈ [L + 1, L + 1 + 1, L + 1 + 1 + 1, f, c'], a ∉ TT := by
      intro a ha
      simp only [List.mem_cons, List.not_mem_nil, or_false] at ha
      rcases ha with rfl | rfl | rfl | rfl | rfl
      · exact IsCell.T tb4 c1d
      · exact IsCell.T tb4 c2d
      · exact IsCell.T tb4 c3d
      · exact tb4.ne fO (.inl nofun)
      · exact tb4.codeT cr
    have hB' : ((B1 w).ext h₄ _ has).In h₄ := Bs.ext_in hB4
    have hno : ((B1 w).ext h₄ _ has).K.lookup la = none := by
      refine fragOf_none (fun m => ?_) ?_
      · simp only [List.mem_cons, List.not_mem_nil, or_false] at m
        rcases m with rfl | rfl | rfl | rfl | rfl
        · rw [laO4] at ec1; cases ec1; cases dc1
        · rw [laO4] at ec2; cases ec2; cases dc2
        · rw [laO4] at ec3; cases ec3; cases dc3
        · rw [laO4] at fO; exact absurd (congrArg Obj.data (Option.some.inj fO)) nofun
        · rw [laO4] at ecr; cases ecr; cases dcr
      · exact laK
    have V : EnvI ((B1 w).ext h₄ _ has) f la n := by
      refine ⟨⟨_, doc, _, c', ctv, fragOf_get (by simp) fO, fun h hi => ⟨c', ocr, vcr, tcr, rfl, hi.K _ _ (fragOf_get (by simp) ecr), dcr, vcr1⟩, ⟨_, oc2, by kernel_rfl, fragOf_get (by simp) ec2, dc2⟩, ⟨_, oc3, by kernel_rfl, fragOf_get (by simp) ec3, dc3⟩, ⟨_, oc1, t, by kernel_rfl, fragOf_get (by simp) ec1, dc1⟩⟩, hno⟩
    have F := inner4 V (N := nd x n) (by omega) (by omega) (by omega) 5 0 (nd x n) x (List.replicate (nd x n) 0) (by rw [List.length_replicate]) hpos (Nat.le_refl _) (by omega) hx (by rw [Nat.sub_zero]; exact lt_nd hx hn0)
    rw [Nat.sub_zero, wr_all _ _ (by rw [digs_length, List.length_replicate])] at F
    refine wpAny_execs_cons (wpAny_Expr (Call_Name rfl (wpAny_Name (wpAny_loadName_cell kind ki k3 c3d ?_) (by kernel_rfl))) (by kernel_rfl) rfl)
    refine callWith_function (o := fnMade (S "inner") qI (fdA in4) (fdB in4) (fdS in4) [(S "n", L + 1), (S "inner", L + 1 + 1 + 1), (S "a_digits", L + 1 + 1)] doc (((B1 w).mg "__name__").getD .none) c' ctv) (fd := fdI [(S "n", L + 1), (S "inner", L + 1 + 1 + 1), (S "a_digits", L + 1 + 1)] doc (((B1 w).mg "__name__").getD .none) c' ctv) ?_
    refine args_star (spl_cons (wpAny_Name (wpAny_loadName_local kind kx hns4 v4 (spl_cons (wpAny_Constant_int (spl_cons ?_ rfl)) rfl)) (by kernel_rfl)) rfl) rfl
    refine Call_Name rfl (Name_function_global kind kl (loadGlobal_builtin (env := env4 L) (by rw [(g4_15 L).1]; exact hB4.g) (mg0_len w) (by rw [(g4_15 L).2]; exact hB4.b) (mb0_len w) ?_) (by kernel_rfl))
    refine callWith_builtin rfl (args_star (spl_cons (wpAny_Name (wpAny_loadName_cell kind ka k2 c2d (spl_nil ?_)) (by kernel_rfl)) rfl) rfl)
    have hZl : Z.length = nd x n := by rw [(hZr X h₄).length, List.length_map, List.length_replicate]
    have il4 : h₄.IsList la Z.toArray := ⟨_, laO4, rfl, 0, rfl⟩
    refine len_list il4 (by rw [List.size_toArray, hZl]; omega) (spl_nil ?_)
    refine ⟨⟨fO, rfl⟩, ?_⟩
    have hsz' : (Z.toArray.size : Int) = (nd x n : Nat) := by rw [List.size_toArray, hZl]
    rw [hsz']
    refine F.run A' { s with heap := h₄, toks := _ } X _ _ _ hB' tb4 (fun y hy => ⟨(hX y hy).1, ?_⟩) ⟨fun a l hm => ?_, ?_⟩ (.cons (.int _ _) (.cons (.int _ _) (.cons (.int _ _) .nil))) hh' (by omega) (by omega) fun v h₅ t₅ k₅ tb5 ow r₅ => ?_
    · obtain ⟨o, e⟩ := (hX y hy).2
      exact ⟨o, e⟩
    · rw [List.mem_singleton] at hm; cases hm
      exact ⟨Z, 0, laO4, hZr _ _, laX⟩
    · exact List.nodup_cons.mpr ⟨fun q => (nomatch q), .nil⟩
    · cases r₅
      refine wpAny_execs_nil ?_
      obtain ⟨ws, n₅, e5, r5, _⟩ := ow.at' la _ (.head _)
      refine tail h₅ _ ws n₅ ?_ e5 (r5.mono fun a ha => List.mem_append_left _ ha) ⟨fun b o fx e => k₅ b o (fun m => ?_) fx (kp.keep b o fx e), fun _ => tb5⟩
      · exact ⟨oc2, k₅ _ _ (fun m => by rw [List.mem_singleton.mp m, laO4] at ec2; cases ec2; cases dc2) (.inl (IsCell.T tb4 c2d)) ec2, dc2⟩
      · have hb1 : b = la := List.mem_singleton.mp m
        subst hb1
        rw [laS] at e; cases e
theorem f_int2digits {w : World} {x : Int} {n : Nat} (hx : 0 ≤ x) (hn0 : 0 < n) (hz : n * nd x n ≤ 2 ^ 25) (hll : nd x n ≤ 32) (hn : n ≤ 2 ^ 20) (hb : Builtin.Int.intBits x ≤ 2 ^ 25) : Fn (B1 w) 35 7 [.int x, .int n] (.lst ((digs n x (nd x n)).map .int)) := by
  constructor
  intro A s X vs Q E hB hTb hX hrep hh hdep hun hQ
  obtain ⟨u, t, rfl⟩ : ∃ u t, vs = [.int x u, .int n t] := by
    cases hrep with
    | cons r1 r2 => cases r2 with
      | cons r2 r3 => cases r3; cases r2; cases r1; exact ⟨_, _, rfl⟩
  have hlim : s.heap.NoLimit := hB.lim
  refine wpAny_call (codeAny_call_cells (fd := fd_int2digits) (binds := [(S "a", .int x u), (S "n", .int n t)]) (by omega) (hB.K _ _ (g4_1 w)) rfl hlim (codeRec_of hB.K (g4_2 w)) g4_3 (g4_4 [_, _] rfl) g4_5 ?hkind (fun s₁ I => ?_) (by kernel_rfl) (by kernel_rfl) (by kernel_rfl))
  case hkind =>
    intro x hx
    rcases List.mem_cons.mp hx with rfl | hx
    · exact .inl g4_6a
    · rw [List.mem_singleton] at hx; subst hx; exact .inr (g4_6b _)
  obtain ⟨h₁, t₁, rfl, hk1⟩ := I.done
  obtain ⟨L, hL⟩ : ∃ L, s.heap.objs.size = L := ⟨_, rfl⟩
  rw [hL] at I ⊢
  change InCallC s (env4 L).locals _ (env4 L).cells _ _ at I
  show wpAny (model pw w) (A.deeper (env4 L)) (execs (fdB (stAt 4)) (env4 L)) _ _ _
  have hd1 : (A.deeper (env4 L)).depth = A.depth + 1 := rfl
  have hu1 : (A.deeper (env4 L)).units = A.units + 3 := rfl
  obtain ⟨A', hA'⟩ : ∃ A', A.deeper (env4 L) = A' := ⟨_, rfl⟩
  have hh' : A'.handled = none := by rw [← hA']; exact hh
  rw [hA'] at hd1 hu1 ⊢
  obtain ⟨k1, k2, k3⟩ := g4_7 L
  obtain ⟨v1, v2, v3, v4⟩ := g4_8 L (.int x u) (.int n t)
  have c1 : h₁.IsCell (L + 1) (some (.int n t)) := v1 ▸ I.cell _ _ k1
  have c2 : h₁.IsCell (L + 1 + 1) none := v2 ▸ I.cell _ _ k2
  have c3 : h₁.IsCell (L + 1 + 1 + 1) none := v3 ▸ I.cell _ _ k3
  have hns := I.toInCall.ns
  have hB1 : (B1 w).In h₁ := hB.full hk1
  have tb1 : TabOk h₁ := hTb.full hk1
  obtain ⟨kind, kn, ka, ki, kl, kx⟩ := g4_9 L
  refine wpAny_mono (Q := fun fl s' => Q (match fl with | .ret v => v | _ => .none) s') (E := fun _ _ => False) ?_ (fun fl s' h => h) (fun _ _ h => h.elim)
  rw [b4]
  refine wpAny_execs_cons ?_
  show wpAny (model pw w) A' (exec as4 (env4 L)) _ _ _
  refine wpAny_Assign_Name (wpAny_BinOp (List_ (spl_cons (wpAny_Constant_int (spl_nil (wpAny_newObj_type ?_ ?_))) rfl))) rfl
  rotate_left
  · show (1 : Nat) ≤ sizeLine; rw [sizeLine_eq]; omega
  refine wpAny_BinOp (wpAny_BinOp (wpAny_BinOp (MethodCall_ (wpAny_Name (wpAny_loadName_local kind kx (hns.keeps fun b o e => Heap.get?_push_of_some _ e) v4 (getMethod_int_bit_length (callWith_method0 (call_int_bit_length ?_)))) (by kernel_rfl)) rfl)))
  have kpn : ∀ (o' : Obj) b o, h₁.get? b = some o → (h₁.push o').get? b = some o := fun o' b o e => Heap.get?_push_of_some _ e
  have hfd : ((Builtin.Int.intBits x : Int) + n - 1).fdiv n = (nd x n : Int) := by
    rw [Int.fdiv_eq_ediv_of_nonneg _ (by omega)]
    unfold nd
    rw [Int.natCast_ediv, Int.ofNat_sub (by omega), Int.natCast_add]; rfl
  refine wpAny_Name (wpAny_loadName_cell kind kn k1 (c1.keeps (kpn _)) (P.add_int ?_)) (by kernel_rfl)
  refine wpAny_Constant_int (P.sub_int ?_)
  refine wpAny_Name (wpAny_loadName_cell kind kn k1 (c1.keeps (kpn _)) (floordiv_int (by omega) ?_ (.inl (nopy (n := 21) (by omega) ?_ (by omega))))) (by kernel_rfl)
  rotate_left
  · have : (2 : Int) ^ 21 = 2097152 := by decide
    have : (2 : Nat) ^ 20 = 1048576 := by decide
    omega
  rw [hfd]
  refine mulL (vs := [.int 0 _]) ⟨_, Heap.get?_push_size _ rfl, rfl, 0, rfl⟩ (by omega) (by omega) ?_ ?_
  · rw [Int.toNat_natCast, List.length_singleton]; omega
  rw [Int.toNat_natCast]
  generalize hh2 : h₁.push _ = h₂
  have kp2 : ∀ b o, h₁.get? b = some o → h₂.get? b = some o := fun b o e => hh2 ▸ kpn _ b o e
  have c1b := c1.keeps kp2
  have c2b := c2.keeps kp2
  have c3b := c3.keeps kp2
  have tb2 : TabOk h₂ := tb1.full kp2
  obtain ⟨la, hla⟩ : ∃ la, h₂.objs.size = la := ⟨_, rfl⟩
  rw [hla]
  generalize hZ : (List.replicate (nd x n) [_]).flatten = Z
  have hZr : ∀ Y h, Reps Y h Z ((List.replicate (nd x n) (0 : Int)).map .int) := fun Y h => by
    have := (Reps.cons (.int 0 (t₁ : Tok)) (Reps.nil (X := Y) (h := h))).rep (nd x n)
    rw [← hZ, List.map_replicate]
    rw [List.flatten_replicate_singleton (a := D.int 0)] at this
    exact this
  have kp3 : ∀ b o, h₂.get? b = some o → (h₂.push (lob Z 0)).get? b = some o := fun b o e => Heap.get?_push_of_some _ e
  refine wpAny_storeName_cell (s := { s with heap := h₂.push (lob Z 0), toks := _ }) kind ka k2 (c2b.keeps kp3) fun h₃ c2c hs3 => ?_
  dsimp only at hs3
  obtain ⟨n1, n2, n3, n4⟩ := adr4_1 L
  obtain ⟨n5, n6⟩ := adr4_2 L
  have tb3 : TabOk h₃ := tab_cell (tb2.full kp3) (c2b.keeps kp3) hs3
  have c1c := (c1b.keeps kp3).sameBut hs3 n3
  have c3c := (c3b.keeps kp3).sameBut hs3 n4
  have laL : la ≠ L + 1 + 1 := fun z => by have := c2b.lt; rw [hla, z] at this; exact Nat.lt_irrefl _ this
  have laL3 : la ≠ L + 1 + 1 + 1 := fun z => by have := c3b.lt; rw [hla, z] at this; exact Nat.lt_irrefl _ this
  have laO : h₃.get? la = some (lob Z 0) := (hs3.2 la laL).trans (by rw [← hla]; exact Heap.get?_push_size _ rfl)
  have hs0 : ∀ b o, s.heap.get? b = some o → h₃.get? b = some o := fun b o e => (hs3.2 b fun z => by
    have h1 := Heap.lt_size e
    rw [z, hL] at h1
    exact n6 h1).trans (kp3 _ _ (kp2 _ _ (hk1 _ _ e)))
  have hns3 := ((hns.keeps kp2).keeps kp3).sameBut hs3 (show L ≠ L + 1 + 1 from by omega)
  have hB3 : (B1 w).In h₃ := hB.full hs0
  have laX : la ∉ X := fun q => by
    obtain ⟨_, o, e⟩ := hX la q
    have := Heap.lt_size (kp2 _ _ (hk1 _ _ e))
    rw [hla] at this; exact Nat.lt_irrefl _ this
  have laT : la ∉ TT := tb3.ne laO (.inl nofun)
  have laS : s.heap.get? la = none := by
    cases e : s.heap.get? la with
    | none => rfl
    | some o => have := Heap.lt_size (kp2 _ _ (hk1 _ _ e)); rw [hla] at this; exact absurd this (Nat.lt_irrefl _)
  refine wpAny_execs_cons ?_
  rw [in4_is]
  refine exec_inner (P := 30) (c := 34) (qual := qI) hB3 tb3 (by decide) ?ht ?hto (g4_10 L) (codeHd34 hB3) (g4_11 L) (g4_15 L).1 (g4_12 L) g4_14.1 g4_14.2 (g4_13 L) kind ki k3 c3c ?_
  case ht => rw [pos4.1, pos4.2]; exact tb3.a
  case hto =>
    rw [pos4.1, pos4.2]
    intro h' hx hp ht
    exact ⟨ht, tb3.b.ext hp (by decide) hx⟩
  intro f c' ctv doc h₄ t₄ kB tb4 hf fO cr c3d
  have c1d := Heap.IsCell.kpB c1c tb3 n1 kB
  have c2d := Heap.IsCell.kpB c2c tb3 n2 kB
  have laO4 : h₄.get? la = some (lob Z 0) := kB la _ (fun m => laL3 (List.mem_singleton.mp m)) (.inl laT) laO
  have hlo : ∀ b o, s.heap.get? b = some o → Fix b o → h₄.get? b = some o := fun b o e fx => kB b o (fun m => by
    rw [List.mem_singleton] at m
    have h1 := Heap.lt_size e
    rw [m, hL] at h1
    exact n5 h1) fx (hs0 b o e)
  have kp : Kp s.heap h₄ := ⟨fun b o fx e => hlo b o e fx, fun _ => tb4⟩
  have hB4 : (B1 w).In h₄ := hB.keep kp
  have hns4 := ns_kpB hns3 tb3 kB (fun m => by rw [List.mem_singleton] at m; exact absurd (show L = L + 1 + 1 + 1 from m) (by omega))
  refine rest4 (s := s) hx hn0 hz hll hn hh' (by omega) (by omega) (fun y hy => ⟨(hX y hy).1, ?_⟩) kp tb4 hB4 hns4 v4 c1d c2d c3d fO cr laO4 laX ?_ laS hZr hQ
  · obtain ⟨o, e⟩ := (hX y hy).2
    exact ⟨o, hlo y o e (.inl (hX y hy).1)⟩
  · cases e : (B1 w).K.lookup la with
    | none => rfl
    | some o => have := hB.K _ _ e; rw [laS] at this; cases this
end
end Mine
-- part U10
set_option maxHeartbeats 0
namespace Mine
noncomputable section
theorem exact_bits {b : Int} (h : 0 < b) : exactBits b (Builtin.Int.intBits b) := by
  refine ⟨?_, lt_bits (by omega), h⟩
  unfold Builtin.Int.intBits
  have h0 : b.natAbs ≠ 0 := by omega
  rw [if_neg (by simpa using h0)]
  have h1 := Nat.log2_self_le h0
  have h2 : ((2 ^ b.natAbs.log2 : Nat) : Int) ≤ ((b.natAbs : Nat) : Int) := Int.ofNat_le.mpr h1
  push_cast at h2
  rw [Int.pow_succ]
  omega
theorem nd_le {x : Int} {n m : Nat} (h0 : 0 ≤ x) (hn : 0 < n) (h : x < 2 ^ (m * n)) : nd x n ≤ m := by
  have h1 := bits_le h0 h
  unfold nd
  rcases Nat.eq_zero_or_pos m with rfl | hm
  · have : Builtin.Int.intBits x = 0 := by omega
    rw [this]
    exact Nat.le_of_eq (Nat.div_eq_of_lt (by omega))
  · have : (Builtin.Int.intBits x + n - 1) / n < m + 1 := by
      rw [Nat.div_lt_iff_lt_mul hn, Nat.add_mul]; omega
    omega
/-- what stands behind the digits read from the top -/
noncomputable def tops (n : Nat) (ds : List Int) (j : Nat) : Int := dval n ((ds.reverse.take j).reverse)
theorem tops_succ {n : Nat} {ds : List Int} {j : Nat} {d : Int} (h : ds.reverse[j]? = some d) : tops n ds (j + 1) = tops n ds j * 2 ^ n + d := by
  unfold tops
  have hj : j < ds.reverse.length := by
    have := List.getElem?_eq_some_iff.mp h
    exact this.1
  have hd : ds.reverse[j] = d := by
    have := List.getElem?_eq_some_iff.mp h
    exact this.2
  rw [List.take_succ_eq_append_getElem hj, List.reverse_append, hd]
  simp only [List.reverse_cons, List.reverse_nil, List.nil_append, List.singleton_append, dval]
  grind
theorem tops_step {V b P d : Int} (hb : 0 < b) (hP : 0 < P) : (V * P + d) / b = V / b * P + (V % b * P + d) / b ∧ (V * P + d) % b = (V % b * P + d) % b := by
  have e := Int.emod_add_mul_ediv V b
  have : V * P + d = (V % b * P + d) + b * (V / b * P) := by
    have : V * P = (V % b + b * (V / b)) * P := by rw [e]
    grind
  rw [this]
  constructor
  · rw [Int.add_mul_ediv_left _ _ (by omega)]; omega
  · rw [Int.add_mul_emod_self_left]
theorem f_divmod_pos {w : World} {a b : Int} (ha : 0 ≤ a) (hb : 0 < b) (hn : Builtin.Int.intBits b ≤ 7998) (hab : a < 2 ^ (32 * Builtin.Int.intBits b)) : Fn (B1 w) 49 8 [.int a, .int b] (dm a b) := by
  have hex := exact_bits hb
  generalize hnn : Builtin.Int.intBits b = n at *
  have hn0 : 0 < n := by
    rcases Nat.eq_zero_or_pos n with rfl | h
    · obtain ⟨h1, h2, h3⟩ := hex
      have : (2 : Int) ^ 0 = 1 := rfl
      omega
    · exact h
  have hm := nd_le ha hn0 hab
  have hba := bits_le ha hab
  obtain ⟨m, hmm⟩ : ∃ m, nd a n = m := ⟨_, rfl⟩
  have hnm : n * m ≤ n * 32 := Nat.mul_le_mul_left _ (by omega)
  have hlt := lt_nd ha hn0
  rw [hmm] at hm hlt
  obtain ⟨ds, hds⟩ : ∃ ds, digs n a m = ds := ⟨_, rfl⟩
  have hdl : ds.length = m := by rw [← hds, digs_length]
  have hdr : ∀ d ∈ ds, 0 ≤ d ∧ d < 2 ^ n := by rw [← hds]; exact digs_range n m a
  have hp := two_pow_pos n
  refine fn_divmod_pos rfl fun C I hd hu => ?_
  have W := I.W
  have F1 : Fn (B1 w) 35 7 [.int a, .int n] (.lst (ds.map .int)) := by
    have := f_int2digits (w := w) ha hn0 (by rw [hmm]; omega) (by rw [hmm]; exact hm) (by omega) (by omega)
    rw [hmm, hds] at this; exact this
  refine exs_assign (d := .int n) W 2 (nx_divmod_pos_n I) (ev_conv (ev_bitlen (ev_name W 1 (nx_divmod_pos_b I) rfl)) (by rw [hnn])) ?_
  refine exs_assign (d := .lst (ds.map .int)) W 3 (nx_divmod_pos_a_digits I) (ev_def W I.B (kn_divmod_pos_int2digits I) (mg_int2digits I.B) (g4_1 w) rfl (evs_cons (ev_name W 0 (nx_divmod_pos_a I) rfl) (evs_cons (ev_name W 2 (nx_divmod_pos_n I) rfl) evs_nil)) F1 hd hu) ?_
  refine exs_assign (d := .int 0) W 4 (nx_divmod_pos_r I) ev_int ?_
  refine exs_cons (ex_own W I.cl 5 (nx_divmod_pos_q_digits I) evs_nil rfl fun qa _ => ?_)
  let V := tops n ds
  refine exs_cons (ex_for W (ds := (ds.map .int).reverse) 6 (nx_divmod_pos_a_digit I) (evIt_rev W (kn_divmod_pos_reversed I) (mg_reversed I.B) (mb_reversed I.B) (ev_name W 3 (nx_divmod_pos_a_digits I) rfl)) (fun j σ => ∃ (e1 e2 : Option D) (qs : List Int), σ = ⟨[some (.int a), some (.int b), some (.int n), some (.lst (ds.map .int)), some (.int (V j % b)), some (.obj qa), e1, e2, none], [(qa, qs.map .int)]⟩ ∧ qs.length = j ∧ (∀ q ∈ qs, 0 ≤ q ∧ q < 2 ^ n) ∧ dval n qs.reverse = V j / b) ?_ ?_ ?_)
  · refine ⟨none, none, [], ?_, rfl, fun q h => (nomatch h), ?_⟩
    · have : V 0 % b = 0 := by show dval n _ % b = 0; simp [dval]
      rw [this]; rfl
    · show dval n [] = dval n _ / b
      simp [dval]
  · rintro j d _ hj ⟨e1, e2, qs, rfl, h1, h2, h3⟩
    rw [← List.map_reverse, List.getElem?_map] at hj
    obtain ⟨d', hd', rfl⟩ : ∃ d', ds.reverse[j]? = some d' ∧ d = .int d' := by
      cases e : ds.reverse[j]? with
      | none => rw [e] at hj; cases hj
      | some x => rw [e] at hj; cases hj; exact ⟨_, rfl, rfl⟩
    have hjl : j < ds.length := by
      have := (List.getElem?_eq_some_iff.mp hd').1
      simpa using this
    obtain ⟨d0, d1⟩ := hdr d' (List.mem_reverse.mp (List.mem_of_getElem? hd'))
    have r0 := Int.emod_nonneg (V j) (b := b) (by omega)
    have r1 := Int.emod_lt_of_pos (V j) hb
    have hA0 : 0 ≤ V j % b * 2 ^ n + d' := by have := Int.mul_nonneg r0 (Int.le_of_lt hp); omega
    have hA1 : V j % b * 2 ^ n + d' < b * 2 ^ n := by
      have : V j % b * 2 ^ n ≤ (b - 1) * 2 ^ n := Int.mul_le_mul_of_nonneg_right (by omega) (Int.le_of_lt hp)
      grind
    have hbr := bits_le r0 (m := n) (by have := hex.2.1; omega)
    have F2 := f_div2n1n (w := w) hex hA0 hA1 hn
    refine exs_tuple (is := [7, 4]) (ds := [.int ((V j % b * 2 ^ n + d') / b), .int ((V j % b * 2 ^ n + d') % b)]) W (.cons 7 (nx_divmod_pos_q_digit I) (.cons 4 (nx_divmod_pos_r I) .nil)) (ev_def W I.B (kn_divmod_pos_div2n1n I) (mg_div2n1n I.B) (s1_div2n1n w) rfl (evs_cons (ev_add (ev_shl' (ev_name W 4 (nx_divmod_pos_r I) rfl) (ev_name W 2 (nx_divmod_pos_n I) rfl) (by omega)) (ev_name W 6 (nx_divmod_pos_a_digit I) rfl)) (evs_cons (ev_name W 1 (nx_divmod_pos_b I) rfl) (evs_cons (ev_name W 2 (nx_divmod_pos_n I) rfl) evs_nil))) (F2.le (by omega)) hd hu) rfl ?_
    refine exs_cons (ex_append (ds := qs.map .int) (d := .int ((V j % b * 2 ^ n + d') / b)) W I.cl 5 (nx_divmod_pos_q_digits I) rfl (ev_name W 7 (nx_divmod_pos_q_digit I) rfl) .here (by rw [List.length_map]; omega) ?_ (hi := ?_))
    · refine exs_nil ?_
      obtain ⟨s1, s2⟩ := tops_step (V := V j) (d := d') hb hp
      have hV : V (j + 1) = V j * 2 ^ n + d' := tops_succ hd'
      have q0 : 0 ≤ (V j % b * 2 ^ n + d') / b := Int.ediv_nonneg hA0 (by omega)
      have q1 : (V j % b * 2 ^ n + d') / b < 2 ^ n := Int.ediv_lt_of_lt_mul hb (by rw [Int.mul_comm (2 ^ n) b]; exact hA1)
      refine ⟨some (.int d'), some (.int ((V j % b * 2 ^ n + d') / b)), qs ++ [(V j % b * 2 ^ n + d') / b], ?_, by simp [h1], ?_, ?_⟩
      · rw [hV, s2, List.map_append]; rfl
      · intro q hq
        rcases List.mem_append.mp hq with hq | hq
        · exact h2 q hq
        · rw [List.mem_singleton] at hq; subst hq; exact ⟨q0, q1⟩
      · rw [hV, s1, List.reverse_append]
        show (V j % b * 2 ^ n + d') / b + 2 ^ n * dval n qs.reverse = _
        rw [h3]; grind
    · obtain ⟨L, e⟩ := I.E; rw [e]; kernel_rfl
  · rintro _ ⟨e1, e2, qs, rfl, h1, h2, h3⟩
    have hlen : ((ds.map D.int).reverse).length = m := by rw [List.length_reverse, List.length_map, hdl]
    rw [hlen] at h1 h3 ⊢
    have hVm : V m = a := by
      show dval n _ = a
      rw [List.take_of_length_le (by rw [List.length_reverse]; omega), List.reverse_reverse, ← hds, dval_digs, Int.emod_eq_of_lt ha hlt]
    rw [hVm] at h3 ⊢
    have F3 := f_digits2int (w := w) (l := qs.reverse) (n := n) (fun d hd => h2 d (List.mem_reverse.mp hd)) (by rw [List.length_reverse, h1]; omega) (by rw [List.length_reverse, h1]; exact hm) (by omega)
    rw [h3] at F3
    refine exs_cons (ex_reverse W I.cl 5 (nx_divmod_pos_q_digits I) rfl .here (by rw [List.length_map]; omega) ?_ (hi := ?_))
    · refine exs_freeze W I.cl 5 rfl ?_
      refine exs_assign (d := .int (a / b)) W 8 (nx_divmod_pos_q I) (ev_def W I.B (kn_divmod_pos_digits2int I) (mg_digits2int I.B) (g5_1 w) rfl (evs_cons (ev_name W 5 (nx_divmod_pos_q_digits I) rfl) (evs_cons (ev_name W 2 (nx_divmod_pos_n I) rfl) evs_nil)) (List.map_reverse (f := D.int) (l := qs) ▸ F3) hd hu) ?_
      exact exs_ret (d := dm a b) (ev_tuple W (evs_cons (ev_name W 8 (nx_divmod_pos_q I) rfl) (evs_cons (ev_name W 4 (nx_divmod_pos_r I) rfl) evs_nil))) (.inl rfl)
    · obtain ⟨L, e⟩ := I.E; rw [e]; kernel_rfl
end
end Mine
-- part U11
set_option maxHeartbeats 0
namespace Mine
noncomputable section
abbrev fdm (a b : Int) : D := .tup [.int (a.fdiv b), .int (a.fmod b)]
theorem bitNot_is (x : Int) : Builtin.bitNot x = -x - 1 := by
  unfold Builtin.bitNot
  omega
theorem fdm_pos {a b : Int} (ha : 0 ≤ a) (hb : 0 < b) : dm a b = fdm a b := by
  unfold dm fdm
  rw [Int.fdiv_eq_ediv_of_nonneg _ (Int.le_of_lt hb), Int.fmod_eq_emod_of_nonneg _ (Int.le_of_lt hb)]
theorem f_int_divmod_pos {w : World} {a b : Int} (ha : 0 ≤ a) (hb : 0 < b) (hn : Builtin.Int.intBits b ≤ 7998) (hab : a < 2 ^ (32 * Builtin.Int.intBits b)) : Fn (B1 w) 56 9 [.int a, .int b] (fdm a b) := by
  rw [← fdm_pos ha hb]
  refine fn_int_divmod rfl fun C I hd hu => ?_
  have W := I.W
  refine exs_if (ts_cmp (ev_name W 1 (nx_int_divmod_b I) rfl) ev_int co_eq) (fun q => absurd q (by simp; omega)) (fun _ => ?_)
  refine exs_if (ts_cmp (ev_name W 1 (nx_int_divmod_b I) rfl) ev_int co_lt) (fun q => absurd q (by simp; omega)) (fun _ => ?_)
  refine exs_if (ts_cmp (ev_name W 0 (nx_int_divmod_a I) rfl) ev_int co_lt) (fun q => absurd q (by simp; omega)) (fun _ => ?_)
  exact exs_ret (d := dm a b) (ev_def W I.B (kn_int_divmod_divmod_pos I) (mg_divmod_pos I.B) (s1_divmod_pos w) rfl (evs_cons (ev_name W 0 (nx_int_divmod_a I) rfl) (evs_cons (ev_name W 1 (nx_int_divmod_b I) rfl) evs_nil)) (f_divmod_pos ha hb hn hab) hd hu) (.inl rfl)
end
end Mine
-- part U12
set_option maxHeartbeats 0
namespace Mine
noncomputable section
noncomputable def setO (P : Params) : Obj := o64_10 P
noncomputable def setEs : List (Int × Value) := [(65024, .int 65024 287), (65025, .int 65025 288), (65026, .int 65026 289), (65027, .int 65027 290), (65028, .int 65028 291), (65029, .int 65029 292), (6150, .int 6150 273), (65030, .int 65030 293), (65031, .int 65031 294), (65032, .int 65032 295), (65033, .int 65033 296), (6155, .int 6155 274), (6156, .int 6156 275), (6157, .int 6157 276), (8203, .int 8203 277), (8204, .int 8204 278), (8205, .int 8205 279), (65034, .int 65034 297), (65035, .int 65035 298), (65036, .int 65036 299), (65037, .int 65037 300), (65038, .int 65038 301), (65039, .int 65039 302), (173, .int 173 271), (847, .int 847 272), (8288, .int 8288 280), (65279, .int 65279 281)]
theorem set_lookup (w : World) : (B1 w).K.lookup 64 = some (setO w.params) := by kernel_rfl
theorem set_chk : (setEs.all fun e => match e.2 with | .int k _ => e.1 == hashInt k | _ => false) = true := by kernel_rfl
theorem set_scan : (setEs.all fun e => e.2.scannable) = true := by kernel_rfl
noncomputable def inB1 (c : Nat) : Bool := setEs.any fun e => Value.isInt c e.2
theorem set_of (w : World) : ∀ h, (B1 w).In h → h.SetOf (intKind (B1 w).prog (B1 w).w) 64 (fun k => setEs.any fun e => Value.isInt k e.2) 27 := fun h hB => by
  refine ⟨setO w.params, ⟨setEs⟩, 29, _, hB.K _ _ (set_lookup w), ⟨rfl, rfl, rfl⟩, rfl, fun e he => ?_, fun k => ?_, by decide +kernel, by kernel_rfl, rfl⟩
  · have h1 := List.all_eq_true.mp set_chk e he
    have h2 := List.all_eq_true.mp set_scan e he
    refine ⟨?_, h2⟩
    split at h1
    · rename_i k t hk
      exact ⟨k, by rw [hk]; simp [intKind, Value.isInt], eq_of_beq h1⟩
    · cases h1
  · exact List.any_eq_true
theorem dic_lookup (w : World) : (B1 w).K.lookup 75 = some obD := by kernel_rfl
theorem dic_chk : ((esTo 38).all fun e => match e.key with | .int k _ => e.hash == hashInt k | _ => false) = true := by kernel_rfl
theorem dic_val : ((esTo 38).all fun e => match e.val with | .str x _ => Nat.ble x.cps.toList.length 8 | _ => false) = true := by kernel_rfl
noncomputable def b3v (k : Int) : Option Value := findBy Value.isInt ⟨esTo 38⟩ k
theorem dic_of (w : World) : ∀ h, (B1 w).In h → h.MapOf (intKind (B1 w).prog (B1 w).w) 75 b3v := fun h hB => by
  refine ⟨obD, ⟨esTo 38⟩, 650, hB.K _ _ (dic_lookup w), ⟨rfl, rfl, rfl⟩, rfl, fun e he => ?_, fun k => rfl⟩
  have h1 := List.all_eq_true.mp dic_chk e (by simpa using he)
  split at h1
  · rename_i k t hk
    exact ⟨k, by rw [hk]; simp [intKind, Value.isInt], eq_of_beq h1⟩
  · cases h1
theorem b3v_str {k : Int} {v : Value} (h : b3v k = some v) : ∃ x t, v = .str x t ∧ x.cps.toList.length ≤ 8 := by
  unfold b3v findBy at h
  cases e : (⟨esTo 38⟩ : Array DictEntry).find? fun e => Value.isInt k e.key with
  | none => rw [e] at h; cases h
  | some en =>
    rw [e] at h
    have hm := Array.mem_of_find?_eq_some e
    have h1 := List.all_eq_true.mp dic_val en (by simpa using hm)
    cases h
    show ∃ x t, en.val = .str x t ∧ _
    split at h1
    · rename_i x t hv
      exact ⟨x, t, hv, Nat.le_of_ble_eq_true h1⟩
    · cases h1
noncomputable def b3 (c : Nat) : List Nat := match b3v c with
  | some (.str x _) => x.cps.toList
  | _ => (Txt.lower (c1 c)).cps.toList
theorem b3_len (c : Nat) : (b3 c).length ≤ 8 := by
  unfold b3
  split
  · rename_i x t h
    obtain ⟨y, u, e, hl⟩ := b3v_str h
    cases e; exact hl
  · have := fact_lower (c1 c)
    have h2 : (Txt.lower (c1 c)).cps.toList.length = (Txt.lower (c1 c)).length := by simp [PySem.Str.length]
    have h3 : (c1 c).length = 1 := rfl
    rw [h2]; omega
theorem f_in_b1 {w : World} (c : Nat) : Fn (B1 w) 74 1 [.str (c1 c)] (.bool (inB1 c)) := by
  refine fn_in_table_b1 rfl fun C I hd hu => ?_
  have W := I.W
  refine exs_ret (d := .bool (inB1 c)) (ev_cmp (ev_ord W (kn_in_table_b1_ord I) (mg_ord I.B) (mb_ord I.B) (ev_name W 0 (nx_in_table_b1_code I) rfl)) (ev_gref W (kn_in_table_b1_b1_set I) (mg_b1_set I.B)) (co_inset (n := 27) (S := fun k => setEs.any fun e => Value.isInt k e.2) W (by rw [I.B]; exact set_of w))) (.inl rfl)
theorem f_map_b3 {w : World} (c : Nat) : Fn (B1 w) 120 1 [.str (c1 c)] (.str ⟨⟨b3 c⟩⟩) := by
  refine fn_map_table_b3 rfl fun C I hd hu => ?_
  have W := I.W
  have hget : ∀ r, (∀ X h, Rep X h ((b3v c).getD .none) r) → Ev C ⟨[some (.str (c1 c)), none], []⟩ (aV ((fdB (stAt 12)).headD default)) r := fun r hr =>
    ev_dict_get W (ev_gref W (kn_map_table_b3_b3_exceptions I) (mg_b3_exceptions I.B)) (ev_ord W (kn_map_table_b3_ord I) (mg_ord I.B) (mb_ord I.B) (ev_name W 0 (nx_map_table_b3_code I) rfl)) rfl (by rw [I.B]; exact dic_of w) hr
  cases e : b3v c with
  | some v =>
    obtain ⟨x, t, rfl, hl⟩ := b3v_str e
    have hb : (⟨⟨b3 c⟩⟩ : PySem.Str) = x := by unfold b3; rw [e]
    rw [hb]
    refine exs_assign (d := .str x) W 1 (nx_map_table_b3_r I) (hget _ (by rw [e]; exact fun _ _ => .str _ _)) ?_
    refine exs_if_leave (ts_cmp (ev_name W 1 (nx_map_table_b3_r I) rfl) ev_none co_isnot_str) (fun _ => ?_) (fun q => nomatch q)
    exact exs_ret (d := .str x) (ev_name W 1 (nx_map_table_b3_r I) rfl) (.inl rfl)
  | none =>
    have hb : (⟨⟨b3 c⟩⟩ : PySem.Str) = Txt.lower (c1 c) := by unfold b3; rw [e]
    rw [hb]
    refine exs_assign (d := .none) W 1 (nx_map_table_b3_r I) (hget _ (by rw [e]; exact fun _ _ => .none)) ?_
    refine exs_if_leave (ts_cmp (ev_name W 1 (nx_map_table_b3_r I) rfl) ev_none co_isnot_none) (fun q => nomatch q) (fun _ => ?_)
    refine exs_ret (d := .str (Txt.lower (c1 c))) (ev_lower (ev_name W 0 (nx_map_table_b3_code I) rfl) ?_) (.inl rfl)
    have := fact_lower (c1 c)
    have h3 : (c1 c).length = 1 := rfl
    show decide (_ > sizeLine) = false
    unfold sizeLine
    exact decide_eq_false (by rw [h3] at this; have : (2 : Nat) ^ 24 = 16777216 := by decide
                              omega)
/-- what a text is folded to -/
noncomputable def prep (l : List Nat) : List Nat := (l.filter fun c => !inB1 c).flatMap b3
theorem join_flat : ∀ ts : List PySem.Str, (PySem.Str.join ⟨#[]⟩ ts).cps.toList = ts.flatMap fun t => t.cps.toList
  | [] => rfl
  | t :: ts => by
    rw [join_nil_cons, List.flatMap_cons, ← join_flat ts]
    show (t.cps ++ _).toList = _
    simp
noncomputable def hd1 : D → Nat
  | .str x => x.cps.toList.headD 0
  | _ => 0
noncomputable def lcS : Expr → Scope
  | .Call _ (.ListComp _ _ s _ :: _) _ _ => s
  | .ListComp _ _ s _ => s
  | _ => default
noncomputable def retE : Stmt → Expr
  | .Return (some e) _ => e
  | _ => default
noncomputable def scP : Scope := lcS (retE ((fdB (stAt 14)).headD (.Pass default)))
theorem scP_1 (L : Addr) : closureFor scP (callEnv fd_law_prepared L 125) = pure [] := by kernel_rfl
theorem scP_2 : ∀ y ∈ scP.names, y.2 ≠ .cell := by decide +kernel
theorem scP_3 : scP.kind = .function := by kernel_rfl
theorem scP_4 : ∀ y ∈ scP.names, y.2 = .local → scP.names.lookup y.1 = some .local := by decide +kernel
theorem scP_5 : scP.names.lookup (S "sign") = some .local := by kernel_rfl
theorem scP_6 (L L' : Addr) : (compEnvC scP [] L (callEnv fd_law_prepared L' 125)).kindOf (S "map_table_b3") = some .globalImplicit ∧ (compEnvC scP [] L (callEnv fd_law_prepared L' 125)).kindOf (S "in_table_b1") = some .globalImplicit := ⟨by kernel_rfl, by kernel_rfl⟩
theorem f_prep {w : World} (x : PySem.Str) (hx : x.cps.toList.length ≤ 10000) : Fn (B1 w) 125 2 [.str x] (.str ⟨⟨prep x.cps.toList⟩⟩) := by
  refine fn_law_prepared rfl fun C I hd hu => ?_
  have W := I.W
  have hB := I.B
  obtain ⟨L', eE⟩ := I.E
  have kn : ∀ h₀ X L, (compCx C scP [] [] h₀ X L (S "sign")).env.kindOf (S "map_table_b3") = some .globalImplicit ∧ (compCx C scP [] [] h₀ X L (S "sign")).env.kindOf (S "in_table_b1") = some .globalImplicit := fun h₀ X L => by
    show (compEnvC scP [] L C.env).kindOf _ = _ ∧ (compEnvC scP [] L C.env).kindOf _ = _
    rw [eE]; exact scP_6 L L'
  obtain ⟨ts, hts⟩ : ∃ ts : List PySem.Str, ts = (x.cps.toList.filter fun c => !inB1 c).map fun c => ⟨⟨b3 c⟩⟩ := ⟨_, rfl⟩
  have hlen : ts.length ≤ 10000 := by rw [hts, List.length_map]; exact Nat.le_trans (List.length_filter_le _ _) hx
  have h8 : ∀ y ∈ ts, y.length ≤ 8 := fun y hy => by
    rw [hts] at hy
    obtain ⟨c, _, rfl⟩ := List.mem_map.mp hy
    have := b3_len c
    simpa [PySem.Str.length] using this
  have hjoin : Txt.join ⟨#[]⟩ ts = ⟨⟨prep x.cps.toList⟩⟩ := by
    have e1 : Txt.join ⟨#[]⟩ ts = PySem.Str.join ⟨#[]⟩ ts := eq_of_beq (join_closes rfl)
    rw [e1]
    have e2 := join_flat ts
    have e3 : ts.flatMap (fun t => t.cps.toList) = prep x.cps.toList := by
      rw [hts, List.flatMap_map]; rfl
    rw [e3] at e2
    generalize PySem.Str.join ⟨#[]⟩ ts = z at e2 ⊢
    obtain ⟨⟨l⟩⟩ := z
    exact congrArg (fun l => (⟨⟨l⟩⟩ : PySem.Str)) e2
  have e : Ev C ⟨[some (.str x)], []⟩ (retE ((fdB (stAt 14)).headD (.Pass default))) (.str (Txt.join ⟨#[]⟩ ts)) := by
    refine ev_join W ev_str (ev_listcomp (scope := scP) (x := S "sign") W (fun d => !inB1 (hd1 d)) (fun d => .str ⟨⟨b3 (hd1 d)⟩⟩) (evIt_str W (ev_name W 0 (nx_law_prepared_text I) rfl)) (by rw [eE]; exact scP_1 L') scP_2 scP_3 scP_4 scP_5 cap_nil (by rw [List.length_map]; omega) (fun h₀ X L d ob W' hd' => ?_) (fun h₀ X L d ob W' hd' hp => ?_)) ?_ ?_
    · obtain ⟨c, _, rfl⟩ := List.mem_map.mp hd'
      exact tsC_one (ts_not (ts_val (ev_def W' hB (kn h₀ X L).2 (mg_in_table_b1 hB) (s1_in_table_b1 w) rfl (evs_cons (ev_name W' 0 rfl rfl) evs_nil) (f_in_b1 c) hd hu) tr_bool))
    · obtain ⟨c, _, rfl⟩ := List.mem_map.mp hd'
      exact ev_def W' hB (kn h₀ X L).1 (mg_map_table_b3 hB) (s1_map_table_b3 w) rfl (evs_cons (ev_name W' 0 rfl rfl) evs_nil) (f_map_b3 c) hd hu
    · have : ((x.cps.toList.map fun c => D.str ⟨⟨[c]⟩⟩).filter fun d => !inB1 (hd1 d)).map (fun d => D.str ⟨⟨b3 (hd1 d)⟩⟩) = ts.map .str := by
        rw [hts, List.filter_map, List.map_map, List.map_map]; rfl
      rw [this]; exact .lst _
    · unfold JoinOk
      rw [StrLaws.joinFits h8 (by show ts.length * 8 + ts.length * 0 ≤ _; omega)]; rfl
  refine exs_ret (d := .str ⟨⟨prep x.cps.toList⟩⟩) ?_ (.inl rfl)
  rw [← hjoin]; exact e
end
end Mine
-- part U13
set_option maxHeartbeats 0
namespace Mine
noncomputable section
abbrev sx (l : List Nat) : PySem.Str := ⟨⟨l⟩⟩
theorem sx_add (a b : List Nat) : sx a ++ sx b = sx (a ++ b) := by
  show (⟨_ ++ _⟩ : PySem.Str) = _
  simp [sx]
theorem sx_len (a : List Nat) : (sx a).length = a.length := by simp [PySem.Str.length]
theorem ev_adds' {C : Cx} {σ : St} {a b : Expr} {p : Pos} {x y : List Nat} (ha : Ev C σ a (.str (sx x))) (hb : Ev C σ b (.str (sx y))) (hz : (x ++ y).length ≤ 100000) : Ev C σ (.BinOp a .Add b p) (.str (sx (x ++ y))) :=
  ev_conv (ev_adds ha hb (by rw [sx_add, sx_len, sizeLine_eq]; omega)) (by rw [sx_add])
theorem rangeD_get {a : Int} {n j : Nat} {d : D} (h : (rangeD a n)[j]? = some d) : j < n ∧ d = .int (a + j) := by
  have hj : j < n := by
    have := (List.getElem?_eq_some_iff.mp h).1
    simpa [rangeD] using this
  refine ⟨hj, ?_⟩
  simp only [rangeD, List.getElem?_map, List.getElem?_range hj] at h
  cases h; rfl
theorem rangeD_len (a : Int) (n : Nat) : (rangeD a n).length = n := by simp [rangeD]
theorem rangeD_mem {a : Int} {n : Nat} {d : D} (h : d ∈ rangeD a n) : ∃ j, j < n ∧ d = .int (a + j) := by
  obtain ⟨j, hj⟩ := List.mem_iff_getElem?.mp h
  exact ⟨j, rangeD_get hj⟩
theorem small_py {x y : Int} (h0 : 0 < y) (h1 : y ≤ 1000000) : Builtin.divisionGoesByPylong x y = false :=
  nopy (n := 21) h0 (by have : (2 : Int) ^ 21 = 2097152 := by decide
                        omega) (by omega)
noncomputable def nxt (n : Int) : Int := (n * 37 + 11).fmod 99991
noncomputable def unL (n : Int) : List Nat := (unseen n).cps.toList
theorem unL_len (n : Int) : (unL n).length ≤ 1 := by
  unfold unL unseen
  dsimp only
  split
  · simp
  · split <;> simp
/-- the five letters -/
noncomputable def L5 : List Nat := [102, 105, 108, 115, 116]
noncomputable def lt (k : Nat) : Nat := L5.getD k 0
noncomputable def wd (l : List Nat) : List Nat := l.map lt
abbrev filst : PySem.Str := S "filst"
theorem filst_get {k : Nat} (hk : k < 5) : filst.cps.toList[k]? = some (lt k) := by
  have : ∀ k < 5, filst.cps.toList[k]? = some (lt k) := by decide +kernel
  exact this k hk
theorem filst_idx {k : Nat} (hk : k < 5) : Builtin.Str.occurrences filst (c1 (lt k)) 0 filst.length 1 = [k] := by
  have : ∀ k < 5, Builtin.Str.occurrences filst (c1 (lt k)) 0 filst.length 1 = [k] := by decide +kernel
  exact this k hk
section
variable {C : Cx} {σ : St}
theorem ev_lt {a i : Expr} {p : Pos} {k : Nat} (ha : Ev C σ a (.str filst)) (hi : Ev C σ i (.int k)) (hk : k < 5) (hs : notSlice i = true := by rfl) : Ev C σ (.Subscript a i p) (.str (c1 (lt k))) :=
  ev_stritem ha hi (by omega) (by omega) (by rw [Int.toNat_natCast]; exact filst_get hk) hs
theorem ev_idx {o e : Expr} {ap pos : Pos} {k : Nat} {pl : Sem Bool} (ho : Ev C σ o (.str filst)) (he : Ev C σ e (.str (c1 (lt k)))) (hk : k < 5)
    (hn : nst e = true := by rfl)
    (hc : eval (.Call (.Attribute o (PySem.Str.ofString "index") ap) [e] [] pos) C.env = (do
      let ov ← eval o C.env
      standAt ap.atName
      let (f, first) ← holding [ov] (getMethod ov (PySem.Str.ofString "index") pl)
      callWith pos f first (backTo pos (starEach [e] C.env)) []) := by rfl) : Ev C σ (.Call (.Attribute o (PySem.Str.ofString "index") ap) [e] [] pos) (.int k) :=
  ev_index ho he (filst_idx hk) hn hc
end
/-- a replacement's letters: the lowest figures to the base 5 -/
noncomputable def meantL (F sp : Nat) : List Nat := (List.range sp).map fun k => F / 5 ^ k % 5
theorem join_sx (ts : List PySem.Str) : Txt.join ⟨#[]⟩ ts = sx (ts.flatMap fun t => t.cps.toList) := by
  have e1 : Txt.join ⟨#[]⟩ ts = PySem.Str.join ⟨#[]⟩ ts := eq_of_beq (join_closes rfl)
  rw [e1]
  have e2 := join_flat ts
  generalize PySem.Str.join ⟨#[]⟩ ts = z at e2 ⊢
  obtain ⟨⟨l⟩⟩ := z
  exact congrArg (fun l => (⟨⟨l⟩⟩ : PySem.Str)) e2
theorem joinOk_sx {ts : List PySem.Str} (h : ∀ y ∈ ts, y.length ≤ 100) (hl : ts.length ≤ 1000) : JoinOk ⟨#[]⟩ ts = true := by
  unfold JoinOk
  rw [StrLaws.joinFits h (by show ts.length * 100 + ts.length * 0 ≤ _; omega)]; rfl
noncomputable def scM : Scope := lcS (retE ((fdB (stAt 17)).headD (.Pass default)))
theorem scM_1 (L : Addr) : closureFor scM (callEnvC fd_law_meant L 144) = pure [(S "figures", L + 1)] := by kernel_rfl
theorem scM_2 : ∀ y ∈ scM.names, y.2 ≠ .cell := by decide +kernel
theorem scM_3 : scM.kind = .function := by kernel_rfl
theorem scM_4 : ∀ y ∈ scM.names, y.2 = .local → scM.names.lookup y.1 = some .local := by decide +kernel
theorem scM_5 : scM.names.lookup (S "k") = some .local := by kernel_rfl
theorem scM_6 : scM.names.lookup (S "figures") = some .free := by kernel_rfl
noncomputable def mk1 (F : Nat) : D → D
  | .int k => .str (c1 (lt (F / 5 ^ k.toNat % 5)))
  | d => d
theorem f_meant {w : World} (F sp : Nat) (hF : F < 2 ^ 300) (hs : sp ≤ 4) : Fn (B1 w) 144 1 [.int F, .int sp] (.str (sx (wd (meantL F sp)))) := by
  refine fn_law_meant rfl fun C L I hd hu => ?_
  have W := I.W
  have e0 : entry ps_law_meant ns_law_meant [.int F, .int sp] (cf_law_meant L) = ⟨[some (.int sp)], [(L + 1, [.int F])]⟩ := by kernel_rfl
  rw [e0]
  have hcs : L + 1 ∈ C.cs := by rw [Cx.cs, I.Cl]; exact .head _
  have e : Ev C ⟨[some (.int sp)], [(L + 1, [.int F])]⟩ (retE ((fdB (stAt 17)).headD (.Pass default))) (.str (Txt.join ⟨#[]⟩ ((meantL F sp).map fun k => c1 (lt k)))) := by
    refine ev_join W ev_str (ev_listcomp (scope := scM) (x := S "k") (cl := [(S "figures", L + 1)]) (cv := [(S "figures", .int F)]) (ds := rangeD 0 (sp : Int).toNat) W (fun _ => true) (mk1 F) (evIt_range1 W (kn_law_meant_range I) (mg_range I.B) (mb_range I.B) (ev_name W 0 (nx_law_meant_span I) rfl) (by omega) (by omega)) (by rw [I.E]; exact scM_1 L) scM_2 scM_3 scM_4 scM_5 (cap_cons scM_6 rfl hcs (.head _) cap_nil) (by rw [rangeD_len]; omega) (fun h₀ X L d ob W' hd' => tsC_nil) (fun h₀ X L' d ob W' hd' hp => ?_)) ?_ ?_
    · obtain ⟨j, hj, rfl⟩ := rangeD_mem hd'
      rw [Int.toNat_natCast] at hj
      rw [Int.zero_add]
      have hp5 : ((5 : Int) ^ (j : Int).toNat) = ((5 ^ j : Nat) : Int) := by push_cast; rfl
      have hpos : 0 < 5 ^ j := Nat.pow_pos (by omega)
      have hle : 5 ^ j ≤ 5 ^ 3 := Nat.pow_le_pow_right (by omega) (by omega)
      have hle' : 5 ^ j ≤ 125 := hle
      have hm : F / 5 ^ j % 5 < 5 := Nat.mod_lt _ (by omega)
      show Ev _ _ _ (.str (c1 (lt (F / 5 ^ (j : Int).toNat % 5))))
      rw [Int.toNat_natCast]
      refine ev_lt ev_str ?_ hm
      refine ev_conv (ev_mod (ev_div (y := ((5 ^ j : Nat) : Int)) (ev_cons W' (.head _)) (ev_conv (ev_pow ev_int (ev_name W' 0 rfl rfl) (by omega) ?_) (by rw [hp5])) (by omega) (small_py (by omega) (by omega))) ev_int (by decide)) ?_
      · have : Builtin.Int.intBits 5 = 3 := by kernel_rfl
        rw [this]
        have : (2 : Int) ^ 27 = 134217728 := by decide
        omega
      · rw [Int.fdiv_eq_ediv_of_nonneg _ (by omega), Int.fmod_eq_emod_of_nonneg _ (by omega)]
        push_cast; rfl
    · have : ((rangeD 0 (sp : Int).toNat).filter fun _ => true).map (mk1 F) = ((meantL F sp).map fun k => c1 (lt k)).map .str := by
        rw [List.filter_eq_self.mpr (fun _ _ => rfl), Int.toNat_natCast, rangeD, meantL, List.map_map, List.map_map, List.map_map]
        refine List.map_congr_left fun j hj => ?_
        show D.str (c1 (lt (F / 5 ^ ((0 : Int) + (j : Int)).toNat % 5))) = .str (c1 (lt (F / 5 ^ j % 5)))
        rw [Int.zero_add, Int.toNat_natCast]
      rw [this]; exact .lst _
    · exact joinOk_sx (fun y hy => by
        obtain ⟨k, _, rfl⟩ := List.mem_map.mp hy
        show 1 ≤ 100; omega) (by rw [List.length_map, meantL, List.length_map, List.length_range]; omega)
  refine exs_ret (d := .str (sx (wd (meantL F sp)))) ?_ (.inl rfl)
  have e1 : Txt.join ⟨#[]⟩ ((meantL F sp).map fun k => c1 (lt k)) = sx (wd (meantL F sp)) := by
    rw [join_sx, List.flatMap_map]
    congr 2
    simp [wd, c1]
    rw [List.map_eq_flatMap]
  rw [← e1]; exact e
end
end Mine
-- part U14
set_option maxHeartbeats 0
namespace Mine
noncomputable section
noncomputable def ix (c : Nat) : Nat := L5.idxOf c
theorem ix_lt {k : Nat} (hk : k < 5) : ix (lt k) = k := by
  have : ∀ k < 5, ix (lt k) = k := by decide
  exact this k hk
abbrev Wd (l : List Nat) : Prop := ∀ k ∈ l, k < 5
theorem wd_items {l : List Nat} {d : D} (hl : Wd l) (h : d ∈ (sx (wd l)).cps.toList.map fun c => D.str ⟨⟨[c]⟩⟩) : ∃ k, k < 5 ∧ d = .str (c1 (lt k)) := by
  obtain ⟨c, hc, rfl⟩ := List.mem_map.mp h
  obtain ⟨k, hk, rfl⟩ := List.mem_map.mp hc
  exact ⟨k, hl k hk, rfl⟩
noncomputable def scD : Scope := lcS (retE ((fdB (stAt 20)).headD (.Pass default)))
theorem scD_1 (L : Addr) : closureFor scD (callEnv fd_law_digits L 161) = pure [] := by kernel_rfl
theorem scD_2 : ∀ y ∈ scD.names, y.2 ≠ .cell := by decide +kernel
theorem scD_3 : scD.kind = .function := by kernel_rfl
theorem scD_4 : ∀ y ∈ scD.names, y.2 = .local → scD.names.lookup y.1 = some .local := by decide +kernel
theorem scD_5 : scD.names.lookup (S "letter") = some .local := by kernel_rfl
noncomputable def dI (d : D) : D := .int (ix (hd1 d))
theorem f_digits {w : World} (l : List Nat) (hl : Wd l) (hz : l.length ≤ 1000) : Fn (B1 w) 161 1 [.str (sx (wd l))] (.lst (l.map fun k : Nat => .int k)) := by
  refine fn_law_digits rfl fun C I hd hu => ?_
  have W := I.W
  obtain ⟨L', eE⟩ := I.E
  refine exs_ret (d := .lst ((((sx (wd l)).cps.toList.map fun c => D.str ⟨⟨[c]⟩⟩).filter fun _ => true).map dI)) ?_ (.inl ?_)
  · refine ev_listcomp (scope := scD) (x := S "letter") (cl := []) (cv := []) W (fun _ => true) dI (evIt_str W (ev_name W 0 (nx_law_digits_text I) rfl)) (by rw [eE]; exact scD_1 L') scD_2 scD_3 scD_4 scD_5 cap_nil (by rw [List.length_map]; simp only [wd, List.length_map]; omega) (fun h₀ X L d ob W' hd' => tsC_nil) (fun h₀ X L' d ob W' hd' hp => ?_)
    obtain ⟨k, hk, rfl⟩ := wd_items hl hd'
    show Ev _ _ _ (.int (ix (lt k) : Nat))
    rw [ix_lt hk]
    exact ev_idx ev_str (ev_name W' 0 rfl rfl) hk
  · rw [List.filter_eq_self.mpr (fun _ _ => rfl), List.map_map]
    simp only [wd, List.map_map]
    refine congrArg (fun z => Fl.ret (D.lst z)) (List.map_congr_left fun k hk => ?_)
    show D.int (ix (lt k) : Nat) = _
    rw [ix_lt (hl k hk)]
noncomputable def scE : Scope := lcS (retE ((fdB (stAt 19)).headD (.Pass default)))
theorem scE_1 (L : Addr) : closureFor scE (callEnvC fd_law_each L 156) = pure [(S "rows", L + 1)] := by kernel_rfl
theorem scE_2 : ∀ y ∈ scE.names, y.2 ≠ .cell := by decide +kernel
theorem scE_3 : scE.kind = .function := by kernel_rfl
theorem scE_4 : ∀ y ∈ scE.names, y.2 = .local → scE.names.lookup y.1 = some .local := by decide +kernel
theorem scE_5 : scE.names.lookup (S "letter") = some .local := by kernel_rfl
theorem scE_6 : scE.names.lookup (S "rows") = some .free := by kernel_rfl
noncomputable def eI (R : List D) (d : D) : D := R.getD (ix (hd1 d)) .none
theorem f_each {w : World} (R : List D) (hR : R.length = 5) (l : List Nat) (hl : Wd l) (hz : l.length ≤ 1000) : Fn (B1 w) 156 1 [.lst R, .str (sx (wd l))] (.lst (l.map fun k => R.getD k .none)) := by
  refine fn_law_each rfl fun C L I hd hu => ?_
  have W := I.W
  have e0 : entry ps_law_each ns_law_each [.lst R, .str (sx (wd l))] (cf_law_each L) = ⟨[some (.str (sx (wd l)))], [(L + 1, [.lst R])]⟩ := by kernel_rfl
  rw [e0]
  have hcs : L + 1 ∈ C.cs := by rw [Cx.cs, I.Cl]; exact .head _
  refine exs_ret (d := .lst ((((sx (wd l)).cps.toList.map fun c => D.str ⟨⟨[c]⟩⟩).filter fun _ => true).map (eI R))) ?_ (.inl ?_)
  · refine ev_listcomp (scope := scE) (x := S "letter") (cl := [(S "rows", L + 1)]) (cv := [(S "rows", .lst R)]) W (fun _ => true) (eI R) (evIt_str W (ev_name W 0 (nx_law_each_text I) rfl)) (by rw [I.E]; exact scE_1 L) scE_2 scE_3 scE_4 scE_5 (cap_cons scE_6 rfl hcs (.head _) cap_nil) (by rw [List.length_map]; simp only [wd, List.length_map]; omega) (fun h₀ X L d ob W' hd' => tsC_nil) (fun h₀ X L' d ob W' hd' hp => ?_)
    obtain ⟨k, hk, rfl⟩ := wd_items hl hd'
    show Ev _ _ _ (R.getD (ix (lt k)) .none)
    rw [ix_lt hk]
    refine ev_item (k := (k : Int)) (ev_cons W' (.head _)) (.lst R) (ev_idx ev_str (ev_name W' 0 rfl rfl) hk) (by omega) (by omega) ?_
    rw [Int.toNat_natCast, List.getD_eq_getElem?_getD, List.getElem?_eq_getElem (by omega)]; rfl
  · rw [List.filter_eq_self.mpr (fun _ _ => rfl), List.map_map]
    simp only [wd, List.map_map]
    refine congrArg (fun z => Fl.ret (D.lst z)) (List.map_congr_left fun k hk => ?_)
    show R.getD (ix (lt k)) .none = _
    rw [ix_lt (hl k hk)]
/-- a row without the noughts at its top -/
noncomputable def cut (l : List Int) : List Int := (l.reverse.dropWhile fun x => x == 0).reverse
theorem cut_snoc (l : List Int) (x : Int) : cut (l ++ [x]) = if x = 0 then cut l else l ++ [x] := by
  unfold cut
  rw [List.reverse_append, List.reverse_singleton, List.singleton_append, List.dropWhile_cons]
  by_cases h : x = 0
  · simp [h]
  · simp [h]
theorem f_cut {w : World} (l : List Int) (hz : l.length ≤ 1000) : Fn (B1 w) 175 1 [.lst (l.map .int)] (.lst ((cut l).map .int)) := by
  refine fn_law_cut rfl fun C I hd hu => ?_
  have W := I.W
  refine exs_assign (d := .int l.length) W 1 (nx_law_cut_end I) (ev_conv (ev_len W (kn_law_cut_len I) (mg_len I.B) (mb_len I.B) (ev_name W 0 (nx_law_cut_row I) rfl) (.lst _) (by rw [List.length_map]; omega)) (by rw [List.length_map])) ?_
  refine exs_cons (ex_while (fun n σ => n ≤ l.length ∧ cut (l.take n) = cut l ∧ σ = ⟨[some (.lst (l.map .int)), some (.int n)], []⟩) (fun n σ hI => ?_) l.length ⟨Nat.le_refl _, by rw [List.take_of_length_le (Nat.le_refl _)], rfl⟩)
  obtain ⟨hn, hc, rfl⟩ := hI
  have hend : ∀ m : Nat, m ≤ l.length → cut l = l.take m → Exs C ⟨[some (.lst (l.map .int)), some (.int m)], []⟩ [(fdB (stAt 22)).getLastD (.Pass default)] (fun fl _ => fl = .ret (.lst ((cut l).map .int)) ∨ (fl = .next ∧ D.lst ((cut l).map .int) = .none)) := fun m hm e => by
    refine exs_ret (d := .lst ((cut l).map .int)) ?_ (.inl rfl)
    refine ev_conv (ev_take W (ds := l.map .int) (k := (m : Int)) (ev_name W 0 (nx_law_cut_row I) rfl) (.lst _) (ev_name W 1 (nx_law_cut_end I) rfl) (by omega) (by rw [List.length_map]; omega)) ?_
    rw [Int.toNat_natCast, e, List.map_take]
  cases n with
  | zero =>
    refine ⟨false, ts_conv (ts_bool (tsl_and (ts_cmp (ev_name W 1 (nx_law_cut_end I) rfl) ev_int co_gt) (b := true) fun q => absurd q (by simp))) (by simp), (fun q => nomatch q), fun _ => ?_⟩
    exact hend 0 (Nat.zero_le _) hc.symm
  | succ n =>
    have hx : (l.map D.int)[n]? = some (.int (l[n]'(by omega))) := by
      rw [List.getElem?_map, List.getElem?_eq_getElem (by omega)]; rfl
    have hsn : l.take (n + 1) = l.take n ++ [l[n]'(by omega)] := List.take_succ_eq_append_getElem (by omega)
    refine ⟨_, ts_bool (tsl_and (ts_cmp (ev_name W 1 (nx_law_cut_end I) rfl) ev_int co_gt) fun _ => tsl_and (ts_cmp (ev_item (k := (n : Int)) (x := .int (l[n]'(by omega))) (ev_name W 0 (nx_law_cut_row I) rfl) (.lst _) (ev_conv (ev_sub (ev_name W 1 (nx_law_cut_end I) rfl) ev_int) (by push_cast; congr 1; omega)) (by omega) (by omega) (by rw [Int.toNat_natCast]; exact hx)) ev_int co_eq) fun _ => tsl_and_nil), fun q => ?_, fun q => ?_⟩
    · refine exs_assign (d := .int (n : Int)) W 1 (nx_law_cut_end I) (ev_conv (ev_sub (ev_name W 1 (nx_law_cut_end I) rfl) ev_int) (by push_cast; congr 1; omega)) (exs_nil ⟨n, Nat.lt_succ_self _, by omega, ?_, rfl⟩)
      have h0 : l[n]'(by omega) = 0 := by simpa using q
      rw [hsn, cut_snoc, if_pos h0] at hc
      exact hc
    · refine hend (n + 1) hn ?_
      have h0 : ¬ l[n]'(by omega) = 0 := by
        have : ((n + 1 : Nat) : Int) > 0 := by omega
        simpa [this] using q
      rw [hsn, cut_snoc, if_neg h0] at hc
      rw [← hc, hsn]
end
end Mine
-- part U15
set_option maxHeartbeats 0
namespace Mine
noncomputable section
noncomputable def stepF (im : List (List Nat)) (a f : Nat) : Nat := (im.getD a []).getD f 0
noncomputable def atTo (im : List (List Nat)) (sp k0 P R : Nat) : Nat → Nat
  | 0 => k0
  | j + 1 => stepF im (atTo im sp k0 P R j) (P / sp ^ (R - 1 - j) % sp)
structure ImOk (im : List (List Nat)) (sp : Nat) : Prop where
  len : im.length = 5
  row : ∀ m ∈ im, m.length = sp ∧ Wd m
  sp : sp = 2 ∨ sp = 4
theorem ImOk.sp0 {im : List (List Nat)} {sp : Nat} (H : ImOk im sp) : 0 < sp ∧ sp ≤ 4 := by rcases H.sp with e | e <;> omega
theorem ImOk.get {im : List (List Nat)} {sp a : Nat} (H : ImOk im sp) (ha : a < 5) : im[a]? = some (im.getD a []) ∧ (im.getD a []).length = sp ∧ Wd (im.getD a []) := by
  have hl : a < im.length := by rw [H.len]; exact ha
  have e : im[a]? = some (im.getD a []) := by rw [List.getD_eq_getElem?_getD, List.getElem?_eq_getElem hl]; rfl
  exact ⟨e, H.row _ (List.mem_of_getElem? e)⟩
theorem getD_lt {m : List Nat} (h : Wd m) (f : Nat) : m.getD f 0 < 5 := by
  rw [List.getD_eq_getElem?_getD]
  cases e : m[f]? with
  | none => show 0 < 5; omega
  | some x => exact h x (List.mem_of_getElem? e)
theorem ImOk.step {im : List (List Nat)} {sp a : Nat} (H : ImOk im sp) (ha : a < 5) (f : Nat) : stepF im a f < 5 := getD_lt (H.get ha).2.2 f
theorem atTo_lt {im : List (List Nat)} {sp k0 P R : Nat} (H : ImOk im sp) (h0 : k0 < 5) : ∀ j, atTo im sp k0 P R j < 5
  | 0 => h0
  | j + 1 => H.step (atTo_lt H h0 j) _
noncomputable def imD (im : List (List Nat)) : List D := im.map fun m => .str (sx (wd m))
theorem wd_get {m : List Nat} {f : Nat} (hf : f < m.length) : (sx (wd m)).cps.toList[f]? = some (lt (m.getD f 0)) := by
  simp only [wd, List.getElem?_map]
  rw [List.getElem?_eq_getElem hf, List.getD_eq_getElem?_getD, List.getElem?_eq_getElem hf]; rfl
theorem intBits_small {x : Int} (h0 : 0 ≤ x) (h1 : x ≤ 4) : (Builtin.Int.intBits x : Int) ≤ 3 := by
  obtain ⟨n, rfl⟩ : ∃ n : Nat, x = n := ⟨x.toNat, by omega⟩
  have : ∀ n < 5, (Builtin.Int.intBits ((n : Nat) : Int) : Int) ≤ 3 := by decide +kernel
  exact this n (by omega)
theorem pow_ok {x n : Int} (h0 : 0 ≤ x) (h1 : x ≤ 4) (hn0 : 0 ≤ n) (hn : n ≤ 1000) : (Builtin.Int.intBits x : Int) * n ≤ 2 ^ 27 := by
  have a := intBits_small h0 h1
  have b : (Builtin.Int.intBits x : Int) * n ≤ 3 * n := Int.mul_le_mul_of_nonneg_right a hn0
  have : (2 : Int) ^ 27 = 134217728 := by decide
  omega
theorem sp_pow_lt {sp : Nat} (h1 : sp ≤ 4) (e : Nat) (he : e ≤ 1000) : ((sp ^ e : Nat) : Int) < 2 ^ 2001 := by
  have a : sp ^ e ≤ 4 ^ e := Nat.pow_le_pow_left h1 e
  have b : 4 ^ e ≤ 4 ^ 1000 := Nat.pow_le_pow_right (by omega) he
  have c : (4 : Nat) ^ 1000 < 2 ^ 2001 := by decide +kernel
  have d : ((2 ^ 2001 : Nat) : Int) = 2 ^ 2001 := by push_cast; rfl
  have : ((sp ^ e : Nat) : Int) < ((2 ^ 2001 : Nat) : Int) := Int.ofNat_lt.mpr (by omega)
  rw [d] at this; exact this
theorem f_at {w : World} {im : List (List Nat)} {sp : Nat} (H : ImOk im sp) (k0 P R : Nat) (h0 : k0 < 5) (hR : R ≤ 100) : Fn (B1 w) 168 1 [.lst (imD im), .str (c1 (lt k0)), .int P, .int R] (.str (c1 (lt (atTo im sp k0 P R R)))) := by
  refine fn_law_at rfl fun C I hd hu => ?_
  have W := I.W
  obtain ⟨s1, s4⟩ := H.sp0
  have hrow : ∀ a, a < 5 → (imD im)[a]? = some (.str (sx (wd (im.getD a [])))) := fun a ha => by
    unfold imD; rw [List.getElem?_map, (H.get ha).1]; rfl
  have hlen0 : (sx (wd (im.getD 0 []))).length = sp := by rw [sx_len, wd, List.length_map]; exact (H.get (by omega)).2.1
  refine exs_assign (d := .int sp) W 4 (nx_law_at_span I) (ev_conv (ev_lens W (x := sx (wd (im.getD 0 []))) (kn_law_at_len I) (mg_len I.B) (mb_len I.B) (ev_item (k := 0) (ev_name W 0 (nx_law_at_images I) rfl) (.lst _) ev_int (by decide) (by decide) (hrow 0 (by omega))) (by rw [hlen0]; omega)) (by rw [hlen0])) ?_
  refine exs_assign (d := .str (c1 (lt k0))) W 5 (nx_law_at_letter I) (ev_name W 1 (nx_law_at_start I) rfl) ?_
  refine exs_cons (ex_for W (ds := rangeD 0 (R : Int).toNat) 6 (nx_law_at_k I) (evIt_range1 W (kn_law_at_range I) (mg_range I.B) (mb_range I.B) (ev_name W 3 (nx_law_at_rounds I) rfl) (by omega) (by omega)) (fun j σ => ∃ e : Option D, σ = ⟨[some (.lst (imD im)), some (.str (c1 (lt k0))), some (.int P), some (.int R), some (.int sp), some (.str (c1 (lt (atTo im sp k0 P R j)))), e], []⟩) ⟨none, rfl⟩ ?_ ?_)
  · rintro j d _ hj ⟨e, rfl⟩
    obtain ⟨hjl, rfl⟩ := rangeD_get hj
    rw [Int.toNat_natCast] at hjl
    rw [Int.zero_add]
    have ha := atTo_lt (P := P) (R := R) H h0 j
    have hpos : 0 < sp ^ (R - 1 - j) := Nat.pow_pos s1
    have hlt := sp_pow_lt s4 (R - 1 - j) (by omega)
    have hf : P / sp ^ (R - 1 - j) % sp < sp := Nat.mod_lt _ s1
    have hfl : P / sp ^ (R - 1 - j) % sp < (im.getD (atTo im sp k0 P R j) []).length := by rw [(H.get ha).2.1]; exact hf
    refine exs_assign (d := .str (c1 (lt (atTo im sp k0 P R (j + 1))))) W 5 (nx_law_at_letter I) ?_ (exs_nil ⟨some (.int j), rfl⟩)
    refine ev_stritem (k := ((P / sp ^ (R - 1 - j) % sp : Nat) : Int)) (x := sx (wd (im.getD (atTo im sp k0 P R j) []))) (ev_item (k := (atTo im sp k0 P R j : Nat)) (ev_name W 0 (nx_law_at_images I) rfl) (.lst _) (ev_idx ev_str (ev_name W 5 (nx_law_at_letter I) rfl) ha) (by omega) (by omega) (by rw [Int.toNat_natCast]; exact hrow _ ha)) ?_ (by omega) (by omega) (by rw [Int.toNat_natCast]; exact wd_get hfl)
    have he : ((R : Int) - 1 - (j : Int)) = ((R - 1 - j : Nat) : Int) := by omega
    have hp : ((sp : Int) ^ ((R : Int) - 1 - (j : Int)).toNat) = ((sp ^ (R - 1 - j) : Nat) : Int) := by rw [he, Int.toNat_natCast]; push_cast; rfl
    refine ev_conv (ev_mod (ev_div (y := ((sp ^ (R - 1 - j) : Nat) : Int)) (ev_name W 2 (nx_law_at_place I) rfl) (ev_conv (ev_pow (ev_name W 4 (nx_law_at_span I) rfl) (ev_sub (ev_sub (ev_name W 3 (nx_law_at_rounds I) rfl) ev_int) (ev_name W 6 (nx_law_at_k I) rfl)) (by omega) (pow_ok (by omega) (by omega) (by omega) (by omega))) (by rw [hp])) (by omega) (nopy (n := 2001) (by omega) hlt (by omega))) (ev_name W 4 (nx_law_at_span I) rfl) (by omega)) ?_
    rw [Int.fdiv_eq_ediv_of_nonneg _ (by omega), Int.fmod_eq_emod_of_nonneg _ (by omega)]
    push_cast; rfl
  · rintro _ ⟨e, rfl⟩
    rw [rangeD_len, Int.toNat_natCast]
    exact exs_ret (d := .str (c1 (lt (atTo im sp k0 P R R)))) (ev_name W 5 (nx_law_at_letter I) rfl) (.inl rfl)
end
end Mine
-- part U16
set_option maxHeartbeats 0
namespace Mine
noncomputable section
noncomputable def ligs (n : Int) : List (List Nat × Nat) := [([102, 102], 64256), ([102, 105], 64257), ([102, 108], 64258), ([102, 102, 105], 64259), ([102, 102, 108], 64260), ([115, 116], 64261 + (n.fmod 2).toNat), ([115, 115], 223)]
noncomputable def stepG (m : List Nat) (at' : Nat) (p : Nat × Nat) (q : List Nat × Nat) : Nat × Nat := if (m.drop at').take q.1.length = q.1 then (q.1.length, q.2) else p
noncomputable def pick (m : List Nat) (at' : Nat) (n : Int) : Nat × Nat := if n.fmod 4 ≠ 0 then (ligs n).foldl (stepG m at') (1, form2 (m.getD at' 0) n) else (1, form2 (m.getD at' 0) n)
noncomputable def wrT (m : List Nat) : Nat → Nat → Int → List Nat
  | 0, _, _ => []
  | f + 1, at', n => if at' < m.length then (pick m at' (nxt n)).2 :: unL ((nxt n).fdiv 7) ++ wrT m f (at' + (pick m at' (nxt n)).1) (nxt n) else []
noncomputable def written (m : List Nat) (n : Int) : List Nat := wrT m m.length 0 n
theorem fold_len (m : List Nat) (at' : Nat) : ∀ (l : List (List Nat × Nat)) (p : Nat × Nat), 1 ≤ p.1 → (∀ q ∈ l, 1 ≤ q.1.length) → 1 ≤ (l.foldl (stepG m at') p).1
  | [], p, h, _ => h
  | q :: l, p, h, hl => by
    refine fold_len m at' l _ ?_ fun x hx => hl x (.tail _ hx)
    unfold stepG
    split
    · exact hl q (.head _)
    · exact h
theorem ligs_len (n : Int) : ∀ q ∈ ligs n, 1 ≤ q.1.length := by
  intro q hq
  simp only [ligs, List.mem_cons, List.not_mem_nil, or_false] at hq
  rcases hq with rfl | rfl | rfl | rfl | rfl | rfl | rfl <;> simp
theorem pick_len (m : List Nat) (at' : Nat) (n : Int) : 1 ≤ (pick m at' n).1 := by
  unfold pick
  split
  · exact fold_len m at' _ _ (Nat.le_refl _) (ligs_len n)
  · exact Nat.le_refl _
theorem wrT_end {m : List Nat} {f at' : Nat} {n : Int} (h : ¬ at' < m.length) : wrT m f at' n = [] := by
  cases f with
  | zero => rfl
  | succ f => unfold wrT; rw [if_neg h]
theorem wrT_step {m : List Nat} {f at' : Nat} {n : Int} (h : at' < m.length) : wrT m (f + 1) at' n = (pick m at' (nxt n)).2 :: unL ((nxt n).fdiv 7) ++ wrT m f (at' + (pick m at' (nxt n)).1) (nxt n) := by
  conv => lhs; unfold wrT
  rw [if_pos h]
theorem wrT_len (m : List Nat) : ∀ (f at' : Nat) (n : Int), (wrT m f at' n).length ≤ 2 * f
  | 0, _, _ => by simp [wrT]
  | f + 1, at', n => by
    by_cases h : at' < m.length
    · rw [wrT_step h]
      have a := unL_len ((nxt n).fdiv 7)
      have b := wrT_len m f (at' + (pick m at' (nxt n)).1) (nxt n)
      simp only [List.length_append, List.length_cons]
      omega
    · rw [wrT_end h]; simp
noncomputable def ligD (q : List Nat × Nat) : D := .tup [.str (sx q.1), .int q.2]
theorem sx_beq (a b : List Nat) : (sx a == sx b) = decide (a = b) := by
  by_cases h : a = b
  · subst h; simp
  · simp [h]
theorem lt_rng {k : Nat} (hk : k < 5) : 97 ≤ lt k ∧ lt k ≤ 122 := by
  have : ∀ k < 5, 97 ≤ lt k ∧ lt k ≤ 122 := by decide
  exact this k hk
theorem wd_getD {l : List Nat} (hl : Wd l) {i : Nat} (hi : i < l.length) : (wd l).getD i 0 = lt (l.getD i 0) ∧ l.getD i 0 < 5 := by
  refine ⟨?_, getD_lt hl i⟩
  rw [List.getD_eq_getElem?_getD, wd, List.getElem?_map, List.getD_eq_getElem?_getD, List.getElem?_eq_getElem hi]; rfl
noncomputable def wlB : Stmt → List Stmt
  | .While _ b _ _ => b
  | _ => []
noncomputable def wbody : List Stmt := wlB ((fdB (stAt 18)).getD 2 (.Pass default))
theorem f_written {w : World} (l : List Nat) (hl : Wd l) (hz : l.length ≤ 10) (n₀ : Int) : Fn (B1 w) 151 2 [.str (sx (wd l)), .int n₀] (.str (sx (written (wd l) n₀))) := by
  refine fn_law_written rfl fun C I hd hu => ?_
  have W := I.W
  obtain ⟨m, hm⟩ : ∃ m, wd l = m := ⟨_, rfl⟩
  have hml : m.length = l.length := by rw [← hm, wd, List.length_map]
  rw [hm]
  refine exs_assign (d := .str (sx [])) W 2 (nx_law_written_text I) (ev_conv ev_str rfl) ?_
  refine exs_assign (d := .int ((0 : Nat) : Int)) W 3 (nx_law_written_at I) ev_int ?_
  refine exs_cons (ex_while (fun f σ => ∃ (at' : Nat) (n : Int) (t : List Nat) (e4 e5 e6 e7 : Option D), σ = ⟨[some (.str (sx m)), some (.int n), some (.str (sx t)), some (.int at'), e4, e5, e6, e7], []⟩ ∧ t ++ wrT m f at' n = written m n₀ ∧ m.length - at' ≤ f) (fun f σ hI => ?_) m.length ⟨0, n₀, [], none, none, none, none, rfl, rfl, by omega⟩)
  obtain ⟨at', n, t, e4, e5, e6, e7, rfl, hw, hf⟩ := hI
  have hwl : (written m n₀).length ≤ 20 := Nat.le_trans (wrT_len m _ _ _) (by omega)
  have hmx : (sx m).length = m.length := sx_len m
  refine ⟨decide (at' < m.length), ts_conv (ts_cmp (ev_name W 3 (nx_law_written_at I) rfl) (ev_lens W (kn_law_written_len I) (mg_len I.B) (mb_len I.B) (ev_name W 0 (nx_law_written_meant I) rfl) (by rw [hmx]; omega)) co_lt) (by rw [hmx]; simp), fun q => ?_, fun q => ?_⟩
  · have q : at' < m.length := of_decide_eq_true q
    obtain ⟨f, rfl⟩ : ∃ f', f = f' + 1 := ⟨f - 1, by omega⟩
    rw [wrT_step q] at hw
    obtain ⟨n', hn'⟩ : ∃ n', nxt n = n' := ⟨_, rfl⟩
    rw [hn'] at hw
    obtain ⟨c, hc⟩ : ∃ c, m.getD at' 0 = c := ⟨_, rfl⟩
    obtain ⟨hcl, hc5⟩ := wd_getD hl (i := at') (by omega)
    rw [hm, hc] at hcl
    have hcr := lt_rng hc5
    rw [← hcl] at hcr
    have hmc : (sx m).cps.toList[at']? = some c := by
      show m[at']? = some c
      rw [← hc, List.getD_eq_getElem?_getD, List.getElem?_eq_getElem q]; rfl
    have hp1 := pick_len m at' n'
    obtain ⟨p, hp⟩ : ∃ p, pick m at' n' = p := ⟨_, rfl⟩
    rw [hp] at hw hp1
    refine exs_assign (d := .int n') W 1 (nx_law_written_n I) (ev_conv (ev_mod (ev_add (ev_mul (ev_name W 1 (nx_law_written_n I) rfl) ev_int (.of_right (intBits_le_64 (by omega) (by omega)))) ev_int) ev_int (by decide)) (by rw [← hn']; rfl)) ?_
    refine exs_assign (d := .int ((1 : Nat) : Int)) W 4 (nx_law_written_length I) ev_int ?_
    refine exs_assign (d := .str (c1 (form2 c n'))) W 5 (nx_law_written_sign I) (ev_def W I.B (kn_law_written_law_form I) (mg_law_form I.B) (s1_law_form w) rfl (evs_cons (ev_stritem (k := (at' : Int)) (ev_name W 0 (nx_law_written_meant I) rfl) (ev_name W 3 (nx_law_written_at I) rfl) (by omega) (by omega) (by rw [Int.toNat_natCast]; exact hmc)) (evs_cons (ev_name W 1 (nx_law_written_n I) rfl) evs_nil)) (f_form c n' hcr.1 hcr.2) hd hu) ?_
    -- behind the choice of the sign
    have last : ∀ (e6 e7 : Option D) (Φ : Fl → St → Prop), (∀ (k at' : Nat) (n : Int) (t : List Nat) (e4 e5 e6 e7 : Option D), k < f + 1 → t ++ wrT m k at' n = written m n₀ → m.length - at' ≤ k → Φ .next ⟨[some (.str (sx m)), some (.int n), some (.str (sx t)), some (.int at'), e4, e5, e6, e7], []⟩) →
        Exs C ⟨[some (.str (sx m)), some (.int n'), some (.str (sx t)), some (.int at'), some (.int p.1), some (.str (c1 p.2)), e6, e7], []⟩ (wbody.drop 4) Φ := fun e6 e7 Φ hΦ => by
      have hul := unL_len (n'.fdiv 7)
      have htl : t.length + (p.2 :: unL (n'.fdiv 7)).length ≤ 20 := by
        have := congrArg List.length hw
        simp only [List.length_append] at this ⊢
        omega
      refine exs_assign (d := .str (sx ((t ++ [p.2]) ++ unL (n'.fdiv 7)))) W 2 (nx_law_written_text I) (ev_adds' (ev_adds' (ev_name W 2 (nx_law_written_text I) rfl) (ev_name W 5 (nx_law_written_sign I) rfl) ?_) (ev_conv (ev_def W I.B (kn_law_written_law_unseen I) (mg_law_unseen I.B) (s1_law_unseen w) rfl (evs_cons (ev_div (ev_name W 1 (nx_law_written_n I) rfl) ev_int (by decide) (small_py (by decide) (by decide))) evs_nil) (f_unseen (n'.fdiv 7)) hd hu) rfl) ?_) ?_
      · simp only [List.length_append, List.length_cons, List.length_nil] at htl ⊢; omega
      · simp only [List.length_append, List.length_cons, List.length_nil] at htl ⊢; omega
      refine exs_assign (d := .int ((at' + p.1 : Nat) : Int)) W 3 (nx_law_written_at I) (ev_conv (ev_add (ev_name W 3 (nx_law_written_at I) rfl) (ev_name W 4 (nx_law_written_length I) rfl)) (by rw [Int.natCast_add])) (exs_nil (hΦ f (at' + p.1) n' _ _ _ _ _ (Nat.lt_succ_self _) ?_ (by omega)))
      rw [← hw]; simp
    refine exs_if (c := decide (n'.fmod 4 ≠ 0)) (ts_conv (ts_cmp (ev_mod (ev_name W 1 (nx_law_written_n I) rfl) ev_int (by decide)) ev_int co_ne) (by by_cases h : n'.fmod 4 = 0 <;> simp [h])) (fun q4 => ?_) (fun q4 => ?_)
    · have q4 : n'.fmod 4 ≠ 0 := of_decide_eq_true q4
      have hpk : p = (ligs n').foldl (stepG m at') (1, form2 c n') := by rw [← hp, pick, if_pos q4, hc]
      refine exs_cons (ex_for_gen W (asg_tuple W (.cons 6 (nx_law_written_means I) (.cons 7 (nx_law_written_code I) .nil))) (fun j σ => ∃ (r : Nat × Nat) (e6 e7 : Option D), r = ((ligs n').take j).foldl (stepG m at') (1, form2 c n') ∧ σ = ⟨[some (.str (sx m)), some (.int n'), some (.str (sx t)), some (.int at'), some (.int r.1), some (.str (c1 r.2)), e6, e7], []⟩) (ds := (ligs n').map ligD) (fun j d σ' hj _ => ?_) (evIt_list W ?_) ?_ ?_ ?_)
      · rw [List.getElem?_map] at hj
        cases e : (ligs n')[j]? with
        | none => rw [e] at hj; cases hj
        | some x => rw [e] at hj; cases hj; exact ⟨_, rfl, rfl⟩
      · refine ev_list W (ds := (ligs n').map ligD) ?_ (by kernel_rfl)
        have h0 := fmod_range n' (m := 2) (by omega)
        exact evs_cons (ev_tuple W (ds := [.str (sx [102, 102]), .int 64256]) (evs_cons ev_str (evs_cons ev_int evs_nil))) (evs_cons (ev_tuple W (ds := [.str (sx [102, 105]), .int 64257]) (evs_cons ev_str (evs_cons ev_int evs_nil))) (evs_cons (ev_tuple W (ds := [.str (sx [102, 108]), .int 64258]) (evs_cons ev_str (evs_cons ev_int evs_nil))) (evs_cons (ev_tuple W (ds := [.str (sx [102, 102, 105]), .int 64259]) (evs_cons ev_str (evs_cons ev_int evs_nil))) (evs_cons (ev_tuple W (ds := [.str (sx [102, 102, 108]), .int 64260]) (evs_cons ev_str (evs_cons ev_int evs_nil))) (evs_cons (ev_tuple W (ds := [.str (sx [115, 116]), .int ((64261 + (n'.fmod 2).toNat : Nat) : Int)]) (evs_cons ev_str (evs_cons (ev_conv (ev_add ev_int (ev_mod (ev_name W 1 (nx_law_written_n I) rfl) ev_int (by decide))) (by congr 1; omega)) evs_nil))) (evs_cons (ev_tuple W (ds := [.str (sx [115, 115]), .int 223]) (evs_cons ev_str (evs_cons ev_int evs_nil))) evs_nil))))))
      · exact ⟨(1, form2 c n'), _, _, rfl, rfl⟩
      · rintro j d _ hj ⟨r, e6, e7, hr, rfl⟩
        rw [List.getElem?_map] at hj
        cases e : (ligs n')[j]? with
        | none => rw [e] at hj; cases hj
        | some x =>
          rw [e] at hj; cases hj
          have hx1 : x.1.length ≤ 3 ∧ x.2 ≤ 1114111 := by
            have hm := List.mem_of_getElem? e
            have h0 := fmod_range n' (m := 2) (by omega)
            simp only [ligs, List.mem_cons, List.not_mem_nil, or_false] at hm
            rcases hm with rfl | rfl | rfl | rfl | rfl | rfl | rfl <;> (refine ⟨by simp, ?_⟩) <;> (dsimp only; omega)
          have hjl : j < (ligs n').length := (List.getElem?_eq_some_iff.mp e).1
          have htk : (ligs n').take (j + 1) = (ligs n').take j ++ [x] := by
            rw [List.take_succ_eq_append_getElem hjl]
            rw [List.getElem?_eq_getElem hjl] at e
            cases e; rfl
          have hstep : ((ligs n').take (j + 1)).foldl (stepG m at') (1, form2 c n') = stepG m at' r x := by
            rw [htk, List.foldl_append, ← hr]; rfl
          show Exs C ⟨[some (.str (sx m)), some (.int n'), some (.str (sx t)), some (.int at'), some (.int r.1), some (.str (c1 r.2)), some (.str (sx x.1)), some (.int x.2)], []⟩ _ _
          have hsl : (sx x.1).length = x.1.length := sx_len _
          refine exs_if_leave (c := decide ((m.drop at').take x.1.length = x.1)) (ts_conv (ts_cmp (ev_strslice (i := at') (j := at' + x.1.length) (ev_name W 0 (nx_law_written_meant I) rfl) (ev_name W 3 (nx_law_written_at I) rfl) (ev_conv (ev_add (ev_name W 3 (nx_law_written_at I) rfl) (ev_lens W (kn_law_written_len I) (mg_len I.B) (mb_len I.B) (ev_name W 6 (nx_law_written_means I) rfl) (by rw [hsl]; omega))) (by rw [hsl, Int.natCast_add])) (by rw [hmx]; omega) (by omega) (by rw [hmx]; omega)) (ev_name W 6 (nx_law_written_means I) rfl) co_eqs) ?_) (fun qe => ?_) (fun qe => ?_)
          · show (sx ((m.drop at').take (at' + x.1.length - at')) == sx x.1) = _
            rw [sx_beq, Nat.add_sub_cancel_left]
          · have qe := of_decide_eq_true qe
            refine exs_assign (d := .int (x.1.length : Nat)) W 4 (nx_law_written_length I) (ev_conv (ev_lens W (kn_law_written_len I) (mg_len I.B) (mb_len I.B) (ev_name W 6 (nx_law_written_means I) rfl) (by rw [hsl]; omega)) (by rw [hsl])) ?_
            refine exs_assign (d := .str (c1 x.2)) W 5 (nx_law_written_sign I) (ev_conv (ev_chr (i := (x.2 : Int)) W (kn_law_written_chr I) (mg_chr I.B) (mb_chr I.B) (ev_name W 7 (nx_law_written_code I) rfl) (by omega) (by omega)) (by rw [Int.toNat_natCast]; rfl)) (exs_nil (exs_nil ⟨(x.1.length, x.2), _, _, ?_, rfl⟩))
            rw [hstep, stepG, if_pos qe]
          · have qe := of_decide_eq_false qe
            refine exs_nil ⟨r, _, _, ?_, rfl⟩
            rw [hstep, stepG, if_neg qe]
      · rintro _ ⟨r, e6, e7, hr, rfl⟩
        rw [List.length_map, List.take_of_length_le (Nat.le_refl _), ← hpk] at hr
        subst hr
        exact exs_nil (last e6 e7 _ fun k at' n t e4 e5 e6 e7 h1 h2 h3 => ⟨k, h1, at', n, t, e4, e5, e6, e7, rfl, h2, h3⟩)
    · have q4 : ¬ n'.fmod 4 ≠ 0 := of_decide_eq_false q4
      have hpk : p = (1, form2 c n') := by rw [← hp, pick, if_neg q4, hc]
      have := fun Φ => last e6 e7 Φ
      rw [hpk] at this
      exact exs_nil (this _ fun k at' n t e4 e5 e6 e7 h1 h2 h3 => ⟨k, h1, at', n, t, e4, e5, e6, e7, rfl, h2, h3⟩)
  · have q : ¬ at' < m.length := of_decide_eq_false q
    rw [wrT_end q, List.append_nil] at hw
    subst hw
    exact exs_ret (d := .str (sx (written m n₀))) (ev_name W 2 (nx_law_written_text I) rfl) (.inl rfl)
end
end Mine
-- part N4
set_option maxHeartbeats 0
namespace Mine
noncomputable section
noncomputable def b3l (es : List DictEntry) (k : Int) : Option Value := (es.find? fun e => Value.isInt k e.key).map (·.val)
theorem b3v_l (k : Int) : b3v k = b3l (esTo 38) k := by
  unfold b3v findBy b3l
  rw [List.find?_toArray]
theorem b3_some {c d : Nat} {x : PySem.Str} {t : Tok} (h : b3l (esTo 38) c = some (.str x t)) (hx : x.cps.toList = [d]) : b3 c = [d] := by
  unfold b3; rw [b3v_l, h]; exact hx
theorem b3_none {c d : Nat} (h : b3l (esTo 38) c = none) (hc : c < 128) (hd : lo1 c = d) : b3 c = [d] := by
  unfold b3; rw [b3v_l, h]
  show (Txt.lower (c1 c)).cps.toList = [d]
  rw [lower_ascii (fun x hx => by simp [c1] at hx; omega)]
  simp [c1, hd]
noncomputable def okLet (es : List DictEntry) (l : Nat) : Bool :=
  (b3l es l).isNone && (b3l es (l - 32 : Nat)).isNone && !inB1 l && !inB1 (l - 32) && lo1 l == l && lo1 (l - 32) == l && decide (l < 128)
noncomputable def okMath (es : List DictEntry) (l k : Nat) : Bool :=
  !inB1 (form l k) && (match b3l es (form l k : Nat) with | some (.str x _) => x.cps.toList == [l] | _ => false)
theorem chk_let : (L5.all fun l => okLet (esTo 38) l) = true := by kernel_rfl
theorem chk_math : (L5.all fun l => (List.range 10).all fun k => okMath (esTo 38) l (k + 2)) = true := by kernel_rfl
theorem prep_append (a b : List Nat) : prep (a ++ b) = prep a ++ prep b := by unfold prep; rw [List.filter_append, List.flatMap_append]
theorem prep_cons (a : Nat) (b : List Nat) : prep (a :: b) = prep [a] ++ prep b := prep_append [a] b
theorem prep_one {c : Nat} {r : List Nat} (h1 : inB1 c = false) (h2 : b3 c = r) : prep [c] = r := by
  unfold prep; simp [h1, h2]
theorem form_mod (l : Nat) (n : Int) : form l n = form l ((n.fmod 12).toNat : Nat) := by
  obtain ⟨h0, h1⟩ := fmod_range n (m := 12) (by omega)
  have : ((((n.fmod 12).toNat : Nat) : Int)).fmod 12 = n.fmod 12 := by
    rw [Int.toNat_of_nonneg h0, Int.fmod_eq_emod_of_nonneg _ (by omega), Int.emod_eq_of_lt h0 h1]
  unfold form
  rw [this]
theorem p_form {l : Nat} (hl : l ∈ L5) (n : Int) : prep [form l n] = [l] := by
  rw [form_mod]
  obtain ⟨h0, h1⟩ := fmod_range n (m := 12) (by omega)
  obtain ⟨k, hk⟩ : ∃ k, (n.fmod 12).toNat = k := ⟨_, rfl⟩
  have hk12 : k < 12 := by omega
  rw [hk]
  have a := List.all_eq_true.mp chk_let l hl
  unfold okLet at a
  simp only [Bool.and_eq_true, Bool.not_eq_true', beq_iff_eq, decide_eq_true_eq, Option.isNone_iff_eq_none] at a
  obtain ⟨⟨⟨⟨⟨⟨a1, a2⟩, a3⟩, a4⟩, a5⟩, a6⟩, a7⟩ := a
  match k, hk12 with
  | 0, _ => exact prep_one (c := l) a3 (b3_none a1 a7 a5)
  | 1, _ => exact prep_one (c := l - 32) a4 (b3_none a2 (by omega) a6)
  | k + 2, hk' =>
    have b := List.all_eq_true.mp (List.all_eq_true.mp chk_math l hl) k (List.mem_range.mpr (by omega))
    unfold okMath at b
    rw [Bool.and_eq_true, Bool.not_eq_true'] at b
    obtain ⟨b1, b2⟩ := b
    split at b2
    · rename_i x t hx
      exact prep_one b1 (b3_some hx (eq_of_beq b2))
    · cases b2
theorem chk_unseen : ((List.range 40).all fun k => prep (unL (k : Nat)) == []) = true := by kernel_rfl
theorem p_unseen (n : Int) : prep (unL n) = [] := by
  obtain ⟨h0, h1⟩ := fmod_range n (m := 40) (by omega)
  have : unL n = unL ((n.fmod 40).toNat : Nat) := by
    have e : ((((n.fmod 40).toNat : Nat) : Int)).fmod 40 = n.fmod 40 := by
      rw [Int.toNat_of_nonneg h0, Int.fmod_eq_emod_of_nonneg _ (by omega), Int.emod_eq_of_lt h0 h1]
    unfold unL unseen
    rw [e]
  rw [this]
  exact eq_of_beq (List.all_eq_true.mp chk_unseen _ (List.mem_range.mpr (by omega)))
noncomputable def okSig (es : List DictEntry) (c : Nat) (r : List Nat) : Bool := !inB1 c && (match b3l es c with | some (.str x _) => x.cps.toList == r | _ => false)
theorem p_sig {c : Nat} {r : List Nat} (h : okSig (esTo 38) c r = true) : prep [c] = r := by
  unfold okSig at h
  rw [Bool.and_eq_true, Bool.not_eq_true'] at h
  obtain ⟨b1, b2⟩ := h
  split at b2
  · rename_i x t hx
    refine prep_one b1 ?_
    unfold b3; rw [b3v_l, hx]; exact eq_of_beq b2
  · cases b2
theorem chk_lig : ((ligs 0 ++ ligs 1 ++ [([115], 383)]).all fun q => okSig (esTo 38) q.2 q.1) = true := by kernel_rfl
theorem p_lig {n : Int} {q : List Nat × Nat} (h : q ∈ ligs n) : prep [q.2] = q.1 := by
  refine p_sig (List.all_eq_true.mp chk_lig q ?_)
  obtain ⟨h0, h1⟩ := fmod_range n (m := 2) (by omega)
  have : ligs n = ligs 0 ∨ ligs n = ligs 1 := by
    have : n.fmod 2 = 0 ∨ n.fmod 2 = 1 := by omega
    rcases this with e | e
    · left; unfold ligs; rw [e]; rfl
    · right; unfold ligs; rw [e]; rfl
  refine List.mem_append_left _ (this.elim (fun e => List.mem_append_left _ (e ▸ h)) fun e => List.mem_append_right _ (e ▸ h))
theorem p_form2 {l : Nat} (hl : l ∈ L5) (n : Int) : prep [form2 l n] = [l] := by
  unfold form2
  split
  · rename_i h
    rw [h.1]
    exact p_sig (List.all_eq_true.mp chk_lig ([115], 383) (List.mem_append_right _ (.head _)))
  · exact p_form hl n
theorem lt_mem {k : Nat} (h : k < 5) : lt k ∈ L5 := by
  have : ∀ k < 5, lt k ∈ L5 := by decide
  exact this k h
/-- what a chosen sign stands for -/
noncomputable def Good (m : List Nat) (at' : Nat) (p : Nat × Nat) : Prop := prep [p.2] = (m.drop at').take p.1 ∧ p.1 ≤ (m.drop at').length
theorem good_fold {m : List Nat} {at' : Nat} : ∀ (l : List (List Nat × Nat)) (p : Nat × Nat), Good m at' p → (∀ q ∈ l, prep [q.2] = q.1) → Good m at' (l.foldl (stepG m at') p)
  | [], p, h, _ => h
  | q :: l, p, h, hl => by
    refine good_fold l _ ?_ fun x hx => hl x (.tail _ hx)
    unfold stepG
    split
    · rename_i e
      refine ⟨(hl q (.head _)).trans e.symm, ?_⟩
      have := congrArg List.length e
      rw [List.length_take] at this
      show q.1.length ≤ _
      omega
    · exact h
theorem good_pick {m : List Nat} {at' : Nat} (n : Int) (h : at' < m.length) (hm : m.getD at' 0 ∈ L5) : Good m at' (pick m at' n) := by
  have g0 : Good m at' (1, form2 (m.getD at' 0) n) := by
    refine ⟨(p_form2 hm n).trans ?_, by rw [List.length_drop]; show 1 ≤ _; omega⟩
    rw [List.drop_eq_getElem_cons h, List.getD_eq_getElem?_getD, List.getElem?_eq_getElem h]; rfl
  unfold pick
  split
  · exact good_fold _ _ g0 fun q hq => p_lig hq
  · exact g0
theorem p_wrT {m : List Nat} (hm : ∀ c ∈ m, c ∈ L5) : ∀ (f at' : Nat) (n : Int), m.length - at' ≤ f → prep (wrT m f at' n) = m.drop at'
  | 0, at', n, h => by rw [List.drop_eq_nil_of_le (by omega)]; rfl
  | f + 1, at', n, h => by
    by_cases q : at' < m.length
    · rw [wrT_step q, prep_append, prep_cons, p_unseen, List.append_nil]
      obtain ⟨g1, g2⟩ := good_pick (nxt n) q (by rw [List.getD_eq_getElem?_getD, List.getElem?_eq_getElem q]; exact hm _ (List.getElem_mem q))
      have g3 := pick_len m at' (nxt n)
      rw [g1, p_wrT hm f _ _ (by omega), ← List.drop_drop, List.take_append_drop]
    · rw [wrT_end q, List.drop_eq_nil_of_le (by omega)]; rfl
theorem p_written {l : List Nat} (hl : Wd l) (n : Int) : prep (written (wd l) n) = wd l := by
  unfold written
  rw [p_wrT (fun c hc => ?_) _ _ _ (by omega), List.drop_zero]
  obtain ⟨k, hk, rfl⟩ := List.mem_map.mp hc
  exact lt_mem (hl k hk)
theorem written_len (l : List Nat) (n : Int) : (written (wd l) n).length ≤ 2 * l.length := by
  have h := wrT_len (wd l) (wd l).length 0 n
  have e : (wd l).length = l.length := by rw [wd, List.length_map]
  rw [← e]; exact h
theorem p_flat {α : Type} (f g : α → List Nat) : ∀ (l : List α), (∀ a ∈ l, prep (f a) = g a) → prep (l.flatMap f) = l.flatMap g
  | [], _ => rfl
  | a :: l, h => by rw [List.flatMap_cons, List.flatMap_cons, prep_append, h a (.head _), p_flat f g l fun x hx => h x (.tail _ hx)]
end
end Mine
-- part N5
set_option maxHeartbeats 0
namespace Mine
noncomputable section
/-- the letter at a place after some rounds -/
noncomputable def Lam (im : List (List Nat)) (sp k0 : Nat) : Nat → Nat → Nat
  | 0, _ => k0
  | t + 1, p => stepF im (Lam im sp k0 t (p / sp)) (p % sp)
section
variable {im : List (List Nat)} {sp k0 : Nat}
theorem Lam_lt (H : ImOk im sp) (h0 : k0 < 5) : ∀ t p, Lam im sp k0 t p < 5
  | 0, _ => h0
  | t + 1, p => H.step (Lam_lt H h0 t _) _
theorem atTo_Lam (hs : 0 < sp) (P R : Nat) (hP : P < sp ^ R) : ∀ j, j ≤ R → atTo im sp k0 P R j = Lam im sp k0 j (P / sp ^ (R - j))
  | 0, _ => rfl
  | j + 1, h => by
    have e : R - j = (R - (j + 1)) + 1 := by omega
    have e2 : R - 1 - j = R - (j + 1) := by omega
    unfold atTo Lam
    rw [atTo_Lam hs P R hP j (by omega), e2, e, Nat.pow_succ, Nat.div_div_eq_div_mul]
theorem atTo_all (hs : 0 < sp) (P R : Nat) (hP : P < sp ^ R) : atTo im sp k0 P R R = Lam im sp k0 R P := by
  rw [atTo_Lam hs P R hP R (Nat.le_refl _), Nat.sub_self, Nat.pow_zero, Nat.div_one]
/-- the word after some rounds -/
noncomputable def wordT (im : List (List Nat)) (k0 : Nat) : Nat → List Nat
  | 0 => [k0]
  | t + 1 => (wordT im k0 t).flatMap fun a => im.getD a []
theorem flat_block {f : Nat → List Nat} {sp : Nat} (hs : 0 < sp) : ∀ (l : List Nat), (∀ a ∈ l, (f a).length = sp) → ∀ p, p < l.length * sp → ∃ a, l[p / sp]? = some a ∧ (l.flatMap f)[p]? = (f a)[p % sp]?
  | [], _, p, h => by simp at h
  | a :: l, hf, p, h => by
    have ha := hf a (.head _)
    rw [List.flatMap_cons]
    by_cases q : p < sp
    · refine ⟨a, ?_, ?_⟩
      · rw [Nat.div_eq_of_lt q]; rfl
      · rw [List.getElem?_append_left (by omega), Nat.mod_eq_of_lt q]
    · have h' : p - sp < l.length * sp := by
        rw [List.length_cons, Nat.succ_mul] at h; omega
      obtain ⟨b, h1, h2⟩ := flat_block hs l (fun x hx => hf x (.tail _ hx)) (p - sp) h'
      have e1 : p / sp = (p - sp) / sp + 1 := by
        conv => lhs; rw [show p = (p - sp) + sp by omega]
        exact Nat.add_div_right _ hs
      have e2 : p % sp = (p - sp) % sp := by
        conv => lhs; rw [show p = (p - sp) + sp by omega]
        exact Nat.add_mod_right _ _
      refine ⟨b, ?_, ?_⟩
      · rw [e1, List.getElem?_cons_succ]; exact h1
      · rw [List.getElem?_append_right (by omega), ha, h2, e2]
theorem flat_len {f : Nat → List Nat} {sp : Nat} : ∀ (l : List Nat), (∀ a ∈ l, (f a).length = sp) → (l.flatMap f).length = l.length * sp
  | [], _ => by simp
  | a :: l, h => by
    rw [List.flatMap_cons, List.length_append, h a (.head _), flat_len l fun x hx => h x (.tail _ hx), List.length_cons, Nat.succ_mul]; omega
theorem wordT_wd (H : ImOk im sp) (h0 : k0 < 5) : ∀ t, Wd (wordT im k0 t)
  | 0 => fun k hk => by rw [List.mem_singleton.mp hk]; exact h0
  | t + 1 => fun k hk => by
    obtain ⟨a, ha, hk⟩ := List.mem_flatMap.mp hk
    exact (H.get (wordT_wd H h0 t a ha)).2.2 k hk
theorem wordT_len (H : ImOk im sp) (h0 : k0 < 5) : ∀ t, (wordT im k0 t).length = sp ^ t
  | 0 => rfl
  | t + 1 => by
    show ((wordT im k0 t).flatMap _).length = _
    rw [flat_len _ fun a ha => (H.get (wordT_wd H h0 t a ha)).2.1, wordT_len H h0 t, Nat.pow_succ]
theorem im_get (H : ImOk im sp) {a f : Nat} (ha : a < 5) (hf : f < sp) : (im.getD a [])[f]? = some (stepF im a f) := by
  have hlen := (H.get ha).2.1
  unfold stepF
  rw [List.getD_eq_getElem?_getD (l := im.getD a []), List.getElem?_eq_getElem (by omega)]; rfl
theorem wordT_get (H : ImOk im sp) (h0 : k0 < 5) : ∀ t p, p < sp ^ t → (wordT im k0 t)[p]? = some (Lam im sp k0 t p)
  | 0, p, h => by
    have : p = 0 := by rw [Nat.pow_zero] at h; omega
    subst this; rfl
  | t + 1, p, h => by
    obtain ⟨s1, s4⟩ := H.sp0
    have hl := wordT_len H h0 t
    obtain ⟨a, h1, h2⟩ := flat_block (f := fun a => im.getD a []) s1 (wordT im k0 t) (fun a ha => (H.get (wordT_wd H h0 t a ha)).2.1) p (by rw [hl, ← Nat.pow_succ]; exact h)
    have hp : p / sp < sp ^ t := by
      rw [Nat.div_lt_iff_lt_mul s1, ← Nat.pow_succ]; exact h
    rw [wordT_get H h0 t _ hp] at h1
    cases h1
    show ((wordT im k0 t).flatMap _)[p]? = _
    rw [h2]
    exact im_get H (Lam_lt H h0 t (p / sp)) (Nat.mod_lt _ s1)
/-- the two letters kept at a place -/
noncomputable def keptL (im : List (List Nat)) (sp k0 t q : Nat) : List Nat := Lam im sp k0 t q :: (if q + 1 < sp ^ t then [Lam im sp k0 t (q + 1)] else [])
theorem keptL_wd (H : ImOk im sp) (h0 : k0 < 5) (t q : Nat) : Wd (keptL im sp k0 t q) ∧ (keptL im sp k0 t q).length ≤ 2 := by
  unfold keptL
  refine ⟨fun k hk => ?_, ?_⟩
  · rcases List.mem_cons.mp hk with rfl | hk
    · exact Lam_lt H h0 _ _
    · split at hk
      · rw [List.mem_singleton.mp hk]; exact Lam_lt H h0 _ _
      · cases hk
  · split <;> simp
theorem take2 {l : List Nat} {i a : Nat} {b : Option Nat} (h1 : l[i]? = some a) (h2 : l[i + 1]? = b) : (l.drop i).take 2 = a :: b.toList := by
  have hi : i < l.length := (List.getElem?_eq_some_iff.mp h1).1
  rw [List.getElem?_eq_getElem hi] at h1
  rw [List.drop_eq_getElem_cons hi]
  cases h1
  rw [List.take_succ_cons]
  congr 1
  rw [List.take_one, List.head?_drop, h2]
theorem kept_step (H : ImOk im sp) (h0 : k0 < 5) {t q f : Nat} (hq : q < sp ^ t) (hf : f < sp) : (((keptL im sp k0 t q).flatMap fun a => im.getD a []).drop f).take 2 = keptL im sp k0 (t + 1) (q * sp + f) := by
  obtain ⟨s1, s4⟩ := H.sp0
  have hA := Lam_lt H h0 t q
  have hB := Lam_lt H h0 t (q + 1)
  have lA := (H.get hA).2.1
  have lB := (H.get hB).2.1
  have d1 : (q * sp + f) / sp = q := by rw [Nat.mul_comm, Nat.mul_add_div s1, Nat.div_eq_of_lt hf, Nat.add_zero]
  have m1 : (q * sp + f) % sp = f := by rw [Nat.mul_comm, Nat.mul_add_mod, Nat.mod_eq_of_lt hf]
  have e1 : Lam im sp k0 (t + 1) (q * sp + f) = stepF im (Lam im sp k0 t q) f := by
    show stepF _ (Lam im sp k0 t ((q * sp + f) / sp)) ((q * sp + f) % sp) = _
    rw [d1, m1]
  unfold keptL
  rw [e1, List.flatMap_cons]
  by_cases hl : f + 1 < sp
  · have hlt : q * sp + f + 1 < sp ^ (t + 1) := by
      have : (q + 1) * sp ≤ sp ^ t * sp := Nat.mul_le_mul_right _ hq
      rw [Nat.pow_succ]; rw [Nat.succ_mul] at this; omega
    have d2 : (q * sp + f + 1) / sp = q := by rw [Nat.add_assoc, Nat.mul_comm, Nat.mul_add_div s1, Nat.div_eq_of_lt hl, Nat.add_zero]
    have m2 : (q * sp + f + 1) % sp = f + 1 := by rw [Nat.add_assoc, Nat.mul_comm, Nat.mul_add_mod, Nat.mod_eq_of_lt hl]
    have e2 : Lam im sp k0 (t + 1) (q * sp + f + 1) = stepF im (Lam im sp k0 t q) (f + 1) := by
      show stepF _ (Lam im sp k0 t ((q * sp + f + 1) / sp)) ((q * sp + f + 1) % sp) = _
      rw [d2, m2]
    rw [if_pos hlt, e2]
    exact take2 (b := some _) (by rw [List.getElem?_append_left (by omega)]; exact im_get H hA hf) (by rw [List.getElem?_append_left (by omega)]; exact im_get H hA hl)
  · have hfe : f + 1 = sp := by omega
    have hq1 : q * sp + f + 1 = (q + 1) * sp := by rw [Nat.succ_mul]; omega
    rw [hq1]
    by_cases hn : q + 1 < sp ^ t
    · have hlt : (q + 1) * sp < sp ^ (t + 1) := by rw [Nat.pow_succ]; exact Nat.mul_lt_mul_of_pos_right hn s1
      have e2 : Lam im sp k0 (t + 1) ((q + 1) * sp) = stepF im (Lam im sp k0 t (q + 1)) 0 := by
        show stepF _ (Lam im sp k0 t ((q + 1) * sp / sp)) ((q + 1) * sp % sp) = _
        rw [Nat.mul_div_cancel _ s1, Nat.mul_mod_left]
      rw [if_pos hlt, if_pos hn, e2, List.flatMap_cons, List.flatMap_nil, List.append_nil]
      exact take2 (b := some _) (by rw [List.getElem?_append_left (by omega)]; exact im_get H hA hf) (by rw [List.getElem?_append_right (by omega), lA, hfe, Nat.sub_self]; exact im_get H hB s1)
    · have hge : ¬ (q + 1) * sp < sp ^ (t + 1) := by
        rw [Nat.pow_succ]
        exact Nat.not_lt.mpr (Nat.mul_le_mul_right _ (by omega))
      rw [if_neg hge, if_neg hn, List.flatMap_nil, List.append_nil]
      exact take2 (b := none) (im_get H hA hf) (List.getElem?_eq_none (by omega))
end
/-- rows of digits -/
theorem digs_dval {n : Nat} : ∀ (l : List Int), (∀ d ∈ l, 0 ≤ d ∧ d < 2 ^ n) → digs n (dval n l) l.length = l
  | [], _ => rfl
  | d :: l, h => by
    obtain ⟨h1, h2⟩ := h d (.head _)
    have hp := two_pow_pos n
    simp only [dval, List.length_cons, digs]
    rw [Int.add_mul_emod_self_left, Int.emod_eq_of_lt h1 h2, Int.add_mul_ediv_left _ _ (by omega), Int.ediv_eq_zero_of_lt h1 h2, Int.zero_add, digs_dval l fun x hx => h x (.tail _ hx)]
theorem dval_flat {n sp : Nat} {f : Nat → List Int} : ∀ (l : List Nat), (∀ a ∈ l, (f a).length = sp) → dval n (l.flatMap f) = dval (n * sp) (l.map fun a => dval n (f a))
  | [], _ => rfl
  | a :: l, h => by
    rw [List.flatMap_cons, dval_append, h a (.head _), dval_flat l fun x hx => h x (.tail _ hx)]
    rfl
theorem intBits_ge {x : Int} {k : Nat} (h : 2 ^ k ≤ x) : k < Builtin.Int.intBits x := by
  have h0 : 0 ≤ x := Int.le_trans (Int.le_of_lt (two_pow_pos k)) h
  have h1 := lt_bits h0
  have h2 : (2 : Int) ^ k < 2 ^ (Builtin.Int.intBits x) := by omega
  have h3 : ((2 ^ k : Nat) : Int) < ((2 ^ (Builtin.Int.intBits x) : Nat) : Int) := by push_cast; exact h2
  exact (Nat.pow_lt_pow_iff_right (by omega)).mp (Int.ofNat_lt.mp h3)
theorem intBits_le_of {x : Int} {k : Nat} (h0 : 0 ≤ x) (h : x < 2 ^ k) : Builtin.Int.intBits x ≤ k := by
  unfold Builtin.Int.intBits
  split
  · omega
  · rename_i e
    have e0 : x.natAbs ≠ 0 := by simpa using e
    have h1 : x.natAbs < 2 ^ k := by
      have : ((x.natAbs : Nat) : Int) < ((2 ^ k : Nat) : Int) := by push_cast; omega
      exact Int.ofNat_lt.mp this
    exact (Nat.log2_lt e0).mpr h1
theorem nd_le2 {x : Int} {n m : Nat} (hn : 0 < n) (h0 : 0 ≤ x) (h : x < 2 ^ (n * m)) : nd x n ≤ m := by
  have hb := intBits_le_of h0 h
  unfold nd
  rw [Nat.div_le_iff_le_mul_add_pred hn]
  omega
theorem cut_digs {n : Nat} (hn : 0 < n) : ∀ (k : Nat) (l : List Int), l.length = k → (∀ d ∈ l, 0 ≤ d ∧ d < 2 ^ n) → digs n (dval n l) (nd (dval n l) n) = cut l
  | 0, l, hk, _ => by
    rw [List.eq_nil_of_length_eq_zero hk]
    have : nd (dval n []) n = 0 := by
      have := nd_le2 (x := 0) (m := 0) hn (Int.le_refl _) (by rw [Nat.mul_zero, Int.pow_zero]; decide)
      exact Nat.le_zero.mp this
    rw [this]; rfl
  | k + 1, l, hk, h => by
    obtain ⟨b, x, rfl⟩ : ∃ b x, l = b ++ [x] := ⟨l.dropLast, l.getLast (by intro e; rw [e] at hk; cases hk), (List.dropLast_concat_getLast _).symm⟩
    have hb : b.length = k := by simpa using hk
    have hx := h x (List.mem_append_right _ (.head _))
    have hbr := fun d hd => h d (List.mem_append_left [x] hd)
    rw [cut_snoc]
    have hd : dval n (b ++ [x]) = dval n b + 2 ^ (n * b.length) * x := by rw [dval_append]; simp [dval]
    split
    · rename_i e
      subst e
      rw [hd, Int.mul_zero, Int.add_zero]
      exact cut_digs hn k b hb hbr
    · rename_i e
      obtain ⟨r0, r1⟩ := dval_range n (b ++ [x]) h
      obtain ⟨q0, q1⟩ := dval_range n b hbr
      have hge : 2 ^ (n * k) ≤ dval n (b ++ [x]) := by
        rw [hd, hb]
        have : (2 : Int) ^ (n * k) * 1 ≤ 2 ^ (n * k) * x := Int.mul_le_mul_of_nonneg_left (by omega) (Int.le_of_lt (two_pow_pos _))
        omega
      have h1 := intBits_ge hge
      have h2 := nd_bits (dval n (b ++ [x])) hn
      have h3 := nd_le2 hn r0 r1
      have h4 : k < nd (dval n (b ++ [x])) n := by
        by_cases z : nd (dval n (b ++ [x])) n ≤ k
        · have := Nat.mul_le_mul_left n z
          omega
        · omega
      have h5 : (b ++ [x]).length = k + 1 := hk
      rw [h5] at h3
      have h6 : nd (dval n (b ++ [x])) n = (b ++ [x]).length := by omega
      rw [h6, digs_dval _ h]
end
end Mine
-- part U17
set_option maxHeartbeats 0
namespace Mine
noncomputable section
section
variable {C : Cx} {σ : St} {Φ : Fl → St → Prop} {rest : List Stmt}
theorem exs_assign_cell (W : Wf C) {x : PySem.Str} {c : Addr} {ds : List D} {p p' : Pos} {e : Expr} {d : D} (j : Nat) (hx : (x, c) ∈ C.cl) (hj : σ.objs[j]? = some (c, ds)) (he : Ev C σ e d) (h : Exs C (σ.setO j d) rest Φ) (hsw : swapsWith e (some (.Name x p')) p.line C.env = pure false) : Exs C σ (.Assign [.Name x p'] e p :: rest) Φ :=
  exs_cons (.mk fun s Q E O k => wpAny_Assign_Name (he.run s _ E O fun v h₁ t₁ k₁ r₁ => store_cell W j hx hj (O.keep k₁) r₁ fun h₂ t₂ O₂ k₂ => k _ .next _ h₂ t₂ .next O₂ (kpB_kp k₁ (kpB_weak k₂ (mem_C hj))) (fun a ha => .inl (by rw [setO_addrs] at ha; exact ha)) h) hsw)
end
abbrev nD (l : List Nat) : List D := l.map fun n : Nat => D.int n
noncomputable def dflt2 : List Nat := [1, 23, 275, 243, 535, 401, 0, 999, 2, 58]
noncomputable def cell0 (xs : List Int) : List Nat := (xs.take 10).map fun x => (x.fmod (10 ^ 60)).toNat
noncomputable def cellsOf (xs : List Int) : List Nat := cell0 xs ++ dflt2.drop (cell0 xs).length
theorem cell0_len (xs : List Int) : (cell0 xs).length ≤ 10 := by unfold cell0; rw [List.length_map, List.length_take]; omega
theorem cells_len (xs : List Int) : (cellsOf xs).length = 10 := by
  have := cell0_len xs
  unfold cellsOf
  rw [List.length_append, List.length_drop]
  show _ + (10 - _) = 10
  omega
theorem cells_lt (xs : List Int) : ∀ c ∈ cellsOf xs, c < 2 ^ 200 := by
  intro c hc
  have h2 : (1000 : Nat) < 2 ^ 200 := by decide +kernel
  rcases List.mem_append.mp hc with h | h
  · obtain ⟨x, _, rfl⟩ := List.mem_map.mp h
    obtain ⟨a, b⟩ := fmod_range x (m := 10 ^ 60) (by decide)
    have h3 : ((10 ^ 60 : Nat) : Int) = 10 ^ 60 := by rw [Int.natCast_pow]; rfl
    have h4 : (10 : Nat) ^ 60 < 2 ^ 200 := by decide +kernel
    rw [← h3] at a b
    rw [← h3]
    omega
  · have : ∀ c ∈ dflt2, c < 1000 := by decide
    have := this c (List.mem_of_mem_drop h)
    omega
theorem getD_all {l : List Nat} {B : Nat} (hB : 0 < B) (h : ∀ c ∈ l, c < B) (i : Nat) : l.getD i 0 < B := by
  rw [List.getD_eq_getElem?_getD]
  cases e : l[i]? with
  | none => exact hB
  | some x => exact h x (List.mem_of_getElem? e)
noncomputable def wdth (cs : List Nat) : Nat := 1 + cs.getD 0 0 % 2
noncomputable def spanOf (cs : List Nat) : Nat := 2 ^ wdth cs
noncomputable def sizeOf2 (cs : List Nat) : Nat := 3 + cs.getD 9 0 % 1000
noncomputable def startOf (cs : List Nat) : Nat := cs.getD 6 0 % 5
noncomputable def imOf (cs : List Nat) : List (List Nat) := (List.range 5).map fun j => meantL (cs.getD (1 + j) 0) (spanOf cs)
noncomputable def seedOf (cs : List Nat) (j : Nat) : Nat := (cs.getD (1 + j) 0 / 625 + 101 * j + cs.getD 9 0) % 99991
noncomputable def spOf (cs : List Nat) : List (List Nat) := (List.range 5).map fun j => written (wd ((imOf cs).getD j [])) (seedOf cs j)
noncomputable def spD (cs : List Nat) : List D := (spOf cs).map fun x => .str (sx x)
noncomputable def iL (l : List Nat) : List Int := l.map fun k : Nat => (k : Int)
noncomputable def packOf (cs : List Nat) : List Int := (imOf cs).map fun m => dval (sizeOf2 cs) (iL m)
theorem wdth_or (cs : List Nat) : (wdth cs = 1 ∧ spanOf cs = 2) ∨ (wdth cs = 2 ∧ spanOf cs = 4) := by
  have h : cs.getD 0 0 % 2 = 0 ∨ cs.getD 0 0 % 2 = 1 := by omega
  unfold spanOf wdth
  rcases h with e | e
  · left; rw [e]; exact ⟨rfl, rfl⟩
  · right; rw [e]; exact ⟨rfl, rfl⟩
theorem im_ok (cs : List Nat) : ImOk (imOf cs) (spanOf cs) where
  len := by unfold imOf; rw [List.length_map, List.length_range]
  row := fun m hm => by
    obtain ⟨j, _, rfl⟩ := List.mem_map.mp hm
    refine ⟨by unfold meantL; rw [List.length_map, List.length_range], fun k hk => ?_⟩
    obtain ⟨i, _, rfl⟩ := List.mem_map.mp hk
    exact Nat.mod_lt _ (by omega)
  sp := by rcases wdth_or cs with h | h <;> omega
theorem imOf_get (cs : List Nat) {j : Nat} (hj : j < 5) : (imOf cs).getD j [] = meantL (cs.getD (1 + j) 0) (spanOf cs) := by
  unfold imOf
  rw [List.getD_eq_getElem?_getD, List.getElem?_map, List.getElem?_range hj]; rfl
theorem cell_at {cs : List Nat} {i : Nat} (h : i < cs.length) : (nD cs)[i]? = some (.int (cs.getD i 0 : Nat)) := by
  rw [List.getElem?_map, List.getElem?_eq_getElem h, List.getD_eq_getElem?_getD, List.getElem?_eq_getElem h]; rfl
theorem map5 {α : Type} (f : Nat → α) : (List.range 5).map f = [f 0, f 1, f 2, f 3, f 4] := rfl
noncomputable def asV : Stmt → Expr
  | .Assign _ v _ => v
  | _ => default
noncomputable def lawS (i : Nat) : Stmt := (fdB (stAt 23)).getD i (.Pass default)
noncomputable def lawB (n : Nat) : List Stmt := (fdB (stAt 23)).drop n
noncomputable def obs (L : Addr) (t : List D) (cs : List Nat) : List (Addr × List D) := [(L + 6, t), (L + 5, [.lst (imD (imOf cs))]), (L + 4, [.str (c1 (lt (startOf cs)))]), (L + 3, [.int (sizeOf2 cs)]), (L + 2, [.int (spanOf cs)]), (L + 1, [.lst (nD cs)])]
noncomputable def vs5 (sc : D) (cs : List Nat) (tx : List Nat) (x : List (Option D)) : List (Option D) := [some sc, some (.int (wdth cs)), some (.lst (spD cs)), some (.lst ((packOf cs).map .int)), some (.str (sx (wd tx)))] ++ x
noncomputable def non (n : Nat) : List (Option D) := List.replicate n none
noncomputable def scL : Scope := lcS (asV (lawS 0))
theorem scL_1 (L : Addr) : closureFor scL (callEnvC fd_law L 180) = pure [] := by kernel_rfl
theorem scL_2 : ∀ y ∈ scL.names, y.2 ≠ .cell := by decide +kernel
theorem scL_3 : scL.kind = .function := by kernel_rfl
theorem scL_4 : ∀ y ∈ scL.names, y.2 = .local → scL.names.lookup y.1 = some .local := by decide +kernel
theorem scL_5 : scL.names.lookup (S "x") = some .local := by kernel_rfl
noncomputable def scI : Scope := lcS (asV (lawS 6))
theorem scI_1 (L : Addr) : closureFor scI (callEnvC fd_law L 180) = pure [(S "span", L + 2), (S "cells", L + 1)] := by kernel_rfl
theorem scI_2 : ∀ y ∈ scI.names, y.2 ≠ .cell := by decide +kernel
theorem scI_3 : scI.kind = .function := by kernel_rfl
theorem scI_4 : ∀ y ∈ scI.names, y.2 = .local → scI.names.lookup y.1 = some .local := by decide +kernel
theorem scI_5 : scI.names.lookup (S "j") = some .local := by kernel_rfl
theorem scI_6 : scI.names.lookup (S "span") = some .free ∧ scI.names.lookup (S "cells") = some .free := ⟨by kernel_rfl, by kernel_rfl⟩
theorem scI_7 (cl : List (PySem.Str × Addr)) (L L' : Addr) : (compEnvC scI cl L (callEnvC fd_law L' 180)).kindOf (S "_law_meant") = some .globalImplicit := by kernel_rfl
noncomputable def scW : Scope := lcS (asV (lawS 7))
theorem scW_1 (L : Addr) : closureFor scW (callEnvC fd_law L 180) = pure [(S "images", L + 5), (S "cells", L + 1)] := by kernel_rfl
theorem scW_2 : ∀ y ∈ scW.names, y.2 ≠ .cell := by decide +kernel
theorem scW_3 : scW.kind = .function := by kernel_rfl
theorem scW_4 : ∀ y ∈ scW.names, y.2 = .local → scW.names.lookup y.1 = some .local := by decide +kernel
theorem scW_5 : scW.names.lookup (S "j") = some .local := by kernel_rfl
theorem scW_6 : scW.names.lookup (S "images") = some .free ∧ scW.names.lookup (S "cells") = some .free := ⟨by kernel_rfl, by kernel_rfl⟩
theorem scW_7 (cl : List (PySem.Str × Addr)) (L L' : Addr) : (compEnvC scW cl L (callEnvC fd_law L' 180)).kindOf (S "_law_written") = some .globalImplicit := by kernel_rfl
noncomputable def scK : Scope := lcS (asV (lawS 8))
theorem scK_1 (L : Addr) : closureFor scK (callEnvC fd_law L 180) = pure [(S "size", L + 3)] := by kernel_rfl
theorem scK_2 : ∀ y ∈ scK.names, y.2 ≠ .cell := by decide +kernel
theorem scK_3 : scK.kind = .function := by kernel_rfl
theorem scK_4 : ∀ y ∈ scK.names, y.2 = .local → scK.names.lookup y.1 = some .local := by decide +kernel
theorem scK_5 : scK.names.lookup (S "meant") = some .local := by kernel_rfl
theorem scK_6 : scK.names.lookup (S "size") = some .free := by kernel_rfl
theorem scK_7 (cl : List (PySem.Str × Addr)) (L L' : Addr) : (compEnvC scK cl L (callEnvC fd_law L' 180)).kindOf (S "_digits2int") = some .globalImplicit ∧ (compEnvC scK cl L (callEnvC fd_law L' 180)).kindOf (S "_law_digits") = some .globalImplicit := ⟨by kernel_rfl, by kernel_rfl⟩
noncomputable def gI (m : Int) : D → D
  | .int x => .int (x.fmod m)
  | d => d
noncomputable def gM (cs : List Nat) (sp : Nat) : D → D
  | .int j => .str (sx (wd (meantL (cs.getD (1 + j.toNat) 0) sp)))
  | d => d
noncomputable def gW (cs : List Nat) : D → D
  | .int j => .str (sx (written (wd ((imOf cs).getD j.toNat [])) (seedOf cs j.toNat)))
  | d => d
theorem setup1 {w : World} {C : Cx} {L : Addr} (I : In_law w C L) (hd : C.A.depth + 11 < recursionLimit) (hu : C.A.units + 8 * 11 < cLine) {xs : List Int} (hxs : xs.length ≤ 63) {Φ : Fl → St → Prop} {cs : List Nat} (hcs : cs = cellsOf xs)
    (H : Exs C ⟨some (.lst (xs.map .int)) :: some (.int (wdth cs)) :: non 16, [(L + 6, []), (L + 5, []), (L + 4, [.str (c1 (lt (startOf cs)))]), (L + 3, [.int (sizeOf2 cs)]), (L + 2, [.int (spanOf cs)]), (L + 1, [.lst (nD cs)])]⟩ (lawB 6) Φ) :
    Exs C ⟨some (.lst (xs.map .int)) :: non 17, [(L + 6, []), (L + 5, []), (L + 4, []), (L + 3, []), (L + 2, []), (L + 1, [])]⟩ (fdB (stAt 23)) Φ := by
  have W := I.W
  have hlen : cs.length = 10 := hcs ▸ cells_len xs
  have hcell : ∀ i, i < 10 → (nD cs)[i]? = some (.int (cs.getD i 0 : Nat)) := fun i h => cell_at (by omega)
  have hc0 := cell0_len xs
  have m1 : ∀ {a b c d e x : List D}, (L + 1, x) ∈ [(L + 6, a), (L + 5, b), (L + 4, c), (L + 3, d), (L + 2, e), (L + 1, x)] := .tail _ (.tail _ (.tail _ (.tail _ (.tail _ (.head _)))))
  refine exs_assign_cell (d := .lst (nD (cell0 xs))) W 5 (cx_law_cells I) rfl (ev_conv (ev_listcomp W (cl := []) (cv := []) (scope := scL) (x := S "x") (fun _ => true) (gI (10 ^ 60)) (evIt_list W (ev_take W (ev_name W 0 (nx_law_script I) rfl) (.lst _) ev_int (by decide) (by rw [List.length_map]; omega))) (by rw [I.E]; exact scL_1 L) scL_2 scL_3 scL_4 scL_5 cap_nil ?_ (fun h₀ X L d ob W' hd' => tsC_nil) (fun h₀ X L d ob W' hd' _ => ?_)) ?_) ?_ (by rw [I.E]; kernel_rfl)
  · rw [List.length_take, List.length_map]; omega
  · have hd2 := List.mem_of_mem_take hd'
    obtain ⟨x, _, rfl⟩ := List.mem_map.mp hd2
    exact ev_conv (ev_mod (ev_name W' 0 rfl rfl) (ev_pow ev_int ev_int (by decide) (by decide +kernel)) (by decide +kernel)) rfl
  · rw [List.filter_eq_self.mpr (fun _ _ => rfl), ← List.map_take, List.map_map]
    unfold cell0 nD
    rw [List.map_map]
    refine congrArg D.lst (List.map_congr_left fun x _ => ?_)
    show D.int (x.fmod (10 ^ 60)) = .int ((x.fmod (10 ^ 60)).toNat : Nat)
    rw [Int.toNat_of_nonneg (fmod_range x (by decide)).1]
  refine exs_assign_cell (d := .lst (nD cs)) W 5 (cx_law_cells I) rfl (ev_conv (ev_addL W (ev_cell W (cx_law_cells I) m1) (.lst _) (ev_drop W (ds := nD dflt2) (k := ((cell0 xs).length : Nat)) (ev_list W (evs_cons ev_int (evs_cons ev_int (evs_cons ev_int (evs_cons ev_int (evs_cons ev_int (evs_cons ev_int (evs_cons ev_int (evs_cons ev_int (evs_cons ev_int (evs_cons ev_int evs_nil)))))))))) (by kernel_rfl)) (.lst _) (ev_conv (ev_len W (kn_law_len I) (mg_len I.B) (mb_len I.B) (ev_cell W (cx_law_cells I) m1) (.lst _) (by rw [List.length_map]; omega)) (by rw [List.length_map])) (by omega) (by decide)) (.lst _) (by rw [List.length_map, List.length_drop]; show _ + (10 - _) ≤ _; omega)) ?_) ?_ (by rw [I.E]; kernel_rfl)
  · rw [hcs, Int.toNat_natCast, ← List.map_drop, ← List.map_append]; rfl
  refine exs_assign (d := .int (wdth cs)) W 1 (nx_law_width I) (ev_conv (ev_add ev_int (ev_mod (ev_item (ev_cell W (cx_law_cells I) m1) (.lst _) ev_int (by decide) (by decide) (hcell 0 (by omega))) ev_int (by decide))) ?_) ?_
  · rw [Int.fmod_eq_emod_of_nonneg _ (by omega)]; unfold wdth; push_cast; rfl
  have hw := wdth_or cs
  refine exs_assign_cell (d := .int (spanOf cs)) W 4 (cx_law_span I) rfl (ev_conv (ev_pow ev_int (ev_name W 1 (nx_law_width I) rfl) (by omega) (pow_ok (by omega) (by omega) (by omega) (by omega))) ?_) ?_ (by rw [I.E]; kernel_rfl)
  · rw [Int.toNat_natCast]; unfold spanOf; push_cast; rfl
  refine exs_assign_cell (d := .int (sizeOf2 cs)) W 3 (cx_law_size I) rfl (ev_conv (ev_add ev_int (ev_mod (ev_item (ev_cell W (cx_law_cells I) m1) (.lst _) ev_int (by decide) (by decide) (hcell 9 (by omega))) ev_int (by decide))) ?_) ?_ (by rw [I.E]; kernel_rfl)
  · rw [Int.fmod_eq_emod_of_nonneg _ (by omega)]; unfold sizeOf2; push_cast; rfl
  have h5 : startOf cs < 5 := Nat.mod_lt _ (by omega)
  refine exs_assign_cell (d := .str (c1 (lt (startOf cs)))) W 2 (cx_law_start I) rfl (ev_lt ev_str (ev_conv (ev_mod (ev_item (ev_cell W (cx_law_cells I) m1) (.lst _) ev_int (by decide) (by decide) (hcell 6 (by omega))) ev_int (by decide)) ?_) h5) ?_ (by rw [I.E]; kernel_rfl)
  · rw [Int.fmod_eq_emod_of_nonneg _ (by omega)]; unfold startOf; push_cast; rfl
  exact H
end
end Mine
-- part U18
set_option maxHeartbeats 0
namespace Mine
noncomputable section
theorem range5_mem {d : D} (h : d ∈ rangeD 0 (5 : Int).toNat) : ∃ j : Nat, j < 5 ∧ d = .int (j : Int) := by
  obtain ⟨j, hj, rfl⟩ := rangeD_mem h
  exact ⟨j, hj, by rw [Int.zero_add]⟩
theorem range5_map (g : D → D) (f : Nat → D) (h : ∀ j : Nat, j < 5 → g (.int (j : Int)) = f j) : ((rangeD 0 (5 : Int).toNat).filter fun _ => true).map g = (List.range 5).map f := by
  rw [List.filter_eq_self.mpr (fun _ _ => rfl)]
  show ((List.range 5).map fun j : Nat => D.int ((0 : Int) + (j : Int))).map g = _
  rw [List.map_map]
  refine List.map_congr_left fun j hj => ?_
  show g (.int ((0 : Int) + (j : Int))) = f j
  rw [Int.zero_add]
  exact h j (List.mem_range.mp hj)
theorem nD_iL (l : List Nat) : nD l = (iL l).map .int := by unfold iL; rw [List.map_map]; rfl
theorem iL_rng {l : List Nat} (h : Wd l) {n : Nat} (hn : 3 ≤ n) : ∀ d ∈ iL l, 0 ≤ d ∧ d < 2 ^ n := by
  intro d hd
  obtain ⟨k, hk, rfl⟩ := List.mem_map.mp hd
  have h5 := h k hk
  have h1 : (2 : Nat) ^ 3 ≤ 2 ^ n := Nat.pow_le_pow_right (by omega) hn
  have h2 : ((2 ^ 3 : Nat) : Int) ≤ ((2 ^ n : Nat) : Int) := Int.ofNat_le.mpr h1
  rw [Int.natCast_pow, Int.natCast_pow] at h2
  have e1 : ((2 : Nat) : Int) ^ 3 = 8 := by decide
  have e2 : ((2 : Nat) : Int) ^ n = 2 ^ n := rfl
  rw [e1, e2] at h2
  omega
theorem iL_len (l : List Nat) : (iL l).length = l.length := by unfold iL; rw [List.length_map]
theorem size_rng (cs : List Nat) : 3 ≤ sizeOf2 cs ∧ sizeOf2 cs ≤ 1002 := by unfold sizeOf2; omega
noncomputable def gK (cs : List Nat) : D → D
  | .str x => .int (dval (sizeOf2 cs) (iL (x.cps.toList.map ix)))
  | d => d
theorem ix_wd {l : List Nat} (h : Wd l) : (wd l).map ix = l := by
  unfold wd
  rw [List.map_map]
  conv => rhs; rw [← List.map_id l]
  exact List.map_congr_left fun k hk => ix_lt (h k hk)
theorem seed_int (cs : List Nat) (j : Nat) : ((((cs.getD (1 + j) 0 : Nat) : Int).fdiv 625 + 101 * (j : Int) + ((cs.getD 9 0 : Nat) : Int)).fmod 99991) = ((seedOf cs j : Nat) : Int) := by
  rw [Int.fdiv_eq_ediv_of_nonneg _ (by omega), Int.fmod_eq_emod_of_nonneg _ (by omega)]
  unfold seedOf
  rw [Int.natCast_emod, Int.natCast_add, Int.natCast_add, Int.natCast_mul, Int.natCast_ediv]; rfl
theorem setup2 {w : World} {C : Cx} {L : Addr} (I : In_law w C L) (hd : C.A.depth + 11 < recursionLimit) (hu : C.A.units + 8 * 11 < cLine) {xs : List Int} {Φ : Fl → St → Prop} {cs : List Nat} (hcs : cs = cellsOf xs)
    (H : Exs C ⟨vs5 (.lst (xs.map .int)) cs [startOf cs] (non 13), obs L [] cs⟩ (lawB 10) Φ) :
    Exs C ⟨some (.lst (xs.map .int)) :: some (.int (wdth cs)) :: non 16, [(L + 6, []), (L + 5, []), (L + 4, [.str (c1 (lt (startOf cs)))]), (L + 3, [.int (sizeOf2 cs)]), (L + 2, [.int (spanOf cs)]), (L + 1, [.lst (nD cs)])]⟩ (lawB 6) Φ := by
  have W := I.W
  have hlen : cs.length = 10 := hcs ▸ cells_len xs
  have hlt : ∀ i, cs.getD i 0 < 2 ^ 200 := getD_all (by omega) (hcs ▸ cells_lt xs)
  have hcell : ∀ i, i < 10 → (nD cs)[i]? = some (.int (cs.getD i 0 : Nat)) := fun i h => cell_at (by omega)
  have K := im_ok cs
  obtain ⟨s0, s4⟩ := K.sp0
  obtain ⟨z3, z1⟩ := size_rng cs
  have i1 : L + 1 ∈ C.cs := List.mem_map_of_mem (f := (·.2)) (cx_law_cells I)
  have i2 : L + 2 ∈ C.cs := List.mem_map_of_mem (f := (·.2)) (cx_law_span I)
  have i3 : L + 3 ∈ C.cs := List.mem_map_of_mem (f := (·.2)) (cx_law_size I)
  have i5 : L + 5 ∈ C.cs := List.mem_map_of_mem (f := (·.2)) (cx_law_images I)
  have m1 : ∀ {a b c d e x : List D}, (L + 1, x) ∈ [(L + 6, a), (L + 5, b), (L + 4, c), (L + 3, d), (L + 2, e), (L + 1, x)] := .tail _ (.tail _ (.tail _ (.tail _ (.tail _ (.head _)))))
  have m2 : ∀ {a b c d e x : List D}, (L + 2, e) ∈ [(L + 6, a), (L + 5, b), (L + 4, c), (L + 3, d), (L + 2, e), (L + 1, x)] := .tail _ (.tail _ (.tail _ (.tail _ (.head _))))
  have m3 : ∀ {a b c d e x : List D}, (L + 3, d) ∈ [(L + 6, a), (L + 5, b), (L + 4, c), (L + 3, d), (L + 2, e), (L + 1, x)] := .tail _ (.tail _ (.tail _ (.head _)))
  have m4 : ∀ {a b c d e x : List D}, (L + 4, c) ∈ [(L + 6, a), (L + 5, b), (L + 4, c), (L + 3, d), (L + 2, e), (L + 1, x)] := .tail _ (.tail _ (.head _))
  have m5 : ∀ {a b c d e x : List D}, (L + 5, b) ∈ [(L + 6, a), (L + 5, b), (L + 4, c), (L + 3, d), (L + 2, e), (L + 1, x)] := .tail _ (.head _)
  -- images
  refine exs_assign_cell (d := .lst (imD (imOf cs))) W 1 (cx_law_images I) rfl (ev_conv (ev_listcomp W (cl := [(S "span", L + 2), (S "cells", L + 1)]) (cv := [(S "span", .int (spanOf cs)), (S "cells", .lst (nD cs))]) (scope := scI) (x := S "j") (ds := rangeD 0 (5 : Int).toNat) (fun _ => true) (gM cs (spanOf cs)) (evIt_range1 W (kn_law_range I) (mg_range I.B) (mb_range I.B) ev_int (by omega) (by omega)) (by rw [I.E]; exact scI_1 L) scI_2 scI_3 scI_4 scI_5 (cap_cons scI_6.1 rfl i2 m2 (cap_cons scI_6.2 rfl i1 m1 cap_nil)) (by rw [rangeD_len]; decide) (fun h₀ X L d ob W' hd' => tsC_nil) (fun h₀ X L' d ob W' hd' _ => ?_)) ?_) ?_ (by rw [I.E]; kernel_rfl)
  · obtain ⟨j, hj, rfl⟩ := range5_mem hd'
    show Ev _ _ _ (.str (sx (wd (meantL (cs.getD (1 + (j : Int).toNat) 0) (spanOf cs)))))
    rw [Int.toNat_natCast]
    exact ev_def W' I.B (by show (compEnvC scI _ L' C.env).kindOf _ = _; rw [I.E]; exact scI_7 _ _ _) (mg_law_meant I.B) (s1_law_meant w) rfl (evs_cons (ev_item (k := ((1 + j : Nat) : Int)) (ev_cons W' (.tail _ (.head _))) (.lst _) (ev_conv (ev_add ev_int (ev_name W' 0 rfl rfl)) (by push_cast; rfl)) (by omega) (by omega) (by rw [Int.toNat_natCast]; exact hcell (1 + j) (by omega))) (evs_cons (ev_cons W' (.head _)) evs_nil)) ((f_meant _ _ (Nat.lt_of_lt_of_le (hlt _) (Nat.pow_le_pow_right (by omega) (by omega))) s4).le (by omega)) hd hu
  · rw [range5_map _ (fun j => .str (sx (wd (meantL (cs.getD (1 + j) 0) (spanOf cs))))) (fun j _ => by show _ = _; rfl)]
    unfold imD imOf
    rw [List.map_map]; rfl
  -- spelled
  refine exs_cons (ex_assign_comp W (cl := [(S "images", L + 5), (S "cells", L + 1)]) (cv := [(S "images", .lst (imD (imOf cs))), (S "cells", .lst (nD cs))]) (scope := scW) (x := S "j") (ds := rangeD 0 (5 : Int).toNat) (fun _ => true) (gW cs) 2 (nx_law_spelled I) (evIt_range1 W (kn_law_range I) (mg_range I.B) (mb_range I.B) ev_int (by omega) (by omega)) (by rw [I.E]; exact scW_1 L) scW_2 scW_3 scW_4 scW_5 (cap_cons scW_6.1 rfl i5 m5 (cap_cons scW_6.2 rfl i1 m1 cap_nil)) (by rw [rangeD_len]; decide) (fun h₀ X L d ob W' hd' => tsC_nil) (fun h₀ X L' d ob W' hd' _ => ?_) (by rw [I.E]; kernel_rfl) ?_)
  · obtain ⟨j, hj, rfl⟩ := range5_mem hd'
    show Ev _ _ _ (.str (sx (written (wd ((imOf cs).getD (j : Int).toNat [])) (seedOf cs (j : Int).toNat))))
    rw [Int.toNat_natCast]
    have hrow : (imD (imOf cs))[j]? = some (.str (sx (wd ((imOf cs).getD j [])))) := by unfold imD; rw [List.getElem?_map, (K.get hj).1]; rfl
    exact ev_def W' I.B (by show (compEnvC scW _ L' C.env).kindOf _ = _; rw [I.E]; exact scW_7 _ _ _) (mg_law_written I.B) (s1_law_written w) rfl (evs_cons (ev_item (k := (j : Int)) (ev_cons W' (.head _)) (.lst _) (ev_name W' 0 rfl rfl) (by omega) (by omega) (by rw [Int.toNat_natCast]; exact hrow)) (evs_cons (ev_conv (ev_mod (ev_add (ev_add (ev_div (ev_item (k := ((1 + j : Nat) : Int)) (ev_cons W' (.tail _ (.head _))) (.lst _) (ev_conv (ev_add ev_int (ev_name W' 0 rfl rfl)) (by push_cast; rfl)) (by omega) (by omega) (by rw [Int.toNat_natCast]; exact hcell (1 + j) (by omega))) ev_int (by decide) (small_py (by decide) (by decide))) (ev_mul ev_int (ev_name W' 0 rfl rfl) (.of_left (intBits_le_64 (by omega) (by omega))))) (ev_item (k := 9) (ev_cons W' (.tail _ (.head _))) (.lst _) ev_int (by decide) (by decide) (hcell 9 (by omega)))) ev_int (by decide)) (by rw [seed_int])) evs_nil)) ((f_written _ (K.get hj).2.2 (by rw [(K.get hj).2.1]; omega) _).le (by omega)) hd hu
  rw [range5_map _ (fun j => .str (sx (written (wd ((imOf cs).getD j [])) (seedOf cs j)))) (fun j _ => by show _ = _; rfl)]
  -- packed
  refine exs_cons (ex_assign_comp W (cl := [(S "size", L + 3)]) (cv := [(S "size", .int (sizeOf2 cs))]) (scope := scK) (x := S "meant") (ds := imD (imOf cs)) (fun _ => true) (gK cs) 3 (nx_law_packed I) (evIt_list W (ev_cell W (cx_law_images I) m5)) (by rw [I.E]; exact scK_1 L) scK_2 scK_3 scK_4 scK_5 (cap_cons scK_6 rfl i3 m3 cap_nil) (by unfold imD; rw [List.length_map, K.len]; decide) (fun h₀ X L d ob W' hd' => tsC_nil) (fun h₀ X L' d ob W' hd' _ => ?_) (by rw [I.E]; kernel_rfl) ?_)
  · obtain ⟨m, hm, rfl⟩ := List.mem_map.mp hd'
    obtain ⟨hml, hmw⟩ := K.row m hm
    show Ev _ _ _ (.int (dval (sizeOf2 cs) (iL ((wd m).map ix))))
    rw [ix_wd hmw]
    refine ev_def W' I.B (by show (compEnvC scK _ L' C.env).kindOf _ = _; rw [I.E]; exact (scK_7 _ _ _).1) (mg_digits2int I.B) (g5_1 w) rfl (evs_cons (ev_def W' I.B (by show (compEnvC scK _ L' C.env).kindOf _ = _; rw [I.E]; exact (scK_7 _ _ _).2) (mg_law_digits I.B) (s1_law_digits w) rfl (evs_cons (ev_name W' 0 rfl rfl) evs_nil) ((f_digits m hmw (by omega)).le (by omega)) hd hu) (evs_cons (ev_cons W' (.head _)) evs_nil)) ?_ hd hu
    rw [show (m.map fun k : Nat => D.int k) = (iL m).map .int from nD_iL m]
    refine (f_digits2int (iL_rng hmw z3) ?_ (by rw [iL_len]; omega) (by omega)).le (by omega)
    rw [iL_len, hml]
    have : sizeOf2 cs * spanOf cs ≤ 1002 * 4 := Nat.mul_le_mul z1 s4
    omega
  rw [List.filter_eq_self.mpr (fun _ _ => rfl)]
  have ep : (imD (imOf cs)).map (gK cs) = (packOf cs).map .int := by
    unfold imD packOf
    rw [List.map_map, List.map_map]
    refine List.map_congr_left fun m hm => ?_
    show D.int (dval (sizeOf2 cs) (iL ((wd m).map ix))) = _
    rw [ix_wd (K.row m hm).2]; rfl
  rw [ep]
  refine exs_assign (d := .str (sx (wd [startOf cs]))) W 4 (nx_law_text I) (ev_conv (ev_cell W (cx_law_start I) m4) rfl) ?_
  refine exs_conv H ?_
  have es : (List.range 5).map (fun j => D.str (sx (written (wd ((imOf cs).getD j [])) (seedOf cs j)))) = spD cs := by
    unfold spD spOf
    rw [List.map_map]; rfl
  rw [es]; rfl
end
end Mine
-- part U19
set_option maxHeartbeats 0
namespace Mine
noncomputable section
section
variable {im : List (List Nat)} {sp k0 : Nat}
theorem wordT_eq (H : ImOk im sp) (h0 : k0 < 5) (t : Nat) : wordT im k0 t = (List.range (sp ^ t)).map (Lam im sp k0 t) := by
  apply List.ext_getElem?
  intro p
  rw [List.getElem?_map]
  by_cases h : p < sp ^ t
  · rw [wordT_get H h0 t p h, List.getElem?_range h]; rfl
  · rw [List.getElem?_eq_none (by rw [wordT_len H h0]; omega), List.getElem?_eq_none (by rw [List.length_range]; omega)]; rfl
end
theorem exp_le (cs : List Nat) {j : Nat} (h : j < 4 / wdth cs) : spanOf cs ^ j ≤ 8 ∧ spanOf cs ^ (j + 1) ≤ 16 ∧ j < 4 := by
  rcases wdth_or cs with ⟨e1, e2⟩ | ⟨e1, e2⟩
  · rw [e1] at h; rw [e2]
    have : ∀ j < 4, 2 ^ j ≤ 8 ∧ 2 ^ (j + 1) ≤ 16 ∧ j < 4 := by decide
    exact this j h
  · rw [e1] at h; rw [e2]
    have : ∀ j < 2, 4 ^ j ≤ 8 ∧ 4 ^ (j + 1) ≤ 16 ∧ j < 4 := by decide
    exact this j h
/-- an expanded word, by its signs -/
theorem spOf_get (cs : List Nat) {k : Nat} (hk : k < 5) : (spOf cs).getD k [] = written (wd ((imOf cs).getD k [])) (seedOf cs k) := by
  unfold spOf
  rw [List.getD_eq_getElem?_getD, List.getElem?_map, List.getElem?_range hk]; rfl
theorem spD_get (cs : List Nat) {k : Nat} (hk : k < 5) : (spD cs).getD k .none = .str (sx ((spOf cs).getD k [])) := by
  have hl : k < (spOf cs).length := by unfold spOf; rw [List.length_map, List.length_range]; exact hk
  unfold spD
  rw [List.getD_eq_getElem?_getD, List.getElem?_map, List.getD_eq_getElem?_getD, List.getElem?_eq_getElem hl]; rfl
theorem packOf_get (cs : List Nat) {k : Nat} (hk : k < 5) : (packOf cs).getD k 0 = dval (sizeOf2 cs) (iL ((imOf cs).getD k [])) := by
  have hl : k < (imOf cs).length := by rw [(im_ok cs).len]; exact hk
  unfold packOf
  rw [List.getD_eq_getElem?_getD, List.getElem?_map, List.getD_eq_getElem?_getD, List.getElem?_eq_getElem hl]; rfl
theorem packD_get (cs : List Nat) {k : Nat} (hk : k < 5) : ((packOf cs).map D.int).getD k .none = .int ((packOf cs).getD k 0) := by
  have hl : k < (packOf cs).length := by unfold packOf; rw [List.length_map, (im_ok cs).len]; exact hk
  rw [List.getD_eq_getElem?_getD, List.getElem?_map, List.getD_eq_getElem?_getD, List.getElem?_eq_getElem hl]; rfl
noncomputable def spW (cs : List Nat) (l : List Nat) : List Nat := l.flatMap fun k => (spOf cs).getD k []
theorem spW_len (cs : List Nat) : ∀ {l : List Nat}, Wd l → (spW cs l).length ≤ 8 * l.length
  | [], _ => by simp [spW]
  | k :: l, h => by
    have hk := h k (.head _)
    have ih := spW_len cs (l := l) fun x hx => h x (.tail _ hx)
    unfold spW at ih ⊢
    rw [List.flatMap_cons, List.length_append, List.length_cons, spOf_get cs hk]
    have a := written_len ((imOf cs).getD k []) (seedOf cs k)
    have b := ((im_ok cs).get hk).2.1
    have c := (im_ok cs).sp0
    omega
theorem spW_prep (cs : List Nat) {l : List Nat} (h : Wd l) : prep (spW cs l) = wd (l.flatMap fun k => (imOf cs).getD k []) := by
  unfold spW
  rw [p_flat (fun k => (spOf cs).getD k []) (fun k => wd ((imOf cs).getD k [])) l fun k hk => by rw [spOf_get cs (h k hk)]; exact p_written ((im_ok cs).get (h k hk)).2.2 _]
  unfold wd
  rw [List.map_flatMap]
theorem spell_F {w : World} (cs : List Nat) {l : List Nat} (hl : Wd l) (hz : l.length ≤ 100) : Fn (B1 w) 156 11 [.lst (spD cs), .str (sx (wd l))] (.lst ((l.map fun k => sx ((spOf cs).getD k [])).map .str)) := by
  have := f_each (w := w) (spD cs) (by unfold spD spOf; rw [List.length_map, List.length_map]; rfl) l hl (by omega)
  rw [show (l.map fun k => (spD cs).getD k .none) = (l.map fun k => sx ((spOf cs).getD k [])).map .str by
    rw [List.map_map]
    exact List.map_congr_left fun k hk => spD_get cs (hl k hk)] at this
  exact this.le (by omega)
theorem spell_j (cs : List Nat) {l : List Nat} (hl : Wd l) (hz : l.length ≤ 100) : JoinOk ⟨#[]⟩ (l.map fun k => sx ((spOf cs).getD k [])) = true := by
  refine joinOk_sx (fun y hy => ?_) (by rw [List.length_map]; omega)
  obtain ⟨k, hk, rfl⟩ := List.mem_map.mp hy
  rw [sx_len, spOf_get cs (hl k hk)]
  have a := written_len ((imOf cs).getD k []) (seedOf cs k)
  have b := ((im_ok cs).get (hl k hk)).2.1
  have c := (im_ok cs).sp0
  omega
theorem spell_e (cs l : List Nat) : Txt.join ⟨#[]⟩ (l.map fun k => sx ((spOf cs).getD k [])) = sx (spW cs l) := by
  rw [join_sx, List.flatMap_map]; rfl
theorem spell_G {w : World} (cs : List Nat) {l : List Nat} (hl : Wd l) (hz : l.length ≤ 100) : Fn (B1 w) 125 11 [.str (sx (spW cs l))] (.str (sx (wd (l.flatMap fun k => (imOf cs).getD k [])))) := by
  have G := f_prep (w := w) (sx (spW cs l)) (by
    have := spW_len cs hl
    show (spW cs l).length ≤ _
    omega)
  rw [show (sx (spW cs l)).cps.toList = spW cs l from rfl, spW_prep cs hl] at G
  exact G.le (by omega)
/-- what the digits say -/
theorem iL_flat (im : List (List Nat)) (l : List Nat) : iL (l.flatMap fun k => im.getD k []) = l.flatMap fun k => iL (im.getD k []) := by
  unfold iL; rw [List.map_flatMap]
noncomputable def bl (cs l : List Nat) : List Int := l.map fun k => (packOf cs).getD k 0
theorem bl_val (cs : List Nat) {l : List Nat} (hl : Wd l) : dval (sizeOf2 cs * spanOf cs) (bl cs l) = dval (sizeOf2 cs) (iL (l.flatMap fun k => (imOf cs).getD k [])) := by
  rw [iL_flat, dval_flat (sp := spanOf cs) l fun k hk => by rw [iL_len]; exact ((im_ok cs).get (hl k hk)).2.1]
  refine congrArg _ (List.map_congr_left fun k hk => ?_)
  rw [packOf_get cs (hl k hk)]
theorem bl_rng (cs : List Nat) {l : List Nat} (hl : Wd l) : ∀ d ∈ bl cs l, 0 ≤ d ∧ d < 2 ^ (sizeOf2 cs * spanOf cs) := by
  intro d hd
  obtain ⟨k, hk, rfl⟩ := List.mem_map.mp hd
  rw [packOf_get cs (hl k hk)]
  obtain ⟨h1, h2, h3⟩ := (im_ok cs).get (hl k hk)
  have := dval_range (sizeOf2 cs) (iL ((imOf cs).getD k [])) (iL_rng h3 (size_rng cs).1)
  rw [iL_len, h2] at this
  exact this
theorem bl_F {w : World} (cs : List Nat) {l : List Nat} (hl : Wd l) (hz : l.length ≤ 100) : Fn (B1 w) 156 11 [.lst ((packOf cs).map .int), .str (sx (wd l))] (.lst ((bl cs l).map .int)) := by
  have := f_each (w := w) ((packOf cs).map .int) (by unfold packOf; rw [List.length_map, List.length_map, (im_ok cs).len]) l hl (by omega)
  rw [show (l.map fun k => ((packOf cs).map D.int).getD k .none) = (bl cs l).map .int by
    unfold bl
    rw [List.map_map]
    exact List.map_congr_left fun k hk => packD_get cs (hl k hk)] at this
  exact this.le (by omega)
theorem dig_F {w : World} {l : List Nat} (hl : Wd l) (hz : l.length ≤ 100) : Fn (B1 w) 161 11 [.str (sx (wd l))] (.lst ((iL l).map .int)) := by
  have := f_digits (w := w) l hl (by omega)
  rw [show (l.map fun k : Nat => D.int k) = (iL l).map .int from nD_iL l] at this
  exact this.le (by omega)
theorem val_F {w : World} (cs : List Nat) {l : List Nat} (hl : Wd l) (hz : l.length ≤ 16) : Fn (B1 w) 42 11 [.lst ((iL l).map .int), .int (sizeOf2 cs)] (.int (dval (sizeOf2 cs) (iL l))) := by
  obtain ⟨z3, z1⟩ := size_rng cs
  refine (f_digits2int (iL_rng hl z3) ?_ (by rw [iL_len]; omega) (by omega)).le (by omega)
  rw [iL_len]
  have : sizeOf2 cs * l.length ≤ 1002 * 16 := Nat.mul_le_mul z1 hz
  omega
theorem wide_le (cs : List Nat) : 0 < sizeOf2 cs * spanOf cs ∧ sizeOf2 cs * spanOf cs ≤ 4008 := by
  obtain ⟨z3, z1⟩ := size_rng cs
  obtain ⟨s0, s4⟩ := (im_ok cs).sp0
  exact ⟨Nat.mul_pos (by omega) s0, Nat.mul_le_mul z1 s4⟩
theorem blv_F {w : World} (cs : List Nat) {l : List Nat} (hl : Wd l) (hz : l.length ≤ 8) : Fn (B1 w) 42 11 [.lst ((bl cs l).map .int), .int (sizeOf2 cs * spanOf cs : Nat)] (.int (dval (sizeOf2 cs) (iL (l.flatMap fun k => (imOf cs).getD k [])))) := by
  obtain ⟨w0, w1⟩ := wide_le cs
  have hb : (bl cs l).length = l.length := by unfold bl; rw [List.length_map]
  rw [← bl_val cs hl]
  refine (f_digits2int (bl_rng cs hl) ?_ (by rw [hb]; omega) (by omega)).le (by omega)
  rw [hb]
  have : sizeOf2 cs * spanOf cs * l.length ≤ 4008 * 8 := Nat.mul_le_mul w1 hz
  omega
theorem back_F {w : World} (cs : List Nat) {l : List Nat} (hl : Wd l) (hz : l.length ≤ 8) : Fn (B1 w) 35 11 [.int (dval (sizeOf2 cs) (iL (l.flatMap fun k => (imOf cs).getD k []))), .int (sizeOf2 cs * spanOf cs : Nat)] (.lst ((cut (bl cs l)).map .int)) := by
  obtain ⟨w0, w1⟩ := wide_le cs
  have hb : (bl cs l).length = l.length := by unfold bl; rw [List.length_map]
  obtain ⟨r0, r1⟩ := dval_range _ _ (bl_rng cs hl)
  rw [← bl_val cs hl, ← cut_digs w0 _ _ rfl (bl_rng cs hl)]
  have hnd := nd_le2 w0 r0 r1
  rw [hb] at hnd
  have hbits := nd_bits (dval (sizeOf2 cs * spanOf cs) (bl cs l)) w0
  have h1 : sizeOf2 cs * spanOf cs * nd (dval (sizeOf2 cs * spanOf cs) (bl cs l)) (sizeOf2 cs * spanOf cs) ≤ 4008 * 8 := Nat.mul_le_mul w1 (by omega)
  exact (f_int2digits r0 w0 (by omega) (by omega) (by omega) (by omega)).le (by omega)
end
end Mine
-- part U20
set_option maxHeartbeats 0
namespace Mine
noncomputable section
noncomputable def forB : Stmt → List Stmt
  | .For _ _ b _ _ => b
  | _ => []
noncomputable def ifT : Stmt → Expr
  | .If t _ _ _ => t
  | _ => default
noncomputable def cmpR : Expr → Expr
  | .Compare _ _ (r :: _) _ => r
  | _ => default
noncomputable def scT : Scope := lcS (cmpR (ifT ((forB (lawS 10)).getD 2 (.Pass default))))
theorem scT_1 (L : Addr) : closureFor scT (callEnvC fd_law L 180) = pure [(S "turn", L + 6), (S "start", L + 4), (S "images", L + 5)] := by kernel_rfl
theorem scT_2 : ∀ y ∈ scT.names, y.2 ≠ .cell := by decide +kernel
theorem scT_3 : scT.kind = .function := by kernel_rfl
theorem scT_4 : ∀ y ∈ scT.names, y.2 = .local → scT.names.lookup y.1 = some .local := by decide +kernel
theorem scT_5 : scT.names.lookup (S "k") = some .local := by kernel_rfl
theorem scT_6 : scT.names.lookup (S "turn") = some .free ∧ scT.names.lookup (S "start") = some .free ∧ scT.names.lookup (S "images") = some .free := ⟨by kernel_rfl, by kernel_rfl, by kernel_rfl⟩
theorem scT_7 (cl : List (PySem.Str × Addr)) (L L' : Addr) : (compEnvC scT cl L (callEnvC fd_law L' 180)).kindOf (S "_law_at") = some .globalImplicit := by kernel_rfl
noncomputable def gA (cs : List Nat) (t : Nat) : D → D
  | .int k => .str (c1 (lt (atTo (imOf cs) (spanOf cs) (startOf cs) k.toNat t t)))
  | d => d
abbrev TT' (cs : List Nat) (t : Nat) : List Nat := wordT (imOf cs) (startOf cs) t
theorem law_loop1 {w : World} {C : Cx} {L : Addr} (I : In_law w C L) (hd : C.A.depth + 11 < recursionLimit) (hu : C.A.units + 8 * 11 < cLine) {sc : D} {Φ : Fl → St → Prop} {cs : List Nat}
    (H : ∀ b wh tt, Exs C ⟨vs5 sc cs (TT' cs (4 / wdth cs)) (b :: wh :: non 11), obs L tt cs⟩ (lawB 11) Φ) :
    Exs C ⟨vs5 sc cs [startOf cs] (non 13), obs L [] cs⟩ (lawB 10) Φ := by
  have W := I.W
  have K := im_ok cs
  obtain ⟨s0, s4⟩ := K.sp0
  have h0 : startOf cs < 5 := Nat.mod_lt _ (by omega)
  obtain ⟨w0, w1⟩ := wide_le cs
  obtain ⟨z3, z1⟩ := size_rng cs
  have i4 : L + 4 ∈ C.cs := List.mem_map_of_mem (f := (·.2)) (cx_law_start I)
  have i5 : L + 5 ∈ C.cs := List.mem_map_of_mem (f := (·.2)) (cx_law_images I)
  have i6 : L + 6 ∈ C.cs := List.mem_map_of_mem (f := (·.2)) (cx_law_turn I)
  have m2 : ∀ {a b c d e x : List D}, (L + 2, e) ∈ [(L + 6, a), (L + 5, b), (L + 4, c), (L + 3, d), (L + 2, e), (L + 1, x)] := .tail _ (.tail _ (.tail _ (.tail _ (.head _))))
  have m3 : ∀ {a b c d e x : List D}, (L + 3, d) ∈ [(L + 6, a), (L + 5, b), (L + 4, c), (L + 3, d), (L + 2, e), (L + 1, x)] := .tail _ (.tail _ (.tail _ (.head _)))
  have m4 : ∀ {a b c d e x : List D}, (L + 4, c) ∈ [(L + 6, a), (L + 5, b), (L + 4, c), (L + 3, d), (L + 2, e), (L + 1, x)] := .tail _ (.tail _ (.head _))
  have m5 : ∀ {a b c d e x : List D}, (L + 5, b) ∈ [(L + 6, a), (L + 5, b), (L + 4, c), (L + 3, d), (L + 2, e), (L + 1, x)] := .tail _ (.head _)
  have m6 : ∀ {a b c d e x : List D}, (L + 6, a) ∈ [(L + 6, a), (L + 5, b), (L + 4, c), (L + 3, d), (L + 2, e), (L + 1, x)] := .head _
  have hw1 : 1 ≤ wdth cs ∧ wdth cs ≤ 2 := by rcases wdth_or cs with h | h <;> omega
  obtain ⟨N, hN⟩ : ∃ N, 4 / wdth cs = N := ⟨_, rfl⟩
  have hN4 : N ≤ 4 := hN ▸ Nat.div_le_self _ _
  have hNi : (4 : Int) / (wdth cs : Int) = (N : Int) := by rw [← hN]; push_cast; rfl
  rw [hN] at H
  refine exs_cons (ex_for_gen W (asg_cell W 0 (cx_law_turn I)) (fun j σ => ∃ (b wh : Option D) (tt : List D), σ = ⟨vs5 sc cs (TT' cs j) (b :: wh :: non 11), obs L tt cs⟩) (ds := rangeD 1 N) (fun n d σ' _ ⟨b, wh, tt, e⟩ => ⟨tt, by rw [e]; rfl⟩) (evIt_conv (evIt_range2 (a := 1) (b := ((N + 1 : Nat) : Int)) W (kn_law_range I) (mg_range I.B) (mb_range I.B) ev_int (ev_conv (ev_add (ev_div ev_int (ev_name W 1 (nx_law_width I) rfl) (by omega) (small_py (by omega) (by omega))) ev_int) ?_) (by omega) (by omega) (by omega) ?_) ?_) ?_ ?_ ?_)
  · rw [Int.fdiv_eq_ediv_of_nonneg _ (by omega), hNi]; push_cast; rfl
  · omega
  · congr 1; omega
  · exact ⟨none, none, [], rfl⟩
  · rintro j d _ hj ⟨b, wh, tt, rfl⟩
    obtain ⟨hjl, rfl⟩ := rangeD_get hj
    obtain ⟨x1, x2, x3⟩ := exp_le cs (hN.symm ▸ hjl)
    have hj1 : (1 : Int) + (j : Int) = ((j + 1 : Nat) : Int) := by omega
    rw [hj1]
    show Exs C ⟨vs5 sc cs (TT' cs j) (b :: wh :: non 11), obs L [.int ((j + 1 : Nat) : Int)] cs⟩ _ _
    have hT := wordT_wd K h0 j
    have hT1 := wordT_wd K h0 (j + 1)
    have lT : (TT' cs j).length ≤ 8 := by rw [wordT_len K h0 j]; exact x1
    have lT1 : (TT' cs (j + 1)).length ≤ 16 := by rw [wordT_len K h0 (j + 1)]; exact x2
    obtain ⟨M, hM⟩ : ∃ M, spanOf cs ^ (j + 1) = M := ⟨_, rfl⟩
    have hM16 : M ≤ 16 := hM ▸ x2
    refine exs_assign (d := .lst ((bl cs (TT' cs j)).map .int)) W 5 (nx_law_blocks I) (ev_def W I.B (kn_law_law_each I) (mg_law_each I.B) (s1_law_each w) rfl (evs_cons (ev_name W 3 (nx_law_packed I) rfl) (evs_cons (ev_name W 4 (nx_law_text I) rfl) evs_nil)) (bl_F cs hT (by omega)) hd hu) ?_
    refine exs_assign (d := .str (sx (wd (TT' cs (j + 1))))) W 4 (nx_law_text I) (ev_def W I.B (kn_law_law_prepared I) (mg_law_prepared I.B) (s1_law_prepared w) rfl (evs_cons (ev_conv (ev_join W (x := ⟨#[]⟩) ev_str (ev_def W I.B (kn_law_law_each I) (mg_law_each I.B) (s1_law_each w) rfl (evs_cons (ev_name W 2 (nx_law_spelled I) rfl) (evs_cons (ev_name W 4 (nx_law_text I) rfl) evs_nil)) (spell_F cs hT (Nat.le_trans lT (by decide))) hd hu) (.lst _) (spell_j cs hT (Nat.le_trans lT (by decide)))) (by rw [spell_e])) evs_nil) (spell_G cs hT (Nat.le_trans lT (by decide))) hd hu) ?_
    have hpw : ((spanOf cs : Int) ^ ((j + 1 : Nat) : Int).toNat) = ((spanOf cs ^ (j + 1) : Nat) : Int) := by rw [Int.toNat_natCast, Int.natCast_pow]
    have hmap : ((rangeD 0 ((spanOf cs ^ (j + 1) : Nat) : Int).toNat).filter fun _ => true).map (gA cs (j + 1)) = ((TT' cs (j + 1)).map fun k => c1 (lt k)).map .str := by
      rw [List.filter_eq_self.mpr (fun _ _ => rfl), Int.toNat_natCast, rangeD, List.map_map, TT', wordT_eq K h0, List.map_map, List.map_map]
      refine List.map_congr_left fun p hp => ?_
      show D.str (c1 (lt (atTo (imOf cs) (spanOf cs) (startOf cs) ((0 : Int) + (p : Int)).toNat (j + 1) (j + 1)))) = .str (c1 (lt (Lam (imOf cs) (spanOf cs) (startOf cs) (j + 1) p)))
      rw [Int.zero_add, Int.toNat_natCast, atTo_all s0 p (j + 1) (List.mem_range.mp hp)]
    have hjoin : Txt.join ⟨#[]⟩ ((TT' cs (j + 1)).map fun k => c1 (lt k)) = sx (wd (TT' cs (j + 1))) := by
      rw [join_sx, List.flatMap_map]
      congr 2
      simp [wd, c1]
      rw [List.map_eq_flatMap]
    refine exs_if_leave (c := false) (ts_conv (ts_cmp (ev_name W 4 (nx_law_text I) rfl) (ev_conv (ev_join W (x := ⟨#[]⟩) (ts := (TT' cs (j + 1)).map fun k => c1 (lt k)) ev_str (ev_conv (ev_listcomp W (cl := [(S "turn", L + 6), (S "start", L + 4), (S "images", L + 5)]) (cv := [(S "turn", .int ((j + 1 : Nat) : Int)), (S "start", .str (c1 (lt (startOf cs)))), (S "images", .lst (imD (imOf cs)))]) (scope := scT) (x := S "k") (ds := rangeD 0 ((spanOf cs ^ (j + 1) : Nat) : Int).toNat) (fun _ => true) (gA cs (j + 1)) (evIt_range1 W (kn_law_range I) (mg_range I.B) (mb_range I.B) (ev_conv (ev_pow (ev_cell W (cx_law_span I) m2) (ev_cell W (cx_law_turn I) m6) (by omega) (pow_ok (by omega) (by omega) (by omega) (by omega))) (by rw [hpw])) (by omega) (by omega)) (by rw [I.E]; exact scT_1 L) scT_2 scT_3 scT_4 scT_5 (cap_cons scT_6.1 rfl i6 m6 (cap_cons scT_6.2.1 rfl i4 m4 (cap_cons scT_6.2.2 rfl i5 m5 cap_nil))) (by rw [rangeD_len]; omega) (fun h₀ X L d ob W' hd' => tsC_nil) (fun h₀ X L' d ob W' hd' _ => ?c1)) (by rw [hmap])) (.lst _) ?c2) (by rw [hjoin])) co_nes) (by simp)) (fun q => nomatch q) (fun _ => ?_)
    case c1 =>
      obtain ⟨p, hp, rfl⟩ := rangeD_mem hd'
      rw [Int.zero_add]
      show Ev _ _ _ (.str (c1 (lt (atTo (imOf cs) (spanOf cs) (startOf cs) (p : Int).toNat (j + 1) (j + 1)))))
      rw [Int.toNat_natCast]
      exact ev_def W' I.B (by show (compEnvC scT _ L' C.env).kindOf _ = _; rw [I.E]; exact scT_7 _ _ _) (mg_law_at I.B) (s1_law_at w) rfl (evs_cons (ev_cons W' (.tail _ (.tail _ (.head _)))) (evs_cons (ev_cons W' (.tail _ (.head _))) (evs_cons (ev_name W' 0 rfl rfl) (evs_cons (ev_cons W' (.head _)) evs_nil)))) ((f_at K _ _ _ h0 (by omega)).le (by omega)) hd hu
    case c2 =>
      refine joinOk_sx (fun y hy => ?_) (by rw [List.length_map]; omega)
      obtain ⟨k, _, rfl⟩ := List.mem_map.mp hy
      show 1 ≤ 100; omega
    refine exs_assign (d := .int (dval (sizeOf2 cs) (iL (TT' cs (j + 1))))) W 6 (nx_law_whole I) (ev_def W I.B (kn_law_digits2int I) (mg_digits2int I.B) (g5_1 w) rfl (evs_cons (ev_def W I.B (kn_law_law_digits I) (mg_law_digits I.B) (s1_law_digits w) rfl (evs_cons (ev_name W 4 (nx_law_text I) rfl) evs_nil) (dig_F hT1 (by omega)) hd hu) (evs_cons (ev_cell W (cx_law_size I) m3) evs_nil)) (val_F cs hT1 (by omega)) hd hu) ?_
    have hm : IntMulOk (sizeOf2 cs : Int) (spanOf cs : Int) := .of_left (intBits_le_64 (by omega) (by omega))
    refine exs_if_leave (c := false) (ts_conv (ts_cmp (ev_def W I.B (kn_law_digits2int I) (mg_digits2int I.B) (g5_1 w) rfl (evs_cons (ev_name W 5 (nx_law_blocks I) rfl) (evs_cons (ev_conv (ev_mul (ev_cell W (cx_law_size I) m3) (ev_cell W (cx_law_span I) m2) hm) (by rw [Int.natCast_mul])) evs_nil)) (blv_F cs hT (by omega)) hd hu) (ev_name W 6 (nx_law_whole I) rfl) co_ne) (bne_self_eq_false _)) (fun q => nomatch q) (fun _ => ?_)
    have hbl : (bl cs (TT' cs j)).length ≤ 1000 := by unfold bl; rw [List.length_map]; omega
    refine exs_if_leave (c := false) (ts_cmp (ev_def W I.B (kn_law_int2digits I) (mg_int2digits I.B) (g4_1 w) rfl (evs_cons (ev_name W 6 (nx_law_whole I) rfl) (evs_cons (ev_conv (ev_mul (ev_cell W (cx_law_size I) m3) (ev_cell W (cx_law_span I) m2) hm) (by rw [Int.natCast_mul])) evs_nil)) (back_F cs hT (by omega)) hd hu) (ev_def W I.B (kn_law_law_cut I) (mg_law_cut I.B) (s1_law_cut w) rfl (evs_cons (ev_name W 5 (nx_law_blocks I) rfl) evs_nil) ((f_cut _ hbl).le (by omega)) hd hu) (co_nel W (by omega))) (fun q => nomatch q) (fun _ => ?_)
    exact exs_nil ⟨_, _, _, rfl⟩
  · rintro _ ⟨b, wh, tt, rfl⟩
    rw [rangeD_len]
    exact H b wh tt
end
end Mine
-- part N6
set_option maxHeartbeats 0
namespace Mine
noncomputable section
theorem digs_get {n : Nat} : ∀ (m : Nat) (x : Int) (i : Nat), i < m → (digs n x m)[i]? = some (x / 2 ^ (n * i) % 2 ^ n)
  | m + 1, x, 0, h => by simp [digs]
  | m + 1, x, i + 1, h => by
    simp only [digs, List.getElem?_cons_succ]
    rw [digs_get m _ i (by omega), Int.ediv_ediv_of_nonneg (Int.le_of_lt (two_pow_pos n)), ← Int.pow_add, show n * (i + 1) = n + n * i by rw [Nat.mul_succ]; omega]
theorem digs_zero {n : Nat} : ∀ m, digs n 0 m = List.replicate m 0
  | 0 => rfl
  | m + 1 => by simp only [digs, List.replicate_succ]; rw [Int.zero_emod, Int.zero_ediv, digs_zero m]
theorem row_pad {W R : Nat} {x : Int} (hn : 0 < W) (h0 : 0 ≤ x) (hlt : x < 2 ^ (W * R)) : nd x W ≤ R ∧ digs W x (nd x W) ++ List.replicate (R - nd x W) 0 = digs W x R := by
  have h1 := nd_le2 hn h0 hlt
  refine ⟨h1, ?_⟩
  conv => rhs; rw [show R = nd x W + (R - nd x W) by omega, digs_add, Int.ediv_eq_zero_of_lt h0 (lt_nd h0 hn), digs_zero]
theorem digs_nat {W P R i sp : Nat} (hs : sp = 2 ^ W) (hi : i < R) : (digs W (P : Int) R)[i]? = some ((P / sp ^ i % sp : Nat) : Int) := by
  rw [digs_get R _ i hi, hs, ← Nat.pow_mul]
  push_cast; rfl
theorem digs_rev {W P R j sp : Nat} (hs : sp = 2 ^ W) (hj : j < R) : (digs W (P : Int) R).reverse[j]? = some ((P / sp ^ (R - 1 - j) % sp : Nat) : Int) := by
  rw [List.getElem?_reverse (by rw [digs_length]; exact hj), digs_length]
  exact digs_nat hs (by omega)
noncomputable def placeOf (cs : List Nat) : Nat := cs.getD 7 0 % 10 ^ 9
noncomputable def ndP (cs : List Nat) : Nat := nd (placeOf cs : Int) (wdth cs)
noncomputable def roundsOf (cs : List Nat) : Nat := ndP cs + cs.getD 8 0 % 3
theorem sp_pow (cs : List Nat) (e : Nat) : spanOf cs ^ e = 2 ^ (wdth cs * e) := by unfold spanOf; rw [← Nat.pow_mul]
theorem int_pow (a b : Nat) : ((a ^ b : Nat) : Int) = (a : Int) ^ b := by rw [Int.natCast_pow]
structure FarOk (cs : List Nat) : Prop where
  p9 : placeOf cs < 10 ^ 9
  r : roundsOf cs ≤ 34
  n : ndP cs ≤ 30
  lt : placeOf cs < spanOf cs ^ roundsOf cs
theorem far_ok (cs : List Nat) : FarOk cs := by
  have hw : 0 < wdth cs := by unfold wdth; omega
  have h9 : placeOf cs < 10 ^ 9 := Nat.mod_lt _ (by decide)
  have h30 : ((placeOf cs : Nat) : Int) < 2 ^ (wdth cs * 30) := by
    have a : (10 : Nat) ^ 9 < 2 ^ 30 := by decide
    have b : (2 : Nat) ^ 30 ≤ 2 ^ (wdth cs * 30) := Nat.pow_le_pow_right (by omega) (by omega)
    have c : ((placeOf cs : Nat) : Int) < ((2 ^ (wdth cs * 30) : Nat) : Int) := Int.ofNat_lt.mpr (by omega)
    rw [int_pow] at c; exact c
  have hn : ndP cs ≤ 30 := nd_le2 hw (by omega) h30
  refine ⟨h9, ?_, hn, ?_⟩
  · unfold roundsOf; omega
  · have h1 := lt_nd (x := (placeOf cs : Int)) (by omega) hw
    have h2 : placeOf cs < 2 ^ (wdth cs * ndP cs) := by
      have : ((placeOf cs : Nat) : Int) < ((2 ^ (wdth cs * ndP cs) : Nat) : Int) := by rw [int_pow]; exact h1
      exact Int.ofNat_lt.mp this
    rw [sp_pow]
    have h3 : (2 : Nat) ^ (wdth cs * ndP cs) ≤ 2 ^ (wdth cs * roundsOf cs) := Nat.pow_le_pow_right (by omega) (Nat.mul_le_mul_left _ (by unfold roundsOf; omega))
    omega
/-- a division by a power of the span -/
theorem dm_F {w : World} {cs : List Nat} {a e : Nat} (ha : a < spanOf cs ^ (e + 1)) (he : e ≤ 34) : Fn (B1 w) 56 11 [.int a, .int (spanOf cs ^ e : Nat)] (.tup [.int (a / spanOf cs ^ e : Nat), .int (a % spanOf cs ^ e : Nat)]) := by
  obtain ⟨s0, s4⟩ := (im_ok cs).sp0
  have hw1 : 1 ≤ wdth cs ∧ wdth cs ≤ 2 := by rcases wdth_or cs with h | h <;> omega
  have hpos : 0 < spanOf cs ^ e := Nat.pow_pos s0
  have hval : ((spanOf cs ^ e : Nat) : Int) = 2 ^ (wdth cs * e) := by rw [sp_pow, int_pow]; rfl
  have b1 : wdth cs * e < Builtin.Int.intBits ((spanOf cs ^ e : Nat) : Int) := intBits_ge (by rw [hval]; exact Int.le_refl _)
  have hwe : wdth cs * e ≤ 2 * 34 := Nat.mul_le_mul hw1.2 he
  have b2 : Builtin.Int.intBits ((spanOf cs ^ e : Nat) : Int) ≤ wdth cs * e + 1 := intBits_le_of (by omega) (by
    rw [hval]
    have : (2 : Nat) ^ (wdth cs * e) < 2 ^ (wdth cs * e + 1) := Nat.pow_lt_pow_right (by omega) (by omega)
    have h := Int.ofNat_lt.mpr this
    rw [int_pow, int_pow] at h; exact h)
  have hfd : fdm (a : Int) ((spanOf cs ^ e : Nat) : Int) = .tup [.int (a / spanOf cs ^ e : Nat), .int (a % spanOf cs ^ e : Nat)] := by
    unfold fdm
    rw [Int.fdiv_eq_ediv_of_nonneg _ (by omega), Int.fmod_eq_emod_of_nonneg _ (by omega)]
    rw [← Int.natCast_ediv, ← Int.natCast_emod]
  rw [← hfd]
  refine (f_int_divmod_pos (by omega) (by omega) (by omega) ?_).le (by omega)
  have c1 : a < 2 ^ (32 * Builtin.Int.intBits ((spanOf cs ^ e : Nat) : Int)) := by
    rw [sp_pow] at ha
    refine Nat.lt_of_lt_of_le ha (Nat.pow_le_pow_right (by omega) ?_)
    rw [Nat.mul_succ]
    omega
  have := Int.ofNat_lt.mpr c1
  rw [int_pow] at this; exact this
/-- what loop two carries on -/
theorem step_rest (P sp e : Nat) : P % sp ^ (e + 1) / sp ^ e = P / sp ^ e % sp ∧ P % sp ^ (e + 1) % sp ^ e = P % sp ^ e := by
  constructor
  · rw [Nat.pow_succ, Nat.mod_mul_right_div_self]
  · rw [Nat.pow_succ, Nat.mod_mul_right_mod]
theorem step_q (P sp e : Nat) : P / sp ^ e = P / sp ^ (e + 1) * sp + P / sp ^ e % sp := by
  rw [Nat.pow_succ, ← Nat.div_div_eq_div_mul]
  have := Nat.div_add_mod (P / sp ^ e) sp
  rw [Nat.mul_comm] at this
  exact this.symm
end
end Mine
-- part U21
set_option maxHeartbeats 0
namespace Mine
noncomputable section
abbrev keptC (cs : List Nat) (t q : Nat) : List Nat := keptL (imOf cs) (spanOf cs) (startOf cs) t q
theorem law_loop2 {w : World} {C : Cx} {L : Addr} (I : In_law w C L) (hd : C.A.depth + 11 < recursionLimit) (hu : C.A.units + 8 * 11 < cLine) {sc : D} {Φ : Fl → St → Prop} {cs tx : List Nat} {b wh : Option D} {tt : List D} (hlen : cs.length = 10)
    (H : ∀ r f tt, Exs C ⟨vs5 sc cs tx ([b, wh, some (.int (placeOf cs)), some (.int (roundsOf cs)), r, some (.str (sx (wd (keptC cs (roundsOf cs) (placeOf cs))))), f] ++ non 6), obs L tt cs⟩ (lawB 16) Φ) :
    Exs C ⟨vs5 sc cs tx (b :: wh :: non 11), obs L tt cs⟩ (lawB 11) Φ := by
  have W := I.W
  have K := im_ok cs
  have F := far_ok cs
  obtain ⟨s0, s4⟩ := K.sp0
  have h0 : startOf cs < 5 := Nat.mod_lt _ (by omega)
  have hcell : ∀ i, i < 10 → (nD cs)[i]? = some (.int (cs.getD i 0 : Nat)) := fun i h => cell_at (by omega)
  have m1 : ∀ {a b c d e x : List D}, (L + 1, x) ∈ [(L + 6, a), (L + 5, b), (L + 4, c), (L + 3, d), (L + 2, e), (L + 1, x)] := .tail _ (.tail _ (.tail _ (.tail _ (.tail _ (.head _)))))
  have m2 : ∀ {a b c d e x : List D}, (L + 2, e) ∈ [(L + 6, a), (L + 5, b), (L + 4, c), (L + 3, d), (L + 2, e), (L + 1, x)] := .tail _ (.tail _ (.tail _ (.tail _ (.head _))))
  have m4 : ∀ {a b c d e x : List D}, (L + 4, c) ∈ [(L + 6, a), (L + 5, b), (L + 4, c), (L + 3, d), (L + 2, e), (L + 1, x)] := .tail _ (.tail _ (.head _))
  have m6 : ∀ {a b c d e x : List D}, (L + 6, a) ∈ [(L + 6, a), (L + 5, b), (L + 4, c), (L + 3, d), (L + 2, e), (L + 1, x)] := .head _
  have hw1 : 1 ≤ wdth cs ∧ wdth cs ≤ 2 := by rcases wdth_or cs with h | h <;> omega
  obtain ⟨P, hP⟩ : ∃ P, placeOf cs = P := ⟨_, rfl⟩
  obtain ⟨R, hR⟩ : ∃ R, roundsOf cs = R := ⟨_, rfl⟩
  have f1 := F.p9
  have f2 := F.r
  have f3 := F.lt
  have f4 := F.n
  rw [hP, hR] at f3
  rw [hR] at f2
  rw [hP] at f1
  have h30 : Builtin.Int.intBits (P : Int) ≤ 30 := intBits_le_of (by omega) (by
    have a : (10 : Nat) ^ 9 < 2 ^ 30 := by decide
    have c : ((P : Nat) : Int) < ((2 ^ 30 : Nat) : Int) := Int.ofNat_lt.mpr (by omega)
    rw [int_pow] at c; exact c)
  have hndP : nd (P : Int) (wdth cs) = ndP cs := by unfold ndP; rw [hP]
  refine exs_assign (d := .int P) W 7 (nx_law_place I) (ev_conv (ev_mod (ev_item (ev_cell W (cx_law_cells I) m1) (.lst _) ev_int (by decide) (by decide) (hcell 7 (by omega))) (ev_pow ev_int ev_int (by decide) (by decide +kernel)) (by decide)) ?_) ?_
  · rw [Int.fmod_eq_emod_of_nonneg _ (by decide), ← hP]
    unfold placeOf
    rw [Int.natCast_emod]; rfl
  have G : Fn (B1 w) 35 11 [.int P, .int (wdth cs)] (.lst ((digs (wdth cs) P (ndP cs)).map .int)) := by
    rw [← hndP]
    have hm : wdth cs * ndP cs ≤ 2 * 30 := Nat.mul_le_mul hw1.2 f4
    exact (f_int2digits (by omega) (by omega) (by rw [hndP]; omega) (by rw [hndP]; omega) (by omega) (by omega)).le (by omega)
  refine exs_assign (d := .int R) W 8 (nx_law_rounds I) (ev_conv (ev_add (ev_len W (ds := (digs (wdth cs) P (ndP cs)).map .int) (kn_law_len I) (mg_len I.B) (mb_len I.B) (ev_def W I.B (kn_law_int2digits I) (mg_int2digits I.B) (g4_1 w) rfl (evs_cons (ev_name W 7 (nx_law_place I) rfl) (evs_cons (ev_name W 1 (nx_law_width I) rfl) evs_nil)) G hd hu) (.lst _) (by rw [List.length_map, digs_length]; omega)) (ev_mod (ev_item (ev_cell W (cx_law_cells I) m1) (.lst _) ev_int (by decide) (by decide) (hcell 8 (by omega))) ev_int (by decide))) ?_) ?_
  · rw [Int.fmod_eq_emod_of_nonneg _ (by decide), List.length_map, digs_length, ← hR]
    unfold roundsOf
    push_cast; rfl
  refine exs_assign (d := .int P) W 9 (nx_law_rest I) (ev_name W 7 (nx_law_place I) rfl) ?_
  refine exs_assign (d := .str (c1 (lt (startOf cs)))) W 10 (nx_law_kept I) (ev_cell W (cx_law_start I) m4) ?_
  refine exs_cons (ex_for_gen W (asg_cell W 0 (cx_law_turn I)) (fun t σ => t ≤ R ∧ ∃ (f : Option D) (tt : List D), σ = ⟨vs5 sc cs tx ([b, wh, some (.int P), some (.int R), some (.int (P % spanOf cs ^ (R - t) : Nat)), some (.str (sx (wd (keptC cs t (P / spanOf cs ^ (R - t)))))), f] ++ non 6), obs L tt cs⟩) (ds := rangeD 0 (R : Int).toNat) (fun n d σ' _ ⟨_, f, tt, e⟩ => ⟨tt, by rw [e]; rfl⟩) (evIt_range1 W (kn_law_range I) (mg_range I.B) (mb_range I.B) (ev_name W 8 (nx_law_rounds I) rfl) (by omega) (by omega)) ?_ ?_ ?_)
  · refine ⟨Nat.zero_le _, none, tt, ?_⟩
    rw [Nat.sub_zero, Nat.mod_eq_of_lt f3, Nat.div_eq_of_lt f3]
    rfl
  · rintro t d _ hj ⟨_, f, tt, rfl⟩
    obtain ⟨htl, rfl⟩ := rangeD_get hj
    rw [Int.toNat_natCast] at htl
    rw [Int.zero_add]
    show Exs C ⟨vs5 sc cs tx ([b, wh, some (.int P), some (.int R), some (.int (P % spanOf cs ^ (R - t) : Nat)), some (.str (sx (wd (keptC cs t (P / spanOf cs ^ (R - t)))))), f] ++ non 6), obs L [.int (t : Int)] cs⟩ _ _
    obtain ⟨e, he⟩ : ∃ e, R - 1 - t = e := ⟨_, rfl⟩
    have he1 : R - t = e + 1 := by omega
    have he2 : R - (t + 1) = e := by omega
    rw [he1, he2]
    obtain ⟨q1, q2⟩ := step_rest P (spanOf cs) e
    have hq3 := step_q P (spanOf cs) e
    have hpos : 0 < spanOf cs ^ (e + 1) := Nat.pow_pos s0
    have hfl : P / spanOf cs ^ e % spanOf cs < spanOf cs := Nat.mod_lt _ s0
    have hql : P / spanOf cs ^ (e + 1) < spanOf cs ^ t := by
      rw [Nat.div_lt_iff_lt_mul hpos, ← Nat.pow_add, show t + (e + 1) = R by omega]; exact f3
    have hexp : ((R : Int) - 1 - (t : Int)) = ((e : Nat) : Int) := by omega
    have hpw : ((spanOf cs : Int) ^ ((R : Int) - 1 - (t : Int)).toNat) = ((spanOf cs ^ e : Nat) : Int) := by rw [hexp, Int.toNat_natCast, int_pow]
    have G2 := dm_F (w := w) (cs := cs) (a := P % spanOf cs ^ (e + 1)) (e := e) (Nat.mod_lt _ hpos) (by omega)
    rw [q1, q2] at G2
    obtain ⟨fg, hfg⟩ : ∃ fg, P / spanOf cs ^ e % spanOf cs = fg := ⟨_, rfl⟩
    obtain ⟨q, hq⟩ : ∃ q, P / spanOf cs ^ (e + 1) = q := ⟨_, rfl⟩
    rw [hfg] at G2 hfl hq3
    rw [hq] at hql hq3
    rw [hq, hq3]
    refine exs_tuple W (is := [11, 9]) (.cons 11 (nx_law_figure I) (.cons 9 (nx_law_rest I) .nil)) (ev_def W I.B (kn_law_int_divmod I) (mg_int_divmod I.B) (s1_int_divmod w) rfl (evs_cons (ev_name W 9 (nx_law_rest I) rfl) (evs_cons (ev_conv (ev_pow (ev_cell W (cx_law_span I) m2) (ev_sub (ev_sub (ev_name W 8 (nx_law_rounds I) rfl) ev_int) (ev_cell W (cx_law_turn I) m6)) (by omega) (pow_ok (by omega) (by omega) (by omega) (by omega))) (by rw [hpw])) evs_nil)) G2 hd hu) rfl ?_
    obtain ⟨hkw, hkl⟩ := keptL_wd K h0 t q
    have hkl' : (keptC cs t q).length ≤ 100 := Nat.le_trans hkl (by decide)
    obtain ⟨E, hE⟩ : ∃ E, (keptC cs t q).flatMap (fun k => (imOf cs).getD k []) = E := ⟨_, rfl⟩
    have hEl : spanOf cs ≤ E.length ∧ E.length ≤ 8 := by
      rw [← hE, flat_len (sp := spanOf cs) _ fun a ha => (K.get (hkw a ha)).2.1]
      have h1 : 1 ≤ (keptC cs t q).length := by unfold keptC keptL; rw [List.length_cons]; omega
      have h2 : 1 * spanOf cs ≤ (keptC cs t q).length * spanOf cs := Nat.mul_le_mul_right _ h1
      have h3 : (keptC cs t q).length * spanOf cs ≤ 2 * 4 := Nat.mul_le_mul hkl s4
      rw [Nat.one_mul] at h2
      exact ⟨h2, h3⟩
    have hxl : (sx (wd E)).length = E.length := by rw [sx_len, wd, List.length_map]
    have hks := kept_step K h0 (t := t) (q := q) (f := fg) hql hfl
    rw [show (keptL (imOf cs) (spanOf cs) (startOf cs) t q).flatMap (fun a => (imOf cs).getD a []) = E from hE] at hks
    have G3 := spell_G (w := w) cs hkw hkl'
    rw [hE] at G3
    refine exs_assign (d := .str (sx (wd (keptC cs (t + 1) (q * spanOf cs + fg))))) W 10 (nx_law_kept I) (ev_conv (ev_strslice (x := sx (wd E)) (i := fg) (j := fg + 2) (ev_def W I.B (kn_law_law_prepared I) (mg_law_prepared I.B) (s1_law_prepared w) rfl (evs_cons (ev_conv (ev_join W (x := ⟨#[]⟩) ev_str (ev_def W I.B (kn_law_law_each I) (mg_law_each I.B) (s1_law_each w) rfl (evs_cons (ev_name W 2 (nx_law_spelled I) rfl) (evs_cons (ev_name W 10 (nx_law_kept I) rfl) evs_nil)) (spell_F cs hkw hkl') hd hu) (.lst _) (spell_j cs hkw hkl')) (by rw [spell_e])) evs_nil) G3 hd hu) (ev_name W 11 (nx_law_figure I) rfl) (ev_conv (ev_add (ev_name W 11 (nx_law_figure I) rfl) ev_int) (by push_cast; rfl)) (by rw [hxl]; omega) (by omega) (by rw [hxl]; omega)) ?_) (exs_nil ⟨by omega, _, _, rfl⟩)
    show D.str ⟨(((wd E).drop fg).take (fg + 2 - fg)).toArray⟩ = _
    rw [Nat.add_sub_cancel_left, wd, ← List.map_drop, ← List.map_take, hks]
    rfl
  · rintro _ ⟨_, f, tt, rfl⟩
    rw [rangeD_len, Int.toNat_natCast, Nat.sub_self, Nat.pow_zero, Nat.div_one]
    have := H (some (.int (P % 1 : Nat))) f tt
    rw [hP, hR] at this
    exact this
end
end Mine
-- part U22
set_option maxHeartbeats 0
namespace Mine
noncomputable section
theorem ev_and2 {C : Cx} {σ : St} {a b : Expr} {p : Pos} {d : D} (ha : Ev C σ a (.bool true)) (hb : Ev C σ b d) : Ev C σ (.BoolOp .And [a, b] p) d := .mk fun s Q E O h =>
  wpAny_And2 (ha.run s _ E O fun v h₁ t₁ k₁ r₁ => by
    cases r₁
    refine wpAny_truthy_bool ?_
    rw [if_pos rfl]
    exact hb.run _ _ E (O.keep k₁) fun v h₂ t₂ k₂ => h v h₂ t₂ (k₁.trans k₂))
noncomputable def scF : Scope := lcS (asV (lawS 16))
theorem scF_1 (L : Addr) : closureFor scF (callEnvC fd_law L 180) = pure [] := by kernel_rfl
theorem scF_2 : ∀ y ∈ scF.names, y.2 ≠ .cell := by decide +kernel
theorem scF_3 : scF.kind = .function := by kernel_rfl
theorem scF_4 : ∀ y ∈ scF.names, y.2 = .local → scF.names.lookup y.1 = some .local := by decide +kernel
theorem scF_5 : scF.names.lookup (S "piece") = some .local := by kernel_rfl
theorem scF_7 (cl : List (PySem.Str × Addr)) (L L' : Addr) : (compEnvC scF cl L (callEnvC fd_law L' 180)).kindOf (S "_law_prepared") = some .globalImplicit := by kernel_rfl
noncomputable def gF : D → D
  | .str x => .str (sx (prep x.cps.toList))
  | d => d
theorem folded_is (cs : List Nat) : (spD cs).map gF = imD (imOf cs) := by
  unfold spD spOf imD
  rw [List.map_map, List.map_map]
  have e : (imOf cs) = (List.range 5).map fun j => (imOf cs).getD j [] := by
    conv => lhs; unfold imOf
    exact List.map_congr_left fun j hj => (imOf_get cs (List.mem_range.mp hj)).symm
  conv => rhs; rw [e]
  rw [List.map_map]
  refine List.map_congr_left fun j hj => ?_
  show D.str (sx (prep (written (wd ((imOf cs).getD j [])) (seedOf cs j)))) = .str (sx (wd ((imOf cs).getD j [])))
  rw [p_written ((im_ok cs).get (List.mem_range.mp hj)).2.2]
noncomputable def dl (cs : List Nat) (R P i : Nat) : List Nat := (List.range i).map fun k => Lam (imOf cs) (spanOf cs) (startOf cs) R (P + k)
theorem dl_succ (cs : List Nat) (R P i : Nat) : dl cs R P (i + 1) = dl cs R P i ++ [Lam (imOf cs) (spanOf cs) (startOf cs) R (P + i)] := by
  unfold dl; rw [List.range_succ, List.map_append]; rfl
theorem dl_all (cs : List Nat) {R P : Nat} (h : P < spanOf cs ^ R) : dl cs R P (min (P + 2) (spanOf cs ^ R) - P) = keptC cs R P := by
  unfold keptC keptL
  by_cases q : P + 1 < spanOf cs ^ R
  · rw [if_pos q, show min (P + 2) (spanOf cs ^ R) - P = 2 by omega]; rfl
  · rw [if_neg q, show min (P + 2) (spanOf cs ^ R) - P = 1 by omega]; rfl
theorem law_end {w : World} {C : Cx} {L : Addr} (I : In_law w C L) (hd : C.A.depth + 11 < recursionLimit) (hu : C.A.units + 8 * 11 < cLine) {sc : D} {cs tx : List Nat} {b wh r f : Option D} {tt : List D} :
    Exs C ⟨vs5 sc cs tx ([b, wh, some (.int (placeOf cs)), some (.int (roundsOf cs)), r, some (.str (sx (wd (keptC cs (roundsOf cs) (placeOf cs))))), f] ++ non 6), obs L tt cs⟩ (lawB 16) (fun fl _ => fl = .ret (.bool true) ∨ (fl = .next ∧ D.bool true = .none)) := by
  have W := I.W
  have K := im_ok cs
  have F := far_ok cs
  obtain ⟨s0, s4⟩ := K.sp0
  have h0 : startOf cs < 5 := Nat.mod_lt _ (by omega)
  have m2 : ∀ {a b c d e x : List D}, (L + 2, e) ∈ [(L + 6, a), (L + 5, b), (L + 4, c), (L + 3, d), (L + 2, e), (L + 1, x)] := .tail _ (.tail _ (.tail _ (.tail _ (.head _))))
  have m4 : ∀ {a b c d e x : List D}, (L + 4, c) ∈ [(L + 6, a), (L + 5, b), (L + 4, c), (L + 3, d), (L + 2, e), (L + 1, x)] := .tail _ (.tail _ (.head _))
  have m5 : ∀ {a b c d e x : List D}, (L + 5, b) ∈ [(L + 6, a), (L + 5, b), (L + 4, c), (L + 3, d), (L + 2, e), (L + 1, x)] := .tail _ (.head _)
  have hw1 : 1 ≤ wdth cs ∧ wdth cs ≤ 2 := by rcases wdth_or cs with h | h <;> omega
  obtain ⟨P, hP⟩ : ∃ P, placeOf cs = P := ⟨_, rfl⟩
  obtain ⟨R, hR⟩ : ∃ R, roundsOf cs = R := ⟨_, rfl⟩
  have f1 := F.p9
  have f2 := F.r
  have f3 := F.lt
  rw [hP, hR] at f3
  rw [hR] at f2
  rw [hP] at f1
  rw [hP, hR]
  -- folded
  refine exs_cons (ex_assign_comp W (cl := []) (cv := []) (scope := scF) (x := S "piece") (ds := spD cs) (fun _ => true) gF 12 (nx_law_folded I) (evIt_list W (ev_name W 2 (nx_law_spelled I) rfl)) (by rw [I.E]; exact scF_1 L) scF_2 scF_3 scF_4 scF_5 cap_nil (by unfold spD spOf; rw [List.length_map, List.length_map]; decide) (fun h₀ X L d ob W' hd' => tsC_nil) (fun h₀ X L' d ob W' hd' _ => ?_) (by rw [I.E]; kernel_rfl) ?_)
  · obtain ⟨x, hx, rfl⟩ := List.mem_map.mp hd'
    obtain ⟨j, hj, rfl⟩ := List.mem_map.mp hx
    refine ev_def W' I.B (by show (compEnvC scF _ L' C.env).kindOf _ = _; rw [I.E]; exact scF_7 _ _ _) (mg_law_prepared I.B) (s1_law_prepared w) rfl (evs_cons (ev_name W' 0 rfl rfl) evs_nil) ((f_prep _ ?_).le (by omega)) hd hu
    have a := written_len ((imOf cs).getD j []) (seedOf cs j)
    have b := (K.get (List.mem_range.mp hj)).2.1
    show (written (wd ((imOf cs).getD j [])) (seedOf cs j)).length ≤ 10000
    omega
  rw [List.filter_eq_self.mpr (fun _ _ => rfl), folded_is]
  refine exs_assign (d := .str (sx (wd (dl cs R P 0)))) W 13 (nx_law_due I) (ev_conv ev_str rfl) ?_
  refine exs_assign (d := .str (sx (wd (dl cs R P 0)))) W 14 (nx_law_read I) (ev_conv ev_str rfl) ?_
  obtain ⟨M, hM⟩ : ∃ M, spanOf cs ^ R = M := ⟨_, rfl⟩
  have hdl := dl_all cs f3
  rw [hM] at hdl f3
  obtain ⟨n, hn⟩ : ∃ n, min (P + 2) M - P = n := ⟨_, rfl⟩
  rw [hn] at hdl
  have hpw : ((spanOf cs : Int) ^ (R : Int).toNat) = ((M : Nat) : Int) := by rw [Int.toNat_natCast, ← hM, int_pow]
  refine exs_cons (ex_for W (ds := rangeD (P : Int) n) 15 (nx_law_far I) (evIt_conv (evIt_range2 (a := (P : Int)) (b := ((min (P + 2) M : Nat) : Int)) W (kn_law_range I) (mg_range I.B) (mb_range I.B) (ev_name W 7 (nx_law_place I) rfl) (ev_conv (ev_min W (kn_law_min I) (mg_min I.B) (mb_min I.B) (ev_add (ev_name W 7 (nx_law_place I) rfl) ev_int) (ev_conv (ev_pow (ev_cell W (cx_law_span I) m2) (ev_name W 8 (nx_law_rounds I) rfl) (by omega) (pow_ok (by omega) (by omega) (by omega) (by omega))) (by rw [hpw]))) (by congr 1; omega)) (by omega) (by omega) (by omega) (by omega)) (by congr 1; omega)) (fun i σ => ∃ far row lett f : Option D, σ = ⟨vs5 sc cs tx ([b, wh, some (.int P), some (.int R), r, some (.str (sx (wd (keptC cs R P)))), f, some (.lst (imD (imOf cs))), some (.str (sx (wd (dl cs R P i)))), some (.str (sx (wd (dl cs R P i)))), far, row, lett]), obs L tt cs⟩) ⟨none, none, none, f, rfl⟩ ?_ ?_)
  · rintro i d _ hj ⟨far, row, lett, f, rfl⟩
    obtain ⟨hi, rfl⟩ := rangeD_get hj
    obtain ⟨X, hX⟩ : ∃ X, P + i = X := ⟨_, rfl⟩
    have hXi : (P : Int) + (i : Int) = (X : Int) := by omega
    rw [hXi]
    have hXM : X < spanOf cs ^ R := by rw [hM]; omega
    have hX9 : X ≤ 10 ^ 9 := by omega
    have hi2 : i ≤ 1 := by omega
    show Exs C ⟨vs5 sc cs tx ([b, wh, some (.int P), some (.int R), r, some (.str (sx (wd (keptC cs R P)))), f, some (.lst (imD (imOf cs))), some (.str (sx (wd (dl cs R P i)))), some (.str (sx (wd (dl cs R P i)))), some (.int X), row, lett]), obs L tt cs⟩ _ _
    have hdlen : (wd (dl cs R P i)).length = i := by rw [wd, List.length_map, dl, List.length_map, List.length_range]
    have hsucc : wd (dl cs R P i) ++ [lt (Lam (imOf cs) (spanOf cs) (startOf cs) R X)] = wd (dl cs R P (i + 1)) := by rw [dl_succ, wd, wd, List.map_append, hX]; rfl
    have hat : atTo (imOf cs) (spanOf cs) (startOf cs) X R R = Lam (imOf cs) (spanOf cs) (startOf cs) R X := atTo_all s0 X R hXM
    refine exs_assign (d := .str (sx (wd (dl cs R P (i + 1))))) W 13 (nx_law_due I) (ev_conv (ev_adds' (y := [lt (Lam (imOf cs) (spanOf cs) (startOf cs) R X)]) (ev_name W 13 (nx_law_due I) rfl) (ev_conv (ev_def W I.B (kn_law_law_at I) (mg_law_at I.B) (s1_law_at w) rfl (evs_cons (ev_cell W (cx_law_images I) m5) (evs_cons (ev_cell W (cx_law_start I) m4) (evs_cons (ev_name W 15 (nx_law_far I) rfl) (evs_cons (ev_name W 8 (nx_law_rounds I) rfl) evs_nil)))) ((f_at K _ X R h0 (by omega)).le (by omega)) hd hu) (by rw [hat]; rfl)) (by rw [List.length_append, hdlen]; simp; omega)) (by rw [hsucc])) ?_
    have hbits : ((X : Nat) : Int) < 2 ^ (wdth cs * 30) := by
      have a : (10 : Nat) ^ 9 < 2 ^ 30 := by decide
      have b : (2 : Nat) ^ 30 ≤ 2 ^ (wdth cs * 30) := Nat.pow_le_pow_right (by omega) (by omega)
      have c : ((X : Nat) : Int) < ((2 ^ (wdth cs * 30) : Nat) : Int) := Int.ofNat_lt.mpr (by omega)
      rw [int_pow] at c; exact c
    have hltR : ((X : Nat) : Int) < 2 ^ (wdth cs * R) := by
      have c := Int.ofNat_lt.mpr hXM
      rw [sp_pow, int_pow] at c; exact c
    have hnd := nd_le2 (m := 30) (n := wdth cs) (by omega) (by omega) hbits
    obtain ⟨hndR, hpad⟩ := row_pad (W := wdth cs) (by omega) (by omega) hltR
    obtain ⟨m, hm⟩ : ∃ m, nd (X : Int) (wdth cs) = m := ⟨_, rfl⟩
    have hbl : Builtin.Int.intBits (X : Int) ≤ wdth cs * 30 := intBits_le_of (by omega) hbits
    have hw30 : wdth cs * 30 ≤ 2 * 30 := Nat.mul_le_mul_right _ hw1.2
    have hwm : wdth cs * nd (X : Int) (wdth cs) ≤ 2 * 30 := Nat.mul_le_mul hw1.2 hnd
    have G : Fn (B1 w) 35 11 [.int X, .int (wdth cs)] (.lst ((digs (wdth cs) X m).map .int)) := by
      rw [← hm]
      exact (f_int2digits (by omega) (by omega) (by omega) (by omega) (by omega) (by omega)).le (by omega)
    rw [hm] at hnd hndR hpad
    have hml : ((digs (wdth cs) (X : Int) m).map D.int).length = m := by rw [List.length_map, digs_length]
    refine exs_assign (d := .lst ((digs (wdth cs) X m).map .int)) W 16 (nx_law_row I) (ev_def W I.B (kn_law_int2digits I) (mg_int2digits I.B) (g4_1 w) rfl (evs_cons (ev_name W 15 (nx_law_far I) rfl) (evs_cons (ev_name W 1 (nx_law_width I) rfl) evs_nil)) G hd hu) ?_
    refine exs_assign (d := .str (c1 (lt (startOf cs)))) W 17 (nx_law_letter I) (ev_cell W (cx_law_start I) m4) ?_
    have hzeros : (List.replicate ((R : Int) - (m : Int)).toNat [D.int 0]).flatten = (List.replicate (R - m) (0 : Int)).map D.int := by
      rw [show ((R : Int) - (m : Int)).toNat = R - m by omega]
      generalize R - m = z
      induction z with
      | zero => rfl
      | succ z ih => rw [List.replicate_succ, List.flatten_cons, ih, List.replicate_succ]; rfl
    refine exs_cons (ex_for W (ds := ((digs (wdth cs) X R).map D.int).reverse) 11 (nx_law_figure I) (evIt_rev W (kn_law_reversed I) (mg_reversed I.B) (mb_reversed I.B) (ev_conv (ev_addL W (ev_name W 16 (nx_law_row I) rfl) (.lst _) (ev_mulL W (ds := [.int 0]) (ev_list W (evs_cons ev_int evs_nil) rfl) (.lst _) (ev_sub (ev_name W 8 (nx_law_rounds I) rfl) (ev_conv (ev_len W (kn_law_len I) (mg_len I.B) (mb_len I.B) (ev_name W 16 (nx_law_row I) rfl) (.lst _) (by rw [hml]; omega)) (by rw [hml]))) (by omega) (by omega) (by show 1 * _ ≤ _; omega)) (.lst _) (by rw [hml, hzeros, List.length_map, List.length_replicate]; omega)) (by rw [hzeros, ← List.map_append, hpad]))) (fun j σ => ∃ f : Option D, σ = ⟨vs5 sc cs tx ([b, wh, some (.int P), some (.int R), r, some (.str (sx (wd (keptC cs R P)))), f, some (.lst (imD (imOf cs))), some (.str (sx (wd (dl cs R P (i + 1))))), some (.str (sx (wd (dl cs R P i)))), some (.int X), some (.lst ((digs (wdth cs) X m).map .int)), some (.str (c1 (lt (atTo (imOf cs) (spanOf cs) (startOf cs) X R j))))]), obs L tt cs⟩) ⟨f, rfl⟩ ?_ ?_)
    · rintro j d _ hj ⟨f, rfl⟩
      rw [← List.map_reverse, List.getElem?_map] at hj
      have hjR : j < R := by
        cases z : (digs (wdth cs) (X : Int) R).reverse[j]? with
        | none => rw [z] at hj; cases hj
        | some x =>
          have := (List.getElem?_eq_some_iff.mp z).1
          rw [List.length_reverse, digs_length] at this
          exact this
      rw [digs_rev (sp := spanOf cs) rfl hjR] at hj
      cases hj
      have ha := atTo_lt (P := X) (R := R) K h0 j
      have hrow : (imD (imOf cs))[atTo (imOf cs) (spanOf cs) (startOf cs) X R j]? = some (.str (sx (wd ((imOf cs).getD (atTo (imOf cs) (spanOf cs) (startOf cs) X R j) [])))) := by unfold imD; rw [List.getElem?_map, (K.get ha).1]; rfl
      have hfl : X / spanOf cs ^ (R - 1 - j) % spanOf cs < ((imOf cs).getD (atTo (imOf cs) (spanOf cs) (startOf cs) X R j) []).length := by rw [(K.get ha).2.1]; exact Nat.mod_lt _ s0
      have hfs : X / spanOf cs ^ (R - 1 - j) % spanOf cs < spanOf cs := Nat.mod_lt _ s0
      obtain ⟨fg, hfg⟩ : ∃ fg, X / spanOf cs ^ (R - 1 - j) % spanOf cs = fg := ⟨_, rfl⟩
      have hst : atTo (imOf cs) (spanOf cs) (startOf cs) X R (j + 1) = stepF (imOf cs) (atTo (imOf cs) (spanOf cs) (startOf cs) X R j) fg := by rw [← hfg]; rfl
      rw [hfg] at hfl hfs ⊢
      refine exs_assign (d := .str (c1 (lt (atTo (imOf cs) (spanOf cs) (startOf cs) X R (j + 1))))) W 17 (nx_law_letter I) ?_ (exs_nil ⟨some (.int fg), rfl⟩)
      rw [hst]
      exact ev_stritem (k := (fg : Int)) (x := sx (wd ((imOf cs).getD (atTo (imOf cs) (spanOf cs) (startOf cs) X R j) []))) (ev_item (k := (atTo (imOf cs) (spanOf cs) (startOf cs) X R j : Nat)) (ev_name W 12 (nx_law_folded I) rfl) (.lst _) (ev_idx ev_str (ev_name W 17 (nx_law_letter I) rfl) ha) (by omega) (by omega) (by rw [Int.toNat_natCast]; exact hrow)) (ev_name W 11 (nx_law_figure I) rfl) (by omega) (by omega) (by rw [Int.toNat_natCast]; exact wd_get hfl)
    · rintro _ ⟨f, rfl⟩
      rw [List.length_reverse, List.length_map, digs_length, hat]
      refine exs_assign (d := .str (sx (wd (dl cs R P (i + 1))))) W 14 (nx_law_read I) (ev_conv (ev_adds' (y := [lt (Lam (imOf cs) (spanOf cs) (startOf cs) R X)]) (ev_name W 14 (nx_law_read I) rfl) (ev_name W 17 (nx_law_letter I) rfl) (by rw [List.length_append, hdlen]; simp; omega)) (by rw [hsucc])) (exs_nil ⟨_, _, _, _, rfl⟩)
  · rintro _ ⟨far, row, lett, f, rfl⟩
    rw [rangeD_len, hdl]
    refine exs_ret (d := .bool true) (ev_and2 (ev_conv (ev_cmp (ev_name W 10 (nx_law_kept I) rfl) (ev_name W 13 (nx_law_due I) rfl) co_eqs) ?_) (ev_conv (ev_cmp (ev_name W 14 (nx_law_read I) rfl) (ev_name W 13 (nx_law_due I) rfl) co_eqs) ?_)) (.inl rfl)
    · rw [beq_self_eq_true]
    · rw [beq_self_eq_true]
end
end Mine
-- part U23
set_option maxHeartbeats 0
namespace Mine
noncomputable section
theorem ints_reps {X : List Addr} {h : Heap} : ∀ {vs : List Value} {xs : List Int}, IntsAre vs xs → Reps X h vs (xs.map .int)
  | _, _, .nil => .nil
  | _, _, .cons _ _ r => .cons (.int _ _) (ints_reps r)
theorem fn_all {w : World} {xs : List Int} (hxs : xs.length ≤ 63) : Fn (B1 w) 180 12 [.lst (xs.map .int)] (.bool true) := by
  refine fn_law rfl fun C L I hd hu => ?_
  have e0 : entry ps_law ns_law [.lst (xs.map .int)] (cf_law L) = ⟨some (.lst (xs.map .int)) :: non 17, [(L + 6, []), (L + 5, []), (L + 4, []), (L + 3, []), (L + 2, []), (L + 1, [])]⟩ := by kernel_rfl
  rw [e0]
  exact setup1 I hd hu hxs rfl (setup2 I hd hu rfl (law_loop1 I hd hu fun b wh tt => law_loop2 I hd hu (cells_len xs) fun r f tt => law_end I hd hu))
theorem run_law {w : World} {s : Shared} {xs : List Int} {la : Addr} {vs : List Value} {Q E : Value → Shared → Prop} (hB : (B1 w).In s.heap) (hTb : TabOk s.heap) (il : s.heap.IsList la vs.toArray) (hi : IntsAre vs xs) (hl : xs.length ≤ 63)
    (hQ : ∀ h' t', (∀ b o, b ∉ TT → s.heap.get? b = some o → h'.get? b = some o) → TabOk h' → Q (.bool true) { s with heap := h', toks := t' }) : wpAny (model pw w) callerA (call (.ref 180) [.ref la]) Q E s :=
  (fn_all (w := w) hl).run callerA s [] [.ref la] Q E hB hTb (fun _ h => (nomatch h)) (.cons (.lst il (fun m => (nomatch m)) (ints_reps hi)) .nil) rfl (by decide) (by decide) fun v h' t' k r => by
    cases r
    exact hQ h' t' (fun b o hb e => k.keep b o (.inl hb) e) (k.tab hTb)
theorem walk1 : WalkO q1 loose1 (fun _ _ => True) hook.says rowW dLaw [] fun f vs => PySem.call f vs := by
  intro w s₀ s₁ mg mb G Y a o pm cd doc dV kV ho hd hcd hD hmg hgens args vals as hpre hlay hrd hwl hlo
  wrow_args hpre hlay hrd hwl hlo
  rename_i xs hs hlay0 hL1 hr1 hl2 as1 as2 la vs as3 il ra w1 r0 hints hr' hlen ht
  have YK : (KK w.params).In s₁.heap := kIn_of Y
  have hB : (B1 w).In s₁.heap := B1_in YK
  have t30 : s₁.heap.get? 30 = some (tabObj #[]) := YK 30 _ (by kernel_rfl)
  have t37 : s₁.heap.get? 37 = some (tabObj #[]) := YK 37 _ (by kernel_rfl)
  have tb : TabOk s₁.heap := ⟨⟨#[], t30, .inl rfl⟩, ⟨#[], t37, .inl rfl⟩⟩
  have ha : a = 180 := by
    obtain ⟨o1, es1, ep1, q1, q2, q3, q4⟩ := G.T.g
    obtain ⟨o2, es2, ep2, p1, p2, p3, p4⟩ := hB.g
    rw [q1] at p1; cases p1
    rw [q2] at p2; cases p2
    have h1 : (B1 w).mg dLaw.name = some (.ref 180) := by kernel_rfl
    rw [← p4, q4, hmg] at h1
    cases h1; rfl
  subst ha
  refine run_law hB tb il hints (by omega) fun h' t' hk tb' => ?_
  refine ⟨.inl ⟨.bool true, .bool true, [], rfl, fun _ => rfl, .bool true, ?_, fun _ => ⟨.nil, fun _ h => nomatch h⟩⟩, ⟨fun b o e => ?_, fun b o e => ?_⟩, rfl, ?_⟩
  · wrow_post
  · by_cases hb : b ∈ TT
    · rcases List.mem_cons.mp hb with rfl | hb
      · obtain ⟨ps, e', _⟩ := tb'.a
        rw [t30] at e; cases e
        exact .inr (.inl ⟨((codeHd34 hB).tab t30).isCodeTable, rfl, #[], ps, rfl, by rw [Array.empty_append]; exact e'⟩)
      · rw [List.mem_singleton] at hb; subst hb
        obtain ⟨ps, e', _⟩ := tb'.b
        rw [t37] at e; cases e
        exact .inr (.inl ⟨((codeHd41 hB).tab t37).isCodeTable, rfl, #[], ps, rfl, by rw [Array.empty_append]; exact e'⟩)
    · exact .inl (hk b o hb e)
  · by_cases hb : b ∈ TT
    · rcases List.mem_cons.mp hb with rfl | hb
      · obtain ⟨ps, e', _⟩ := tb'.a; exact ⟨_, e'⟩
      · rw [List.mem_singleton] at hb; subst hb
        obtain ⟨ps, e', _⟩ := tb'.b; exact ⟨_, e'⟩
    · exact ⟨o, hk b o hb e⟩
  · exact .of_eq hgens
theorem law2 : PySem.Challenge.rw_pe0255_02.Holds := top1 walk1
end
end Mine
theorem PySem.Challenge.cw_pe0255_02_holds : PySem.Challenge.rw_pe0255_02.Holds := by
  exact Mine.law2
